import JvmDerived
import JvmDerived.Pilot.@@N@@Statement
import JvmDerived.Pilot.@@N@@Code
set_option linter.unusedVariables false
set_option linter.unusedSimpArgs false
namespace Jvm.Pilot.@@N@@
open Jvm Jvm.ClassFile Sem Op Lib Jvm.Free Jvm.Stand Jvm.LawKit Jvm.RoadKit Bundle Jvm.Pilot.@@N@@.Jvm.D
/-- Java's x >>> y -/
def ushr (x y : Int32) : Int32 := (x.toUInt32 >>> (y &&& 31).toUInt32).toInt32
def ushrL (x : Int64) (y : Int32) : Int64 := (x.toUInt64 >>> (y &&& 0x3f).toInt64.toUInt64).toInt64
/-- what lcmp pushes -/
abbrev cmpL (x y : Int64) : Int32 := lcmpW x y
section Own
variable {p : Program} {l : Launch} {e : Env} {R : Room} {s : State} {m : MethodId} {args : Array Value} {below : List Frame} {meth : Method} {c : Code} {T : State} {locs : List Loc} {cells slots : Nat} {Z : State} {a0 : Array Value} {h : Heap} {Q : Option Value → Heap → List Loc → Prop} {K N pc : Nat} {Ls : Array Slot} {code : ByteArray} {rest : List Value}
/-- the run from here ends: the method returns, Q says what and over which heap -/
def Ends (p : Program) (e : Env) (below : List Frame) (s : State) (Q : Option Value → Heap → List Loc → Prop) (K N : Nat) (T : State) : Prop :=
  ∃ s₂ o, Steps p.tables e below T s₂ ∧ s₂.status = .running ∧ Ended s₂ below o ∧ ∃ v L, o = .returned v ∧ Q v s₂.heap L ∧ FrameEnd s o s₂ L K N
theorem Ends.step {T T' : State} (st : ∀ t, Steps p.tables e below T' t → Steps p.tables e below T t) (h : Ends p e below s Q K N T') : Ends p e below s Q K N T := by
  obtain ⟨s2, o, h1, h2⟩ := h
  exact ⟨s2, o, st _ h1, h2⟩
def Cx (p : Program) (c : Code) (code : ByteArray) : Prop := p.tables.exec = Jvm.exec ∧ c.code = code
/-- a method's contract -/
def Con (l : Launch) (Z : State) (y : MethodName) (bytes : ByteArray) (maxL : Nat) (ret : Option FieldType) (rm : Room) (K N : Nat) (ws : List Jvm.Cond) (as' : Array Value) (h : Heap) (Q : Option Value → Heap → List Loc → Prop) : Prop :=
  MetFree l y (head1 (Jvm.Cond.code y bytes maxL ret :: ws) rm) (fun a U => a = as' ∧ Z.Warmed39 U.vm ∧ U.heap = h) (fun _ _ _ _ _ => True) (fun _ U o U' => ∃ v L, o = .returned v ∧ Q v U'.heap L ∧ FrameEnd U o U' L K N)
theorem Con.of {y : MethodName} {bytes : ByteArray} {maxL : Nat} {ret : Option FieldType} {rm : Room} {ws : List Jvm.Cond} {as' : Array Value} (hn : plainFor y = true)
    (body : ∀ (p : Program) (e : Env) (s : State) (m : MethodId) (below : List Frame) (meth : Method) (c : Code) (T : State), Cx p c bytes → Z.Warmed39 s.vm → c.maxLocals = maxL → s.vm.findClass y.cls = some m.cls → meth.sig.returnType = ret → meth.name = y.name → meth.locks = false →
      Stand p l e rm s m as' below meth c T [] 0 0 → T.heap = h → Ends p e below s Q K N (T.setTop (entryFrame m as' maxL))) : Con l Z y bytes maxL ret rm K N ws as' h Q := by
  refine MetFree.of_bodySF hn hisR ?_
  intro p e s m args below meth c s₁ Bd hml0 hP hK
  obtain ⟨rfl, hZ, hh⟩ := hP
  exact body p e s m below meth c s₁ ⟨Bd.exec, Bd.bytes⟩ hZ hml0 (findClass_of_methodNamed Bd.named) Bd.returns (name_of_methodNamed Bd.named Bd.method).1 Bd.notSynchronized (Stand.of_body Bd) (by rw [← hh, Bd.state]; rfl)
theorem o_iadd (C : Cx p c code) (X : Stand p l e R s m args below meth c T locs cells slots) {x y : Int32} (hd : decode code pc = .ok (.iadd, 1)) (q : Nat) (hq : pc + 1 = q) (k : Ends p e below s Q K N (T.setTop (mkF m q Ls (.int (x + y) :: rest)))) : Ends p e below s Q K N (T.setTop (mkF m pc Ls (.int y :: .int x :: rest))) := by
  subst hq
  exact .step (fun _ t => XS.iadd X.here C.1 rfl (hb C.2 hd) rfl t) k
theorem o_isub (C : Cx p c code) (X : Stand p l e R s m args below meth c T locs cells slots) {x y : Int32} (hd : decode code pc = .ok (.isub, 1)) (q : Nat) (hq : pc + 1 = q) (k : Ends p e below s Q K N (T.setTop (mkF m q Ls (.int (x - y) :: rest)))) : Ends p e below s Q K N (T.setTop (mkF m pc Ls (.int y :: .int x :: rest))) := by
  subst hq
  exact .step (fun _ t => XS.isub X.here C.1 rfl (hb C.2 hd) rfl t) k
theorem o_imul (C : Cx p c code) (X : Stand p l e R s m args below meth c T locs cells slots) {x y : Int32} (hd : decode code pc = .ok (.imul, 1)) (q : Nat) (hq : pc + 1 = q) (k : Ends p e below s Q K N (T.setTop (mkF m q Ls (.int (x * y) :: rest)))) : Ends p e below s Q K N (T.setTop (mkF m pc Ls (.int y :: .int x :: rest))) := by
  subst hq
  exact .step (fun _ t => XS.imul X.here C.1 rfl (hb C.2 hd) rfl t) k
theorem o_iand (C : Cx p c code) (X : Stand p l e R s m args below meth c T locs cells slots) {x y : Int32} (hd : decode code pc = .ok (.iand, 1)) (q : Nat) (hq : pc + 1 = q) (k : Ends p e below s Q K N (T.setTop (mkF m q Ls (.int (x &&& y) :: rest)))) : Ends p e below s Q K N (T.setTop (mkF m pc Ls (.int y :: .int x :: rest))) := by
  subst hq
  exact .step (fun _ t => XS.iand X.here C.1 rfl (hb C.2 hd) rfl t) k
theorem o_ior (C : Cx p c code) (X : Stand p l e R s m args below meth c T locs cells slots) {x y : Int32} (hd : decode code pc = .ok (.ior, 1)) (q : Nat) (hq : pc + 1 = q) (k : Ends p e below s Q K N (T.setTop (mkF m q Ls (.int (x ||| y) :: rest)))) : Ends p e below s Q K N (T.setTop (mkF m pc Ls (.int y :: .int x :: rest))) := by
  subst hq
  exact .step (fun _ t => XS.ior X.here C.1 rfl (hb C.2 hd) rfl t) k
theorem o_ixor (C : Cx p c code) (X : Stand p l e R s m args below meth c T locs cells slots) {x y : Int32} (hd : decode code pc = .ok (.ixor, 1)) (q : Nat) (hq : pc + 1 = q) (k : Ends p e below s Q K N (T.setTop (mkF m q Ls (.int (x ^^^ y) :: rest)))) : Ends p e below s Q K N (T.setTop (mkF m pc Ls (.int y :: .int x :: rest))) := by
  subst hq
  exact .step (fun _ t => XS.ixor X.here C.1 rfl (hb C.2 hd) rfl t) k
theorem o_ishl (C : Cx p c code) (X : Stand p l e R s m args below meth c T locs cells slots) {x y : Int32} (hd : decode code pc = .ok (.ishl, 1)) (q : Nat) (hq : pc + 1 = q) (k : Ends p e below s Q K N (T.setTop (mkF m q Ls (.int (x <<< (y &&& 31)) :: rest)))) : Ends p e below s Q K N (T.setTop (mkF m pc Ls (.int y :: .int x :: rest))) := by
  subst hq
  exact .step (fun _ t => XS.ishl X.here C.1 rfl (hb C.2 hd) rfl t) k
theorem o_ishr (C : Cx p c code) (X : Stand p l e R s m args below meth c T locs cells slots) {x y : Int32} (hd : decode code pc = .ok (.ishr, 1)) (q : Nat) (hq : pc + 1 = q) (k : Ends p e below s Q K N (T.setTop (mkF m q Ls (.int (x >>> (y &&& 31)) :: rest)))) : Ends p e below s Q K N (T.setTop (mkF m pc Ls (.int y :: .int x :: rest))) := by
  subst hq
  exact .step (fun _ t => XS.ishr X.here C.1 rfl (hb C.2 hd) rfl t) k
theorem o_iushr (C : Cx p c code) (X : Stand p l e R s m args below meth c T locs cells slots) {x y : Int32} (hd : decode code pc = .ok (.iushr, 1)) (q : Nat) (hq : pc + 1 = q) (k : Ends p e below s Q K N (T.setTop (mkF m q Ls (.int (ushr x y) :: rest)))) : Ends p e below s Q K N (T.setTop (mkF m pc Ls (.int y :: .int x :: rest))) := by
  subst hq
  exact .step (fun _ t => XS.iushr X.here C.1 rfl (hb C.2 hd) rfl t) k
theorem o_irem (C : Cx p c code) (X : Stand p l e R s m args below meth c T locs cells slots) {x y : Int32} (hd : decode code pc = .ok (.irem, 1)) (q : Nat) (hq : pc + 1 = q) (hy : y ≠ 0) (k : Ends p e below s Q K N (T.setTop (mkF m q Ls (.int (x % y) :: rest)))) : Ends p e below s Q K N (T.setTop (mkF m pc Ls (.int y :: .int x :: rest))) := by
  subst hq
  exact .step (fun _ t => iremM X C.1 rfl (hb C.2 hd) rfl hy t) k
theorem o_idiv (C : Cx p c code) (X : Stand p l e R s m args below meth c T locs cells slots) {x y : Int32} (hd : decode code pc = .ok (.idiv, 1)) (q : Nat) (hq : pc + 1 = q) (hy : y ≠ 0) (k : Ends p e below s Q K N (T.setTop (mkF m q Ls (.int (x / y) :: rest)))) : Ends p e below s Q K N (T.setTop (mkF m pc Ls (.int y :: .int x :: rest))) := by
  subst hq
  exact .step (fun _ t => XS.idiv X.here C.1 rfl (hb C.2 hd) rfl hy t) k
theorem o_ladd (C : Cx p c code) (X : Stand p l e R s m args below meth c T locs cells slots) {x y : Int64} (hd : decode code pc = .ok (.ladd, 1)) (q : Nat) (hq : pc + 1 = q) (k : Ends p e below s Q K N (T.setTop (mkF m q Ls (.long (x + y) :: rest)))) : Ends p e below s Q K N (T.setTop (mkF m pc Ls (.long y :: .long x :: rest))) := by
  subst hq
  exact .step (fun _ t => XS.ladd X.here C.1 rfl (hb C.2 hd) rfl t) k
theorem o_lsub (C : Cx p c code) (X : Stand p l e R s m args below meth c T locs cells slots) {x y : Int64} (hd : decode code pc = .ok (.lsub, 1)) (q : Nat) (hq : pc + 1 = q) (k : Ends p e below s Q K N (T.setTop (mkF m q Ls (.long (x - y) :: rest)))) : Ends p e below s Q K N (T.setTop (mkF m pc Ls (.long y :: .long x :: rest))) := by
  subst hq
  exact .step (fun _ t => XS.lsub X.here C.1 rfl (hb C.2 hd) rfl t) k
theorem o_land (C : Cx p c code) (X : Stand p l e R s m args below meth c T locs cells slots) {x y : Int64} (hd : decode code pc = .ok (.land, 1)) (q : Nat) (hq : pc + 1 = q) (k : Ends p e below s Q K N (T.setTop (mkF m q Ls (.long (x &&& y) :: rest)))) : Ends p e below s Q K N (T.setTop (mkF m pc Ls (.long y :: .long x :: rest))) := by
  subst hq
  exact .step (fun _ t => XS.land X.here C.1 rfl (hb C.2 hd) rfl t) k
theorem o_lor (C : Cx p c code) (X : Stand p l e R s m args below meth c T locs cells slots) {x y : Int64} (hd : decode code pc = .ok (.lor, 1)) (q : Nat) (hq : pc + 1 = q) (k : Ends p e below s Q K N (T.setTop (mkF m q Ls (.long (x ||| y) :: rest)))) : Ends p e below s Q K N (T.setTop (mkF m pc Ls (.long y :: .long x :: rest))) := by
  subst hq
  exact .step (fun _ t => XS.lor X.here C.1 rfl (hb C.2 hd) rfl t) k
theorem o_lxor (C : Cx p c code) (X : Stand p l e R s m args below meth c T locs cells slots) {x y : Int64} (hd : decode code pc = .ok (.lxor, 1)) (q : Nat) (hq : pc + 1 = q) (k : Ends p e below s Q K N (T.setTop (mkF m q Ls (.long (x ^^^ y) :: rest)))) : Ends p e below s Q K N (T.setTop (mkF m pc Ls (.long y :: .long x :: rest))) := by
  subst hq
  exact .step (fun _ t => XS.lxor X.here C.1 rfl (hb C.2 hd) rfl t) k
theorem o_lushr (C : Cx p c code) (X : Stand p l e R s m args below meth c T locs cells slots) {x : Int64} {y : Int32} (hd : decode code pc = .ok (.lushr, 1)) (q : Nat) (hq : pc + 1 = q) (k : Ends p e below s Q K N (T.setTop (mkF m q Ls (.long (ushrL x y) :: rest)))) : Ends p e below s Q K N (T.setTop (mkF m pc Ls (.int y :: .long x :: rest))) := by
  subst hq
  exact .step (fun _ t => XS.lushr X.here C.1 rfl (hb C.2 hd) rfl t) k
theorem o_lcmp (C : Cx p c code) (X : Stand p l e R s m args below meth c T locs cells slots) {x y : Int64} (hd : decode code pc = .ok (.lcmp, 1)) (q : Nat) (hq : pc + 1 = q) (k : Ends p e below s Q K N (T.setTop (mkF m q Ls (.int (cmpL x y) :: rest)))) : Ends p e below s Q K N (T.setTop (mkF m pc Ls (.long y :: .long x :: rest))) := by
  subst hq
  exact .step (fun _ t => XS.lcmp X.here C.1 rfl (hb C.2 hd) rfl t) k
theorem o_i2l (C : Cx p c code) (X : Stand p l e R s m args below meth c T locs cells slots) {x : Int32} (hd : decode code pc = .ok (.i2l, 1)) (q : Nat) (hq : pc + 1 = q) (k : Ends p e below s Q K N (T.setTop (mkF m q Ls (.long x.toInt64 :: rest)))) : Ends p e below s Q K N (T.setTop (mkF m pc Ls (.int x :: rest))) := by
  subst hq
  exact .step (fun _ t => XS.i2l X.here C.1 rfl (hb C.2 hd) rfl t) k
theorem o_l2i (C : Cx p c code) (X : Stand p l e R s m args below meth c T locs cells slots) {x : Int64} (hd : decode code pc = .ok (.l2i, 1)) (q : Nat) (hq : pc + 1 = q) (k : Ends p e below s Q K N (T.setTop (mkF m q Ls (.int x.toInt32 :: rest)))) : Ends p e below s Q K N (T.setTop (mkF m pc Ls (.long x :: rest))) := by
  subst hq
  exact .step (fun _ t => XS.l2i X.here C.1 rfl (hb C.2 hd) rfl t) k
theorem o_i2b (C : Cx p c code) (X : Stand p l e R s m args below meth c T locs cells slots) {x : Int32} (hd : decode code pc = .ok (.i2b, 1)) (q : Nat) (hq : pc + 1 = q) (k : Ends p e below s Q K N (T.setTop (mkF m q Ls (.int x.toInt8.toInt32 :: rest)))) : Ends p e below s Q K N (T.setTop (mkF m pc Ls (.int x :: rest))) := by
  subst hq
  exact .step (fun _ t => XS.i2b X.here C.1 rfl (hb C.2 hd) rfl t) k
theorem o_i2c (C : Cx p c code) (X : Stand p l e R s m args below meth c T locs cells slots) {x : Int32} (hd : decode code pc = .ok (.i2c, 1)) (q : Nat) (hq : pc + 1 = q) (k : Ends p e below s Q K N (T.setTop (mkF m q Ls (.int x.toUInt32.toUInt16.toUInt32.toInt32 :: rest)))) : Ends p e below s Q K N (T.setTop (mkF m pc Ls (.int x :: rest))) := by
  subst hq
  exact .step (fun _ t => XS.i2c X.here C.1 rfl (hb C.2 hd) rfl t) k
theorem o_iconst (C : Cx p c code) (X : Stand p l e R s m args below meth c T locs cells slots) {i : Int} (hd : decode code pc = .ok (.iconst i, 1)) (q : Nat) (hq : pc + 1 = q) (v : Int32) (hv : Int32.ofInt i = v) (k : Ends p e below s Q K N (T.setTop (mkF m q Ls (.int v :: rest)))) : Ends p e below s Q K N (T.setTop (mkF m pc Ls rest)) := by
  subst hq
  exact .step (fun _ t => XS.iconst X.here C.1 rfl (hb C.2 hd) (by rw [hv]; exact t)) k
theorem o_bipush (C : Cx p c code) (X : Stand p l e R s m args below meth c T locs cells slots) {i : Int} (hd : decode code pc = .ok (.bipush i, 2)) (q : Nat) (hq : pc + 2 = q) (v : Int32) (hv : (Int8.ofInt i).toInt32 = v) (k : Ends p e below s Q K N (T.setTop (mkF m q Ls (.int v :: rest)))) : Ends p e below s Q K N (T.setTop (mkF m pc Ls rest)) := by
  subst hq
  exact .step (fun _ t => XS.bipush X.here C.1 rfl (hb C.2 hd) (by rw [hv]; exact t)) k
theorem o_sipush (C : Cx p c code) (X : Stand p l e R s m args below meth c T locs cells slots) {i : Int} (hd : decode code pc = .ok (.sipush i, 3)) (q : Nat) (hq : pc + 3 = q) (v : Int32) (hv : (Int16.ofInt i).toInt32 = v) (k : Ends p e below s Q K N (T.setTop (mkF m q Ls (.int v :: rest)))) : Ends p e below s Q K N (T.setTop (mkF m pc Ls rest)) := by
  subst hq
  exact .step (fun _ t => XS.sipush X.here C.1 rfl (hb C.2 hd) (by rw [hv]; exact t)) k
theorem o_lconst (C : Cx p c code) (X : Stand p l e R s m args below meth c T locs cells slots) {i : Fin 2} (hd : decode code pc = .ok (.lconst i, 1)) (q : Nat) (hq : pc + 1 = q) (v : Int64) (hv : Int64.ofNat i = v) (k : Ends p e below s Q K N (T.setTop (mkF m q Ls (.long v :: rest)))) : Ends p e below s Q K N (T.setTop (mkF m pc Ls rest)) := by
  subst hq
  exact .step (fun _ t => XS.lconst X.here C.1 rfl (hb C.2 hd) (by rw [hv]; exact t)) k
theorem o_aconst_null (C : Cx p c code) (X : Stand p l e R s m args below meth c T locs cells slots) (hd : decode code pc = .ok (.aconst_null, 1)) (q : Nat) (hq : pc + 1 = q) (k : Ends p e below s Q K N (T.setTop (mkF m q Ls (.null :: rest)))) : Ends p e below s Q K N (T.setTop (mkF m pc Ls rest)) := by
  subst hq
  exact .step (fun _ t => XS.aconstNull X.here C.1 rfl (hb C.2 hd) t) k
theorem o_dup (C : Cx p c code) (X : Stand p l e R s m args below meth c T locs cells slots) {x : Value} (hd : decode code pc = .ok (.dup, 1)) (q : Nat) (hq : pc + 1 = q) (hc : x.category = 1) (k : Ends p e below s Q K N (T.setTop (mkF m q Ls (x :: x :: rest)))) : Ends p e below s Q K N (T.setTop (mkF m pc Ls (x :: rest))) := by
  subst hq
  exact .step (fun _ t => XS.dup X.here C.1 rfl (hb C.2 hd) rfl hc t) k
theorem o_dup_x1 (C : Cx p c code) (X : Stand p l e R s m args below meth c T locs cells slots) {x y : Value} (hd : decode code pc = .ok (.dup_x1, 1)) (q : Nat) (hq : pc + 1 = q) (hc : x.category = 1) (hc' : y.category = 1) (k : Ends p e below s Q K N (T.setTop (mkF m q Ls (x :: y :: x :: rest)))) : Ends p e below s Q K N (T.setTop (mkF m pc Ls (x :: y :: rest))) := by
  subst hq
  exact .step (fun _ t => XS.dupX1 X.here C.1 rfl (hb C.2 hd) rfl hc hc' t) k
theorem o_pop (C : Cx p c code) (X : Stand p l e R s m args below meth c T locs cells slots) {x : Value} (hd : decode code pc = .ok (.pop, 1)) (q : Nat) (hq : pc + 1 = q) (hc : x.category = 1) (k : Ends p e below s Q K N (T.setTop (mkF m q Ls rest))) : Ends p e below s Q K N (T.setTop (mkF m pc Ls (x :: rest))) := by
  subst hq
  exact .step (fun _ t => XS.pop X.here C.1 rfl (hb C.2 hd) rfl hc t) k
theorem o_iloadN (C : Cx p c code) (X : Stand p l e R s m args below meth c T locs cells slots) {i : Fin 4} {v : Int32} (hd : decode code pc = .ok (.iload_n i, 1)) (q : Nat) (hq : pc + 1 = q) (hl : Ls[i.val]? = some (.val (.int v))) (k : Ends p e below s Q K N (T.setTop (mkF m q Ls (.int v :: rest)))) : Ends p e below s Q K N (T.setTop (mkF m pc Ls rest)) := by
  subst hq
  exact .step (fun _ t => XS.iloadN X.here C.1 rfl (hb C.2 hd) hl t) k
theorem o_iload (C : Cx p c code) (X : Stand p l e R s m args below meth c T locs cells slots) {i : Nat} {v : Int32} (hd : decode code pc = .ok (.iload i, 2)) (q : Nat) (hq : pc + 2 = q) (hl : Ls[i]? = some (.val (.int v))) (k : Ends p e below s Q K N (T.setTop (mkF m q Ls (.int v :: rest)))) : Ends p e below s Q K N (T.setTop (mkF m pc Ls rest)) := by
  subst hq
  exact .step (fun _ t => XS.iload X.here C.1 rfl (hb C.2 hd) hl t) k
theorem o_lloadN (C : Cx p c code) (X : Stand p l e R s m args below meth c T locs cells slots) {i : Fin 4} {v : Int64} (hd : decode code pc = .ok (.lload_n i, 1)) (q : Nat) (hq : pc + 1 = q) (hl : Ls[i.val]? = some (.val (.long v))) (k : Ends p e below s Q K N (T.setTop (mkF m q Ls (.long v :: rest)))) : Ends p e below s Q K N (T.setTop (mkF m pc Ls rest)) := by
  subst hq
  exact .step (fun _ t => XS.lloadN X.here C.1 rfl (hb C.2 hd) hl t) k
theorem o_lload (C : Cx p c code) (X : Stand p l e R s m args below meth c T locs cells slots) {i : Nat} {v : Int64} (hd : decode code pc = .ok (.lload i, 2)) (q : Nat) (hq : pc + 2 = q) (hl : Ls[i]? = some (.val (.long v))) (k : Ends p e below s Q K N (T.setTop (mkF m q Ls (.long v :: rest)))) : Ends p e below s Q K N (T.setTop (mkF m pc Ls rest)) := by
  subst hq
  exact .step (fun _ t => XS.lload X.here C.1 rfl (hb C.2 hd) hl t) k
theorem o_aloadN (C : Cx p c code) (X : Stand p l e R s m args below meth c T locs cells slots) {i : Fin 4} {v : Value} (hd : decode code pc = .ok (.aload_n i, 1)) (q : Nat) (hq : pc + 1 = q) (hl : Ls[i.val]? = some (.val v)) (hv : v.isRef = true) (k : Ends p e below s Q K N (T.setTop (mkF m q Ls (v :: rest)))) : Ends p e below s Q K N (T.setTop (mkF m pc Ls rest)) := by
  subst hq
  exact .step (fun _ t => XS.aloadN X.here C.1 rfl (hb C.2 hd) hl hv t) k
theorem o_aload (C : Cx p c code) (X : Stand p l e R s m args below meth c T locs cells slots) {i : Nat} {v : Value} (hd : decode code pc = .ok (.aload i, 2)) (q : Nat) (hq : pc + 2 = q) (hl : Ls[i]? = some (.val v)) (hv : v.isRef = true) (k : Ends p e below s Q K N (T.setTop (mkF m q Ls (v :: rest)))) : Ends p e below s Q K N (T.setTop (mkF m pc Ls rest)) := by
  subst hq
  exact .step (fun _ t => XS.aload X.here C.1 rfl (hb C.2 hd) hl hv t) k
theorem o_istoreN (C : Cx p c code) (X : Stand p l e R s m args below meth c T locs cells slots) {i : Fin 4} {x : Int32} (hd : decode code pc = .ok (.istore_n i, 1)) (q : Nat) (hq : pc + 1 = q) (l' : Array Slot) (hl : storeLocals Ls i.val (.int x) = some l') (k : Ends p e below s Q K N (T.setTop (mkF m q l' rest))) : Ends p e below s Q K N (T.setTop (mkF m pc Ls (.int x :: rest))) := by
  subst hq
  exact .step (fun _ t => XS.istoreN X.here C.1 rfl (hb C.2 hd) rfl hl t) k
theorem o_istore (C : Cx p c code) (X : Stand p l e R s m args below meth c T locs cells slots) {i : Nat} {x : Int32} (hd : decode code pc = .ok (.istore i, 2)) (q : Nat) (hq : pc + 2 = q) (l' : Array Slot) (hl : storeLocals Ls i (.int x) = some l') (k : Ends p e below s Q K N (T.setTop (mkF m q l' rest))) : Ends p e below s Q K N (T.setTop (mkF m pc Ls (.int x :: rest))) := by
  subst hq
  exact .step (fun _ t => XS.istore X.here C.1 rfl (hb C.2 hd) rfl hl t) k
theorem o_lstoreN (C : Cx p c code) (X : Stand p l e R s m args below meth c T locs cells slots) {i : Fin 4} {x : Int64} (hd : decode code pc = .ok (.lstore_n i, 1)) (q : Nat) (hq : pc + 1 = q) (l' : Array Slot) (hl : storeLocals Ls i.val (.long x) = some l') (k : Ends p e below s Q K N (T.setTop (mkF m q l' rest))) : Ends p e below s Q K N (T.setTop (mkF m pc Ls (.long x :: rest))) := by
  subst hq
  exact .step (fun _ t => XS.lstoreN X.here C.1 rfl (hb C.2 hd) rfl hl t) k
theorem o_lstore (C : Cx p c code) (X : Stand p l e R s m args below meth c T locs cells slots) {i : Nat} {x : Int64} (hd : decode code pc = .ok (.lstore i, 2)) (q : Nat) (hq : pc + 2 = q) (l' : Array Slot) (hl : storeLocals Ls i (.long x) = some l') (k : Ends p e below s Q K N (T.setTop (mkF m q l' rest))) : Ends p e below s Q K N (T.setTop (mkF m pc Ls (.long x :: rest))) := by
  subst hq
  exact .step (fun _ t => XS.lstore X.here C.1 rfl (hb C.2 hd) rfl hl t) k
theorem o_astoreN (C : Cx p c code) (X : Stand p l e R s m args below meth c T locs cells slots) {i : Fin 4} {x : Value} (hd : decode code pc = .ok (.astore_n i, 1)) (q : Nat) (hq : pc + 1 = q) (hv : x.isRef = true) (l' : Array Slot) (hl : storeLocals Ls i.val x = some l') (k : Ends p e below s Q K N (T.setTop (mkF m q l' rest))) : Ends p e below s Q K N (T.setTop (mkF m pc Ls (x :: rest))) := by
  subst hq
  exact .step (fun _ t => XS.astoreN X.here C.1 rfl (hb C.2 hd) rfl hv hl t) k
theorem o_astore (C : Cx p c code) (X : Stand p l e R s m args below meth c T locs cells slots) {i : Nat} {x : Value} (hd : decode code pc = .ok (.astore i, 2)) (q : Nat) (hq : pc + 2 = q) (hv : x.isRef = true) (l' : Array Slot) (hl : storeLocals Ls i x = some l') (k : Ends p e below s Q K N (T.setTop (mkF m q l' rest))) : Ends p e below s Q K N (T.setTop (mkF m pc Ls (x :: rest))) := by
  subst hq
  exact .step (fun _ t => XS.astore X.here C.1 rfl (hb C.2 hd) rfl hv hl t) k
theorem o_iinc (C : Cx p c code) (X : Stand p l e R s m args below meth c T locs cells slots) {i : Nat} {cst : Int} {x : Int32} (v : Int32) (hd : decode code pc = .ok (.iinc i cst, 3)) (q : Nat) (hq : pc + 3 = q) (l' : Array Slot) (hl : Ls[i]? = some (.val (.int x))) (hv : x + Int32.ofInt cst = v) (hl' : storeLocals Ls i (.int v) = some l') (k : Ends p e below s Q K N (T.setTop (mkF m q l' rest))) : Ends p e below s Q K N (T.setTop (mkF m pc Ls rest)) := by
  subst hq hv
  exact .step (fun _ t => XS.iinc X.here C.1 rfl (hb C.2 hd) hl hl' t) k
theorem o_goto (C : Cx p c code) (X : Stand p l e R s m args below meth c T locs cells slots) {o : Int} (hd : decode code pc = .ok (.goto o, 3)) (q : Nat) (ho : 0 ≤ (pc : Int) + o) (hq : ((pc : Int) + o).toNat = q) (k : Ends p e below s Q K N (T.setTop (mkF m q Ls rest))) : Ends p e below s Q K N (T.setTop (mkF m pc Ls rest)) := by
  exact .step (fun _ t => XS.goto X.here C.1 rfl (pc0 := pc) rfl (hb C.2 hd) ho hq t) k
theorem o_ifY (C : Cx p c code) (X : Stand p l e R s m args below meth c T locs cells slots) {cd : ClassFile.Cond} {o : Int} {x : Int32} (hd : decode code pc = .ok (.ifCond cd o, 3)) (q : Nat) (ho : 0 ≤ (pc : Int) + o) (hq : ((pc : Int) + o).toNat = q) (hc : ifCond.holds cd x = true) (k : Ends p e below s Q K N (T.setTop (mkF m q Ls rest))) : Ends p e below s Q K N (T.setTop (mkF m pc Ls (.int x :: rest))) := by
  exact .step (fun _ t => XS.ifYes X.here C.1 rfl (pc0 := pc) rfl (hb C.2 hd) rfl hc ho hq t) k
theorem o_ifN (C : Cx p c code) (X : Stand p l e R s m args below meth c T locs cells slots) {cd : ClassFile.Cond} {o : Int} {x : Int32} (hd : decode code pc = .ok (.ifCond cd o, 3)) (q : Nat) (hq : pc + 3 = q) (hc : ifCond.holds cd x = false) (k : Ends p e below s Q K N (T.setTop (mkF m q Ls rest))) : Ends p e below s Q K N (T.setTop (mkF m pc Ls (.int x :: rest))) := by
  subst hq
  exact .step (fun _ t => XS.ifNo X.here C.1 rfl (hb C.2 hd) rfl hc t) k
theorem o_icmpY (C : Cx p c code) (X : Stand p l e R s m args below meth c T locs cells slots) {cd : ClassFile.Cond} {o : Int} {x y : Int32} (hd : decode code pc = .ok (.if_icmp cd o, 3)) (q : Nat) (ho : 0 ≤ (pc : Int) + o) (hq : ((pc : Int) + o).toNat = q) (hc : if_icmp.holds cd x y = true) (k : Ends p e below s Q K N (T.setTop (mkF m q Ls rest))) : Ends p e below s Q K N (T.setTop (mkF m pc Ls (.int y :: .int x :: rest))) := by
  exact .step (fun _ t => XS.icmpYes X.here C.1 rfl (pc0 := pc) rfl (hb C.2 hd) rfl hc ho hq t) k
theorem o_icmpN (C : Cx p c code) (X : Stand p l e R s m args below meth c T locs cells slots) {cd : ClassFile.Cond} {o : Int} {x y : Int32} (hd : decode code pc = .ok (.if_icmp cd o, 3)) (q : Nat) (hq : pc + 3 = q) (hc : if_icmp.holds cd x y = false) (k : Ends p e below s Q K N (T.setTop (mkF m q Ls rest))) : Ends p e below s Q K N (T.setTop (mkF m pc Ls (.int y :: .int x :: rest))) := by
  subst hq
  exact .step (fun _ t => XS.icmpNo X.here C.1 rfl (hb C.2 hd) rfl hc t) k
theorem o_tlt {x y : Int64} (h : x < y) : ifCond.holds .lt (cmpL x y) = true ∧ ifCond.holds .ge (cmpL x y) = false := by
  have := (lw_lt x y).mpr h
  simp only [if0]; exact ⟨(tlt this).1, (tlt this).2.1⟩
theorem o_flt {x y : Int64} (h : ¬ x < y) : ifCond.holds .lt (cmpL x y) = false ∧ ifCond.holds .ge (cmpL x y) = true := by
  have := fun q => h ((lw_lt x y).mp q)
  simp only [if0]; exact ⟨(flt this).1, (flt this).2.1⟩
theorem o_tgt {x y : Int64} (h : y < x) : ifCond.holds .gt (cmpL x y) = true ∧ ifCond.holds .le (cmpL x y) = false := by
  have := (lw_gt x y).mpr h
  simp only [if0]; exact ⟨(tlt this).2.2.1, (tlt this).2.2.2⟩
theorem o_fgt {x y : Int64} (h : ¬ y < x) : ifCond.holds .gt (cmpL x y) = false ∧ ifCond.holds .le (cmpL x y) = true := by
  have := fun q => h ((lw_gt x y).mp q)
  simp only [if0]; exact ⟨(flt this).2.2.1, (flt this).2.2.2⟩
theorem o_teq {x y : Int64} (h : x = y) : ifCond.holds .eq (cmpL x y) = true ∧ ifCond.holds .ne (cmpL x y) = false := by
  have := (lw_eq x y).mpr h
  simp only [if0]; exact ⟨(teq this).1, (teq this).2⟩
theorem o_feq {x y : Int64} (h : ¬ x = y) : ifCond.holds .eq (cmpL x y) = false ∧ ifCond.holds .ne (cmpL x y) = true := by
  have := fun q => h ((lw_eq x y).mp q)
  simp only [if0]; exact ⟨(feq this).1, (feq this).2⟩
theorem o_ldcI (C : Cx p c code) (X : Stand p l e R s m args below meth c T locs cells slots) (hZ : Z.Warmed39 s.vm) {own : String} {index : Nat} {v : Int32} (hown : s.vm.findClass own = some m.cls) (w : (Jvm.Cond.constant own index v).before a0 Z = true) (hd : decode code pc = .ok (.ldc index, 2)) (q : Nat) (hq : pc + 2 = q) (k : Ends p e below s Q K N (T.setTop (mkF m q Ls (.int v :: rest)))) : Ends p e below s Q K N (T.setTop (mkF m pc Ls rest)) := by
  subst hq
  exact .step (fun _ t => X.ldcI C.1 hown (mvT hZ w) (g := mkF m pc Ls rest) rfl (hb C.2 hd) t) k
theorem o_ldc2J (C : Cx p c code) (X : Stand p l e R s m args below meth c T locs cells slots) (hZ : Z.Warmed39 s.vm) {own : String} {index : Nat} {v : Int64} (hown : s.vm.findClass own = some m.cls) (w : (Jvm.Cond.constantLong own index v).before a0 Z = true) (hd : decode code pc = .ok (.ldc2_w index, 3)) (q : Nat) (hq : pc + 3 = q) (k : Ends p e below s Q K N (T.setTop (mkF m q Ls (.long v :: rest)))) : Ends p e below s Q K N (T.setTop (mkF m pc Ls rest)) := by
  subst hq
  exact .step (fun _ t => X.ldc2J C.1 hown (mvT hZ w) (g := mkF m pc Ls rest) rfl (hb C.2 hd) t) k
theorem o_retI (C : Cx p c code) (X : Stand p l e R s m args below meth c T locs cells slots) {z : Int32} (hret : meth.sig.returnType = some .int) (hlk : meth.locks = false) (hd : decode code pc = .ok (.ireturn, 1)) (hQ : Q (some (.int z)) T.heap locs) (hK : cells ≤ K) (hN : slots ≤ N) : Ends p e below s Q K N (T.setTop (mkF m pc Ls (.int z :: rest))) := by
  obtain ⟨fs, hr, hrun, hended, hW, hsame⟩ := X.leave (v := (some (.int z))) (fun h => by rw [hret] at h; cases h) hlk
  exact ⟨_, _, retOut X C.1 hret rfl (Or.inl ⟨rfl, Or.inl rfl, z, rfl⟩) (hb C.2 hd) hr, hrun, hended, _, _, rfl, hQ, ⟨_, rfl⟩, hW, hsame.mono hK hN⟩
theorem o_retN (C : Cx p c code) (X : Stand p l e R s m args below meth c T locs cells slots) {z : Int32} {t : FieldType} (hret : meth.sig.returnType = some t) (ht : t = .boolean ∨ t = .byte ∨ t = .char ∨ t = .short) (hlk : meth.locks = false) (hd : decode code pc = .ok (.ireturn, 1)) (hQ : Q (some (.int (nar t z))) T.heap locs) (hK : cells ≤ K) (hN : slots ≤ N) : Ends p e below s Q K N (T.setTop (mkF m pc Ls (.int z :: rest))) := by
  obtain ⟨fs, hr, hrun, hended, hW, hsame⟩ := X.leave (v := (some (.int (nar t z)))) (fun h => by rw [hret] at h; cases h) hlk
  exact ⟨_, _, retN X C.1 hret ht (hb C.2 hd) hr, hrun, hended, _, _, rfl, hQ, ⟨_, rfl⟩, hW, hsame.mono hK hN⟩
theorem o_retJ (C : Cx p c code) (X : Stand p l e R s m args below meth c T locs cells slots) {z : Int64} (hret : meth.sig.returnType = some .long) (hlk : meth.locks = false) (hd : decode code pc = .ok (.lreturn, 1)) (hQ : Q (some (.long z)) T.heap locs) (hK : cells ≤ K) (hN : slots ≤ N) : Ends p e below s Q K N (T.setTop (mkF m pc Ls (.long z :: rest))) := by
  obtain ⟨fs, hr, hrun, hended, hW, hsame⟩ := X.leave (v := (some (.long z))) (fun h => by rw [hret] at h; cases h) hlk
  exact ⟨_, _, retOut X C.1 hret rfl (Or.inr (Or.inl ⟨rfl, rfl, z, rfl⟩)) (hb C.2 hd) hr, hrun, hended, _, _, rfl, hQ, ⟨_, rfl⟩, hW, hsame.mono hK hN⟩
theorem o_retA (C : Cx p c code) (X : Stand p l e R s m args below meth c T locs cells slots) {z : Addr} {t : FieldType} (hret : meth.sig.returnType = some t) (ht : t.isReference = true) (hlk : meth.locks = false) (hd : decode code pc = .ok (.areturn, 1)) (hQ : Q (some (.ref z)) T.heap locs) (hK : cells ≤ K) (hN : slots ≤ N) : Ends p e below s Q K N (T.setTop (mkF m pc Ls (.ref z :: []))) := by
  obtain ⟨fs, hr, hrun, hended, hW, hsame⟩ := X.leave (v := (some (.ref z))) (fun h => by rw [hret] at h; cases h) hlk
  exact ⟨_, _, X.areturnOut C.1 rfl hret ht (hb C.2 hd) hr, hrun, hended, _, _, rfl, hQ, ⟨_, rfl⟩, hW, hsame.mono hK hN⟩
theorem o_ret (C : Cx p c code) (X : Stand p l e R s m args below meth c T locs cells slots) (hret : meth.sig.returnType = none) (hlk : meth.locks = false) (hd : decode code pc = .ok (.return_, 1)) (hQ : Q none T.heap locs) (hK : cells ≤ K) (hN : slots ≤ N) : Ends p e below s Q K N (T.setTop (mkF m pc Ls [])) := by
  obtain ⟨fs, hr, hrun, hended, hW, hsame⟩ := X.leave (v := none) (fun _ => rfl) hlk
  exact ⟨_, _, X.returnOut C.1 hret (hb C.2 hd) hr, hrun, hended, _, _, rfl, hQ, ⟨_, rfl⟩, hW, hsame.mono hK hN⟩
theorem o_callS (C : Cx p c code) (X : Stand p l e R s m args below meth c T locs cells slots) (hZ : Z.Warmed39 s.vm) (hml : c.maxLocals = Ls.size) {own : String} {index : Nat} {y : MethodName} {bytes : ByteArray} {maxL : Nat} {ret : Option FieldType} {rm : Room} {Qc : Option Value → Heap → List Loc → Prop} (hown : s.vm.findClass own = some m.cls)
    (w1 : (Jvm.Cond.methodLink own index y).before a0 Z = true) (w2 : (Jvm.Cond.static y).before a0 Z = true) (w3 : (Jvm.Cond.initialized y.cls).before a0 Z = true) (w4 : (Jvm.Cond.code y bytes maxL ret).before a0 Z = true) (hy : y.cls ≠ "java/lang/invoke/MethodHandle" ∧ y.cls ≠ "java/lang/invoke/VarHandle")
    {asL st : List Value} (hM : Con l Z y bytes maxL ret rm rm.cells rm.slots [] asL.toArray h Qc) (eT : T.heap = h) {ps : List FieldType} {rt : Option FieldType} (pd : parseMethodDescriptor y.desc = some ⟨ps, rt⟩) (hlen : asL.length = ps.length) (hst : st = asL.reverse ++ rest) (W : Nat) (hW : (rest.map fun v => v.category).sum ≤ W) (hf : rm.frames + 1 ≤ R.frames) (hl : W + (maxL + 11) + rm.locals ≤ R.locals) (hcl : cells + rm.cells ≤ R.cells) (hsl : slots + rm.slots ≤ R.slots)
    (hd : decode code pc = .ok (.invokestatic index, 3)) (q : Nat) (hq : pc + 3 = q) (k : ∀ (T' : State) (h' : Heap) (v : Option Value) (L : List Loc), Stand p l e R s m args below meth c T' (locs ++ L) (cells + rm.cells) (slots + rm.slots) → T'.heap = h' → Qc v h' L → Ends p e below s Q K N (T'.setTop (mkF m q Ls (v.toList ++ rest)))) : Ends p e below s Q K N (T.setTop (mkF m pc Ls st)) := by
  subst hq hst
  obtain ⟨v, _, ⟨T', L', k', n'⟩, -, X', ⟨Lc, hQ, rfl, rfl, rfl⟩, st⟩ := Jvm.LawKit.callS X C.1 (y := y) hown (mvT hZ w1) (mvT hZ w2) (mvT hZ w3) (mvT hZ w4) hy (backOf (W := W) hM hZ w4 w3 hf hl) (g := mkF m pc Ls (asL.reverse ++ rest)) rfl hml.symm (argsL := asL) (rest := rest) (lenOf pd hlen) rfl (by show 2 * 0 + _ ≤ _; omega) (hb C.2 hd) (fun _ _ => ⟨rfl, eT, hcl, hsl⟩)
  exact .step st (k T' _ v Lc X' rfl hQ)
theorem o_callI (C : Cx p c code) (X : Stand p l e R s m args below meth c T locs cells slots) (hZ : Z.Warmed39 s.vm) (hml : c.maxLocals = Ls.size) {own : String} {index : Nat} {y : MethodName} {bytes : ByteArray} {maxL : Nat} {rm : Room} {Qc : Option Value → Heap → List Loc → Prop} (hown : s.vm.findClass own = some m.cls) (hy1 : y.name = "<init>")
    (w1 : (Jvm.Cond.methodLink own index y).before a0 Z = true) (w2 : (Jvm.Cond.instanceMethod y).before a0 Z = true) (w3 : (Jvm.Cond.initialized y.cls).before a0 Z = true) (w4 : (Jvm.Cond.code y bytes maxL none).before a0 Z = true) (hy : y.cls ≠ "java/lang/invoke/MethodHandle" ∧ y.cls ≠ "java/lang/invoke/VarHandle")
    {asL st : List Value} {a : Addr} (hM : Con l Z y bytes maxL none rm rm.cells rm.slots [] (.ref a :: asL).toArray h Qc) (eT : T.heap = h) {ps : List FieldType} {rt : Option FieldType} (pd : parseMethodDescriptor y.desc = some ⟨ps, rt⟩) (hlen : asL.length = ps.length) (hst : st = asL.reverse ++ .ref a :: rest) (W : Nat) (hW : (rest.map fun v => v.category).sum ≤ W) (hf : rm.frames + 1 ≤ R.frames) (hl : W + (maxL + 11) + rm.locals ≤ R.locals) (hcl : cells + rm.cells ≤ R.cells) (hsl : slots + rm.slots ≤ R.slots)
    (hd : decode code pc = .ok (.invokespecial index, 3)) (q : Nat) (hq : pc + 3 = q) (k : ∀ (T' : State) (h' : Heap) (v : Option Value) (L : List Loc), Stand p l e R s m args below meth c T' (locs ++ L) (cells + rm.cells) (slots + rm.slots) → T'.heap = h' → Qc v h' L → Ends p e below s Q K N (T'.setTop (mkF m q Ls (v.toList ++ rest)))) : Ends p e below s Q K N (T.setTop (mkF m pc Ls st)) := by
  subst hq hst
  obtain ⟨v, _, ⟨T', L', k', n'⟩, -, X', ⟨Lc, hQ, rfl, rfl, rfl⟩, st⟩ := X.specialBack C.1 (y := y) hy1 hown (mvT hZ w1) (mvT hZ w2) (mvT hZ w4) hy (backOf (W := W) hM hZ w4 w3 hf hl) (g := mkF m pc Ls (asL.reverse ++ .ref a :: rest)) rfl hml.symm (Steps.refl _) (a := a) (argsL := asL) (rest := rest) (lenOf pd hlen) rfl (by show 2 * 0 + _ ≤ _; omega) (hb C.2 hd) (fun _ _ => ⟨rfl, eT, hcl, hsl⟩)
  exact .step (fun _ t => st.trans t) (k T' _ v Lc X' rfl hQ)
theorem o_callV (C : Cx p c code) (X : Stand p l e R s m args below meth c T locs cells slots) (hZ : Z.Warmed39 s.vm) (hml : c.maxLocals = Ls.size) {own : String} {index : Nat} {y : MethodName} {bytes : ByteArray} {maxL : Nat} {ret : Option FieldType} {rm : Room} {Qc : Option Value → Heap → List Loc → Prop} (hown : s.vm.findClass own = some m.cls)
    (w1 : (Jvm.Cond.methodLink own index y).before a0 Z = true) (w2 : (Jvm.Cond.declares y).before a0 Z = true) (w5 : (Jvm.Cond.selects y.cls y y).before a0 Z = true) (w6 : (Jvm.Cond.instanceMethod y).before a0 Z = true) (w3 : (Jvm.Cond.initialized y.cls).before a0 Z = true) (w4 : (Jvm.Cond.code y bytes maxL ret).before a0 Z = true) (hy : y.cls ≠ "java/lang/invoke/MethodHandle" ∧ y.cls ≠ "java/lang/invoke/VarHandle")
    {asL st : List Value} {a : Addr} (hM : Con l Z y bytes maxL ret rm rm.cells rm.slots [] (.ref a :: asL).toArray h Qc) (eT : T.heap = h) (E : Exa Z h a y.cls) {ps : List FieldType} {rt : Option FieldType} (pd : parseMethodDescriptor y.desc = some ⟨ps, rt⟩) (hlen : asL.length = ps.length) (hst : st = asL.reverse ++ .ref a :: rest) (W : Nat) (hW : (rest.map fun v => v.category).sum ≤ W) (hf : rm.frames + 1 ≤ R.frames) (hl : W + (maxL + 11) + rm.locals ≤ R.locals) (hcl : cells + rm.cells ≤ R.cells) (hsl : slots + rm.slots ≤ R.slots)
    (hd : decode code pc = .ok (.invokevirtual index, 3)) (q : Nat) (hq : pc + 3 = q) (k : ∀ (T' : State) (h' : Heap) (v : Option Value) (L : List Loc), Stand p l e R s m args below meth c T' (locs ++ L) (cells + rm.cells) (slots + rm.slots) → T'.heap = h' → Qc v h' L → Ends p e below s Q K N (T'.setTop (mkF m q Ls (v.toList ++ rest)))) : Ends p e below s Q K N (T.setTop (mkF m pc Ls st)) := by
  subst hq hst
  obtain ⟨cq, kq, qa, qb, qc⟩ := isOf hZ eT E
  obtain ⟨v, _, ⟨T', L', k', n'⟩, -, X', ⟨Lc, hQ, rfl, rfl, rfl⟩, st⟩ := X.virtualBack C.1 (y := y) (z := y) hown (mvT hZ w1) (mvT hZ w2) (notFace_of_selects (args := #[]) (mvT hZ w5)) (mvT hZ w5) (mvT hZ w6) hy (backOf (W := W) hM hZ w4 w3 hf hl) qa qc (g := mkF m pc Ls (asL.reverse ++ .ref a :: rest)) rfl hml.symm (Steps.refl _) (argsL := asL) (rest := rest) (lenOf pd hlen) rfl (by show 2 * 0 + _ ≤ _; omega) (hb C.2 hd) (fun _ _ => ⟨rfl, eT, hcl, hsl⟩)
  exact .step (fun _ t => st.trans t) (k T' _ v Lc X' rfl hQ)
theorem Ends.via {T0 : State} (F : JFrame) (k1 : Ends p e below s Q K N (T.setTop F) → Ends p e below s Q K N T0) (k2 : Ends p e below s Q K N (T.setTop F)) : Ends p e below s Q K N T0 := k1 k2
/-- what a callee that writes and makes nothing says: its value, the heap as it was -/
def PQ (v0 : Value) (h : Heap) : Option Value → Heap → List Loc → Prop := fun v h' L => v = some v0 ∧ L = [] ∧ h' = h
theorem o_callP (C : Cx p c code) (X : Stand p l e R s m args below meth c T locs cells slots) (hZ : Z.Warmed39 s.vm) (hml : c.maxLocals = Ls.size) {own : String} {index : Nat} {y : MethodName} {bytes : ByteArray} {maxL : Nat} {ret : Option FieldType} {rf rl : Nat} {v0 : Value} (hown : s.vm.findClass own = some m.cls)
    (w1 : (Jvm.Cond.methodLink own index y).before a0 Z = true) (w2 : (Jvm.Cond.static y).before a0 Z = true) (w3 : (Jvm.Cond.initialized y.cls).before a0 Z = true) (w4 : (Jvm.Cond.code y bytes maxL ret).before a0 Z = true) (hy : y.cls ≠ "java/lang/invoke/MethodHandle" ∧ y.cls ≠ "java/lang/invoke/VarHandle")
    {asL st : List Value} (hM : Con l Z y bytes maxL ret { frames := rf, cells := 0, slots := 0, locals := rl } 0 0 [] asL.toArray h (PQ v0 h)) (eT : T.heap = h) {ps : List FieldType} {rt : Option FieldType} (pd : parseMethodDescriptor y.desc = some ⟨ps, rt⟩) (hlen : asL.length = ps.length) (hst : st = asL.reverse ++ rest) (W : Nat) (hW : (rest.map fun v => v.category).sum ≤ W) (hf : rf + 1 ≤ R.frames) (hl : W + (maxL + 11) + rl ≤ R.locals) (hcl : cells ≤ R.cells) (hsl : slots ≤ R.slots)
    (hd : decode code pc = .ok (.invokestatic index, 3)) (q : Nat) (hq : pc + 3 = q) (k : ∀ (T' : State), Stand p l e R s m args below meth c T' locs cells slots → T'.heap = h → Ends p e below s Q K N (T'.setTop (mkF m q Ls (v0 :: rest)))) : Ends p e below s Q K N (T.setTop (mkF m pc Ls st)) := by
  refine o_callS C X hZ hml hown w1 w2 w3 w4 hy (rm := { frames := rf, cells := 0, slots := 0, locals := rl }) hM eT pd hlen hst W hW hf hl hcl hsl hd q hq ?_
  intro T' h' v L X' e' hq
  obtain ⟨rfl, rfl, hh⟩ := hq
  rw [List.append_nil] at X'
  exact k T' X' (e'.trans hh)
theorem o_callVP (C : Cx p c code) (X : Stand p l e R s m args below meth c T locs cells slots) (hZ : Z.Warmed39 s.vm) (hml : c.maxLocals = Ls.size) {own : String} {index : Nat} {y : MethodName} {bytes : ByteArray} {maxL : Nat} {ret : Option FieldType} {rf rl : Nat} {v0 : Value} (hown : s.vm.findClass own = some m.cls)
    (w1 : (Jvm.Cond.methodLink own index y).before a0 Z = true) (w2 : (Jvm.Cond.declares y).before a0 Z = true) (w5 : (Jvm.Cond.selects y.cls y y).before a0 Z = true) (w6 : (Jvm.Cond.instanceMethod y).before a0 Z = true) (w3 : (Jvm.Cond.initialized y.cls).before a0 Z = true) (w4 : (Jvm.Cond.code y bytes maxL ret).before a0 Z = true) (hy : y.cls ≠ "java/lang/invoke/MethodHandle" ∧ y.cls ≠ "java/lang/invoke/VarHandle")
    {asL st : List Value} {a : Addr} (hM : Con l Z y bytes maxL ret { frames := rf, cells := 0, slots := 0, locals := rl } 0 0 [] (.ref a :: asL).toArray h (PQ v0 h)) (eT : T.heap = h) (E : Exa Z h a y.cls) {ps : List FieldType} {rt : Option FieldType} (pd : parseMethodDescriptor y.desc = some ⟨ps, rt⟩) (hlen : asL.length = ps.length) (hst : st = asL.reverse ++ .ref a :: rest) (W : Nat) (hW : (rest.map fun v => v.category).sum ≤ W) (hf : rf + 1 ≤ R.frames) (hl : W + (maxL + 11) + rl ≤ R.locals) (hcl : cells ≤ R.cells) (hsl : slots ≤ R.slots)
    (hd : decode code pc = .ok (.invokevirtual index, 3)) (q : Nat) (hq : pc + 3 = q) (k : ∀ (T' : State), Stand p l e R s m args below meth c T' locs cells slots → T'.heap = h → Ends p e below s Q K N (T'.setTop (mkF m q Ls (v0 :: rest)))) : Ends p e below s Q K N (T.setTop (mkF m pc Ls st)) := by
  refine o_callV C X hZ hml hown w1 w2 w5 w6 w3 w4 hy (rm := { frames := rf, cells := 0, slots := 0, locals := rl }) hM eT E pd hlen hst W hW hf hl hcl hsl hd q hq ?_
  intro T' h' v L X' e' hq
  obtain ⟨rfl, rfl, hh⟩ := hq
  rw [List.append_nil] at X'
  exact k T' X' (e'.trans hh)
theorem o_new (C : Cx p c code) (X : Stand p l e R s m args below meth c T locs cells slots) (hZ : Z.Warmed39 s.vm) {own Cn : String} {index n : Nat} (hown : s.vm.findClass own = some m.cls) (w : (Jvm.Cond.classLink own index Cn).before a0 Z = true) (wi : (Jvm.Cond.instantiable Cn n).before a0 Z = true) (wz : (Jvm.Cond.initialized Cn).before a0 Z = true) (eT : T.heap = h) (hd : decode code pc = .ok (.new index, 3)) (hc : cells + 1 ≤ R.cells) (hl : slots + n ≤ R.slots) (q : Nat) (hq : pc + 3 = q)
    (k : ∀ (T' : State) (h' : Heap) (a : Addr), a = h.size → Stand p l e R s m args below meth c T' locs (cells + 1) (slots + n) → T'.heap = h' → Ext h h' → Exa Z h' a Cn → (∀ {O nm d : String} {ty : FieldType}, Laid Z a0 Cn O nm d → parseFieldDescriptor d = some ty → Fld Z h' a O nm d (defaultValue ty)) → Ends p e below s Q K N (T'.setTop (mkF m q Ls (.ref a :: rest)))) : Ends p e below s Q K N (T.setTop (mkF m pc Ls rest)) := by
  subst hq
  obtain ⟨T', h', X', e', E, A, D, -, st⟩ := newO X C.1 hZ hown w wi wz eT (g := mkF m pc Ls rest) rfl (hb C.2 hd) hc hl
  exact .step st (k T' h' _ rfl X' e' E A D)
theorem o_getF (C : Cx p c code) (X : Stand p l e R s m args below meth c T locs cells slots) (hZ : Z.Warmed39 s.vm) {own R0 O n d : String} {index : Nat} (hown : s.vm.findClass own = some m.cls) (w : (Jvm.Cond.fieldLink own index R0 n d).before a0 Z = true) (via : Via Z R0 O n d) (eT : T.heap = h) {a : Addr} {v : Value} (F : Fld Z h a O n d v) (hd : decode code pc = .ok (.getfield index, 3)) (q : Nat) (hq : pc + 3 = q)
    (k : ∀ (T' : State), Stand p l e R s m args below meth c T' locs cells slots → T'.heap = h → Ends p e below s Q K N (T'.setTop (mkF m q Ls (v :: rest)))) : Ends p e below s Q K N (T.setTop (mkF m pc Ls (.ref a :: rest))) := by
  subst hq
  obtain ⟨T', X', e', st⟩ := getF X C.1 hZ hown (host := "") (Or.inl w) via eT F (g := mkF m pc Ls (.ref a :: rest)) rfl rfl (hb C.2 hd)
  exact .step st (k T' X' e')
theorem o_putF (C : Cx p c code) (X : Stand p l e R s m args below meth c T locs cells slots) (hZ : Z.Warmed39 s.vm) {own R0 O n d Cn : String} {index kk : Nat} {ty : FieldType} (hown : s.vm.findClass own = some m.cls) (w : (Jvm.Cond.fieldLink own index R0 n d).before a0 Z = true) (via : Via Z R0 O n d) (eT : T.heap = h) {a : Addr} {v old : Value} (F : Fld Z h a O n d old) (E : Exa Z h a Cn) (L : (Jvm.Cond.lays Cn O n d).before a0 Z = true ∨ ((Jvm.Cond.laysFinal Cn O n d).before a0 Z = true ∧ own = O ∧ meth.name = "<init>")) (wi : (Jvm.Cond.instantiable Cn kk).before a0 Z = true) (hty : parseFieldDescriptor d = some ty) (hn : narrow ty v = v) (hf : fits ty v = true) (hd : decode code pc = .ok (.putfield index, 3)) (q : Nat) (hq : pc + 3 = q) {n0 : Nat} (N0 : Fr n0 locs) (ha : n0 ≤ a)
    (k : ∀ (T' : State) (h' : Heap) (locs' : List Loc), Stand p l e R s m args below meth c T' locs' cells slots → T'.heap = h' → Wr h h' a (Jvm.RoadKit.slotOf Z O n d) v → Fr n0 locs' → Ends p e below s Q K N (T'.setTop (mkF m q Ls rest))) : Ends p e below s Q K N (T.setTop (mkF m pc Ls (v :: .ref a :: rest))) := by
  subst hq
  obtain ⟨T', h', X', e', W, st⟩ := putF X C.1 hZ hown (host := "") (Or.inl w) via eT F E L wi hty hn hf (g := mkF m pc Ls (v :: .ref a :: rest)) rfl rfl (hb C.2 hd)
  exact .step st (k T' h' _ X' e' W (Fr.snoc X' N0 ha))
/-- the array at a has n places; the place j holds the int f j -/
def AI (Z : State) (h : Heap) (a : Addr) (ty : FieldType) (n : Nat) (f : Nat → Int32) : Prop := ∃ cl : Cell, Arr Z h a cl ty ∧ cl.slots.size = n ∧ n < 2 ^ 31 ∧ ∀ j, j < n → cl.slots[j]? = some (.int (f j))
theorem AI.lt {a : Addr} {ty : FieldType} {n : Nat} {f : Nat → Int32} (A : AI Z h a ty n f) : a < h.size := by
  obtain ⟨cl, A, -⟩ := A; exact A.lt
theorem AI.ext {h' : Heap} {a : Addr} {ty : FieldType} {n : Nat} {f : Nat → Int32} (A : AI Z h a ty n f) (E : Ext h h') : AI Z h' a ty n f := by
  obtain ⟨cl, A, B⟩ := A; exact ⟨cl, A.ext E, B⟩
theorem AI.other {h' : Heap} {a b : Addr} {ty : FieldType} {n sl : Nat} {v : Value} {f : Nat → Int32} (A : AI Z h b ty n f) (W : Wr h h' a sl v) (q : b ≠ a) : AI Z h' b ty n f := by
  obtain ⟨cl, A, B⟩ := A; exact ⟨cl, A.other W q, B⟩
theorem AI.keep {h' : Heap} {a : Addr} {ty : FieldType} {n : Nat} {f : Nat → Int32} {ws : List Addr} (A : AI Z h a ty n f) (k : Keep h h' ws) (q : a ∉ ws) : AI Z h' a ty n f := by
  obtain ⟨cl, ⟨A1, A2⟩, B⟩ := A; exact ⟨cl, ⟨k.2.1 _ _ A1 q, A2⟩, B⟩
theorem AI.wr {h' : Heap} {a : Addr} {ty : FieldType} {n i : Nat} {v : Int32} {f : Nat → Int32} (A : AI Z h a ty n f) (W : Wr h h' a i (.int v)) (hi : i < n) : AI Z h' a ty n (fun j => if j = i then v else f j) := by
  obtain ⟨cl, A, S, M, B⟩ := A
  refine ⟨_, A.same W, by rw [sz_set]; exact S, M, fun j hj => ?_⟩
  show (cl.slots.setIfInBounds i (.int v))[j]? = _
  rw [Array.getElem?_setIfInBounds]
  by_cases q : i = j
  · subst q; rw [if_pos rfl, if_pos (by rw [S]; exact hi)]; dsimp only; rw [if_pos rfl]
  · rw [if_neg q, B j hj]; dsimp only; rw [if_neg (fun r => q r.symm)]
theorem AI.congr {a : Addr} {ty : FieldType} {n : Nat} {f g : Nat → Int32} (A : AI Z h a ty n f) (q : ∀ j, j < n → f j = g j) : AI Z h a ty n g := by
  obtain ⟨cl, A, S, M, B⟩ := A
  exact ⟨cl, A, S, M, fun j hj => by rw [B j hj, q j hj]⟩
theorem AI.ne {a b : Addr} {ty : FieldType} {n : Nat} {f : Nat → Int32} (A : AI Z h a ty n f) (q : b = h.size) : a ≠ b := fun r => by
  have := A.lt; rw [r, q] at this; exact Nat.lt_irrefl _ this
theorem own_idx {m : Nat} {j : Int32} {i n : Nat} (hj : j.toInt = i) (hi : i < n) (S : m = n) : ¬ (j < 0 ∨ m ≤ j.toNatClampNeg) ∧ j.toNatClampNeg = i := by
  have e1 : j.toNatClampNeg = i := by rw [Int32.toNatClampNeg, hj]; rfl
  refine ⟨?_, e1⟩
  rw [e1, S, Int32.lt_iff_toInt_lt, hj, show (0 : Int32).toInt = 0 from rfl]
  omega
theorem o_iaload (C : Cx p c code) (X : Stand p l e R s m args below meth c T locs cells slots) (hZ : Z.Warmed39 s.vm) (eT : T.heap = h) {a : Addr} {n : Nat} {f : Nat → Int32} (A : AI Z h a .int n f) {j : Int32} (i : Nat) (hj : j.toInt = i) (hi : i < n) (hd : decode code pc = .ok (.iaload, 1)) (q : Nat) (hq : pc + 1 = q) (k : Ends p e below s Q K N (T.setTop (mkF m q Ls (.int (f i) :: rest)))) : Ends p e below s Q K N (T.setTop (mkF m pc Ls (.int j :: .ref a :: rest))) := by
  subst hq
  obtain ⟨cl, A, S, M, B⟩ := A
  obtain ⟨q1, q2⟩ := own_idx hj hi S
  exact .step (fun t kt => X.iaload C.1 (j := j) (v := .int (f i)) (by rw [eT]; exact A.1) (State.isArrayOf_alike hZ.alike A.2.1) A.2.2 q1 (by rw [q2]; exact B i hi) (g := mkF m pc Ls (.int j :: .ref a :: rest)) rfl rfl (hb C.2 hd) t kt) k
theorem o_baload (C : Cx p c code) (X : Stand p l e R s m args below meth c T locs cells slots) (hZ : Z.Warmed39 s.vm) (eT : T.heap = h) {a : Addr} {n : Nat} {f : Nat → Int32} (A : AI Z h a .byte n f) {j : Int32} (i : Nat) (hj : j.toInt = i) (hi : i < n) (hd : decode code pc = .ok (.baload, 1)) (q : Nat) (hq : pc + 1 = q) (k : Ends p e below s Q K N (T.setTop (mkF m q Ls (.int (f i) :: rest)))) : Ends p e below s Q K N (T.setTop (mkF m pc Ls (.int j :: .ref a :: rest))) := by
  subst hq
  obtain ⟨cl, A, S, M, B⟩ := A
  obtain ⟨q1, q2⟩ := own_idx hj hi S
  exact .step (fun t kt => X.baloadBytes C.1 (j := j) (v := .int (f i)) (by rw [eT]; exact A.1) (State.isArrayOf_alike hZ.alike A.2.1) A.2.2 q1 (by rw [q2]; exact B i hi) (g := mkF m pc Ls (.int j :: .ref a :: rest)) rfl rfl (hb C.2 hd) t kt) k
theorem o_arraylength (C : Cx p c code) (X : Stand p l e R s m args below meth c T locs cells slots) (hZ : Z.Warmed39 s.vm) (eT : T.heap = h) {a : Addr} {ty : FieldType} {n : Nat} {f : Nat → Int32} (A : AI Z h a ty n f) (v : Int32) (hv : n.toInt32 = v) (hd : decode code pc = .ok (.arraylength, 1)) (q : Nat) (hq : pc + 1 = q) (k : Ends p e below s Q K N (T.setTop (mkF m q Ls (.int v :: rest)))) : Ends p e below s Q K N (T.setTop (mkF m pc Ls (.ref a :: rest))) := by
  subst hq hv
  obtain ⟨cl, A, rfl, M, B⟩ := A
  exact .step (fun t kt => X.arraylength C.1 (by rw [eT]; exact A.1) (State.isArrayOf_alike hZ.alike A.2.1) (g := mkF m pc Ls (.ref a :: rest)) rfl (rest := rest) rfl (hb C.2 hd) t kt) k
theorem o_iastore (C : Cx p c code) (X : Stand p l e R s m args below meth c T locs cells slots) (hZ : Z.Warmed39 s.vm) (eT : T.heap = h) {a : Addr} {n : Nat} {f : Nat → Int32} (A : AI Z h a .int n f) {j x : Int32} (i : Nat) (hj : j.toInt = i) (hi : i < n) (hd : decode code pc = .ok (.iastore, 1)) (q : Nat) (hq : pc + 1 = q) {n0 : Nat} (N0 : Fr n0 locs) (ha : n0 ≤ a)
    (k : ∀ (T' : State) (h' : Heap) (locs' : List Loc), Stand p l e R s m args below meth c T' locs' cells slots → T'.heap = h' → Wr h h' a i (.int x) → Fr n0 locs' → AI Z h' a .int n (fun j => if j = i then x else f j) → Ends p e below s Q K N (T'.setTop (mkF m q Ls rest))) : Ends p e below s Q K N (T.setTop (mkF m pc Ls (.int x :: .int j :: .ref a :: rest))) := by
  subst hq
  obtain ⟨cl, A', S, M, B⟩ := A
  obtain ⟨q1, q2⟩ := own_idx hj hi S
  obtain ⟨T', h', X', e', W, st⟩ := stI X C.1 hZ eT A' (j := j) (x := x) q1 (g := mkF m pc Ls (.int x :: .int j :: .ref a :: rest)) rfl rfl (hb C.2 hd)
  rw [q2] at W
  exact .step st (k T' h' _ X' e' W (Fr.snoc X' N0 ha) (AI.wr ⟨cl, A', S, M, B⟩ W hi))
theorem o_bastore (C : Cx p c code) (X : Stand p l e R s m args below meth c T locs cells slots) (hZ : Z.Warmed39 s.vm) (eT : T.heap = h) {a : Addr} {n : Nat} {f : Nat → Int32} (A : AI Z h a .byte n f) {j x : Int32} (i : Nat) (hj : j.toInt = i) (hi : i < n) (hd : decode code pc = .ok (.bastore, 1)) (q : Nat) (hq : pc + 1 = q) {n0 : Nat} (N0 : Fr n0 locs) (ha : n0 ≤ a)
    (k : ∀ (T' : State) (h' : Heap) (locs' : List Loc), Stand p l e R s m args below meth c T' locs' cells slots → T'.heap = h' → Wr h h' a i (.int (nar .byte x)) → Fr n0 locs' → AI Z h' a .byte n (fun j => if j = i then (nar .byte x) else f j) → Ends p e below s Q K N (T'.setTop (mkF m q Ls rest))) : Ends p e below s Q K N (T.setTop (mkF m pc Ls (.int x :: .int j :: .ref a :: rest))) := by
  subst hq
  obtain ⟨cl, A', S, M, B⟩ := A
  obtain ⟨q1, q2⟩ := own_idx hj hi S
  obtain ⟨T', h', X', e', W, st⟩ := stB X C.1 hZ eT A' (j := j) (x := x) q1 (g := mkF m pc Ls (.int x :: .int j :: .ref a :: rest)) rfl rfl (hb C.2 hd)
  rw [q2] at W
  exact .step st (k T' h' _ X' e' W (Fr.snoc X' N0 ha) (AI.wr ⟨cl, A', S, M, B⟩ W hi))
theorem o_newarrayI (C : Cx p c code) (X : Stand p l e R s m args below meth c T locs cells slots) (hZ : Z.Warmed39 s.vm) (w : (Jvm.Cond.arrayClass .int).before a0 Z = true) (eT : T.heap = h) {z : Int32} (n : Nat) (hz : z.toInt = n) (cap : Nat) (hcap : n ≤ cap) (hb8 : cap * 8 ≤ 536870912) (hc : cells + 1 ≤ R.cells) (hl : slots + cap ≤ R.slots) (hd : decode code pc = .ok (.newarray .int, 2)) (q : Nat) (hq : pc + 2 = q)
    (k : ∀ (T' : State) (h' : Heap) (a : Addr), a = h.size → Stand p l e R s m args below meth c T' locs (cells + 1) (slots + cap) → T'.heap = h' → Ext h h' → AI Z h' a .int n (fun _ => 0) → Ends p e below s Q K N (T'.setTop (mkF m q Ls (.ref a :: rest)))) : Ends p e below s Q K N (T.setTop (mkF m pc Ls (.int z :: rest))) := by
  subst hq
  have hn : ¬ z < 0 := by rw [Int32.lt_iff_toInt_lt, hz, show (0 : Int32).toInt = 0 from rfl]; omega
  have e1 : z.toNatClampNeg = n := by rw [Int32.toNatClampNeg, hz]; rfl
  have hr := Int32.toInt_lt z
  obtain ⟨T', h', cA, X', e', E, A, st⟩ := newP X C.1 hZ (aty := .int) w eT (g := mkF m pc Ls (.int z :: rest)) rfl (hb C.2 hd) (n := z) (rest := rest) rfl hn (cap := cap) (by rw [e1]; exact hcap) hb8 hc hl
  refine .step st (k T' h' _ rfl X' e' E ⟨_, A, by rw [sz_new, e1], by omega, fun j hj => ?_⟩)
  simp only [newA, e1]
  rw [Array.getElem?_replicate, if_pos hj]; rfl
theorem o_newarrayB (C : Cx p c code) (X : Stand p l e R s m args below meth c T locs cells slots) (hZ : Z.Warmed39 s.vm) (w : (Jvm.Cond.arrayClass .byte).before a0 Z = true) (eT : T.heap = h) {z : Int32} (n : Nat) (hz : z.toInt = n) (cap : Nat) (hcap : n ≤ cap) (hb8 : cap * 8 ≤ 536870912) (hc : cells + 1 ≤ R.cells) (hl : slots + cap ≤ R.slots) (hd : decode code pc = .ok (.newarray .byte, 2)) (q : Nat) (hq : pc + 2 = q)
    (k : ∀ (T' : State) (h' : Heap) (a : Addr), a = h.size → Stand p l e R s m args below meth c T' locs (cells + 1) (slots + cap) → T'.heap = h' → Ext h h' → AI Z h' a .byte n (fun _ => 0) → Ends p e below s Q K N (T'.setTop (mkF m q Ls (.ref a :: rest)))) : Ends p e below s Q K N (T.setTop (mkF m pc Ls (.int z :: rest))) := by
  subst hq
  have hn : ¬ z < 0 := by rw [Int32.lt_iff_toInt_lt, hz, show (0 : Int32).toInt = 0 from rfl]; omega
  have e1 : z.toNatClampNeg = n := by rw [Int32.toNatClampNeg, hz]; rfl
  have hr := Int32.toInt_lt z
  obtain ⟨T', h', cA, X', e', E, A, st⟩ := newP X C.1 hZ (aty := .byte) w eT (g := mkF m pc Ls (.int z :: rest)) rfl (hb C.2 hd) (n := z) (rest := rest) rfl hn (cap := cap) (by rw [e1]; exact hcap) hb8 hc hl
  refine .step st (k T' h' _ rfl X' e' E ⟨_, A, by rw [sz_new, e1], by omega, fun j hj => ?_⟩)
  simp only [newA, e1]
  rw [Array.getElem?_replicate, if_pos hj]; rfl
end Own
section OwnStr
variable {p : Program} {l : Launch} {e : Env} {R : Room} {s : State} {m : MethodId} {args : Array Value} {below : List Frame} {meth : Method} {c : Code} {T : State} {locs : List Loc} {cells slots : Nat} {Z : State} {a0 : Array Value} {h : Heap} {Q : Option Value → Heap → List Loc → Prop} {K N pc : Nat} {Ls : Array Slot} {code : ByteArray} {rest : List Value} {s' : State} {QW : Option Value → Vm → Heap → List Loc → Prop} {EL : List (String × Nat)}
/-- as Ends, under the wide frame; QW speaks of the tables too -/
def EndsW (p : Program) (e : Env) (below : List Frame) (s : State) (Q : Option Value → Vm → Heap → List Loc → Prop) (K N : Nat) (T : State) : Prop :=
  ∃ s₂ o, Steps p.tables e below T s₂ ∧ s₂.status = .running ∧ Ended s₂ below o ∧ ∃ v L, o = .returned v ∧ Q v s₂.vm s₂.heap L ∧ ReturnedEndW s o s₂ L K N
theorem EndsW.step {T T' : State} (st : ∀ t, Steps p.tables e below T' t → Steps p.tables e below T t) (h : EndsW p e below s QW K N T') : EndsW p e below s QW K N T := by
  obtain ⟨s2, o, h1, h2⟩ := h
  exact ⟨s2, o, st _ h1, h2⟩
theorem EndsW.of {vm1 : Vm} {n : Nat} (hS : s.Since vm1 n) (hQ : ∀ v vm h L, (s.setVm vm1).WarmedH vm → Q v h L → n ≤ h.size ∧ QW v vm h L) (k : Ends p e below (s.setVm vm1) Q K N T) : EndsW p e below s QW K N T := by
  obtain ⟨s2, o, h1, h2, h3, v, L, rfl, hq, hr, hW, hs⟩ := k
  obtain ⟨q1, q2⟩ := hQ _ _ _ _ hW hq
  obtain ⟨a, b, c'⟩ := hS.ended (U := s2) hW q1 hs
  exact ⟨s2, _, h1, h2, h3, v, L, rfl, q2, hr, a, b, c'⟩
/-- the contract of a method that may load the constants of EL cold -/
def ConH (l : Launch) (Z : State) (EL : List (String × Nat)) (y : MethodName) (bytes : ByteArray) (maxL : Nat) (ret : Option FieldType) (rm : Room) (K N : Nat) (ws : List Jvm.Cond) (as' : Array Value) (h : Heap) (Q : Option Value → Vm → Heap → List Loc → Prop) : Prop :=
  MetFree l y (head1 (Jvm.Cond.code y bytes maxL ret :: ws) rm) (fun a U => a = as' ∧ Z.Warmed39 U.vm ∧ U.heap = h ∧ CHv Z EL U.vm h) (fun _ _ _ _ _ => True) (fun _ U o U' => ∃ v L, o = .returned v ∧ Q v U'.vm U'.heap L ∧ ReturnedEndW U o U' L K N)
theorem ConH.of {y : MethodName} {bytes : ByteArray} {maxL : Nat} {ret : Option FieldType} {rm : Room} {ws : List Jvm.Cond} {as' : Array Value} (hn : plainFor y = true)
    (body : ∀ (p : Program) (e : Env) (s : State) (m : MethodId) (below : List Frame) (meth : Method) (c : Code) (T : State), Cx p c bytes → Z.Warmed39 s.vm → CHv Z EL s.vm h → c.maxLocals = maxL → s.vm.findClass y.cls = some m.cls → meth.sig.returnType = ret → meth.locks = false →
      Stand p l e rm s m as' below meth c T [] 0 0 → T.heap = h → EndsW p e below s QW K N (T.setTop (entryFrame m as' maxL))) : ConH l Z EL y bytes maxL ret rm K N ws as' h QW := by
  refine MetFree.of_bodySF hn hisR ?_
  intro p e s m args below meth c s₁ Bd hml0 hP hK
  obtain ⟨rfl, hZ, hh, hc⟩ := hP
  exact body p e s m below meth c s₁ ⟨Bd.exec, Bd.bytes⟩ hZ hc hml0 (findClass_of_methodNamed Bd.named) Bd.returns Bd.notSynchronized (Stand.of_body Bd) (by rw [← hh, Bd.state]; rfl)
theorem w_iloadN (C : Cx p c code) (X : Stand p l e R s m args below meth c T locs cells slots) {i : Fin 4} {v : Int32} (hd : decode code pc = .ok (.iload_n i, 1)) (q : Nat) (hq : pc + 1 = q) (hl : Ls[i.val]? = some (.val (.int v))) (k : EndsW p e below s' QW K N (T.setTop (mkF m q Ls (.int v :: rest)))) : EndsW p e below s' QW K N (T.setTop (mkF m pc Ls rest)) := by
  subst hq
  exact .step (fun _ t => XS.iloadN X.here C.1 rfl (hb C.2 hd) hl t) k
theorem w_astoreN (C : Cx p c code) (X : Stand p l e R s m args below meth c T locs cells slots) {i : Fin 4} {x : Value} (hd : decode code pc = .ok (.astore_n i, 1)) (q : Nat) (hq : pc + 1 = q) (hv : x.isRef = true) (l' : Array Slot) (hl : storeLocals Ls i.val x = some l') (k : EndsW p e below s' QW K N (T.setTop (mkF m q l' rest))) : EndsW p e below s' QW K N (T.setTop (mkF m pc Ls (x :: rest))) := by
  subst hq
  exact .step (fun _ t => XS.astoreN X.here C.1 rfl (hb C.2 hd) rfl hv hl t) k
theorem w_callS (C : Cx p c code) (X : Stand p l e R s m args below meth c T locs cells slots) (hZ : Z.Warmed39 s.vm) (hml : c.maxLocals = Ls.size) {own : String} {index : Nat} {y : MethodName} {bytes : ByteArray} {maxL : Nat} {ret : Option FieldType} {rm : Room} {Qc : Option Value → Heap → List Loc → Prop} (hown : s.vm.findClass own = some m.cls)
    (w1 : (Jvm.Cond.methodLink own index y).before a0 Z = true) (w2 : (Jvm.Cond.static y).before a0 Z = true) (w3 : (Jvm.Cond.initialized y.cls).before a0 Z = true) (w4 : (Jvm.Cond.code y bytes maxL ret).before a0 Z = true) (hy : y.cls ≠ "java/lang/invoke/MethodHandle" ∧ y.cls ≠ "java/lang/invoke/VarHandle")
    {asL st : List Value} (hM : Con l Z y bytes maxL ret rm rm.cells rm.slots [] asL.toArray h Qc) (eT : T.heap = h) {ps : List FieldType} {rt : Option FieldType} (pd : parseMethodDescriptor y.desc = some ⟨ps, rt⟩) (hlen : asL.length = ps.length) (hst : st = asL.reverse ++ rest) (W : Nat) (hW : (rest.map fun v => v.category).sum ≤ W) (hf : rm.frames + 1 ≤ R.frames) (hl : W + (maxL + 11) + rm.locals ≤ R.locals) (hcl : cells + rm.cells ≤ R.cells) (hsl : slots + rm.slots ≤ R.slots)
    (hd : decode code pc = .ok (.invokestatic index, 3)) (q : Nat) (hq : pc + 3 = q) (k : ∀ (T' : State) (h' : Heap) (v : Option Value) (L : List Loc), Stand p l e R s m args below meth c T' (locs ++ L) (cells + rm.cells) (slots + rm.slots) → T'.heap = h' → Qc v h' L → EndsW p e below s' QW K N (T'.setTop (mkF m q Ls (v.toList ++ rest)))) : EndsW p e below s' QW K N (T.setTop (mkF m pc Ls st)) := by
  subst hq hst
  obtain ⟨v, _, ⟨T', L', k', n'⟩, -, X', ⟨Lc, hQ, rfl, rfl, rfl⟩, st⟩ := Jvm.LawKit.callS X C.1 (y := y) hown (mvT hZ w1) (mvT hZ w2) (mvT hZ w3) (mvT hZ w4) hy (backOf (W := W) hM hZ w4 w3 hf hl) (g := mkF m pc Ls (asL.reverse ++ rest)) rfl hml.symm (argsL := asL) (rest := rest) (lenOf pd hlen) rfl (by show 2 * 0 + _ ≤ _; omega) (hb C.2 hd) (fun _ _ => ⟨rfl, eT, hcl, hsl⟩)
  exact .step st (k T' _ v Lc X' rfl hQ)
theorem w_callP (C : Cx p c code) (X : Stand p l e R s m args below meth c T locs cells slots) (hZ : Z.Warmed39 s.vm) (hml : c.maxLocals = Ls.size) {own : String} {index : Nat} {y : MethodName} {bytes : ByteArray} {maxL : Nat} {ret : Option FieldType} {rf rl : Nat} {v0 : Value} (hown : s.vm.findClass own = some m.cls)
    (w1 : (Jvm.Cond.methodLink own index y).before a0 Z = true) (w2 : (Jvm.Cond.static y).before a0 Z = true) (w3 : (Jvm.Cond.initialized y.cls).before a0 Z = true) (w4 : (Jvm.Cond.code y bytes maxL ret).before a0 Z = true) (hy : y.cls ≠ "java/lang/invoke/MethodHandle" ∧ y.cls ≠ "java/lang/invoke/VarHandle")
    {asL st : List Value} (hM : Con l Z y bytes maxL ret { frames := rf, cells := 0, slots := 0, locals := rl } 0 0 [] asL.toArray h (PQ v0 h)) (eT : T.heap = h) {ps : List FieldType} {rt : Option FieldType} (pd : parseMethodDescriptor y.desc = some ⟨ps, rt⟩) (hlen : asL.length = ps.length) (hst : st = asL.reverse ++ rest) (W : Nat) (hW : (rest.map fun v => v.category).sum ≤ W) (hf : rf + 1 ≤ R.frames) (hl : W + (maxL + 11) + rl ≤ R.locals) (hcl : cells ≤ R.cells) (hsl : slots ≤ R.slots)
    (hd : decode code pc = .ok (.invokestatic index, 3)) (q : Nat) (hq : pc + 3 = q) (k : ∀ (T' : State), Stand p l e R s m args below meth c T' locs cells slots → T'.heap = h → EndsW p e below s' QW K N (T'.setTop (mkF m q Ls (v0 :: rest)))) : EndsW p e below s' QW K N (T.setTop (mkF m pc Ls st)) := by
  refine w_callS C X hZ hml hown w1 w2 w3 w4 hy (rm := { frames := rf, cells := 0, slots := 0, locals := rl }) hM eT pd hlen hst W hW hf hl hcl hsl hd q hq ?_
  intro T' h' v L X' e' hq
  obtain ⟨rfl, rfl, hh⟩ := hq
  rw [List.append_nil] at X'
  exact k T' X' (e'.trans hh)
theorem w_callCold (C : Cx p c code) (X : Stand p l e R s m args below meth c T locs cells slots) (hZ : Z.Warmed39 s.vm) (hml : c.maxLocals = Ls.size) {own : String} {index : Nat} {y : MethodName} {bytes : ByteArray} {maxL : Nat} {ret : Option FieldType} {rm : Room} {Qc : Option Value → Vm → Heap → List Loc → Prop} (hown : s.vm.findClass own = some m.cls)
    (w1 : (Jvm.Cond.methodLink own index y).before a0 Z = true) (w2 : (Jvm.Cond.static y).before a0 Z = true) (w3 : (Jvm.Cond.initialized y.cls).before a0 Z = true) (w4 : (Jvm.Cond.code y bytes maxL ret).before a0 Z = true) (hy : y.cls ≠ "java/lang/invoke/MethodHandle" ∧ y.cls ≠ "java/lang/invoke/VarHandle") (hEL : EW Z a0 EL) (H : CHv Z EL s.vm h)
    {asL st : List Value} (hM : ConH l Z EL y bytes maxL ret rm rm.cells rm.slots [] asL.toArray h Qc) (eT : T.heap = h) {ps : List FieldType} {rt : Option FieldType} (pd : parseMethodDescriptor y.desc = some ⟨ps, rt⟩) (hlen : asL.length = ps.length) (hst : st = asL.reverse ++ rest) (W : Nat) (hW : (rest.map fun v => v.category).sum ≤ W) (hf : rm.frames + 1 ≤ R.frames) (hl : W + (maxL + 11) + rm.locals ≤ R.locals) (hcl : cells + rm.cells ≤ R.cells) (hsl : slots + rm.slots ≤ R.slots)
    (hd : decode code pc = .ok (.invokestatic index, 3)) (q : Nat) (hq : pc + 3 = q)
    (k : ∀ (T' : State) (v : Option Value) (L : List Loc), Stand p l e R (s.setVm T'.vm) m args below meth c T' (locs ++ L) (cells + rm.cells) (slots + rm.slots) → s.Since T'.vm T'.heap.size → Qc v T'.vm T'.heap L → EndsW p e below s' QW K N (T'.setTop (mkF m q Ls (v.toList ++ rest)))) : EndsW p e below s' QW K N (T.setTop (mkF m pc Ls st)) := by
  subst hq hst
  have hB : BackS l R p e below s args y 3 W (fun A a => a = asL.toArray ∧ A.U.heap = h ∧ A.cells + rm.cells ≤ R.cells ∧ A.slots + rm.slots ≤ R.slots)
      (fun A _ v B => ∃ L, Qc v B.U.vm B.U.heap L ∧ B.locs = A.locs ++ L ∧ B.cells = A.cells + rm.cells ∧ B.slots = A.slots + rm.slots) := by
    refine BackS.of_freeW (bytes := bytes) (maxL := maxL) (ret := ret) (E := fun _ _ o t L k n => k = rm.cells ∧ n = rm.slots ∧ ∃ v, o = .returned v ∧ Qc v t.vm t.heap L) hM hf hl ?_ ?_ (fun _ _ _ _ _ _ _ _ _ => trivial) ?_ ?_
    · intro m meth c A a Y hp
      have hU : Z.Warmed39 A.U.vm := wtrans hZ Y.warmed
      exact ⟨by show (Jvm.Cond.and _ .tt).before a A.U = true; rw [Cond.before_and, mv hU w4]; rfl, mv hU w4, mv hU w3, hp.2.2.1, hp.2.2.2⟩
    · intro m meth c A a g mk Y hp
      exact ⟨hp.1, wtrans hZ Y.warmed, hp.2.1, (CHv.at (s := s) (vm0 := s.vm) Y hZ hEL H).1⟩
    · rintro _ _ _ _ ⟨v, L, h1, h2, h3⟩
      exact ⟨L, _, _, h3, rfl, rfl, v, h1, h2⟩
    · rintro m meth c A a g mk v t L k n Y hp _ _ ⟨e1, e2, v', e3, e4⟩
      cases e3; subst e1 e2
      exact ⟨L, e4, rfl, rfl, rfl⟩
  obtain ⟨v, _, ⟨T', L', k', n'⟩, -, X', hS, -, ⟨Lc, hQ, rfl, rfl, rfl⟩, st⟩ := callSS X C.1 (y := y) hown (mvT hZ w1) (mvT hZ w2) (mvT hZ w3) (mvT hZ w4) hy hB (g := mkF m pc Ls (asL.reverse ++ rest)) rfl hml.symm (argsL := asL) (rest := rest) (lenOf pd hlen) rfl (by show 2 * 0 + _ ≤ _; omega) (hb C.2 hd) (fun _ _ => ⟨rfl, eT, hcl, hsl⟩)
  exact .step (fun _ t => st.trans t) (k T' v Lc X' hS hQ)
theorem o_getS (C : Cx p c code) (X : Stand p l e R s m args below meth c T locs cells slots) (hZ : Z.Warmed39 s.vm) {own R0 n d : String} {index : Nat} (hown : s.vm.findClass own = some m.cls) (w : (Jvm.Cond.fieldLink own index R0 n d).before a0 Z = true) (eT : T.heap = h) {v : Value} (F : Sta Z h R0 n d v) (hd : decode code pc = .ok (.getstatic index, 3)) (q : Nat) (hq : pc + 3 = q)
    (k : ∀ (T' : State), Stand p l e R s m args below meth c T' locs cells slots → T'.heap = h → Ends p e below s Q K N (T'.setTop (mkF m q Ls (v :: rest)))) : Ends p e below s Q K N (T.setTop (mkF m pc Ls rest)) := by
  subst hq
  obtain ⟨T', X', e', st⟩ := getS2 X C.1 hZ hown (host := "") (Or.inl w) Via.refl eT F (g := mkF m pc Ls rest) rfl (hb C.2 hd)
  exact .step st (k T' X' e')
theorem o_ldcL (C : Cx p c code) (X : Stand p l e R s m args below meth c T locs cells slots) (hZ : Z.Warmed39 s.vm) {own text : String} {index : Nat} {a : Addr} (hown : s.vm.findClass own = some m.cls) (w : (Jvm.Cond.stringLink own index text).before a0 Z = true) (L : Lit s own index a) (hd : decode code pc = .ok (.ldc index, 2)) (q : Nat) (hq : pc + 2 = q) (k : Ends p e below s Q K N (T.setTop (mkF m q Ls (.ref a :: rest)))) : Ends p e below s Q K N (T.setTop (mkF m pc Ls rest)) := by
  subst hq
  exact .step (ldcAgain (s := s) (vm0 := s.vm) X C.1 hZ hown w L (g := mkF m pc Ls rest) rfl (hb C.2 hd)) k
theorem AI.of_arvB {a : Addr} {k : ClassId} {n : Nat} {f : Nat → Int32} {z : Int32} {vs : List Value} {d : Value} (A : Arv Z h a k .byte z vs d) (hz : z.toInt = n) (q : ∀ j, j < n → vs.getD j d = .int (f j)) : AI Z h a .byte n f := by
  obtain ⟨cl, A, -, S, M, H, -⟩ := A
  have e1 : z.toNatClampNeg = n := by rw [Int32.toNatClampNeg, hz]; rfl
  have hr := Int32.toInt_lt z
  exact ⟨cl, A, by rw [S, e1], by omega, fun j hj => by rw [H j (by rw [S, e1]; exact hj), q j hj]⟩
/-- a String of 16 signs below 256, its bytes by a function -/
def LS (Z : State) (h : Heap) (a b : Addr) (f : Nat → Int32) : Prop := Exa Z h a "java/lang/String" ∧ Fld Z h a "java/lang/String" "coder" "B" (.int 0) ∧ Fld Z h a "java/lang/String" "value" "[B" (.ref b) ∧ AI Z h b .byte 16 f
theorem LS.ext {h' : Heap} {a b : Addr} {f : Nat → Int32} (A : LS Z h a b f) (E : Ext h h') : LS Z h' a b f := ⟨A.1.ext E, A.2.1.ext E, A.2.2.1.ext E, A.2.2.2.ext E⟩
end OwnStr
theorem pd_0 : parseMethodDescriptor "(I)Z" = some ⟨[.int], some .boolean⟩ := by decide +kernel
theorem pd_1 : parseMethodDescriptor "(I)C" = some ⟨[.int], some .char⟩ := by decide +kernel
theorem pd_2 : parseMethodDescriptor "()Z" = some ⟨[], some .boolean⟩ := by decide +kernel
theorem pd_3 : parseMethodDescriptor "([BI)C" = some ⟨[(.array .byte), .int], some .char⟩ := by decide +kernel
theorem pd_4 : parseMethodDescriptor "(II)V" = some ⟨[.int, .int], none⟩ := by decide +kernel
theorem pd_5 : parseMethodDescriptor "(IILjava/util/function/BiFunction;)I" = some ⟨[.int, .int, (.object "java/util/function/BiFunction")], some .int⟩ := by decide +kernel
theorem d1_0 : decode prog_58_method_4_code 0 = .ok (.iload_n 0, 1) := by decide +kernel
theorem d1_1 : decode prog_58_method_4_code 1 = .ok (.bipush 48, 2) := by decide +kernel
theorem d1_3 : decode prog_58_method_4_code 3 = .ok (.if_icmp .lt 9, 3) := by decide +kernel
theorem d1_6 : decode prog_58_method_4_code 6 = .ok (.iload_n 0, 1) := by decide +kernel
theorem d1_7 : decode prog_58_method_4_code 7 = .ok (.bipush 57, 2) := by decide +kernel
theorem d1_9 : decode prog_58_method_4_code 9 = .ok (.if_icmp .le 27, 3) := by decide +kernel
theorem d1_12 : decode prog_58_method_4_code 12 = .ok (.iload_n 0, 1) := by decide +kernel
theorem d1_13 : decode prog_58_method_4_code 13 = .ok (.bipush 97, 2) := by decide +kernel
theorem d1_15 : decode prog_58_method_4_code 15 = .ok (.if_icmp .lt 9, 3) := by decide +kernel
theorem d1_18 : decode prog_58_method_4_code 18 = .ok (.iload_n 0, 1) := by decide +kernel
theorem d1_19 : decode prog_58_method_4_code 19 = .ok (.bipush 102, 2) := by decide +kernel
theorem d1_21 : decode prog_58_method_4_code 21 = .ok (.if_icmp .le 15, 3) := by decide +kernel
theorem d1_24 : decode prog_58_method_4_code 24 = .ok (.iload_n 0, 1) := by decide +kernel
theorem d1_25 : decode prog_58_method_4_code 25 = .ok (.bipush 65, 2) := by decide +kernel
theorem d1_27 : decode prog_58_method_4_code 27 = .ok (.if_icmp .lt 13, 3) := by decide +kernel
theorem d1_30 : decode prog_58_method_4_code 30 = .ok (.iload_n 0, 1) := by decide +kernel
theorem d1_31 : decode prog_58_method_4_code 31 = .ok (.bipush 70, 2) := by decide +kernel
theorem d1_33 : decode prog_58_method_4_code 33 = .ok (.if_icmp .gt 7, 3) := by decide +kernel
theorem d1_36 : decode prog_58_method_4_code 36 = .ok (.iconst 1, 1) := by decide +kernel
theorem d1_37 : decode prog_58_method_4_code 37 = .ok (.goto 4, 3) := by decide +kernel
theorem d1_40 : decode prog_58_method_4_code 40 = .ok (.iconst 0, 1) := by decide +kernel
theorem d1_41 : decode prog_58_method_4_code 41 = .ok (.ireturn, 1) := by decide +kernel
theorem pn_1 : plainFor (⟨"org/triplewright/rdf/TurtleEscape", "isHexDigit", "(I)Z"⟩ : MethodName) = true := by first | exact plainFor_of_name (by first | (simp [plainName, overriddenIn]; done) | decide +kernel) | decide +kernel
theorem ef_1 (m : MethodId) (u0 : Int32) : entryFrame m #[(.int u0)] 1 = (mkF m 0 #[.val (.int u0)] []) := by first | (simp [entryFrame, mkF, argsToLocals, Value.category]; done) | rfl
def FH (u0 : Int32) : Int32 := (if u0 < (48 : Int32) then (if u0 < (97 : Int32) then (if u0 < (65 : Int32) then (0 : Int32) else (if (70 : Int32) < u0 then (0 : Int32) else (1 : Int32))) else (if (102 : Int32) < u0 then (if u0 < (65 : Int32) then (0 : Int32) else (if (70 : Int32) < u0 then (0 : Int32) else (1 : Int32))) else (1 : Int32))) else (if (57 : Int32) < u0 then (if u0 < (97 : Int32) then (if u0 < (65 : Int32) then (0 : Int32) else (if (70 : Int32) < u0 then (0 : Int32) else (1 : Int32))) else (if (102 : Int32) < u0 then (if u0 < (65 : Int32) then (0 : Int32) else (if (70 : Int32) < u0 then (0 : Int32) else (1 : Int32))) else (1 : Int32))) else (1 : Int32)))
set_option maxRecDepth 65536 in
set_option maxHeartbeats 40000000 in
theorem rm1 (l : Launch) (Z : State) (a0 : Array Value) (hw : ∀ d ∈ tables_1, d.before a0 Z = true) (u0 : Int32) (h0 : Heap) : Con l Z (⟨"org/triplewright/rdf/TurtleEscape", "isHexDigit", "(I)Z"⟩ : MethodName) prog_58_method_4_code 1 (some .boolean) ({ frames := 0, cells := 0, slots := 0, locals := 0 } : Room) 0 0 [] #[(.int u0)] h0 (PQ (.int (FH u0)) h0) := by
  refine Con.of pn_1 ?_
  intro p e s m below meth c T C hZ hml hown hret hnm hlk X e0
  rw [ef_1]
  refine o_iloadN C X d1_0 1 rfl rfl ?_
  refine o_bipush C X d1_1 3 rfl (48 : Int32) (by decide) ?_
  by_cases q1 : u0 < (48 : Int32)
  · skip
    refine o_icmpY C X d1_3 12 (by decide) (by decide) (tlt q1).1 ?_
    refine o_iloadN C X d1_12 13 rfl rfl ?_
    refine o_bipush C X d1_13 15 rfl (97 : Int32) (by decide) ?_
    by_cases q2 : u0 < (97 : Int32)
    · skip
      refine o_icmpY C X d1_15 24 (by decide) (by decide) (tlt q2).1 ?_
      refine o_iloadN C X d1_24 25 rfl rfl ?_
      refine o_bipush C X d1_25 27 rfl (65 : Int32) (by decide) ?_
      by_cases q3 : u0 < (65 : Int32)
      · skip
        refine o_icmpY C X d1_27 40 (by decide) (by decide) (tlt q3).1 ?_
        refine o_iconst C X d1_40 41 rfl (0 : Int32) (by decide) ?_
        refine o_retN C X hret (by simp) hlk d1_41 ⟨congrArg some (congrArg _ (by rw [FH]; simp only [if_pos q1, if_pos q2, if_pos q3] <;> rfl)), rfl, e0⟩ (Nat.le_refl _) (Nat.le_refl _)
      · skip
        refine o_icmpN C X d1_27 30 rfl (flt q3).1 ?_
        refine o_iloadN C X d1_30 31 rfl rfl ?_
        refine o_bipush C X d1_31 33 rfl (70 : Int32) (by decide) ?_
        by_cases q4 : (70 : Int32) < u0
        · skip
          refine o_icmpY C X d1_33 40 (by decide) (by decide) (tlt q4).2.2.1 ?_
          refine o_iconst C X d1_40 41 rfl (0 : Int32) (by decide) ?_
          refine o_retN C X hret (by simp) hlk d1_41 ⟨congrArg some (congrArg _ (by rw [FH]; simp only [if_pos q1, if_pos q2, if_neg q3, if_pos q4] <;> rfl)), rfl, e0⟩ (Nat.le_refl _) (Nat.le_refl _)
        · skip
          refine o_icmpN C X d1_33 36 rfl (flt q4).2.2.1 ?_
          refine o_iconst C X d1_36 37 rfl (1 : Int32) (by decide) ?_
          refine o_goto C X d1_37 41 (by decide) (by decide) ?_
          refine o_retN C X hret (by simp) hlk d1_41 ⟨congrArg some (congrArg _ (by rw [FH]; simp only [if_pos q1, if_pos q2, if_neg q3, if_neg q4] <;> rfl)), rfl, e0⟩ (Nat.le_refl _) (Nat.le_refl _)
    · skip
      refine o_icmpN C X d1_15 18 rfl (flt q2).1 ?_
      refine o_iloadN C X d1_18 19 rfl rfl ?_
      refine o_bipush C X d1_19 21 rfl (102 : Int32) (by decide) ?_
      by_cases q5 : (102 : Int32) < u0
      · skip
        refine o_icmpN C X d1_21 24 rfl (tlt q5).2.2.2 ?_
        refine o_iloadN C X d1_24 25 rfl rfl ?_
        refine o_bipush C X d1_25 27 rfl (65 : Int32) (by decide) ?_
        by_cases q6 : u0 < (65 : Int32)
        · skip
          refine o_icmpY C X d1_27 40 (by decide) (by decide) (tlt q6).1 ?_
          refine o_iconst C X d1_40 41 rfl (0 : Int32) (by decide) ?_
          refine o_retN C X hret (by simp) hlk d1_41 ⟨congrArg some (congrArg _ (by rw [FH]; simp only [if_pos q1, if_neg q2, if_pos q5, if_pos q6] <;> rfl)), rfl, e0⟩ (Nat.le_refl _) (Nat.le_refl _)
        · skip
          refine o_icmpN C X d1_27 30 rfl (flt q6).1 ?_
          refine o_iloadN C X d1_30 31 rfl rfl ?_
          refine o_bipush C X d1_31 33 rfl (70 : Int32) (by decide) ?_
          by_cases q7 : (70 : Int32) < u0
          · skip
            refine o_icmpY C X d1_33 40 (by decide) (by decide) (tlt q7).2.2.1 ?_
            refine o_iconst C X d1_40 41 rfl (0 : Int32) (by decide) ?_
            refine o_retN C X hret (by simp) hlk d1_41 ⟨congrArg some (congrArg _ (by rw [FH]; simp only [if_pos q1, if_neg q2, if_pos q5, if_neg q6, if_pos q7] <;> rfl)), rfl, e0⟩ (Nat.le_refl _) (Nat.le_refl _)
          · skip
            refine o_icmpN C X d1_33 36 rfl (flt q7).2.2.1 ?_
            refine o_iconst C X d1_36 37 rfl (1 : Int32) (by decide) ?_
            refine o_goto C X d1_37 41 (by decide) (by decide) ?_
            refine o_retN C X hret (by simp) hlk d1_41 ⟨congrArg some (congrArg _ (by rw [FH]; simp only [if_pos q1, if_neg q2, if_pos q5, if_neg q6, if_neg q7] <;> rfl)), rfl, e0⟩ (Nat.le_refl _) (Nat.le_refl _)
      · skip
        refine o_icmpY C X d1_21 36 (by decide) (by decide) (flt q5).2.2.2 ?_
        refine o_iconst C X d1_36 37 rfl (1 : Int32) (by decide) ?_
        refine o_goto C X d1_37 41 (by decide) (by decide) ?_
        refine o_retN C X hret (by simp) hlk d1_41 ⟨congrArg some (congrArg _ (by rw [FH]; simp only [if_pos q1, if_neg q2, if_neg q5] <;> rfl)), rfl, e0⟩ (Nat.le_refl _) (Nat.le_refl _)
  · skip
    refine o_icmpN C X d1_3 6 rfl (flt q1).1 ?_
    refine o_iloadN C X d1_6 7 rfl rfl ?_
    refine o_bipush C X d1_7 9 rfl (57 : Int32) (by decide) ?_
    by_cases q8 : (57 : Int32) < u0
    · skip
      refine o_icmpN C X d1_9 12 rfl (tlt q8).2.2.2 ?_
      refine o_iloadN C X d1_12 13 rfl rfl ?_
      refine o_bipush C X d1_13 15 rfl (97 : Int32) (by decide) ?_
      by_cases q9 : u0 < (97 : Int32)
      · skip
        refine o_icmpY C X d1_15 24 (by decide) (by decide) (tlt q9).1 ?_
        refine o_iloadN C X d1_24 25 rfl rfl ?_
        refine o_bipush C X d1_25 27 rfl (65 : Int32) (by decide) ?_
        by_cases q10 : u0 < (65 : Int32)
        · skip
          refine o_icmpY C X d1_27 40 (by decide) (by decide) (tlt q10).1 ?_
          refine o_iconst C X d1_40 41 rfl (0 : Int32) (by decide) ?_
          refine o_retN C X hret (by simp) hlk d1_41 ⟨congrArg some (congrArg _ (by rw [FH]; simp only [if_neg q1, if_pos q8, if_pos q9, if_pos q10] <;> rfl)), rfl, e0⟩ (Nat.le_refl _) (Nat.le_refl _)
        · skip
          refine o_icmpN C X d1_27 30 rfl (flt q10).1 ?_
          refine o_iloadN C X d1_30 31 rfl rfl ?_
          refine o_bipush C X d1_31 33 rfl (70 : Int32) (by decide) ?_
          by_cases q11 : (70 : Int32) < u0
          · skip
            refine o_icmpY C X d1_33 40 (by decide) (by decide) (tlt q11).2.2.1 ?_
            refine o_iconst C X d1_40 41 rfl (0 : Int32) (by decide) ?_
            refine o_retN C X hret (by simp) hlk d1_41 ⟨congrArg some (congrArg _ (by rw [FH]; simp only [if_neg q1, if_pos q8, if_pos q9, if_neg q10, if_pos q11] <;> rfl)), rfl, e0⟩ (Nat.le_refl _) (Nat.le_refl _)
          · skip
            refine o_icmpN C X d1_33 36 rfl (flt q11).2.2.1 ?_
            refine o_iconst C X d1_36 37 rfl (1 : Int32) (by decide) ?_
            refine o_goto C X d1_37 41 (by decide) (by decide) ?_
            refine o_retN C X hret (by simp) hlk d1_41 ⟨congrArg some (congrArg _ (by rw [FH]; simp only [if_neg q1, if_pos q8, if_pos q9, if_neg q10, if_neg q11] <;> rfl)), rfl, e0⟩ (Nat.le_refl _) (Nat.le_refl _)
      · skip
        refine o_icmpN C X d1_15 18 rfl (flt q9).1 ?_
        refine o_iloadN C X d1_18 19 rfl rfl ?_
        refine o_bipush C X d1_19 21 rfl (102 : Int32) (by decide) ?_
        by_cases q12 : (102 : Int32) < u0
        · skip
          refine o_icmpN C X d1_21 24 rfl (tlt q12).2.2.2 ?_
          refine o_iloadN C X d1_24 25 rfl rfl ?_
          refine o_bipush C X d1_25 27 rfl (65 : Int32) (by decide) ?_
          by_cases q13 : u0 < (65 : Int32)
          · skip
            refine o_icmpY C X d1_27 40 (by decide) (by decide) (tlt q13).1 ?_
            refine o_iconst C X d1_40 41 rfl (0 : Int32) (by decide) ?_
            refine o_retN C X hret (by simp) hlk d1_41 ⟨congrArg some (congrArg _ (by rw [FH]; simp only [if_neg q1, if_pos q8, if_neg q9, if_pos q12, if_pos q13] <;> rfl)), rfl, e0⟩ (Nat.le_refl _) (Nat.le_refl _)
          · skip
            refine o_icmpN C X d1_27 30 rfl (flt q13).1 ?_
            refine o_iloadN C X d1_30 31 rfl rfl ?_
            refine o_bipush C X d1_31 33 rfl (70 : Int32) (by decide) ?_
            by_cases q14 : (70 : Int32) < u0
            · skip
              refine o_icmpY C X d1_33 40 (by decide) (by decide) (tlt q14).2.2.1 ?_
              refine o_iconst C X d1_40 41 rfl (0 : Int32) (by decide) ?_
              refine o_retN C X hret (by simp) hlk d1_41 ⟨congrArg some (congrArg _ (by rw [FH]; simp only [if_neg q1, if_pos q8, if_neg q9, if_pos q12, if_neg q13, if_pos q14] <;> rfl)), rfl, e0⟩ (Nat.le_refl _) (Nat.le_refl _)
            · skip
              refine o_icmpN C X d1_33 36 rfl (flt q14).2.2.1 ?_
              refine o_iconst C X d1_36 37 rfl (1 : Int32) (by decide) ?_
              refine o_goto C X d1_37 41 (by decide) (by decide) ?_
              refine o_retN C X hret (by simp) hlk d1_41 ⟨congrArg some (congrArg _ (by rw [FH]; simp only [if_neg q1, if_pos q8, if_neg q9, if_pos q12, if_neg q13, if_neg q14] <;> rfl)), rfl, e0⟩ (Nat.le_refl _) (Nat.le_refl _)
        · skip
          refine o_icmpY C X d1_21 36 (by decide) (by decide) (flt q12).2.2.2 ?_
          refine o_iconst C X d1_36 37 rfl (1 : Int32) (by decide) ?_
          refine o_goto C X d1_37 41 (by decide) (by decide) ?_
          refine o_retN C X hret (by simp) hlk d1_41 ⟨congrArg some (congrArg _ (by rw [FH]; simp only [if_neg q1, if_pos q8, if_neg q9, if_neg q12] <;> rfl)), rfl, e0⟩ (Nat.le_refl _) (Nat.le_refl _)
    · skip
      refine o_icmpY C X d1_9 36 (by decide) (by decide) (flt q8).2.2.2 ?_
      refine o_iconst C X d1_36 37 rfl (1 : Int32) (by decide) ?_
      refine o_goto C X d1_37 41 (by decide) (by decide) ?_
      refine o_retN C X hret (by simp) hlk d1_41 ⟨congrArg some (congrArg _ (by rw [FH]; simp only [if_neg q1, if_neg q8] <;> rfl)), rfl, e0⟩ (Nat.le_refl _) (Nat.le_refl _)
theorem d7_0 : decode jdk_41_method_11_code 0 = .ok (.iload_n 0, 1) := by decide +kernel
theorem d7_1 : decode jdk_41_method_11_code 1 = .ok (.ifCond .lt 8, 3) := by decide +kernel
theorem d7_4 : decode jdk_41_method_11_code 4 = .ok (.iload_n 0, 1) := by decide +kernel
theorem d7_5 : decode jdk_41_method_11_code 5 = .ok (.iload_n 1, 1) := by decide +kernel
theorem d7_6 : decode jdk_41_method_11_code 6 = .ok (.if_icmp .lt 10, 3) := by decide +kernel
theorem d7_9 : decode jdk_41_method_11_code 9 = .ok (.aload_n 2, 1) := by decide +kernel
theorem d7_10 : decode jdk_41_method_11_code 10 = .ok (.iload_n 0, 1) := by decide +kernel
theorem d7_11 : decode jdk_41_method_11_code 11 = .ok (.iload_n 1, 1) := by decide +kernel
theorem d7_12 : decode jdk_41_method_11_code 12 = .ok (.invokestatic 95, 3) := by decide +kernel
theorem d7_15 : decode jdk_41_method_11_code 15 = .ok (.athrow, 1) := by decide +kernel
theorem d7_16 : decode jdk_41_method_11_code 16 = .ok (.iload_n 0, 1) := by decide +kernel
theorem d7_17 : decode jdk_41_method_11_code 17 = .ok (.ireturn, 1) := by decide +kernel
theorem pn_7 : plainFor (⟨"jdk/internal/util/Preconditions", "checkIndex", "(IILjava/util/function/BiFunction;)I"⟩ : MethodName) = true := by first | exact plainFor_of_name (by first | (simp [plainName, overriddenIn]; done) | decide +kernel) | decide +kernel
theorem ef_7 (m : MethodId) (u0 u1 : Int32) (v : Value) (hv : v.isRef = true) : entryFrame m #[.int u0, .int u1, v] 3 = (mkF m 0 #[.val (.int u0), .val (.int u1), .val v] []) := by
  cases v <;> first | rfl | (simp [entryFrame, mkF, argsToLocals, Value.category]; done) | (simp [Value.isRef] at hv)
set_option maxRecDepth 65536 in
set_option maxHeartbeats 40000000 in
theorem rm7 (l : Launch) (Z : State) (a0 : Array Value) (hw : ∀ d ∈ tables_1, d.before a0 Z = true) (u0 u1 : Int32) (v : Value) (h0 : Heap) (hv : v.isRef = true) (q0 : ¬ u0 < 0) (q1 : u0 < u1) : Con l Z (⟨"jdk/internal/util/Preconditions", "checkIndex", "(IILjava/util/function/BiFunction;)I"⟩ : MethodName) jdk_41_method_11_code 3 (some .int) ({ frames := 0, cells := 0, slots := 0, locals := 0 } : Room) 0 0 [] #[(.int u0), (.int u1), v] h0 (PQ (.int u0) h0) := by
  refine Con.of pn_7 ?_
  intro p e s m below meth c T C hZ hml hown hret hnm hlk X e0
  rw [ef_7 m u0 u1 v hv]
  refine o_iloadN C X d7_0 1 rfl rfl ?_
  refine o_ifN C X d7_1 4 rfl ((if0 _ _).trans (flt q0).1) ?_
  refine o_iloadN C X d7_4 5 rfl rfl ?_
  refine o_iloadN C X d7_5 6 rfl rfl ?_
  refine o_icmpY C X d7_6 16 (by decide) (by decide) (tlt q1).1 ?_
  refine o_iloadN C X d7_16 17 rfl rfl ?_
  exact o_retI C X hret hlk d7_17 ⟨rfl, rfl, e0⟩ (Nat.le_refl _) (Nat.le_refl _)
theorem d6_0 : decode jdk_42_method_155_code 0 = .ok (.iload_n 0, 1) := by decide +kernel
theorem d6_1 : decode jdk_42_method_155_code 1 = .ok (.iload_n 1, 1) := by decide +kernel
theorem d6_2 : decode jdk_42_method_155_code 2 = .ok (.getstatic 1053, 3) := by decide +kernel
theorem d6_5 : decode jdk_42_method_155_code 5 = .ok (.invokestatic 1059, 3) := by decide +kernel
theorem d6_8 : decode jdk_42_method_155_code 8 = .ok (.pop, 1) := by decide +kernel
theorem d6_9 : decode jdk_42_method_155_code 9 = .ok (.return_, 1) := by decide +kernel
theorem pn_6 : plainFor (⟨"java/lang/String", "checkIndex", "(II)V"⟩ : MethodName) = true := by first | exact plainFor_of_name (by first | (simp [plainName, overriddenIn]; done) | decide +kernel) | decide +kernel
theorem ef_6 (m : MethodId) (u0 : Int32) (u1 : Int32) : entryFrame m #[(.int u0), (.int u1)] 2 = (mkF m 0 #[.val (.int u0), .val (.int u1)] []) := by first | (simp [entryFrame, mkF, argsToLocals, Value.category]; done) | rfl
set_option maxRecDepth 65536 in
set_option maxHeartbeats 40000000 in
theorem rm6 (l : Launch) (Z : State) (a0 : Array Value) (hw : ∀ d ∈ tables_1, d.before a0 Z = true) (u0 u1 : Int32) (fm : Value) (h0 : Heap) (hv : fm.isRef = true) (hF : Sta Z h0 "jdk/internal/util/Preconditions" "SIOOBE_FORMATTER" "Ljava/util/function/BiFunction;" fm) (q0 : ¬ u0 < 0) (q1 : u0 < u1) : Con l Z (⟨"java/lang/String", "checkIndex", "(II)V"⟩ : MethodName) jdk_42_method_155_code 2 none ({ frames := 1, cells := 0, slots := 0, locals := 14 } : Room) 0 0 [] #[(.int u0), (.int u1)] h0 (fun v h L => v = none ∧ L = [] ∧ h = h0) := by
  refine Con.of pn_6 ?_
  intro p e s m below meth c T C hZ hml hown hret hnm hlk X e0
  rw [ef_6]
  refine o_iloadN C X d6_0 1 rfl rfl ?_
  refine o_iloadN C X d6_1 2 rfl rfl ?_
  refine o_getS C X hZ hown (hw _ (List.mem_of_getElem? (i := 37) rfl)) e0 hF d6_2 5 rfl ?_
  intro T X e0
  refine o_callP C X hZ (by rw [hml]; rfl) (own := "java/lang/String") (y := (⟨"jdk/internal/util/Preconditions", "checkIndex", "(IILjava/util/function/BiFunction;)I"⟩ : MethodName)) (rf := 0) (rl := 0) hown (hw _ (List.mem_of_getElem? (i := 39) rfl)) (hw _ (List.mem_of_getElem? (i := 40) rfl)) (hw _ (List.mem_of_getElem? (i := 38) rfl)) (hw _ (List.mem_of_getElem? (i := 41) rfl)) (by decide) (asL := [(.int u0), (.int u1), fm]) (rm7 l Z a0 hw u0 u1 fm h0 hv q0 q1) e0 pd_5 rfl rfl 0 (Nat.le_of_eq rfl) (by decide) (by decide) (by decide) (by decide) d6_5 8 rfl ?_
  intro T X e0
  refine o_pop C X d6_8 9 rfl rfl ?_
  exact o_ret C X hret hlk d6_9 ⟨rfl, rfl, e0⟩ (Nat.le_refl _) (Nat.le_refl _)
/-- what charAt of a byte says -/
def CH (x : Int32) : Int32 := nar .char ((x &&& (255 : Int32)).toUInt32.toUInt16.toUInt32.toInt32)
theorem d5_0 : decode jdk_43_method_2_code 0 = .ok (.iload_n 1, 1) := by decide +kernel
theorem d5_1 : decode jdk_43_method_2_code 1 = .ok (.aload_n 0, 1) := by decide +kernel
theorem d5_2 : decode jdk_43_method_2_code 2 = .ok (.arraylength, 1) := by decide +kernel
theorem d5_3 : decode jdk_43_method_2_code 3 = .ok (.invokestatic 9, 3) := by decide +kernel
theorem d5_6 : decode jdk_43_method_2_code 6 = .ok (.aload_n 0, 1) := by decide +kernel
theorem d5_7 : decode jdk_43_method_2_code 7 = .ok (.iload_n 1, 1) := by decide +kernel
theorem d5_8 : decode jdk_43_method_2_code 8 = .ok (.baload, 1) := by decide +kernel
theorem d5_9 : decode jdk_43_method_2_code 9 = .ok (.sipush 255, 3) := by decide +kernel
theorem d5_12 : decode jdk_43_method_2_code 12 = .ok (.iand, 1) := by decide +kernel
theorem d5_13 : decode jdk_43_method_2_code 13 = .ok (.i2c, 1) := by decide +kernel
theorem d5_14 : decode jdk_43_method_2_code 14 = .ok (.ireturn, 1) := by decide +kernel
theorem pn_5 : plainFor (⟨"java/lang/StringLatin1", "charAt", "([BI)C"⟩ : MethodName) = true := by first | exact plainFor_of_name (by first | (simp [plainName, overriddenIn]; done) | decide +kernel) | decide +kernel
theorem ef_5 (m : MethodId) (b : Addr) (u1 : Int32) : entryFrame m #[(.ref b), (.int u1)] 2 = (mkF m 0 #[.val (.ref b), .val (.int u1)] []) := by first | (simp [entryFrame, mkF, argsToLocals, Value.category]; done) | rfl
set_option maxRecDepth 65536 in
set_option maxHeartbeats 40000000 in
theorem rm5 (l : Launch) (Z : State) (a0 : Array Value) (hw : ∀ d ∈ tables_1, d.before a0 Z = true) (b : Addr) (u1 : Int32) (h0 : Heap) (fm : Value) (hv : fm.isRef = true) (hF : Sta Z h0 "jdk/internal/util/Preconditions" "SIOOBE_FORMATTER" "Ljava/util/function/BiFunction;" fm) (f : Nat → Int32) (k : Nat) (hj : u1.toInt = (k : Int)) (hi : k < 16) (A : AI Z h0 b .byte 16 f) : Con l Z (⟨"java/lang/StringLatin1", "charAt", "([BI)C"⟩ : MethodName) jdk_43_method_2_code 2 (some .char) ({ frames := 2, cells := 0, slots := 0, locals := 27 } : Room) 0 0 [] #[(.ref b), (.int u1)] h0 (PQ (.int (CH (f k))) h0) := by
  refine Con.of pn_5 ?_
  intro p e s m below meth c T C hZ hml hown hret hnm hlk X e0
  rw [ef_5]
  have g0 : ¬ u1 < 0 := by rw [Int32.lt_iff_toInt_lt, hj, show (0 : Int32).toInt = 0 from rfl]; omega
  have g1 : u1 < 16 := by rw [Int32.lt_iff_toInt_lt, hj, show (16 : Int32).toInt = 16 from rfl]; omega
  refine o_iloadN C X d5_0 1 rfl rfl ?_
  refine o_aloadN C X d5_1 2 rfl rfl rfl ?_
  refine o_arraylength C X hZ e0 A (16 : Int32) rfl d5_2 3 rfl ?_
  refine o_callS C X hZ (by rw [hml]; rfl) (own := "java/lang/StringLatin1") (y := (⟨"java/lang/String", "checkIndex", "(II)V"⟩ : MethodName)) hown (hw _ (List.mem_of_getElem? (i := 34) rfl)) (hw _ (List.mem_of_getElem? (i := 35) rfl)) (hw _ (List.mem_of_getElem? (i := 9) rfl)) (hw _ (List.mem_of_getElem? (i := 36) rfl)) (by decide) (asL := [(.int u1), (.int (16 : Int32))]) (rm6 l Z a0 hw u1 16 fm h0 hv hF g0 g1) e0 pd_4 rfl rfl 0 (Nat.le_of_eq rfl) (by decide) (by decide) (by decide) (by decide) d5_3 6 rfl ?_
  rintro T h_1 _ L_1 X e_1 ⟨rfl, rfl, rfl⟩
  rw [List.append_nil] at X
  refine o_aloadN C X d5_6 7 rfl rfl rfl ?_
  refine o_iloadN C X d5_7 8 rfl rfl ?_
  refine o_baload C X hZ e_1 A (k) hj hi d5_8 9 rfl ?_
  refine o_sipush C X d5_9 12 rfl (255 : Int32) (by decide) ?_
  refine o_iand C X d5_12 13 rfl ?_
  refine o_i2c C X d5_13 14 rfl ?_
  exact o_retN C X hret (by simp) hlk d5_14 ⟨rfl, rfl, e_1⟩ (Nat.le_refl _) (Nat.le_refl _)
theorem d4_0 : decode jdk_42_method_154_code 0 = .ok (.getstatic 38, 3) := by decide +kernel
theorem d4_3 : decode jdk_42_method_154_code 3 = .ok (.ifCond .eq 14, 3) := by decide +kernel
theorem d4_6 : decode jdk_42_method_154_code 6 = .ok (.aload_n 0, 1) := by decide +kernel
theorem d4_7 : decode jdk_42_method_154_code 7 = .ok (.getfield 15, 3) := by decide +kernel
theorem d4_10 : decode jdk_42_method_154_code 10 = .ok (.ifCond .ne 7, 3) := by decide +kernel
theorem d4_13 : decode jdk_42_method_154_code 13 = .ok (.iconst 1, 1) := by decide +kernel
theorem d4_14 : decode jdk_42_method_154_code 14 = .ok (.goto 4, 3) := by decide +kernel
theorem d4_17 : decode jdk_42_method_154_code 17 = .ok (.iconst 0, 1) := by decide +kernel
theorem d4_18 : decode jdk_42_method_154_code 18 = .ok (.ireturn, 1) := by decide +kernel
theorem pn_4 : plainFor (⟨"java/lang/String", "isLatin1", "()Z"⟩ : MethodName) = true := by first | exact plainFor_of_name (by first | (simp [plainName, overriddenIn]; done) | decide +kernel) | decide +kernel
theorem ef_4 (m : MethodId) (a : Addr) : entryFrame m #[(.ref a)] 1 = (mkF m 0 #[.val (.ref a)] []) := by first | (simp [entryFrame, mkF, argsToLocals, Value.category]; done) | rfl
set_option maxRecDepth 65536 in
set_option maxHeartbeats 40000000 in
theorem rm4 (l : Launch) (Z : State) (a0 : Array Value) (hw : ∀ d ∈ tables_1, d.before a0 Z = true) (a : Addr) (cs : Int32) (h0 : Heap) (hc : Sta Z h0 "java/lang/String" "COMPACT_STRINGS" "Z" (.int cs)) (hc0 : ¬ cs = 0) (F : Fld Z h0 a "java/lang/String" "coder" "B" (.int 0)) : Con l Z (⟨"java/lang/String", "isLatin1", "()Z"⟩ : MethodName) jdk_42_method_154_code 1 (some .boolean) ({ frames := 0, cells := 0, slots := 0, locals := 0 } : Room) 0 0 [] #[(.ref a)] h0 (PQ (.int 1) h0) := by
  refine Con.of pn_4 ?_
  intro p e s m below meth c T C hZ hml hown hret hnm hlk X e0
  rw [ef_4]
  refine o_getS C X hZ hown (hw _ (List.mem_of_getElem? (i := 27) rfl)) e0 hc d4_0 3 rfl ?_
  intro T X e0
  refine o_ifN C X d4_3 6 rfl ((if0 _ _).trans (feq hc0).1) ?_
  refine o_aloadN C X d4_6 7 rfl rfl rfl ?_
  refine o_getF C X hZ hown (hw _ (List.mem_of_getElem? (i := 28) rfl)) Via.refl e0 F d4_7 10 rfl ?_
  intro T X e0
  refine o_ifN C X d4_10 13 rfl ((if0 _ _).trans (teq (rfl : (0 : Int32) = 0)).2) ?_
  refine o_iconst C X d4_13 14 rfl (1 : Int32) (by decide) ?_
  refine o_goto C X d4_14 18 (by decide) (by decide) ?_
  exact o_retN C X hret (by simp) hlk d4_18 ⟨rfl, rfl, e0⟩ (Nat.le_refl _) (Nat.le_refl _)
theorem d3_0 : decode jdk_42_method_56_code 0 = .ok (.aload_n 0, 1) := by decide +kernel
theorem d3_1 : decode jdk_42_method_56_code 1 = .ok (.invokevirtual 492, 3) := by decide +kernel
theorem d3_4 : decode jdk_42_method_56_code 4 = .ok (.ifCond .eq 12, 3) := by decide +kernel
theorem d3_7 : decode jdk_42_method_56_code 7 = .ok (.aload_n 0, 1) := by decide +kernel
theorem d3_8 : decode jdk_42_method_56_code 8 = .ok (.getfield 9, 3) := by decide +kernel
theorem d3_11 : decode jdk_42_method_56_code 11 = .ok (.iload_n 1, 1) := by decide +kernel
theorem d3_12 : decode jdk_42_method_56_code 12 = .ok (.invokestatic 495, 3) := by decide +kernel
theorem d3_15 : decode jdk_42_method_56_code 15 = .ok (.ireturn, 1) := by decide +kernel
theorem d3_16 : decode jdk_42_method_56_code 16 = .ok (.aload_n 0, 1) := by decide +kernel
theorem d3_17 : decode jdk_42_method_56_code 17 = .ok (.getfield 9, 3) := by decide +kernel
theorem d3_20 : decode jdk_42_method_56_code 20 = .ok (.iload_n 1, 1) := by decide +kernel
theorem d3_21 : decode jdk_42_method_56_code 21 = .ok (.invokestatic 498, 3) := by decide +kernel
theorem d3_24 : decode jdk_42_method_56_code 24 = .ok (.ireturn, 1) := by decide +kernel
theorem pn_3 : plainFor (⟨"java/lang/String", "charAt", "(I)C"⟩ : MethodName) = true := by first | exact plainFor_of_name (by first | (simp [plainName, overriddenIn]; done) | decide +kernel) | decide +kernel
theorem ef_3 (m : MethodId) (a : Addr) (u1 : Int32) : entryFrame m #[(.ref a), (.int u1)] 2 = (mkF m 0 #[.val (.ref a), .val (.int u1)] []) := by first | (simp [entryFrame, mkF, argsToLocals, Value.category]; done) | rfl
set_option maxRecDepth 65536 in
set_option maxHeartbeats 40000000 in
theorem rm3 (l : Launch) (Z : State) (a0 : Array Value) (hw : ∀ d ∈ tables_1, d.before a0 Z = true) (a b : Addr) (u1 : Int32) (cs : Int32) (h0 : Heap) (hc : Sta Z h0 "java/lang/String" "COMPACT_STRINGS" "Z" (.int cs)) (hc0 : ¬ cs = 0) (fm : Value) (hv : fm.isRef = true) (hF : Sta Z h0 "jdk/internal/util/Preconditions" "SIOOBE_FORMATTER" "Ljava/util/function/BiFunction;" fm) (f : Nat → Int32) (k : Nat) (hj : u1.toInt = (k : Int)) (hi : k < 16) (A : LS Z h0 a b f) : Con l Z (⟨"java/lang/String", "charAt", "(I)C"⟩ : MethodName) jdk_42_method_56_code 2 (some .char) ({ frames := 3, cells := 0, slots := 0, locals := 40 } : Room) 0 0 [] #[(.ref a), (.int u1)] h0 (PQ (.int (nar .char (CH (f k)))) h0) := by
  refine Con.of pn_3 ?_
  intro p e s m below meth c T C hZ hml hown hret hnm hlk X e0
  rw [ef_3]
  refine o_aloadN C X d3_0 1 rfl rfl rfl ?_
  refine o_callVP C X hZ (by rw [hml]; rfl) (own := "java/lang/String") (y := (⟨"java/lang/String", "isLatin1", "()Z"⟩ : MethodName)) (rf := 0) (rl := 0) hown (hw _ (List.mem_of_getElem? (i := 22) rfl)) (hw _ (List.mem_of_getElem? (i := 23) rfl)) (hw _ (List.mem_of_getElem? (i := 25) rfl)) (hw _ (List.mem_of_getElem? (i := 24) rfl)) (hw _ (List.mem_of_getElem? (i := 9) rfl)) (hw _ (List.mem_of_getElem? (i := 26) rfl)) (by decide) (asL := []) (a := a) (rm4 l Z a0 hw a cs h0 hc hc0 A.2.1) e0 A.1 pd_2 rfl rfl 0 (Nat.le_of_eq rfl) (by decide) (by decide) (by decide) (by decide) d3_1 4 rfl ?_
  intro T X e0
  refine o_ifN C X d3_4 7 rfl ((if0 _ _).trans (feq (by decide : ¬ ((1 : Int32) = 0))).1) ?_
  refine o_aloadN C X d3_7 8 rfl rfl rfl ?_
  refine o_getF C X hZ hown (hw _ (List.mem_of_getElem? (i := 29) rfl)) Via.refl e0 A.2.2.1 d3_8 11 rfl ?_
  intro T X e0
  refine o_iloadN C X d3_11 12 rfl rfl ?_
  refine o_callP C X hZ (by rw [hml]; rfl) (own := "java/lang/String") (y := (⟨"java/lang/StringLatin1", "charAt", "([BI)C"⟩ : MethodName)) (rf := 2) (rl := 27) hown (hw _ (List.mem_of_getElem? (i := 30) rfl)) (hw _ (List.mem_of_getElem? (i := 31) rfl)) (hw _ (List.mem_of_getElem? (i := 32) rfl)) (hw _ (List.mem_of_getElem? (i := 33) rfl)) (by decide) (asL := [(.ref b), (.int u1)]) (rm5 l Z a0 hw b u1 h0 fm hv hF f k hj hi A.2.2.2) e0 pd_3 rfl rfl 0 (Nat.le_of_eq rfl) (by decide) (by decide) (by decide) (by decide) d3_12 15 rfl ?_
  intro T X e0
  exact o_retN C X hret (by simp) hlk d3_15 ⟨rfl, rfl, e0⟩ (Nat.le_refl _) (Nat.le_refl _)
def f7 (j : Nat) : Int32 := ([48, 49, 50, 51, 52, 53, 54, 55, 56, 57, 97, 98, 99, 100, 101, 102] : List Int32).getD j 0
def V7 : List Value := [.int 48, .int 49, .int 50, .int 51, .int 52, .int 53, .int 54, .int 55, .int 56, .int 57, .int 97, .int 98, .int 99, .int 100, .int 101, .int 102]
def f9 (j : Nat) : Int32 := ([48, 49, 50, 51, 52, 53, 54, 55, 56, 57, 65, 66, 67, 68, 69, 70] : List Int32).getD j 0
def V9 : List Value := [.int 48, .int 49, .int 50, .int 51, .int 52, .int 53, .int 54, .int 55, .int 56, .int 57, .int 65, .int 66, .int 67, .int 68, .int 69, .int 70]
def IDX (u0 : Int32) : Int32 := if (u0 &&& (64 : Int32)) = (0 : Int32) then (u0 &&& (15 : Int32)) else ((u0 &&& (15 : Int32)) + (9 : Int32))
def G7 (i : Int32) : Int32 := nar .char (CH (f7 i.toInt.toNat))
def G9 (i : Int32) : Int32 := nar .char (CH (f9 i.toInt.toNat))
def REF (u0 : Int32) : Int32 := if IDX u0 < (16 : Int32) then (if u0 = G7 (IDX u0) then 1 else if u0 = G9 (IDX u0) then 1 else 0) else 0
theorem own_and15 (x : Int32) : 0 ≤ (x &&& (15 : Int32)).toInt ∧ (x &&& (15 : Int32)).toInt < 16 := by
  have a := c_mask x 15 4 (by decide) (by decide)
  omega
theorem own_idx0 (x : Int32) : 0 ≤ (IDX x).toInt := by
  have := own_and15 x
  unfold IDX
  split
  · omega
  · have b := c_iadd (x &&& 15) 9
    have r := rng32 ((x &&& 15) + 9)
    rw [show (9 : Int32).toInt = 9 from rfl] at b
    omega
theorem own_ext {h h' h2 : Heap} (E : Ext h h') (E' : Ext h' h2) : Ext h h2 := ⟨Nat.le_trans E.1 E'.1, fun a c q => E'.2 _ _ (E.2 _ _ q)⟩
theorem d2_0 : decode method_2_code 0 = .ok (.ldc 7, 2) := by decide +kernel
theorem d2_2 : decode method_2_code 2 = .ok (.astore_n 1, 1) := by decide +kernel
theorem d2_3 : decode method_2_code 3 = .ok (.ldc 9, 2) := by decide +kernel
theorem d2_5 : decode method_2_code 5 = .ok (.astore_n 2, 1) := by decide +kernel
theorem d2_6 : decode method_2_code 6 = .ok (.iload_n 0, 1) := by decide +kernel
theorem d2_7 : decode method_2_code 7 = .ok (.bipush 64, 2) := by decide +kernel
theorem d2_9 : decode method_2_code 9 = .ok (.iand, 1) := by decide +kernel
theorem d2_10 : decode method_2_code 10 = .ok (.ifCond .eq 13, 3) := by decide +kernel
theorem d2_13 : decode method_2_code 13 = .ok (.iload_n 0, 1) := by decide +kernel
theorem d2_14 : decode method_2_code 14 = .ok (.bipush 15, 2) := by decide +kernel
theorem d2_16 : decode method_2_code 16 = .ok (.iand, 1) := by decide +kernel
theorem d2_17 : decode method_2_code 17 = .ok (.bipush 9, 2) := by decide +kernel
theorem d2_19 : decode method_2_code 19 = .ok (.iadd, 1) := by decide +kernel
theorem d2_20 : decode method_2_code 20 = .ok (.goto 7, 3) := by decide +kernel
theorem d2_23 : decode method_2_code 23 = .ok (.iload_n 0, 1) := by decide +kernel
theorem d2_24 : decode method_2_code 24 = .ok (.bipush 15, 2) := by decide +kernel
theorem d2_26 : decode method_2_code 26 = .ok (.iand, 1) := by decide +kernel
theorem d2_27 : decode method_2_code 27 = .ok (.istore_n 3, 1) := by decide +kernel
theorem d2_28 : decode method_2_code 28 = .ok (.iload_n 3, 1) := by decide +kernel
theorem d2_29 : decode method_2_code 29 = .ok (.bipush 16, 2) := by decide +kernel
theorem d2_31 : decode method_2_code 31 = .ok (.if_icmp .lt 5, 3) := by decide +kernel
theorem d2_34 : decode method_2_code 34 = .ok (.iconst 0, 1) := by decide +kernel
theorem d2_35 : decode method_2_code 35 = .ok (.ireturn, 1) := by decide +kernel
theorem d2_36 : decode method_2_code 36 = .ok (.iload_n 0, 1) := by decide +kernel
theorem d2_37 : decode method_2_code 37 = .ok (.aload_n 1, 1) := by decide +kernel
theorem d2_38 : decode method_2_code 38 = .ok (.iload_n 3, 1) := by decide +kernel
theorem d2_39 : decode method_2_code 39 = .ok (.invokevirtual 11, 3) := by decide +kernel
theorem d2_42 : decode method_2_code 42 = .ok (.if_icmp .eq 12, 3) := by decide +kernel
theorem d2_45 : decode method_2_code 45 = .ok (.iload_n 0, 1) := by decide +kernel
theorem d2_46 : decode method_2_code 46 = .ok (.aload_n 2, 1) := by decide +kernel
theorem d2_47 : decode method_2_code 47 = .ok (.iload_n 3, 1) := by decide +kernel
theorem d2_48 : decode method_2_code 48 = .ok (.invokevirtual 11, 3) := by decide +kernel
theorem d2_51 : decode method_2_code 51 = .ok (.if_icmp .ne 7, 3) := by decide +kernel
theorem d2_54 : decode method_2_code 54 = .ok (.iconst 1, 1) := by decide +kernel
theorem d2_55 : decode method_2_code 55 = .ok (.goto 4, 3) := by decide +kernel
theorem d2_58 : decode method_2_code 58 = .ok (.iconst 0, 1) := by decide +kernel
theorem d2_59 : decode method_2_code 59 = .ok (.ireturn, 1) := by decide +kernel
theorem pn_2 : plainFor (⟨"org/triplewright/rdf/TurtleEscapeIsHexDigitPinLaw", "ref", "(I)Z"⟩ : MethodName) = true := by first | exact plainFor_of_name (by first | (simp [plainName, overriddenIn]; done) | decide +kernel) | decide +kernel
theorem ef_2 (m : MethodId) (u0 : Int32) : entryFrame m #[(.int u0)] 4 = (mkF m 0 #[.val (.int u0), .unset, .unset, .unset] []) := by first | (simp [entryFrame, mkF, argsToLocals, Value.category]; done) | rfl
set_option maxRecDepth 65536 in
set_option maxHeartbeats 40000000 in
theorem refTail {p : Program} {l : Launch} {e : Env} {R : Room} {s : State} {m : MethodId} {args : Array Value} {below : List Frame} {meth : Method} {c : Code} {T : State} {cells slots : Nat} {K N : Nat} (Z : State) (a0 : Array Value) (hw : ∀ d ∈ tables_1, d.before a0 Z = true) (u0 : Int32) (h0 : Heap) (cs : Int32) (hc : Sta Z h0 "java/lang/String" "COMPACT_STRINGS" "Z" (.int cs)) (hc0 : ¬ cs = 0) (fm : Value) (hv : fm.isRef = true) (hF : Sta Z h0 "jdk/internal/util/Preconditions" "SIOOBE_FORMATTER" "Ljava/util/function/BiFunction;" fm) (a7 b7 a9 b9 : Addr) (A7 : LS Z h0 a7 b7 f7) (A9 : LS Z h0 a9 b9 f9)
    (C : Cx p c method_2_code) (X : Stand p l e R s m args below meth c T [] cells slots) (hZ : Z.Warmed39 s.vm) (hml : c.maxLocals = 4) (hown : s.vm.findClass "org/triplewright/rdf/TurtleEscapeIsHexDigitPinLaw" = some m.cls) (hret : meth.sig.returnType = some .boolean) (hlk : meth.locks = false) (hfr : 4 ≤ R.frames) (hlo : 54 ≤ R.locals) (hce : cells ≤ R.cells) (hsl : slots ≤ R.slots) (hK : cells ≤ K) (hN : slots ≤ N) (e0 : T.heap = h0) : Ends p e below s (PQ (.int (REF u0)) h0) K N (T.setTop (mkF m 6 #[.val (.int u0), .val (.ref a7), .val (.ref a9), .unset] [])) := by
  refine o_iloadN C X d2_6 7 rfl rfl ?_
  refine o_bipush C X d2_7 9 rfl (64 : Int32) (by decide) ?_
  refine o_iand C X d2_9 10 rfl ?_
  refine Ends.via (T := T) (mkF m 27 #[.val (.int u0), .val (.ref a7), .val (.ref a9), .unset] [(.int (if (u0 &&& (64 : Int32)) = (0 : Int32) then (u0 &&& (15 : Int32)) else ((u0 &&& (15 : Int32)) + (9 : Int32))))]) (fun K0 => ?_) ?_
  · skip
    by_cases q15 : (u0 &&& (64 : Int32)) = (0 : Int32)
    · skip
      refine o_ifY C X d2_10 23 (by decide) (by decide) ((if0 _ _).trans (teq q15).1) ?_
      refine o_iloadN C X d2_23 24 rfl rfl ?_
      refine o_bipush C X d2_24 26 rfl (15 : Int32) (by decide) ?_
      refine o_iand C X d2_26 27 rfl ?_
      simp only [if_pos q15] at K0
      exact K0
    · skip
      refine o_ifN C X d2_10 13 rfl ((if0 _ _).trans (feq q15).1) ?_
      refine o_iloadN C X d2_13 14 rfl rfl ?_
      refine o_bipush C X d2_14 16 rfl (15 : Int32) (by decide) ?_
      refine o_iand C X d2_16 17 rfl ?_
      refine o_bipush C X d2_17 19 rfl (9 : Int32) (by decide) ?_
      refine o_iadd C X d2_19 20 rfl ?_
      refine o_goto C X d2_20 27 (by decide) (by decide) ?_
      simp only [if_neg q15] at K0
      exact K0
  change Ends p e below s _ K N (T.setTop (mkF m 27 #[.val (.int u0), .val (.ref a7), .val (.ref a9), .unset] [.int (IDX u0)]))
  refine o_istoreN C X d2_27 28 rfl #[.val (.int u0), .val (.ref a7), .val (.ref a9), .val (.int (IDX u0))] rfl ?_
  refine o_iloadN C X d2_28 29 rfl rfl ?_
  refine o_bipush C X d2_29 31 rfl (16 : Int32) (by decide) ?_
  by_cases qi : (IDX u0) < (16 : Int32)
  · skip
    refine o_icmpY C X d2_31 36 (by decide) (by decide) (tlt qi).1 ?_
    have hj : (IDX u0).toInt = ((IDX u0).toInt.toNat : Int) := by have := own_idx0 u0; omega
    have hi : (IDX u0).toInt.toNat < 16 := by rw [Int32.lt_iff_toInt_lt, show (16 : Int32).toInt = 16 from rfl] at qi; have := own_idx0 u0; omega
    refine o_iloadN C X d2_36 37 rfl rfl ?_
    refine o_aloadN C X d2_37 38 rfl rfl rfl ?_
    refine o_iloadN C X d2_38 39 rfl rfl ?_
    refine o_callVP C X hZ (by rw [hml]; rfl) (own := "org/triplewright/rdf/TurtleEscapeIsHexDigitPinLaw") (y := (⟨"java/lang/String", "charAt", "(I)C"⟩ : MethodName)) (rf := 3) (rl := 40) (v0 := .int (G7 (IDX u0))) hown (hw _ (List.mem_of_getElem? (i := 17) rfl)) (hw _ (List.mem_of_getElem? (i := 18) rfl)) (hw _ (List.mem_of_getElem? (i := 20) rfl)) (hw _ (List.mem_of_getElem? (i := 19) rfl)) (hw _ (List.mem_of_getElem? (i := 9) rfl)) (hw _ (List.mem_of_getElem? (i := 21) rfl)) (by decide) (asL := [(.int (IDX u0))]) (a := a7) (rm3 l Z a0 hw a7 b7 (IDX u0) cs h0 hc hc0 fm hv hF f7 _ hj hi A7) e0 A7.1 pd_1 rfl rfl 1 (Nat.le_of_eq rfl) hfr hlo hce hsl d2_39 42 rfl ?_
    intro T X e0
    by_cases q7 : u0 = (G7 (IDX u0))
    · skip
      refine o_icmpY C X d2_42 54 (by decide) (by decide) (teq q7).1 ?_
      refine o_iconst C X d2_54 55 rfl (1 : Int32) (by decide) ?_
      refine o_goto C X d2_55 59 (by decide) (by decide) ?_
      exact o_retN C X hret (by simp) hlk d2_59 ⟨by rw [REF]; simp only [if_pos qi, if_pos q7]; rfl, rfl, e0⟩ hK hN
    · skip
      refine o_icmpN C X d2_42 45 rfl (feq q7).1 ?_
      refine o_iloadN C X d2_45 46 rfl rfl ?_
      refine o_aloadN C X d2_46 47 rfl rfl rfl ?_
      refine o_iloadN C X d2_47 48 rfl rfl ?_
      refine o_callVP C X hZ (by rw [hml]; rfl) (own := "org/triplewright/rdf/TurtleEscapeIsHexDigitPinLaw") (y := (⟨"java/lang/String", "charAt", "(I)C"⟩ : MethodName)) (rf := 3) (rl := 40) (v0 := .int (G9 (IDX u0))) hown (hw _ (List.mem_of_getElem? (i := 17) rfl)) (hw _ (List.mem_of_getElem? (i := 18) rfl)) (hw _ (List.mem_of_getElem? (i := 20) rfl)) (hw _ (List.mem_of_getElem? (i := 19) rfl)) (hw _ (List.mem_of_getElem? (i := 9) rfl)) (hw _ (List.mem_of_getElem? (i := 21) rfl)) (by decide) (asL := [(.int (IDX u0))]) (a := a9) (rm3 l Z a0 hw a9 b9 (IDX u0) cs h0 hc hc0 fm hv hF f9 _ hj hi A9) e0 A9.1 pd_1 rfl rfl 1 (Nat.le_of_eq rfl) hfr hlo hce hsl d2_48 51 rfl ?_
      intro T X e0
      by_cases q9 : u0 = (G9 (IDX u0))
      · skip
        refine o_icmpN C X d2_51 54 rfl (teq q9).2 ?_
        refine o_iconst C X d2_54 55 rfl (1 : Int32) (by decide) ?_
        refine o_goto C X d2_55 59 (by decide) (by decide) ?_
        exact o_retN C X hret (by simp) hlk d2_59 ⟨by rw [REF]; simp only [if_pos qi, if_neg q7, if_pos q9]; rfl, rfl, e0⟩ hK hN
      · skip
        refine o_icmpY C X d2_51 58 (by decide) (by decide) (feq q9).2 ?_
        refine o_iconst C X d2_58 59 rfl (0 : Int32) (by decide) ?_
        exact o_retN C X hret (by simp) hlk d2_59 ⟨by rw [REF]; simp only [if_pos qi, if_neg q7, if_neg q9]; rfl, rfl, e0⟩ hK hN
  · skip
    refine o_icmpN C X d2_31 34 rfl (flt qi).1 ?_
    refine o_iconst C X d2_34 35 rfl (0 : Int32) (by decide) ?_
    exact o_retN C X hret (by simp) hlk d2_35 ⟨by rw [REF]; simp only [if_neg qi]; rfl, rfl, e0⟩ hK hN
set_option maxRecDepth 65536 in
set_option maxHeartbeats 40000000 in
theorem refWarm (l : Launch) (Z Z' : State) (a0 : Array Value) (hw : ∀ d ∈ tables_1, d.before a0 Z = true) (hZZ : Z.Warmed39 Z'.vm) (u0 : Int32) (h0 : Heap) (cs : Int32) (hc : Sta Z h0 "java/lang/String" "COMPACT_STRINGS" "Z" (.int cs)) (hc0 : ¬ cs = 0) (fm : Value) (hv : fm.isRef = true) (hF : Sta Z h0 "jdk/internal/util/Preconditions" "SIOOBE_FORMATTER" "Ljava/util/function/BiFunction;" fm) (a7 b7 a9 b9 : Addr) (A7 : LS Z h0 a7 b7 f7) (A9 : LS Z h0 a9 b9 f9) (L7 : Lit Z' "org/triplewright/rdf/TurtleEscapeIsHexDigitPinLaw" 7 a7) (L9 : Lit Z' "org/triplewright/rdf/TurtleEscapeIsHexDigitPinLaw" 9 a9) : Con l Z' (⟨"org/triplewright/rdf/TurtleEscapeIsHexDigitPinLaw", "ref", "(I)Z"⟩ : MethodName) method_2_code 4 (some .boolean) ({ frames := 4, cells := 0, slots := 0, locals := 54 } : Room) 0 0 [] #[.int u0] h0 (PQ (.int (REF u0)) h0) := by
  refine Con.of pn_2 ?_
  intro p e s m below meth c T C hZ' hml hown hret hnm hlk X e0
  rw [ef_2]
  have hZ : Z.Warmed39 s.vm := State.Warmed39.trans hZZ hZ'
  have M7 : Lit s "org/triplewright/rdf/TurtleEscapeIsHexDigitPinLaw" 7 a7 := State.resolvedAt?_warmed39 hZ' L7
  have M9 : Lit s "org/triplewright/rdf/TurtleEscapeIsHexDigitPinLaw" 9 a9 := State.resolvedAt?_warmed39 hZ' L9
  refine o_ldcL C X hZ hown (hw _ (List.mem_of_getElem? (i := 8) rfl)) M7 d2_0 2 rfl ?_
  refine o_astoreN C X d2_2 3 rfl rfl #[.val (.int u0), .val (.ref a7), .unset, .unset] rfl ?_
  refine o_ldcL C X hZ hown (hw _ (List.mem_of_getElem? (i := 16) rfl)) M9 d2_3 5 rfl ?_
  refine o_astoreN C X d2_5 6 rfl rfl #[.val (.int u0), .val (.ref a7), .val (.ref a9), .unset] rfl ?_
  exact refTail Z a0 hw u0 h0 cs hc hc0 fm hv hF a7 b7 a9 b9 A7 A9 C X hZ hml hown hret hlk (by decide) (by decide) (by decide) (by decide) (Nat.le_refl _) (Nat.le_refl _) e0
abbrev ELs : List (String × Nat) := [("org/triplewright/rdf/TurtleEscapeIsHexDigitPinLaw", 7), ("org/triplewright/rdf/TurtleEscapeIsHexDigitPinLaw", 9)]
theorem ht7 : (∀ c ∈ "0123456789abcdef".toList, c.toNat < 256) ∧ "0123456789abcdef".toList.map (fun c => Value.int (Jvm.Lit.byteI c.toNat.toUInt16)) = V7 := by decide +kernel
theorem ht9 : (∀ c ∈ "0123456789ABCDEF".toList, c.toNat < 256) ∧ "0123456789ABCDEF".toList.map (fun c => Value.int (Jvm.Lit.byteI c.toNat.toUInt16)) = V9 := by decide +kernel
theorem own_ew {Z : State} {a0 : Array Value} (hw : ∀ d ∈ tables_1, d.before a0 Z = true) : EW Z a0 ELs := EW.cons (hw _ (List.mem_of_getElem? (i := 8) rfl)) ht7.1 (EW.cons (hw _ (List.mem_of_getElem? (i := 16) rfl)) ht9.1 EW.nil)
theorem own_sa {Z : State} {a0 : Array Value} (hw : ∀ d ∈ tables_1, d.before a0 Z = true) : ∀ a ∈ Bundle.stringAtoms, a.before a0 Z = true := by
  intro a ha
  simp only [Bundle.stringAtoms, List.mem_cons, List.not_mem_nil, or_false] at ha
  rcases ha with rfl | rfl | rfl | rfl | rfl | rfl | rfl
  · exact (hw _ (List.mem_of_getElem? (i := 9) rfl))
  · exact (hw _ (List.mem_of_getElem? (i := 10) rfl))
  · exact (hw _ (List.mem_of_getElem? (i := 11) rfl))
  · exact (hw _ (List.mem_of_getElem? (i := 12) rfl))
  · exact (hw _ (List.mem_of_getElem? (i := 13) rfl))
  · exact (hw _ (List.mem_of_getElem? (i := 14) rfl))
  · exact (hw _ (List.mem_of_getElem? (i := 15) rfl))
theorem own_v7 : ∀ j, j < 16 → V7.getD j (.int 0) = .int (f7 j) := by decide +kernel
theorem own_v9 : ∀ j, j < 16 → V9.getD j (.int 0) = .int (f9 j) := by decide +kernel
set_option maxRecDepth 65536 in
set_option maxHeartbeats 40000000 in
theorem refCold (l : Launch) (Z : State) (a0 : Array Value) (hw : ∀ d ∈ tables_1, d.before a0 Z = true) (u0 : Int32) (h0 : Heap) (cs : Int32) (hc : Sta Z h0 "java/lang/String" "COMPACT_STRINGS" "Z" (.int cs)) (hc0 : ¬ cs = 0) (fm : Value) (hv : fm.isRef = true) (hF : Sta Z h0 "jdk/internal/util/Preconditions" "SIOOBE_FORMATTER" "Ljava/util/function/BiFunction;" fm) : ConH l Z ELs (⟨"org/triplewright/rdf/TurtleEscapeIsHexDigitPinLaw", "ref", "(I)Z"⟩ : MethodName) method_2_code 4 (some .boolean) ({ frames := 4, cells := 4, slots := 136, locals := 54 } : Room) 4 136 [] #[.int u0] h0 (fun v vm h L => v = some (.int (REF u0)) ∧ L = [] ∧ Ext h0 h ∧ ∃ a7 b7 a9 b9, LS Z h a7 b7 f7 ∧ LS Z h a9 b9 f9 ∧ Lit (Z.setVm vm) "org/triplewright/rdf/TurtleEscapeIsHexDigitPinLaw" 7 a7 ∧ Lit (Z.setVm vm) "org/triplewright/rdf/TurtleEscapeIsHexDigitPinLaw" 9 a9) := by
  refine ConH.of pn_2 ?_
  intro p e s m below meth c T C hZ hC hml hown hret hlk X e0
  rw [ef_2]
  obtain ⟨a7, T1, h1, k1, b7, kk7, X1, e1, E1, S1, le1, hZ1, hown1, x1, x2, x3, x4, -, -, ch1, L7, -, st1⟩ := ldcCH (s := s) (vm0 := s.vm) (k0 := 0) X C.1 hZ hown (hw _ (List.mem_of_getElem? (i := 8) rfl)) (own_sa hw) e0 ((State.WarmedH.refl s).since 0) (Nat.zero_le _) (own_ew hw) (by simp) hC ht7 (z := 16) (by decide) (by decide) (g := mkF m 0 #[.val (.int u0), .unset, .unset, .unset] []) rfl (hb C.2 d2_0) (n := 64) (by decide) (by decide) (by decide) (by decide)
  refine EndsW.step st1 ?_
  have A7 : LS Z h1 a7 b7 f7 := ⟨x1, x2, x3, AI.of_arvB x4 (by decide) own_v7⟩
  refine w_astoreN C X1 d2_2 3 rfl rfl #[.val (.int u0), .val (.ref a7), .unset, .unset] rfl ?_
  obtain ⟨a9, T2, h2, k2, b9, kk9, X2, e2, E2, S2', le2, hZ2, hown2, y1, y2, y3, y4, -, -, ch2, L9, -, st2⟩ := ldcCH (s := s.setVm T1.vm) (vm0 := T1.vm) (k0 := 0) X1 C.1 hZ1 hown1 (hw _ (List.mem_of_getElem? (i := 16) rfl)) (own_sa hw) e1 ((State.WarmedH.refl (s.setVm T1.vm)).since 0) (Nat.zero_le _) (own_ew hw) (by simp) ch1.1 ht9 (z := 16) (by decide) (by decide) (g := mkF m 3 #[.val (.int u0), .val (.ref a7), .unset, .unset] []) rfl (hb C.2 d2_3) (n := 64) (by decide) (by decide) (by decide) (by decide)
  refine EndsW.step st2 ?_
  have A9 : LS Z h2 a9 b9 f9 := ⟨y1, y2, y3, AI.of_arvB y4 (by decide) own_v9⟩
  have M7 : Lit (s.setVm T2.vm) "org/triplewright/rdf/TurtleEscapeIsHexDigitPinLaw" 7 a7 := Lit.stays L7 S2'.1
  have S2 : s.Since T2.vm h2.size := S1.trans ⟨S2'.1, fun j p hj hp => ⟨(S2'.2 j p hj hp).1, Nat.lt_of_lt_of_le (S2'.2 j p hj hp).2 le2⟩⟩ (Nat.le_trans le1 E2.1)
  refine EndsW.of S2 (fun v vm h L hW hq => ?_) (o_astoreN C X2 d2_5 6 rfl rfl #[.val (.int u0), .val (.ref a7), .val (.ref a9), .unset] rfl (refTail Z a0 hw u0 h2 cs (hc.ext (own_ext E1 E2)) hc0 fm hv (hF.ext (own_ext E1 E2)) a7 b7 a9 b9 (A7.ext E2) A9 C X2 hZ2 hml hown2 hret hlk (by decide) (by decide) (by decide) (by decide) (by decide) (by decide) e2))
  obtain ⟨rfl, rfl, rfl⟩ := hq
  exact ⟨Nat.le_refl _, rfl, rfl, own_ext E1 E2, a7, b7, a9, b9, A7.ext E2, A9, Lit.stays (s := s) M7 hW.wide, Lit.stays (s := s) L9 hW.wide⟩
def L22 : List Int32 := [48, 49, 50, 51, 52, 53, 54, 55, 56, 57, 97, 98, 99, 100, 101, 102, 65, 66, 67, 68, 69, 70]
theorem own_in {x : Int32} (h : (48 ≤ x.toInt ∧ x.toInt ≤ 57) ∨ (97 ≤ x.toInt ∧ x.toInt ≤ 102) ∨ (65 ≤ x.toInt ∧ x.toInt ≤ 70)) : x ∈ L22 := by
  have e : x = Int32.ofInt x.toInt := (Int32.ofInt_toInt x).symm
  generalize x.toInt = i at e h
  have : i = 48 ∨ i = 49 ∨ i = 50 ∨ i = 51 ∨ i = 52 ∨ i = 53 ∨ i = 54 ∨ i = 55 ∨ i = 56 ∨ i = 57 ∨ i = 97 ∨ i = 98 ∨ i = 99 ∨ i = 100 ∨ i = 101 ∨ i = 102 ∨ i = 65 ∨ i = 66 ∨ i = 67 ∨ i = 68 ∨ i = 69 ∨ i = 70 := by omega
  rcases this with h | h | h | h | h | h | h | h | h | h | h | h | h | h | h | h | h | h | h | h | h | h <;> (subst h; rw [e]; decide)
theorem own_l22 : ∀ x ∈ L22, FH x = REF x := by decide +kernel
theorem own_m7 : ∀ k, k < 16 → nar .char (CH (f7 k)) ∈ L22 ∧ FH (nar .char (CH (f7 k))) = 1 := by decide +kernel
theorem own_m9 : ∀ k, k < 16 → nar .char (CH (f9 k)) ∈ L22 ∧ FH (nar .char (CH (f9 k))) = 1 := by decide +kernel
theorem own_fh {x : Int32} (h : x ∉ L22) : FH x = 0 := by
  have h' := fun q => h (own_in q)
  unfold FH
  repeat' split
  all_goals first | rfl | (exfalso; apply h'; simp only [Int32.lt_iff_toInt_lt, show (48 : Int32).toInt = 48 from rfl, show (57 : Int32).toInt = 57 from rfl, show (97 : Int32).toInt = 97 from rfl, show (102 : Int32).toInt = 102 from rfl, show (65 : Int32).toInt = 65 from rfl, show (70 : Int32).toInt = 70 from rfl] at *; omega)
theorem own_ref {x : Int32} (h : x ∉ L22) : REF x = 0 := by
  have z := own_idx0 x
  unfold REF
  split
  · rename_i q
    rw [Int32.lt_iff_toInt_lt, show (16 : Int32).toInt = 16 from rfl] at q
    have hk : (IDX x).toInt.toNat < 16 := by omega
    rw [if_neg (fun r => h (by rw [r]; exact (own_m7 _ hk).1)), if_neg (fun r => h (by rw [r]; exact (own_m9 _ hk).1))]
  · rfl
theorem own_same (x : Int32) : FH x = REF x := by
  by_cases h : x ∈ L22
  · exact own_l22 x h
  · rw [own_fh h, own_ref h]
theorem own_j (x : Int32) : (x &&& (15 : Int32)).toInt = (((x &&& (15 : Int32)).toInt.toNat : Nat) : Int) := by have := own_and15 x; omega
theorem own_k (x : Int32) : (x &&& (15 : Int32)).toInt.toNat < 16 := by have := own_and15 x; omega
theorem own_n7 (x : Int32) : ¬ FH (G7 (x &&& (15 : Int32))) = 0 := by rw [show FH (G7 (x &&& (15 : Int32))) = 1 from (own_m7 _ (own_k x)).2]; decide
theorem own_n9 (x : Int32) : ¬ FH (G9 (x &&& (15 : Int32))) = 0 := by rw [show FH (G9 (x &&& (15 : Int32))) = 1 from (own_m9 _ (own_k x)).2]; decide
theorem pn_0 : plainFor x = true := by first | exact plainFor_of_name (by first | (simp [plainName, overriddenIn]; done) | decide +kernel) | decide +kernel
theorem ef_0 (m : MethodId) (x0 : Int32) (x1 : Int32) : entryFrame m #[(.int x0), (.int x1)] maxLocals = (mkF m 0 #[.val (.int x0), .val (.int x1), .unset, .unset, .unset, .unset, .unset, .unset, .unset, .unset] []) := by first | (simp [entryFrame, mkF, argsToLocals, Value.category, maxLocals]; done) | rfl
set_option maxRecDepth 65536 in
set_option maxHeartbeats 40000000 in
theorem rm0 (l : Launch) (Z : State) (a0 : Array Value) (hw : ∀ d ∈ tables_1, d.before a0 Z = true) (x0 x1 : Int32) (h0 : Heap) (cs : Int32) (hc : Sta Z h0 "java/lang/String" "COMPACT_STRINGS" "Z" (.int cs)) (hc0 : ¬ cs = 0) (fm : Value) (hv : fm.isRef = true) (hF : Sta Z h0 "jdk/internal/util/Preconditions" "SIOOBE_FORMATTER" "Ljava/util/function/BiFunction;" fm) : ConH l Z ELs x code maxLocals ret room_1 8 2112 tables_1 #[.int x0, .int x1] h0 (fun v _ _ L => v = some (.int 1) ∧ L = []) := by
  refine ConH.of pn_0 ?_
  intro p e s m below meth c T C hZ hC hml hown hret hlk X e0
  rw [ef_0]
  refine w_iloadN C X at_0 1 rfl rfl ?_
  refine w_callP C X hZ (by rw [hml]; rfl) (own := "org/triplewright/rdf/TurtleEscapeIsHexDigitPinLaw") (y := (⟨"org/triplewright/rdf/TurtleEscape", "isHexDigit", "(I)Z"⟩ : MethodName)) (rf := 0) (rl := 0) hown (hw _ (List.mem_of_getElem? (i := 0) rfl)) (hw _ (List.mem_of_getElem? (i := 1) rfl)) (hw _ (List.mem_of_getElem? (i := 2) rfl)) (hw _ (List.mem_of_getElem? (i := 3) rfl)) (by decide) (asL := [(.int x0)]) (rm1 l Z a0 hw x0 h0) e0 pd_0 rfl rfl 0 (Nat.le_of_eq rfl) (by decide) (by decide) (by decide) (by decide) at_1 4 rfl ?_
  intro T X e0
  refine w_iloadN C X at_4 5 rfl rfl ?_
  refine w_callCold C X hZ (by rw [hml]; rfl) (own := "org/triplewright/rdf/TurtleEscapeIsHexDigitPinLaw") (y := (⟨"org/triplewright/rdf/TurtleEscapeIsHexDigitPinLaw", "ref", "(I)Z"⟩ : MethodName)) hown (hw _ (List.mem_of_getElem? (i := 4) rfl)) (hw _ (List.mem_of_getElem? (i := 5) rfl)) (hw _ (List.mem_of_getElem? (i := 6) rfl)) (hw _ (List.mem_of_getElem? (i := 7) rfl)) (by decide) (own_ew hw) hC (asL := [.int x0]) (refCold l Z a0 hw x0 h0 cs hc hc0 fm hv hF) e0 pd_0 rfl rfl 1 (Nat.le_of_eq rfl) (by decide) (by decide) (by decide) (by decide) at_5 8 rfl ?_
  rintro T _ L X S1 ⟨rfl, rfl, E, a7, b7, a9, b9, A7, A9, L7, L9⟩
  obtain ⟨h1, e1⟩ : ∃ h1, T.heap = h1 := ⟨_, rfl⟩
  obtain ⟨vm1, hv1⟩ : ∃ vm1, T.vm = vm1 := ⟨_, rfl⟩
  rw [e1] at S1 E A7 A9
  rw [hv1] at X S1 L7 L9
  refine EndsW.of (Q := PQ (.int 1) h1) S1 (fun v vm h L hW hq => ?_) ?_
  · obtain ⟨rfl, rfl, rfl⟩ := hq
    exact ⟨Nat.le_refl _, rfl, rfl⟩
  have hZ1 : Z.Warmed39 (s.setVm vm1).vm := State.Warmed39.trans hZ S1.1
  have hown1 : (s.setVm vm1).vm.findClass "org/triplewright/rdf/TurtleEscapeIsHexDigitPinLaw" = some m.cls := by
    show vm1.findClass _ = _
    rw [S1.1.alike.findClass]; exact hown
  have M7 : Lit (s.setVm vm1) "org/triplewright/rdf/TurtleEscapeIsHexDigitPinLaw" 7 a7 := L7
  have M9 : Lit (s.setVm vm1) "org/triplewright/rdf/TurtleEscapeIsHexDigitPinLaw" 9 a9 := L9
  clear hv1
  generalize s.setVm vm1 = s1 at *
  have hZ := hZ1
  have hown := hown1
  have hc := hc.ext E
  have hF := hF.ext E
  refine o_icmpN C X at_8 11 rfl (teq (own_same _)).2 ?_
  refine o_iconst C X at_11 12 rfl (1 : Int32) (by decide) ?_
  refine o_goto C X at_12 16 (by decide) (by decide) ?_
  refine o_istoreN C X at_16 17 rfl #[.val (.int x0), .val (.int x1), .val (.int (1 : Int32)), .unset, .unset, .unset, .unset, .unset, .unset, .unset] rfl ?_
  refine o_iloadN C X at_17 18 rfl rfl ?_
  refine o_bipush C X at_18 20 rfl (127 : Int32) (by decide) ?_
  refine o_iand C X at_20 21 rfl ?_
  refine o_istoreN C X at_21 22 rfl #[.val (.int x0), .val (.int x1), .val (.int (1 : Int32)), .val (.int (x1 &&& (127 : Int32))), .unset, .unset, .unset, .unset, .unset, .unset] rfl ?_
  refine o_iloadN C X at_22 23 rfl rfl ?_
  refine o_callP C X hZ (by rw [hml]; rfl) (own := "org/triplewright/rdf/TurtleEscapeIsHexDigitPinLaw") (y := (⟨"org/triplewright/rdf/TurtleEscape", "isHexDigit", "(I)Z"⟩ : MethodName)) (rf := 0) (rl := 0) hown (hw _ (List.mem_of_getElem? (i := 0) rfl)) (hw _ (List.mem_of_getElem? (i := 1) rfl)) (hw _ (List.mem_of_getElem? (i := 2) rfl)) (hw _ (List.mem_of_getElem? (i := 3) rfl)) (by decide) (asL := [(.int (x1 &&& (127 : Int32)))]) (rm1 l Z a0 hw (x1 &&& (127 : Int32)) h1) e1 pd_0 rfl rfl 0 (Nat.le_of_eq rfl) (by decide) (by decide) (by decide) (by decide) at_23 26 rfl ?_
  intro T X e1
  refine o_iloadN C X at_26 27 rfl rfl ?_
  refine o_callP (Z := s1) (a0 := #[]) C X (State.Warmed39.refl s1) (by rw [hml]; rfl) (own := "org/triplewright/rdf/TurtleEscapeIsHexDigitPinLaw") (y := (⟨"org/triplewright/rdf/TurtleEscapeIsHexDigitPinLaw", "ref", "(I)Z"⟩ : MethodName)) (rf := 4) (rl := 54) hown (mvT hZ (hw _ (List.mem_of_getElem? (i := 4) rfl))) (mvT hZ (hw _ (List.mem_of_getElem? (i := 5) rfl))) (mvT hZ (hw _ (List.mem_of_getElem? (i := 6) rfl))) (mvT hZ (hw _ (List.mem_of_getElem? (i := 7) rfl))) (by decide) (asL := [.int (x1 &&& (127 : Int32))]) (refWarm l Z s1 a0 hw hZ (x1 &&& (127 : Int32)) h1 cs hc hc0 fm hv hF a7 b7 a9 b9 A7 A9 M7 M9) e1 pd_0 rfl rfl 1 (Nat.le_of_eq rfl) (by decide) (by decide) (by decide) (by decide) at_27 30 rfl ?_
  intro T X e1
  refine o_icmpN C X at_30 33 rfl (teq (own_same _)).2 ?_
  refine o_iconst C X at_33 34 rfl (1 : Int32) (by decide) ?_
  refine o_goto C X at_34 38 (by decide) (by decide) ?_
  refine o_istore C X at_38 40 rfl #[.val (.int x0), .val (.int x1), .val (.int (1 : Int32)), .val (.int (x1 &&& (127 : Int32))), .val (.int (1 : Int32)), .unset, .unset, .unset, .unset, .unset] rfl ?_
  refine o_iloadN C X at_40 41 rfl rfl ?_
  refine o_bipush C X at_41 43 rfl (7 : Int32) (by decide) ?_
  refine o_iushr C X at_43 44 rfl ?_
  refine o_ldcI C X hZ hown (hw _ (List.mem_of_getElem? (i := 42) rfl)) at_44 46 rfl ?_
  refine o_iand C X at_46 47 rfl ?_
  refine o_istore C X at_47 49 rfl #[.val (.int x0), .val (.int x1), .val (.int (1 : Int32)), .val (.int (x1 &&& (127 : Int32))), .val (.int (1 : Int32)), .val (.int ((ushr x1 (7 : Int32)) &&& (65535 : Int32))), .unset, .unset, .unset, .unset] rfl ?_
  refine o_iload C X at_49 51 rfl rfl ?_
  refine o_callP C X hZ (by rw [hml]; rfl) (own := "org/triplewright/rdf/TurtleEscapeIsHexDigitPinLaw") (y := (⟨"org/triplewright/rdf/TurtleEscape", "isHexDigit", "(I)Z"⟩ : MethodName)) (rf := 0) (rl := 0) hown (hw _ (List.mem_of_getElem? (i := 0) rfl)) (hw _ (List.mem_of_getElem? (i := 1) rfl)) (hw _ (List.mem_of_getElem? (i := 2) rfl)) (hw _ (List.mem_of_getElem? (i := 3) rfl)) (by decide) (asL := [(.int ((ushr x1 (7 : Int32)) &&& (65535 : Int32)))]) (rm1 l Z a0 hw ((ushr x1 (7 : Int32)) &&& (65535 : Int32)) h1) e1 pd_0 rfl rfl 0 (Nat.le_of_eq rfl) (by decide) (by decide) (by decide) (by decide) at_51 54 rfl ?_
  intro T X e1
  refine o_iload C X at_54 56 rfl rfl ?_
  refine o_callP (Z := s1) (a0 := #[]) C X (State.Warmed39.refl s1) (by rw [hml]; rfl) (own := "org/triplewright/rdf/TurtleEscapeIsHexDigitPinLaw") (y := (⟨"org/triplewright/rdf/TurtleEscapeIsHexDigitPinLaw", "ref", "(I)Z"⟩ : MethodName)) (rf := 4) (rl := 54) hown (mvT hZ (hw _ (List.mem_of_getElem? (i := 4) rfl))) (mvT hZ (hw _ (List.mem_of_getElem? (i := 5) rfl))) (mvT hZ (hw _ (List.mem_of_getElem? (i := 6) rfl))) (mvT hZ (hw _ (List.mem_of_getElem? (i := 7) rfl))) (by decide) (asL := [.int ((ushr x1 (7 : Int32)) &&& (65535 : Int32))]) (refWarm l Z s1 a0 hw hZ ((ushr x1 (7 : Int32)) &&& (65535 : Int32)) h1 cs hc hc0 fm hv hF a7 b7 a9 b9 A7 A9 M7 M9) e1 pd_0 rfl rfl 1 (Nat.le_of_eq rfl) (by decide) (by decide) (by decide) (by decide) at_56 59 rfl ?_
  intro T X e1
  refine o_icmpN C X at_59 62 rfl (teq (own_same _)).2 ?_
  refine o_iconst C X at_62 63 rfl (1 : Int32) (by decide) ?_
  refine o_goto C X at_63 67 (by decide) (by decide) ?_
  refine o_istore C X at_67 69 rfl #[.val (.int x0), .val (.int x1), .val (.int (1 : Int32)), .val (.int (x1 &&& (127 : Int32))), .val (.int (1 : Int32)), .val (.int ((ushr x1 (7 : Int32)) &&& (65535 : Int32))), .val (.int (1 : Int32)), .unset, .unset, .unset] rfl ?_
  refine o_iloadN C X at_69 70 rfl rfl ?_
  refine o_bipush C X at_70 72 rfl (23 : Int32) (by decide) ?_
  refine o_iushr C X at_72 73 rfl ?_
  refine o_bipush C X at_73 75 rfl (15 : Int32) (by decide) ?_
  refine o_iand C X at_75 76 rfl ?_
  refine o_istore C X at_76 78 rfl #[.val (.int x0), .val (.int x1), .val (.int (1 : Int32)), .val (.int (x1 &&& (127 : Int32))), .val (.int (1 : Int32)), .val (.int ((ushr x1 (7 : Int32)) &&& (65535 : Int32))), .val (.int (1 : Int32)), .val (.int ((ushr x1 (23 : Int32)) &&& (15 : Int32))), .unset, .unset] rfl ?_
  refine o_ldcL C X hZ hown (hw _ (List.mem_of_getElem? (i := 8) rfl)) M7 at_78 80 rfl ?_
  refine o_iload C X at_80 82 rfl rfl ?_
  refine o_callVP C X hZ (by rw [hml]; rfl) (own := "org/triplewright/rdf/TurtleEscapeIsHexDigitPinLaw") (y := (⟨"java/lang/String", "charAt", "(I)C"⟩ : MethodName)) (rf := 3) (rl := 40) (v0 := .int (G7 ((ushr x1 (23 : Int32)) &&& (15 : Int32)))) hown (hw _ (List.mem_of_getElem? (i := 17) rfl)) (hw _ (List.mem_of_getElem? (i := 18) rfl)) (hw _ (List.mem_of_getElem? (i := 20) rfl)) (hw _ (List.mem_of_getElem? (i := 19) rfl)) (hw _ (List.mem_of_getElem? (i := 9) rfl)) (hw _ (List.mem_of_getElem? (i := 21) rfl)) (by decide) (asL := [(.int ((ushr x1 (23 : Int32)) &&& (15 : Int32)))]) (a := a7) (rm3 l Z a0 hw a7 b7 ((ushr x1 (23 : Int32)) &&& (15 : Int32)) cs h1 hc hc0 fm hv hF f7 _ (own_j _) (own_k _) A7) e1 A7.1 pd_1 rfl rfl 0 (Nat.le_of_eq rfl) (by decide) (by decide) (by decide) (by decide) at_82 85 rfl ?_
  intro T X e1
  refine o_callP C X hZ (by rw [hml]; rfl) (own := "org/triplewright/rdf/TurtleEscapeIsHexDigitPinLaw") (y := (⟨"org/triplewright/rdf/TurtleEscape", "isHexDigit", "(I)Z"⟩ : MethodName)) (rf := 0) (rl := 0) hown (hw _ (List.mem_of_getElem? (i := 0) rfl)) (hw _ (List.mem_of_getElem? (i := 1) rfl)) (hw _ (List.mem_of_getElem? (i := 2) rfl)) (hw _ (List.mem_of_getElem? (i := 3) rfl)) (by decide) (asL := [(.int (G7 ((ushr x1 (23 : Int32)) &&& (15 : Int32))))]) (rm1 l Z a0 hw (G7 ((ushr x1 (23 : Int32)) &&& (15 : Int32))) h1) e1 pd_0 rfl rfl 0 (Nat.le_of_eq rfl) (by decide) (by decide) (by decide) (by decide) at_85 88 rfl ?_
  intro T X e1
  refine o_istore C X at_88 90 rfl #[.val (.int x0), .val (.int x1), .val (.int (1 : Int32)), .val (.int (x1 &&& (127 : Int32))), .val (.int (1 : Int32)), .val (.int ((ushr x1 (7 : Int32)) &&& (65535 : Int32))), .val (.int (1 : Int32)), .val (.int ((ushr x1 (23 : Int32)) &&& (15 : Int32))), .val (.int (FH (G7 ((ushr x1 (23 : Int32)) &&& (15 : Int32))))), .unset] rfl ?_
  refine o_ldcL C X hZ hown (hw _ (List.mem_of_getElem? (i := 16) rfl)) M9 at_90 92 rfl ?_
  refine o_iload C X at_92 94 rfl rfl ?_
  refine o_callVP C X hZ (by rw [hml]; rfl) (own := "org/triplewright/rdf/TurtleEscapeIsHexDigitPinLaw") (y := (⟨"java/lang/String", "charAt", "(I)C"⟩ : MethodName)) (rf := 3) (rl := 40) (v0 := .int (G9 ((ushr x1 (23 : Int32)) &&& (15 : Int32)))) hown (hw _ (List.mem_of_getElem? (i := 17) rfl)) (hw _ (List.mem_of_getElem? (i := 18) rfl)) (hw _ (List.mem_of_getElem? (i := 20) rfl)) (hw _ (List.mem_of_getElem? (i := 19) rfl)) (hw _ (List.mem_of_getElem? (i := 9) rfl)) (hw _ (List.mem_of_getElem? (i := 21) rfl)) (by decide) (asL := [(.int ((ushr x1 (23 : Int32)) &&& (15 : Int32)))]) (a := a9) (rm3 l Z a0 hw a9 b9 ((ushr x1 (23 : Int32)) &&& (15 : Int32)) cs h1 hc hc0 fm hv hF f9 _ (own_j _) (own_k _) A9) e1 A9.1 pd_1 rfl rfl 0 (Nat.le_of_eq rfl) (by decide) (by decide) (by decide) (by decide) at_94 97 rfl ?_
  intro T X e1
  refine o_callP C X hZ (by rw [hml]; rfl) (own := "org/triplewright/rdf/TurtleEscapeIsHexDigitPinLaw") (y := (⟨"org/triplewright/rdf/TurtleEscape", "isHexDigit", "(I)Z"⟩ : MethodName)) (rf := 0) (rl := 0) hown (hw _ (List.mem_of_getElem? (i := 0) rfl)) (hw _ (List.mem_of_getElem? (i := 1) rfl)) (hw _ (List.mem_of_getElem? (i := 2) rfl)) (hw _ (List.mem_of_getElem? (i := 3) rfl)) (by decide) (asL := [(.int (G9 ((ushr x1 (23 : Int32)) &&& (15 : Int32))))]) (rm1 l Z a0 hw (G9 ((ushr x1 (23 : Int32)) &&& (15 : Int32))) h1) e1 pd_0 rfl rfl 0 (Nat.le_of_eq rfl) (by decide) (by decide) (by decide) (by decide) at_97 100 rfl ?_
  intro T X e1
  refine o_istore C X at_100 102 rfl #[.val (.int x0), .val (.int x1), .val (.int (1 : Int32)), .val (.int (x1 &&& (127 : Int32))), .val (.int (1 : Int32)), .val (.int ((ushr x1 (7 : Int32)) &&& (65535 : Int32))), .val (.int (1 : Int32)), .val (.int ((ushr x1 (23 : Int32)) &&& (15 : Int32))), .val (.int (FH (G7 ((ushr x1 (23 : Int32)) &&& (15 : Int32))))), .val (.int (FH (G9 ((ushr x1 (23 : Int32)) &&& (15 : Int32)))))] rfl ?_
  refine o_iloadN C X at_102 103 rfl rfl ?_
  refine o_ifN C X at_103 106 rfl ((if0 _ _).trans (feq (by decide : ¬ ((1 : Int32) = (0 : Int32)))).1) ?_
  refine o_iload C X at_106 108 rfl rfl ?_
  refine o_ifN C X at_108 111 rfl ((if0 _ _).trans (feq (by decide : ¬ ((1 : Int32) = (0 : Int32)))).1) ?_
  refine o_iload C X at_111 113 rfl rfl ?_
  refine o_ifN C X at_113 116 rfl ((if0 _ _).trans (feq (by decide : ¬ ((1 : Int32) = (0 : Int32)))).1) ?_
  refine o_iload C X at_116 118 rfl rfl ?_
  refine o_ifN C X at_118 121 rfl ((if0 _ _).trans (feq (own_n7 _)).1) ?_
  refine o_iload C X at_121 123 rfl rfl ?_
  refine o_ifN C X at_123 126 rfl ((if0 _ _).trans (feq (own_n9 _)).1) ?_
  refine o_iconst C X at_126 127 rfl (1 : Int32) (by decide) ?_
  refine o_goto C X at_127 131 (by decide) (by decide) ?_
  exact o_retN C X hret (by simp) hlk at_131 ⟨rfl, rfl, e1⟩ (by decide) (by decide)
set_option maxRecDepth 65536 in
set_option maxHeartbeats 40000000 in
theorem comes_1 {Post : Tables → Env → Array Value → State → Outcome → State → Prop} (hpost : ∀ tb e args s v u, (limb_1_1.after args s (.returned v) u = true ∧ limb_1_2.after args s (.returned v) u = true ∧ True) → ReturnedEndW s (.returned v) u (Jvm.fieldLocs frame_1_writes args s ++ Jvm.arrayLocs frame_1_arrays args s ++ Jvm.staticLocs frame_1_statics s) 8 2112 → Post tb e args s (.returned v) u) :
    ArmFor flags0 classFile x code maxLocals ret World_1 tables_1 room_1 Calls_1 rest_1 Pre_1 Post := by
  intro l hfl _ _ p e ha hc hk s m args below hf hA hF happ hP
  obtain ⟨hcalls, hrest, hpre⟩ := hP
  obtain ⟨-, -, -, hnamed, -, -, -, hat⟩ := (Spec.applies_iff hf).mp happ
  obtain ⟨hg, hn⟩ := and_e (Cond.before_iff.mp (show (Jvm.Cond.and given_1 narrow_1).before args s = true from hpre))
  obtain ⟨g0, g1⟩ := and_e hg
  obtain ⟨w0, w1, rfl⟩ : ∃ w0 w1 : Value, args = #[w0, w1] := by
    have hs : args.size = 2 := by simpa [Cond.value, given_1] using g0
    obtain ⟨L⟩ := args
    match L, hs with
    | [w0, w1], _ => exact ⟨w0, w1, rfl⟩
  have hw := fun d (hd : d ∈ tables_1) => atoms_spec (ws := Jvm.Cond.code x code maxLocals ret :: tables_1) hat d (List.mem_cons_of_mem _ hd)
  have hfit : Fit s := fun {y c} hc i hi => by
    obtain ⟨ha, rfl⟩ := Array.getElem?_eq_some_iff.mp hc
    have q := List.all_eq_true.mp ((Array.all_eq_true_iff_forall_mem.mp hF) _ (Array.getElem_mem ha)) i (List.mem_range.mpr hi)
    simpa [Array.getElem?_eq_getElem hi] using q
  obtain ⟨f0, g1⟩ := and_e g1
  obtain ⟨i0, e0⟩ := is_v f0
  obtain rfl : w0 = (.int i0) := Option.some.inj e0
  have f1 := g1
  obtain ⟨i1, e1⟩ := is_v f1
  obtain rfl : w1 = (.int i1) := Option.some.inj e1
  obtain ⟨hsets, hown0⟩ := atoms_of _ (rest_1_c_eq ▸ (show rest_1_c.before _ s = true from hrest))
  have n5 := not_v (Cond.before_iff.mp (hsets _ (List.mem_of_getElem? (i := 2) rfl)))
  obtain ⟨cs, e10⟩ := is_v (Cond.before_iff.mp (hsets _ (List.mem_of_getElem? (i := 1) rfl)))
  have hcS : Sta s s.heap "java/lang/String" "COMPACT_STRINGS" "Z" (.int cs) := Sta.start e10 (Or.inl (hsets _ (List.mem_of_getElem? (i := 0) rfl)))
  obtain ⟨fm, e14, hv⟩ := isR_v (Cond.before_iff.mp (hsets _ (List.mem_of_getElem? (i := 8) rfl)))
  have hF' : Sta s s.heap "jdk/internal/util/Preconditions" "SIOOBE_FORMATTER" "Ljava/util/function/BiFunction;" fm := Sta.start e14 (Or.inl (hsets _ (List.mem_of_getElem? (i := 7) rfl)))
  have hc0 : ¬ cs = (0 : Int32) := gotF (Cond.eq_ints e10 (Term.int_eval (0))) n5
  have hcw : Jvm.Lit.compactW.before #[(.int i0), (.int i1)] s = true := hsets _ (List.mem_of_getElem? (i := 2) rfl)
  have hH : ∀ p ∈ ELs, Jvm.Lit.constHeld s p.1 p.2 := fun p hp => hcalls.1 p hp
  have hC : CHv s ELs s.vm s.heap := CHv.start (own_ew hw) hH hcw (hw _ (List.mem_of_getElem? (i := 11) rfl)) (hw _ (List.mem_of_getElem? (i := 10) rfl))
  obtain ⟨n, o, h1, h2, h3, _, L, rfl, ⟨rfl, rfl⟩, hq⟩ := rm0 l s _ hw i0 i1 s.heap cs hcS hc0 fm hv hF' p e ha hc hk s m _ below hf ((Spec.applies_iff_loose hf).mp happ).1 ⟨rfl, State.Warmed39.refl s, rfl, hC⟩ trivial
  exact ⟨n, _, h1, h2, h3, hpost _ _ _ _ _ _ ⟨Cond.after_iff.mpr rfl, Cond.after_iff.mpr (eq_i res_at (Term.int_eval (1)) rfl), trivial⟩ ⟨hq.1, hq.2.1, hq.2.2.1, hq.2.2.2.sift fun y hy => by cases hy⟩⟩
theorem main_1_1 : Claimed_1_1 := comes_1 fun _ _ _ _ _ _ h hF => ⟨h.1, hF⟩
theorem main_1_2 : Claimed_1_2 := comes_1 fun _ _ _ _ _ _ h hF => ⟨h.2.1, hF⟩
end Jvm.Pilot.@@N@@
namespace Jvm.Pilot.@@N@@
open Jvm Jvm.ClassFile Sem Op Lib Jvm.Free Jvm.Stand Jvm.Pilot.@@N@@.Jvm.D
/-! MADE BY PROGRAM (witnessworld.py) out of the Statement's table words and the real class files: 18 classes; the members and pool entries that the words name. The judged class is class 1, her method 2. -/
namespace start1
open Jvm.ClassFile
def u (s : String) : CpInfo := .utf8 (stringToUtf16 s)
/-- a pool by its gaps: so many unusable entries, then the entry; so many at the end -/
def gap : Nat → List CpInfo → List CpInfo
  | 0, r => r
  | n + 1, r => .unusable :: gap n r
def poolList (es : List (Nat × CpInfo)) (last : Nat) : List CpInfo := es.foldr (fun e r => gap e.1 (e.2 :: r)) (gap last [])
def pool (es : List (Nat × CpInfo)) (last : Nat) : Array CpInfo := ⟨poolList es last⟩
def fileOf (pool : Array CpInfo) (this : Nat) (attrs : Array Attribute := #[]) (ms : Array MethodInfo := #[]) (fl : Nat := 33) (sup : Nat := 0) (ifs : Array Nat := #[]) (fds : Array FieldInfo := #[]) : ClassFile where
  minorVersion := 0
  majorVersion := 65
  constantPool := pool
  accessFlags := fl
  thisClass := this
  superClass := sup
  interfaces := ifs
  fields := fds
  methods := ms
  attributes := attrs
def plain (name : String) (sup : Option ClassId) : Class where
  name := name
  kind := .ordinary
  loader := none
  accessFlags := 33
  super := sup
  interfaces := #[]
  cf := none
  fields := #[]
  methods := #[]
  instanceTypes := #[]
  staticTypes := #[]
  resolved := #[]
  callSites := []
  init := .initialized
  statics := none
  mirror := none

def pool0 : Array CpInfo := pool [(5, u "<init>"), (0, u "()V"), (1, .class_ 10), (1, u "java/lang/Object")] 113

def k0m0 : Method := { name := "<init>", desc := "()V", sig := { parameters := [], returnType := none }, accessFlags := 1, code := none }
/-- java/lang/Object -/
def k0 : Class := { plain "java/lang/Object" none with
  accessFlags := 33
  interfaces := #[]
  cf := some (fileOf pool0 8 #[] #[{ accessFlags := 1, nameIndex := 5, descriptorIndex := 6, attributes := #[] }] 33 0 #[] #[])
  fields := #[]
  methods := #[k0m0]
  instanceTypes := #[]
  staticTypes := #[]
  resolved := Array.replicate 124 none
  statics := none }

def pool1 : Array CpInfo := pool [(2, .class_ 4), (1, u "java/lang/Object"), (0, u "<init>"), (0, u "()V"), (0, .string 8), (0, u "0123456789abcdef"), (0, .string 10), (0, u "0123456789ABCDEF"), (0, .methodref 12 13), (0, .class_ 14), (0, .nameAndType 15 16), (0, u "java/lang/String"), (0, u "charAt"), (0, u "(I)C"), (0, .methodref 18 19), (0, .class_ 20), (0, .nameAndType 21 22), (0, u "org/triplewright/rdf/TurtleEscape"), (0, u "isHexDigit"), (0, u "(I)Z"), (0, .methodref 24 25), (0, .class_ 26), (0, .nameAndType 27 22), (0, u "org/triplewright/rdf/TurtleEscapeIsHexDigitPinLaw"), (0, u "ref"), (0, .integer 65535), (3, u "law"), (0, u "(II)Z")] 2

def k1m0 : Method := { name := "<init>", desc := "()V", sig := { parameters := [], returnType := none }, accessFlags := 1, code := none }
def k1c1 : Code := { maxStack := 3, maxLocals := 4, code := method_2_code, exceptionTable := #[], attributes := #[] }
def k1m1 : Method := { name := "ref", desc := "(I)Z", sig := { parameters := [.int], returnType := some .boolean }, accessFlags := 10, code := some k1c1 }
def k1c2 : Code := { maxStack := 2, maxLocals := 10, code := code, exceptionTable := #[], attributes := #[] }
def k1m2 : Method := { name := "law", desc := "(II)Z", sig := { parameters := [.int, .int], returnType := some .boolean }, accessFlags := 9, code := some k1c2 }
/-- org/triplewright/rdf/TurtleEscapeIsHexDigitPinLaw -/
def k1 : Class := { plain "org/triplewright/rdf/TurtleEscapeIsHexDigitPinLaw" (some 0) with
  accessFlags := 49
  interfaces := #[]
  cf := some (fileOf pool1 24 #[] #[{ accessFlags := 1, nameIndex := 5, descriptorIndex := 6, attributes := #[] }, { accessFlags := 10, nameIndex := 27, descriptorIndex := 22, attributes := #[] }, { accessFlags := 9, nameIndex := 32, descriptorIndex := 33, attributes := #[] }] 49 2 #[] #[])
  fields := #[]
  methods := #[k1m0, k1m1, k1m2]
  instanceTypes := #[]
  staticTypes := #[]
  resolved := Array.replicate 36 none
  statics := none }

def pool2 : Array CpInfo := pool [(2, .class_ 4), (1, u "java/lang/Object"), (0, u "<init>"), (0, u "()V"), (0, .class_ 8), (0, u "java/lang/Record")] 13

def k2m0 : Method := { name := "<init>", desc := "()V", sig := { parameters := [], returnType := none }, accessFlags := 4, code := none }
/-- java/lang/Record -/
def k2 : Class := { plain "java/lang/Record" (some 0) with
  accessFlags := 1057
  interfaces := #[]
  cf := some (fileOf pool2 7 #[] #[{ accessFlags := 4, nameIndex := 5, descriptorIndex := 6, attributes := #[] }] 1057 2 #[] #[])
  fields := #[]
  methods := #[k2m0]
  instanceTypes := #[]
  staticTypes := #[]
  resolved := Array.replicate 22 none
  statics := none }

def pool3 : Array CpInfo := pool [(4, .class_ 6), (1, u "java/lang/Record"), (3, .class_ 12), (1, u "org/triplewright/rdf/TurtleEscape"), (0, u "end"), (0, u "I"), (2, u "value"), (8, u "isHexDigit"), (0, u "(I)Z"), (53, u "NO_CODE_POINT"), (1, u "ECHAR_NAMES"), (0, u "Ljava/lang/String;"), (0, u "ECHAR_VALUES")] 41

def k3c0 : Code := { maxStack := 2, maxLocals := 1, code := prog_58_method_4_code, exceptionTable := #[], attributes := #[] }
def k3m0 : Method := { name := "isHexDigit", desc := "(I)Z", sig := { parameters := [.int], returnType := some .boolean }, accessFlags := 9, code := some k3c0 }
/-- org/triplewright/rdf/TurtleEscape -/
def k3 : Class := { plain "org/triplewright/rdf/TurtleEscape" (some 2) with
  accessFlags := 49
  interfaces := #[]
  cf := some (fileOf pool3 10 #[] #[{ accessFlags := 9, nameIndex := 26, descriptorIndex := 27, attributes := #[] }] 49 4 #[] #[{ accessFlags := 18, nameIndex := 13, descriptorIndex := 14, attributes := #[] }, { accessFlags := 18, nameIndex := 17, descriptorIndex := 14, attributes := #[] }, { accessFlags := 25, nameIndex := 81, descriptorIndex := 14, attributes := #[] }, { accessFlags := 26, nameIndex := 83, descriptorIndex := 84, attributes := #[] }, { accessFlags := 26, nameIndex := 85, descriptorIndex := 84, attributes := #[] }])
  fields := #[{ name := "end", type := .int, accessFlags := 18, slot := 0, constantValue := 0 }, { name := "value", type := .int, accessFlags := 18, slot := 1, constantValue := 0 }, { name := "NO_CODE_POINT", type := .int, accessFlags := 25, slot := 0, constantValue := 0 }, { name := "ECHAR_NAMES", type := (.object "java/lang/String"), accessFlags := 26, slot := 1, constantValue := 0 }, { name := "ECHAR_VALUES", type := (.object "java/lang/String"), accessFlags := 26, slot := 2, constantValue := 0 }]
  methods := #[k3m0]
  instanceTypes := #[.int, .int]
  staticTypes := #[.int, (.object "java/lang/String"), (.object "java/lang/String")]
  resolved := Array.replicate 127 none
  statics := none }

def pool4 : Array CpInfo := pool [(1, .class_ 2), (0, u "java/io/Serializable"), (0, .class_ 4), (0, u "java/lang/Object")] 2

/-- java/io/Serializable -/
def k4 : Class := { plain "java/io/Serializable" (some 0) with
  accessFlags := 1537
  interfaces := #[]
  cf := some (fileOf pool4 1 #[] #[] 1537 3 #[] #[])
  fields := #[]
  methods := #[]
  instanceTypes := #[]
  staticTypes := #[]
  resolved := Array.replicate 7 none
  statics := none }

def pool5 : Array CpInfo := pool [(1, .class_ 2), (0, u "java/lang/Comparable"), (0, .class_ 4), (0, u "java/lang/Object")] 7

/-- java/lang/Comparable -/
def k5 : Class := { plain "java/lang/Comparable" (some 0) with
  accessFlags := 1537
  interfaces := #[]
  cf := some (fileOf pool5 1 #[] #[] 1537 3 #[] #[])
  fields := #[]
  methods := #[]
  instanceTypes := #[]
  staticTypes := #[]
  resolved := Array.replicate 12 none
  statics := none }

def pool6 : Array CpInfo := pool [(2, .class_ 4), (1, u "java/lang/CharSequence"), (42, .class_ 48), (0, u "java/lang/CharSequence$1CodePointIterator"), (10, .class_ 60), (0, u "java/lang/CharSequence$1CharIterator"), (5, .class_ 67), (0, u "java/lang/Object")] 63

/-- java/lang/CharSequence -/
def k6 : Class := { plain "java/lang/CharSequence" (some 0) with
  accessFlags := 1537
  interfaces := #[]
  cf := some (fileOf pool6 2 #[.nestMembers #[47, 59]] #[] 1537 66 #[] #[])
  fields := #[]
  methods := #[]
  instanceTypes := #[]
  staticTypes := #[]
  resolved := Array.replicate 131 none
  statics := none }

def pool7 : Array CpInfo := pool [(1, .class_ 2), (0, u "java/lang/constant/Constable"), (0, .class_ 4), (0, u "java/lang/Object")] 6

/-- java/lang/constant/Constable -/
def k7 : Class := { plain "java/lang/constant/Constable" (some 0) with
  accessFlags := 1537
  interfaces := #[]
  cf := some (fileOf pool7 1 #[] #[] 1537 3 #[] #[])
  fields := #[]
  methods := #[]
  instanceTypes := #[]
  staticTypes := #[]
  resolved := Array.replicate 11 none
  statics := none }

def pool8 : Array CpInfo := pool [(1, .class_ 2), (0, u "java/lang/constant/ConstantDesc"), (0, .class_ 4), (0, u "java/lang/Object")] 32

/-- java/lang/constant/ConstantDesc -/
def k8 : Class := { plain "java/lang/constant/ConstantDesc" (some 0) with
  accessFlags := 1537
  interfaces := #[]
  cf := some (fileOf pool8 1 #[] #[] 1537 3 #[] #[])
  fields := #[]
  methods := #[]
  instanceTypes := #[]
  staticTypes := #[]
  resolved := Array.replicate 37 none
  statics := none }

def pool9 : Array CpInfo := pool [(2, .class_ 4), (1, u "java/lang/Object"), (0, u "<init>"), (0, u "()V"), (2, .fieldref 10 11), (0, .class_ 12), (0, .nameAndType 13 14), (0, u "java/lang/String"), (0, u "value"), (0, u "[B"), (0, .fieldref 10 16), (0, .nameAndType 17 18), (0, u "coder"), (0, u "B"), (2, u "hash"), (0, u "I"), (2, u "hashIsZero"), (0, u "Z"), (11, .fieldref 10 39), (0, .nameAndType 40 26), (0, u "COMPACT_STRINGS"), (66, .class_ 109), (1, u "java/lang/StringLatin1"), (32, u "()Z"), (220, u "([BI)C"), (27, u "(II)V"), (35, u "(I)C"), (64, .methodref 10 493), (0, .nameAndType 494 142), (0, u "isLatin1"), (0, .methodref 107 496), (0, .nameAndType 497 363), (0, u "charAt"), (3, u "checkIndex"), (73, .class_ 576), (0, u "java/lang/CharSequence"), (22, u "CASE_INSENSITIVE_ORDER"), (0, u "Ljava/util/Comparator;"), (452, .fieldref 1054 1055), (0, .class_ 1056), (0, .nameAndType 1057 1058), (0, u "jdk/internal/util/Preconditions"), (0, u "SIOOBE_FORMATTER"), (0, u "Ljava/util/function/BiFunction;"), (0, .methodref 1054 1060), (0, .nameAndType 501 1061), (0, u "(IILjava/util/function/BiFunction;)I"), (39, u "serialPersistentFields"), (0, u "[Ljava/io/ObjectStreamField;"), (0, .class_ 1104), (0, u "java/lang/String$CaseInsensitiveComparator"), (1, .class_ 1107), (0, u "java/io/Serializable"), (0, .class_ 1109), (0, u "java/lang/Comparable"), (0, .class_ 1111), (0, u "java/lang/constant/Constable"), (0, .class_ 1113), (0, u "java/lang/constant/ConstantDesc"), (2, u "serialVersionUID"), (0, u "J"), (3, u "REPL"), (0, u "C"), (2, u "LATIN1"), (1, u "UTF16")] 323

def k9m0 : Method := { name := "<init>", desc := "()V", sig := { parameters := [], returnType := none }, accessFlags := 1, code := none }
def k9c1 : Code := { maxStack := 2, maxLocals := 2, code := jdk_42_method_56_code, exceptionTable := #[], attributes := #[] }
def k9m1 : Method := { name := "charAt", desc := "(I)C", sig := { parameters := [.int], returnType := some .char }, accessFlags := 1, code := some k9c1 }
def k9c2 : Code := { maxStack := 1, maxLocals := 1, code := jdk_42_method_154_code, exceptionTable := #[], attributes := #[] }
def k9m2 : Method := { name := "isLatin1", desc := "()Z", sig := { parameters := [], returnType := some .boolean }, accessFlags := 0, code := some k9c2 }
def k9c3 : Code := { maxStack := 3, maxLocals := 2, code := jdk_42_method_155_code, exceptionTable := #[], attributes := #[] }
def k9m3 : Method := { name := "checkIndex", desc := "(II)V", sig := { parameters := [.int, .int], returnType := none }, accessFlags := 8, code := some k9c3 }
/-- java/lang/String -/
def k9 : Class := { plain "java/lang/String" (some 0) with
  accessFlags := 49
  interfaces := #[4, 5, 6, 7, 8]
  cf := some (fileOf pool9 10 #[.nestMembers #[1103]] #[{ accessFlags := 1, nameIndex := 5, descriptorIndex := 6, attributes := #[] }, { accessFlags := 1, nameIndex := 497, descriptorIndex := 427, attributes := #[] }, { accessFlags := 0, nameIndex := 494, descriptorIndex := 142, attributes := #[] }, { accessFlags := 8, nameIndex := 501, descriptorIndex := 391, attributes := #[] }] 49 2 #[1106, 1108, 575, 1110, 1112] #[{ accessFlags := 18, nameIndex := 13, descriptorIndex := 14, attributes := #[] }, { accessFlags := 18, nameIndex := 17, descriptorIndex := 18, attributes := #[] }, { accessFlags := 2, nameIndex := 21, descriptorIndex := 22, attributes := #[] }, { accessFlags := 2, nameIndex := 25, descriptorIndex := 26, attributes := #[] }, { accessFlags := 26, nameIndex := 1116, descriptorIndex := 1117, attributes := #[] }, { accessFlags := 24, nameIndex := 40, descriptorIndex := 26, attributes := #[] }, { accessFlags := 26, nameIndex := 1101, descriptorIndex := 1102, attributes := #[] }, { accessFlags := 26, nameIndex := 1121, descriptorIndex := 1122, attributes := #[] }, { accessFlags := 25, nameIndex := 599, descriptorIndex := 600, attributes := #[] }, { accessFlags := 24, nameIndex := 1125, descriptorIndex := 18, attributes := #[] }, { accessFlags := 24, nameIndex := 1127, descriptorIndex := 18, attributes := #[] }])
  fields := #[{ name := "value", type := (.array .byte), accessFlags := 18, slot := 0, constantValue := 0 }, { name := "coder", type := .byte, accessFlags := 18, slot := 1, constantValue := 0 }, { name := "hash", type := .int, accessFlags := 2, slot := 2, constantValue := 0 }, { name := "hashIsZero", type := .boolean, accessFlags := 2, slot := 3, constantValue := 0 }, { name := "serialVersionUID", type := .long, accessFlags := 26, slot := 0, constantValue := 0 }, { name := "COMPACT_STRINGS", type := .boolean, accessFlags := 24, slot := 1, constantValue := 0 }, { name := "serialPersistentFields", type := (.array (.object "java/io/ObjectStreamField")), accessFlags := 26, slot := 2, constantValue := 0 }, { name := "REPL", type := .char, accessFlags := 26, slot := 3, constantValue := 0 }, { name := "CASE_INSENSITIVE_ORDER", type := (.object "java/util/Comparator"), accessFlags := 25, slot := 4, constantValue := 0 }, { name := "LATIN1", type := .byte, accessFlags := 24, slot := 5, constantValue := 0 }, { name := "UTF16", type := .byte, accessFlags := 24, slot := 6, constantValue := 0 }]
  methods := #[k9m0, k9m1, k9m2, k9m3]
  instanceTypes := #[(.array .byte), .byte, .int, .boolean]
  staticTypes := #[.long, .boolean, (.array (.object "java/io/ObjectStreamField")), .char, (.object "java/util/Comparator"), .byte, .byte]
  resolved := Array.replicate 1451 none
  statics := some 0 }

def pool10 : Array CpInfo := pool [(1, .class_ 2), (0, u "java/lang/String"), (1, .class_ 6), (1, u "java/lang/Object"), (0, u "<init>"), (0, u "()V"), (0, .methodref 1 10), (0, .nameAndType 11 12), (0, u "checkIndex"), (0, u "(II)V"), (1, .class_ 16), (1, u "java/lang/StringLatin1"), (36, u "([BI)C"), (67, u "$assertionsDisabled"), (0, u "Z"), (98, .class_ 223), (1, u "java/lang/StringLatin1$LinesSpliterator"), (28, u "charAt"), (137, .class_ 391), (0, u "java/lang/StringLatin1$CharsSpliterator")] 3

def k10m0 : Method := { name := "<init>", desc := "()V", sig := { parameters := [], returnType := none }, accessFlags := 0, code := none }
def k10c1 : Code := { maxStack := 2, maxLocals := 2, code := jdk_43_method_2_code, exceptionTable := #[], attributes := #[] }
def k10m1 : Method := { name := "charAt", desc := "([BI)C", sig := { parameters := [(.array .byte), .int], returnType := some .char }, accessFlags := 9, code := some k10c1 }
/-- java/lang/StringLatin1 -/
def k10 : Class := { plain "java/lang/StringLatin1" (some 0) with
  accessFlags := 48
  interfaces := #[]
  cf := some (fileOf pool10 14 #[.nestMembers #[390, 221]] #[{ accessFlags := 0, nameIndex := 7, descriptorIndex := 8, attributes := #[] }, { accessFlags := 9, nameIndex := 252, descriptorIndex := 53, attributes := #[] }] 48 4 #[] #[{ accessFlags := 4120, nameIndex := 121, descriptorIndex := 122, attributes := #[] }])
  fields := #[{ name := "$assertionsDisabled", type := .boolean, accessFlags := 4120, slot := 0, constantValue := 0 }]
  methods := #[k10m0, k10m1]
  instanceTypes := #[]
  staticTypes := #[.boolean]
  resolved := Array.replicate 395 none
  statics := none }

def pool11 : Array CpInfo := pool [(2, .class_ 4), (1, u "java/lang/Object"), (0, u "<init>"), (0, u "()V"), (17, .class_ 26), (1, u "jdk/internal/util/Preconditions"), (6, u "checkIndex"), (21, .class_ 56), (0, u "jdk/internal/util/Preconditions$4"), (57, .class_ 115), (0, u "jdk/internal/util/Preconditions$1"), (7, u "SIOOBE_FORMATTER"), (0, u "Ljava/util/function/BiFunction;"), (0, .class_ 126), (0, u "jdk/internal/util/Preconditions$2"), (3, u "AIOOBE_FORMATTER"), (0, .class_ 132), (0, u "jdk/internal/util/Preconditions$3"), (3, u "IOOBE_FORMATTER"), (41, u "(IILjava/util/function/BiFunction;)I")] 15

def k11m0 : Method := { name := "<init>", desc := "()V", sig := { parameters := [], returnType := none }, accessFlags := 1, code := none }
def k11c1 : Code := { maxStack := 3, maxLocals := 3, code := jdk_41_method_11_code, exceptionTable := #[], attributes := #[] }
def k11m1 : Method := { name := "checkIndex", desc := "(IILjava/util/function/BiFunction;)I", sig := { parameters := [.int, .int, (.object "java/util/function/BiFunction")], returnType := some .int }, accessFlags := 9, code := some k11c1 }
/-- jdk/internal/util/Preconditions -/
def k11 : Class := { plain "jdk/internal/util/Preconditions" (some 0) with
  accessFlags := 33
  interfaces := #[]
  cf := some (fileOf pool11 24 #[.nestMembers #[55, 131, 125, 114]] #[{ accessFlags := 1, nameIndex := 5, descriptorIndex := 6, attributes := #[] }, { accessFlags := 9, nameIndex := 33, descriptorIndex := 178, attributes := #[] }] 33 2 #[] #[{ accessFlags := 25, nameIndex := 123, descriptorIndex := 124, attributes := #[] }, { accessFlags := 25, nameIndex := 130, descriptorIndex := 124, attributes := #[] }, { accessFlags := 25, nameIndex := 136, descriptorIndex := 124, attributes := #[] }])
  fields := #[{ name := "SIOOBE_FORMATTER", type := (.object "java/util/function/BiFunction"), accessFlags := 25, slot := 0, constantValue := 0 }, { name := "AIOOBE_FORMATTER", type := (.object "java/util/function/BiFunction"), accessFlags := 25, slot := 1, constantValue := 0 }, { name := "IOOBE_FORMATTER", type := (.object "java/util/function/BiFunction"), accessFlags := 25, slot := 2, constantValue := 0 }]
  methods := #[k11m0, k11m1]
  instanceTypes := #[]
  staticTypes := #[(.object "java/util/function/BiFunction"), (.object "java/util/function/BiFunction"), (.object "java/util/function/BiFunction")]
  resolved := Array.replicate 194 none
  statics := some 1 }

def pool12 : Array CpInfo := pool [(9, u "<init>"), (6, .class_ 18), (1, u "java/lang/Object"), (0, u "()V"), (1, .class_ 23), (1, u "jdk/internal/util/ArraysSupport"), (0, u "LOG2_ARRAY_LONG_INDEX_SCALE"), (0, u "I"), (2, u "U"), (0, u "Ljdk/internal/misc/Unsafe;"), (8, u "BIG_ENDIAN"), (0, u "Z"), (8, u "LOG2_BYTE_BIT_SIZE"), (4, u "LOG2_ARRAY_INT_INDEX_SCALE"), (54, u "JLA"), (0, u "Ljdk/internal/access/JavaLangAccess;"), (11, u "LOG2_ARRAY_BOOLEAN_INDEX_SCALE"), (9, u "LOG2_ARRAY_BYTE_INDEX_SCALE"), (5, u "LOG2_ARRAY_CHAR_INDEX_SCALE"), (5, u "LOG2_ARRAY_SHORT_INDEX_SCALE"), (18, u "LOG2_ARRAY_FLOAT_INDEX_SCALE"), (24, u "LOG2_ARRAY_DOUBLE_INDEX_SCALE"), (89, u "T_BOOLEAN"), (2, u "T_CHAR"), (1, u "T_FLOAT"), (1, u "T_DOUBLE"), (1, u "T_BYTE"), (1, u "T_SHORT"), (1, u "T_INT"), (1, u "T_LONG"), (1, u "SOFT_MAX_ARRAY_LENGTH")] 83

def k12m0 : Method := { name := "<init>", desc := "()V", sig := { parameters := [], returnType := none }, accessFlags := 2, code := none }
/-- jdk/internal/util/ArraysSupport -/
def k12 : Class := { plain "jdk/internal/util/ArraysSupport" (some 0) with
  accessFlags := 33
  interfaces := #[]
  cf := some (fileOf pool12 21 #[] #[{ accessFlags := 2, nameIndex := 9, descriptorIndex := 19, attributes := #[] }] 33 16 #[] #[{ accessFlags := 24, nameIndex := 28, descriptorIndex := 29, attributes := #[] }, { accessFlags := 26, nameIndex := 38, descriptorIndex := 39, attributes := #[] }, { accessFlags := 25, nameIndex := 121, descriptorIndex := 25, attributes := #[] }, { accessFlags := 25, nameIndex := 131, descriptorIndex := 25, attributes := #[] }, { accessFlags := 25, nameIndex := 137, descriptorIndex := 25, attributes := #[] }, { accessFlags := 25, nameIndex := 143, descriptorIndex := 25, attributes := #[] }, { accessFlags := 25, nameIndex := 53, descriptorIndex := 25, attributes := #[] }, { accessFlags := 25, nameIndex := 24, descriptorIndex := 25, attributes := #[] }, { accessFlags := 25, nameIndex := 162, descriptorIndex := 25, attributes := #[] }, { accessFlags := 25, nameIndex := 187, descriptorIndex := 25, attributes := #[] }, { accessFlags := 26, nameIndex := 48, descriptorIndex := 25, attributes := #[] }, { accessFlags := 25, nameIndex := 277, descriptorIndex := 25, attributes := #[] }, { accessFlags := 25, nameIndex := 280, descriptorIndex := 25, attributes := #[] }, { accessFlags := 25, nameIndex := 282, descriptorIndex := 25, attributes := #[] }, { accessFlags := 25, nameIndex := 284, descriptorIndex := 25, attributes := #[] }, { accessFlags := 25, nameIndex := 286, descriptorIndex := 25, attributes := #[] }, { accessFlags := 25, nameIndex := 288, descriptorIndex := 25, attributes := #[] }, { accessFlags := 25, nameIndex := 290, descriptorIndex := 25, attributes := #[] }, { accessFlags := 25, nameIndex := 292, descriptorIndex := 25, attributes := #[] }, { accessFlags := 26, nameIndex := 108, descriptorIndex := 109, attributes := #[] }, { accessFlags := 25, nameIndex := 294, descriptorIndex := 25, attributes := #[] }])
  fields := #[{ name := "U", type := (.object "jdk/internal/misc/Unsafe"), accessFlags := 24, slot := 0, constantValue := 0 }, { name := "BIG_ENDIAN", type := .boolean, accessFlags := 26, slot := 1, constantValue := 0 }, { name := "LOG2_ARRAY_BOOLEAN_INDEX_SCALE", type := .int, accessFlags := 25, slot := 2, constantValue := 0 }, { name := "LOG2_ARRAY_BYTE_INDEX_SCALE", type := .int, accessFlags := 25, slot := 3, constantValue := 0 }, { name := "LOG2_ARRAY_CHAR_INDEX_SCALE", type := .int, accessFlags := 25, slot := 4, constantValue := 0 }, { name := "LOG2_ARRAY_SHORT_INDEX_SCALE", type := .int, accessFlags := 25, slot := 5, constantValue := 0 }, { name := "LOG2_ARRAY_INT_INDEX_SCALE", type := .int, accessFlags := 25, slot := 6, constantValue := 0 }, { name := "LOG2_ARRAY_LONG_INDEX_SCALE", type := .int, accessFlags := 25, slot := 7, constantValue := 0 }, { name := "LOG2_ARRAY_FLOAT_INDEX_SCALE", type := .int, accessFlags := 25, slot := 8, constantValue := 0 }, { name := "LOG2_ARRAY_DOUBLE_INDEX_SCALE", type := .int, accessFlags := 25, slot := 9, constantValue := 0 }, { name := "LOG2_BYTE_BIT_SIZE", type := .int, accessFlags := 26, slot := 10, constantValue := 0 }, { name := "T_BOOLEAN", type := .int, accessFlags := 25, slot := 11, constantValue := 0 }, { name := "T_CHAR", type := .int, accessFlags := 25, slot := 12, constantValue := 0 }, { name := "T_FLOAT", type := .int, accessFlags := 25, slot := 13, constantValue := 0 }, { name := "T_DOUBLE", type := .int, accessFlags := 25, slot := 14, constantValue := 0 }, { name := "T_BYTE", type := .int, accessFlags := 25, slot := 15, constantValue := 0 }, { name := "T_SHORT", type := .int, accessFlags := 25, slot := 16, constantValue := 0 }, { name := "T_INT", type := .int, accessFlags := 25, slot := 17, constantValue := 0 }, { name := "T_LONG", type := .int, accessFlags := 25, slot := 18, constantValue := 0 }, { name := "JLA", type := (.object "jdk/internal/access/JavaLangAccess"), accessFlags := 26, slot := 19, constantValue := 0 }, { name := "SOFT_MAX_ARRAY_LENGTH", type := .int, accessFlags := 25, slot := 20, constantValue := 0 }]
  methods := #[k12m0]
  instanceTypes := #[]
  staticTypes := #[(.object "jdk/internal/misc/Unsafe"), .boolean, .int, .int, .int, .int, .int, .int, .int, .int, .int, .int, .int, .int, .int, .int, .int, .int, .int, (.object "jdk/internal/access/JavaLangAccess"), .int]
  resolved := Array.replicate 378 none
  statics := none }

def pool13 : Array CpInfo := pool [(1, u "java/lang/Cloneable"), (0, .class_ 1), (0, u "java/lang/Object"), (0, .class_ 3)] 3

/-- java/lang/Cloneable -/
def k13 : Class := { plain "java/lang/Cloneable" (some 0) with
  accessFlags := 1537
  interfaces := #[]
  cf := some (fileOf pool13 2 #[] #[] 1537 4 #[] #[])
  fields := #[]
  methods := #[]
  instanceTypes := #[]
  staticTypes := #[]
  resolved := Array.replicate 8 none
  statics := none }

/-- the primitive byte -/
def k14 : Class := { plain "byte" none with kind := .primitive 'B', accessFlags := 0x411 }
/-- [B -/
def k15 : Class := { plain "[B" (some 0) with kind := .array 14 .byte, interfaces := #[13, 4], accessFlags := 1041 }

/-- the primitive int -/
def k16 : Class := { plain "int" none with kind := .primitive 'I', accessFlags := 0x411 }
/-- [I -/
def k17 : Class := { plain "[I" (some 0) with kind := .array 16 .int, interfaces := #[13, 4], accessFlags := 1041 }

def heap : Heap := #[{ cls := 9, slots := #[.long 0, .int 1, .null, .int 0, .null, .int 0, .int 0], vm := .statics 9 },
  { cls := 11, slots := #[.null, .null, .null], vm := .statics 11 }]
def classes : Array Class := #[k0, k1, k2, k3, k4, k5, k6, k7, k8, k9, k10, k11, k12, k13, k14, k15, k16, k17]
def interned : List (Array UInt16 × Addr) := []
def slotsUsed : Nat := 10
def theMethod : MethodId := ⟨1, 2⟩
def args0 : Array Value := #[.int 5, .int 7]
def aboutOver (below : List Frame) : State where
  vm := { classes := classes, interned := interned.toArray }
  heap := heap
  slotsUsed := slotsUsed
  threads := #[{ frames := .invoking theMethod args0 :: below }]
def below0 : List Frame := [.native { method := ⟨0, 0⟩, args := #[] }]
def about1 : State := aboutOver below0
def p0 : Program := .bare "" "" ""
def e0 : Env := launch0.env 0 0 0
theorem w_frames : about1.frames = Frame.invoking theMethod args0 :: below0 := rfl
set_option maxRecDepth 65536 in
theorem w_args : argsFit about1.vm theMethod args0 = true := by decide +kernel
set_option maxRecDepth 65536 in
theorem w_heap : heapFits about1 = true := by decide +kernel
set_option maxRecDepth 65536 in
theorem w_runnable : about1.curStatus? = some .runnable := by decide +kernel
set_option maxRecDepth 65536 in
theorem w_alone : about1.alone = true := by decide +kernel
set_option maxRecDepth 65536 in
theorem w_named : about1.methodNamed? x = some theMethod := by decide +kernel
set_option maxRecDepth 65536 in
theorem w_hears : about1.hears theMethod below0 = true := by decide +kernel
set_option maxRecDepth 65536 in
theorem w_ripe : about1.ripe theMethod args0 below0 = true := by decide +kernel
theorem w_running : about1.status = .running := rfl
set_option maxRecDepth 65536 in
theorem w_room : about1.hasRoom e0.platform room_1 = true :=
  launch0.hasRoom_least _ room_1 (by decide +kernel) (by decide +kernel) (by decide +kernel) (by decide +kernel) (by decide +kernel) (by decide +kernel)
theorem allAtoms_all (ts : List Jvm.Cond) (a : Array Jvm.Value) (st : Jvm.State) : (allAtoms ts).before a st = ts.all (fun c => c.before a st) := by
  induction ts with
  | nil => rfl
  | cons c t ih =>
    show (Jvm.Cond.and c (allAtoms t)).before a st = _
    rw [Jvm.Cond.before_and, ih, List.all_cons]
def words1 : List Jvm.Cond := Jvm.Cond.code x code maxLocals ret :: tables_1
/-- a 'code' word, met by the world's own term for the bytes: nothing is compared byte by byte -/
theorem code_word {y : MethodName} {bytes : ByteArray} {mx : Nat} {rt : Option FieldType} {a : Array Value} {s : State} {m : MethodId} {meth : Method} {c : Code} (h1 : s.methodNamed? y = some m) (h2 : s.vm.method? m = some meth) (h3 : meth.code = some c) (h4 : c.code = bytes)
    (h5 : (c.maxLocals == mx && c.exceptionTable.isEmpty && decide (c.maxStack ≤ mostOperands) && decide (meth.sig.returnType = rt) && !meth.locks && decide (parseMethodDescriptor y.desc = some meth.sig)) = true) : (Jvm.Cond.code y bytes mx rt).before a s = true := by
  simp only [Bool.and_eq_true, beq_iff_eq, Bool.not_eq_true', decide_eq_true_eq] at h5
  obtain ⟨⟨⟨⟨⟨g1, g2⟩, g3⟩, g4⟩, g5⟩, g6⟩ := h5
  simp [Cond.before, Cond.holds, Cond.value, h1, h2, h3, h4, g1, g2, g3, g4, g5, g6]
def isCode : Jvm.Cond → Bool
  | .code _ _ _ _ => true
  | _ => false
theorem all_split {L : List Jvm.Cond} {P : Jvm.Cond → Bool} (h1 : L.all (fun c => isCode c || P c) = true) (h2 : ∀ c ∈ L.filter isCode, P c = true) : L.all P = true := by
  refine List.all_eq_true.mpr fun c hc => ?_
  have h := List.all_eq_true.mp h1 c hc
  rcases Bool.eq_false_or_eq_true (isCode c) with hi | hi
  · exact h2 c (List.mem_filter.mpr ⟨hc, hi⟩)
  · simpa [hi] using h
set_option maxRecDepth 65536 in
theorem w_c0 : (Jvm.Cond.code x code maxLocals ret).before args0 about1 = true := code_word (m := ⟨1, 2⟩) (meth := k1m2) (c := k1c2) (by decide +kernel) rfl rfl rfl (by decide +kernel)
set_option maxRecDepth 65536 in
theorem w_c1 : (Jvm.Cond.code ({ cls := "org/triplewright/rdf/TurtleEscape", name := "isHexDigit", desc := "(I)Z" } : Jvm.MethodName) prog_58_method_4_code (1 : Nat) (Option.some Jvm.ClassFile.FieldType.boolean)).before args0 about1 = true := code_word (m := ⟨3, 0⟩) (meth := k3m0) (c := k3c0) (by decide +kernel) rfl rfl rfl (by decide +kernel)
set_option maxRecDepth 65536 in
theorem w_c2 : (Jvm.Cond.code ({ cls := "org/triplewright/rdf/TurtleEscapeIsHexDigitPinLaw", name := "ref", desc := "(I)Z" } : Jvm.MethodName) method_2_code (4 : Nat) (Option.some Jvm.ClassFile.FieldType.boolean)).before args0 about1 = true := code_word (m := ⟨1, 1⟩) (meth := k1m1) (c := k1c1) (by decide +kernel) rfl rfl rfl (by decide +kernel)
set_option maxRecDepth 65536 in
theorem w_c3 : (Jvm.Cond.code ({ cls := "java/lang/String", name := "charAt", desc := "(I)C" } : Jvm.MethodName) jdk_42_method_56_code (2 : Nat) (Option.some Jvm.ClassFile.FieldType.char)).before args0 about1 = true := code_word (m := ⟨9, 1⟩) (meth := k9m1) (c := k9c1) (by decide +kernel) rfl rfl rfl (by decide +kernel)
set_option maxRecDepth 65536 in
theorem w_c4 : (Jvm.Cond.code ({ cls := "java/lang/String", name := "isLatin1", desc := "()Z" } : Jvm.MethodName) jdk_42_method_154_code (1 : Nat) (Option.some Jvm.ClassFile.FieldType.boolean)).before args0 about1 = true := code_word (m := ⟨9, 2⟩) (meth := k9m2) (c := k9c2) (by decide +kernel) rfl rfl rfl (by decide +kernel)
set_option maxRecDepth 65536 in
theorem w_c5 : (Jvm.Cond.code ({ cls := "java/lang/StringLatin1", name := "charAt", desc := "([BI)C" } : Jvm.MethodName) jdk_43_method_2_code (2 : Nat) (Option.some Jvm.ClassFile.FieldType.char)).before args0 about1 = true := code_word (m := ⟨10, 1⟩) (meth := k10m1) (c := k10c1) (by decide +kernel) rfl rfl rfl (by decide +kernel)
set_option maxRecDepth 65536 in
theorem w_c6 : (Jvm.Cond.code ({ cls := "java/lang/String", name := "checkIndex", desc := "(II)V" } : Jvm.MethodName) jdk_42_method_155_code (2 : Nat) (Option.none : Option Jvm.ClassFile.FieldType)).before args0 about1 = true := code_word (m := ⟨9, 3⟩) (meth := k9m3) (c := k9c3) (by decide +kernel) rfl rfl rfl (by decide +kernel)
set_option maxRecDepth 65536 in
theorem w_c7 : (Jvm.Cond.code ({ cls := "jdk/internal/util/Preconditions", name := "checkIndex", desc := "(IILjava/util/function/BiFunction;)I" } : Jvm.MethodName) jdk_41_method_11_code (3 : Nat) (Option.some Jvm.ClassFile.FieldType.int)).before args0 about1 = true := code_word (m := ⟨11, 1⟩) (meth := k11m1) (c := k11c1) (by decide +kernel) rfl rfl rfl (by decide +kernel)
def codes1 : List Jvm.Cond := [Jvm.Cond.code x code maxLocals ret, Jvm.Cond.code ({ cls := "org/triplewright/rdf/TurtleEscape", name := "isHexDigit", desc := "(I)Z" } : Jvm.MethodName) prog_58_method_4_code (1 : Nat) (Option.some Jvm.ClassFile.FieldType.boolean), Jvm.Cond.code ({ cls := "org/triplewright/rdf/TurtleEscapeIsHexDigitPinLaw", name := "ref", desc := "(I)Z" } : Jvm.MethodName) method_2_code (4 : Nat) (Option.some Jvm.ClassFile.FieldType.boolean), Jvm.Cond.code ({ cls := "java/lang/String", name := "charAt", desc := "(I)C" } : Jvm.MethodName) jdk_42_method_56_code (2 : Nat) (Option.some Jvm.ClassFile.FieldType.char), Jvm.Cond.code ({ cls := "java/lang/String", name := "isLatin1", desc := "()Z" } : Jvm.MethodName) jdk_42_method_154_code (1 : Nat) (Option.some Jvm.ClassFile.FieldType.boolean), Jvm.Cond.code ({ cls := "java/lang/StringLatin1", name := "charAt", desc := "([BI)C" } : Jvm.MethodName) jdk_43_method_2_code (2 : Nat) (Option.some Jvm.ClassFile.FieldType.char), Jvm.Cond.code ({ cls := "java/lang/String", name := "checkIndex", desc := "(II)V" } : Jvm.MethodName) jdk_42_method_155_code (2 : Nat) (Option.none : Option Jvm.ClassFile.FieldType), Jvm.Cond.code ({ cls := "jdk/internal/util/Preconditions", name := "checkIndex", desc := "(IILjava/util/function/BiFunction;)I" } : Jvm.MethodName) jdk_41_method_11_code (3 : Nat) (Option.some Jvm.ClassFile.FieldType.int)]
set_option maxRecDepth 65536 in
theorem codes_eq : words1.filter isCode = codes1 := rfl
theorem w_codes : ∀ c ∈ words1.filter isCode, c.before args0 about1 = true := by
  rw [codes_eq]
  intro c hc
  simp only [codes1, List.mem_cons, List.not_mem_nil, or_false] at hc
  rcases hc with rfl | rfl | rfl | rfl | rfl | rfl | rfl | rfl
  · exact w_c0
  · exact w_c1
  · exact w_c2
  · exact w_c3
  · exact w_c4
  · exact w_c5
  · exact w_c6
  · exact w_c7
set_option maxRecDepth 65536 in
theorem w_t1 : (words1.take 24).all (fun c => isCode c || c.before args0 about1) = true := by decide +kernel
set_option maxRecDepth 65536 in
theorem w_t2 : (words1.drop 24).all (fun c => isCode c || c.before args0 about1) = true := by decide +kernel
theorem w_tables : (allAtoms (Jvm.Cond.code x code maxLocals ret :: tables_1)).before args0 about1 = true := by
  rw [allAtoms_all]
  show words1.all (fun c => c.before args0 about1) = true
  refine all_split ?_ w_codes
  rw [← List.take_append_drop 24 words1, List.all_append, w_t1, w_t2]
  rfl
set_option maxRecDepth 65536 in
theorem w_rest : rest_1_c.before args0 about1 = true := by decide +kernel
set_option maxRecDepth 65536 in
theorem w_case : (Jvm.Cond.and given_1 narrow_1).before args0 about1 = true := by decide +kernel
set_option maxRecDepth 65536 in
theorem w_consts : constsHeld consts_1 about1 := Jvm.Lit.constsHeldB_iff.mp (by decide +kernel)
theorem w_applies : (headSpec (Jvm.Cond.code x code maxLocals ret :: tables_1) room_1).applies x e0.platform about1 = true :=
  (Spec.applies_iff w_frames).mpr ⟨w_running, w_runnable, w_alone, w_named, w_hears, w_ripe, w_room, w_tables⟩
theorem atStart : AtStart classFile x code maxLocals ret World_1 tables_1 room_1 Calls_1 rest_1 Pre_1 launch0 p0 e0 about1 theMethod args0 below0 :=
  ⟨lists_1, trivial, launch0.admits_env _ _ _, launch0.least_env, fairChoices_fair.cas, fairChoices_fair.clock, w_frames, w_args, w_heap, w_applies, ⟨w_consts, trivial⟩, w_rest, w_case⟩
end start1
theorem witness_1 : WitnessClaimed_1 := ⟨start1.p0, start1.e0, start1.about1, start1.theMethod, start1.args0, start1.below0, start1.atStart⟩
end Jvm.Pilot.@@N@@
