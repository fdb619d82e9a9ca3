import JvmDerived
import JvmDerived.Pilot.@@N@@Statement
import JvmDerived.Pilot.@@N@@Code
set_option linter.unusedVariables false
set_option linter.unusedSimpArgs false
namespace Jvm.Pilot.@@N@@
open Jvm Jvm.ClassFile Sem Op Lib Jvm.Free Jvm.Stand Jvm.LawKit Jvm.RoadKit Bundle Jvm.Pilot.@@N@@.Jvm.D
/-- Java's x >>> y -/
def ushr (x y : Int32) : Int32 := (x.toUInt32 >>> (y &&& 31).toUInt32).toInt32
def ushrL (x : Int64) (y : Int32) : Int64 := (x.toUInt64 >>> (y &&& 0x3f).toInt64.toUInt64).toInt64
/-- what lcmp pushes -/
abbrev cmpL (x y : Int64) : Int32 := lcmpW x y
section Own
variable {p : Program} {l : Launch} {e : Env} {R : Room} {s : State} {m : MethodId} {args : Array Value} {below : List Frame} {meth : Method} {c : Code} {T : State} {locs : List Loc} {cells slots : Nat} {Z : State} {a0 : Array Value} {h : Heap} {Q : Option Value → Heap → List Loc → Prop} {K N pc : Nat} {Ls : Array Slot} {code : ByteArray} {rest : List Value}
/-- the run from here ends: the method returns, Q says what and over which heap -/
def Ends (p : Program) (e : Env) (below : List Frame) (s : State) (Q : Option Value → Heap → List Loc → Prop) (K N : Nat) (T : State) : Prop :=
  ∃ s₂ o, Steps p.tables e below T s₂ ∧ s₂.status = .running ∧ Ended s₂ below o ∧ ∃ v L, o = .returned v ∧ Q v s₂.heap L ∧ FrameEnd s o s₂ L K N
theorem Ends.step {T T' : State} (st : ∀ t, Steps p.tables e below T' t → Steps p.tables e below T t) (h : Ends p e below s Q K N T') : Ends p e below s Q K N T := by
  obtain ⟨s2, o, h1, h2⟩ := h
  exact ⟨s2, o, st _ h1, h2⟩
def Cx (p : Program) (c : Code) (code : ByteArray) : Prop := p.tables.exec = Jvm.exec ∧ c.code = code
/-- a method's contract -/
def Con (l : Launch) (Z : State) (y : MethodName) (bytes : ByteArray) (maxL : Nat) (ret : Option FieldType) (rm : Room) (K N : Nat) (ws : List Jvm.Cond) (as' : Array Value) (h : Heap) (Q : Option Value → Heap → List Loc → Prop) : Prop :=
  MetFree l y (head1 (Jvm.Cond.code y bytes maxL ret :: ws) rm) (fun a U => a = as' ∧ Z.Warmed39 U.vm ∧ U.heap = h) (fun _ _ _ _ _ => True) (fun _ U o U' => ∃ v L, o = .returned v ∧ Q v U'.heap L ∧ FrameEnd U o U' L K N)
theorem Con.of {y : MethodName} {bytes : ByteArray} {maxL : Nat} {ret : Option FieldType} {rm : Room} {ws : List Jvm.Cond} {as' : Array Value} (hn : plainFor y = true)
    (body : ∀ (p : Program) (e : Env) (s : State) (m : MethodId) (below : List Frame) (meth : Method) (c : Code) (T : State), Cx p c bytes → Z.Warmed39 s.vm → c.maxLocals = maxL → s.vm.findClass y.cls = some m.cls → meth.sig.returnType = ret → meth.name = y.name → meth.locks = false →
      Stand p l e rm s m as' below meth c T [] 0 0 → T.heap = h → Ends p e below s Q K N (T.setTop (entryFrame m as' maxL))) : Con l Z y bytes maxL ret rm K N ws as' h Q := by
  refine MetFree.of_bodySF hn hisR ?_
  intro p e s m args below meth c s₁ Bd hml0 hP hK
  obtain ⟨rfl, hZ, hh⟩ := hP
  exact body p e s m below meth c s₁ ⟨Bd.exec, Bd.bytes⟩ hZ hml0 (findClass_of_methodNamed Bd.named) Bd.returns (name_of_methodNamed Bd.named Bd.method).1 Bd.notSynchronized (Stand.of_body Bd) (by rw [← hh, Bd.state]; rfl)
theorem o_iadd (C : Cx p c code) (X : Stand p l e R s m args below meth c T locs cells slots) {x y : Int32} (hd : decode code pc = .ok (.iadd, 1)) (q : Nat) (hq : pc + 1 = q) (k : Ends p e below s Q K N (T.setTop (mkF m q Ls (.int (x + y) :: rest)))) : Ends p e below s Q K N (T.setTop (mkF m pc Ls (.int y :: .int x :: rest))) := by
  subst hq
  exact .step (fun _ t => XS.iadd X.here C.1 rfl (hb C.2 hd) rfl t) k
theorem o_isub (C : Cx p c code) (X : Stand p l e R s m args below meth c T locs cells slots) {x y : Int32} (hd : decode code pc = .ok (.isub, 1)) (q : Nat) (hq : pc + 1 = q) (k : Ends p e below s Q K N (T.setTop (mkF m q Ls (.int (x - y) :: rest)))) : Ends p e below s Q K N (T.setTop (mkF m pc Ls (.int y :: .int x :: rest))) := by
  subst hq
  exact .step (fun _ t => XS.isub X.here C.1 rfl (hb C.2 hd) rfl t) k
theorem o_imul (C : Cx p c code) (X : Stand p l e R s m args below meth c T locs cells slots) {x y : Int32} (hd : decode code pc = .ok (.imul, 1)) (q : Nat) (hq : pc + 1 = q) (k : Ends p e below s Q K N (T.setTop (mkF m q Ls (.int (x * y) :: rest)))) : Ends p e below s Q K N (T.setTop (mkF m pc Ls (.int y :: .int x :: rest))) := by
  subst hq
  exact .step (fun _ t => XS.imul X.here C.1 rfl (hb C.2 hd) rfl t) k
theorem o_iand (C : Cx p c code) (X : Stand p l e R s m args below meth c T locs cells slots) {x y : Int32} (hd : decode code pc = .ok (.iand, 1)) (q : Nat) (hq : pc + 1 = q) (k : Ends p e below s Q K N (T.setTop (mkF m q Ls (.int (x &&& y) :: rest)))) : Ends p e below s Q K N (T.setTop (mkF m pc Ls (.int y :: .int x :: rest))) := by
  subst hq
  exact .step (fun _ t => XS.iand X.here C.1 rfl (hb C.2 hd) rfl t) k
theorem o_ior (C : Cx p c code) (X : Stand p l e R s m args below meth c T locs cells slots) {x y : Int32} (hd : decode code pc = .ok (.ior, 1)) (q : Nat) (hq : pc + 1 = q) (k : Ends p e below s Q K N (T.setTop (mkF m q Ls (.int (x ||| y) :: rest)))) : Ends p e below s Q K N (T.setTop (mkF m pc Ls (.int y :: .int x :: rest))) := by
  subst hq
  exact .step (fun _ t => XS.ior X.here C.1 rfl (hb C.2 hd) rfl t) k
theorem o_ixor (C : Cx p c code) (X : Stand p l e R s m args below meth c T locs cells slots) {x y : Int32} (hd : decode code pc = .ok (.ixor, 1)) (q : Nat) (hq : pc + 1 = q) (k : Ends p e below s Q K N (T.setTop (mkF m q Ls (.int (x ^^^ y) :: rest)))) : Ends p e below s Q K N (T.setTop (mkF m pc Ls (.int y :: .int x :: rest))) := by
  subst hq
  exact .step (fun _ t => XS.ixor X.here C.1 rfl (hb C.2 hd) rfl t) k
theorem o_ishl (C : Cx p c code) (X : Stand p l e R s m args below meth c T locs cells slots) {x y : Int32} (hd : decode code pc = .ok (.ishl, 1)) (q : Nat) (hq : pc + 1 = q) (k : Ends p e below s Q K N (T.setTop (mkF m q Ls (.int (x <<< (y &&& 31)) :: rest)))) : Ends p e below s Q K N (T.setTop (mkF m pc Ls (.int y :: .int x :: rest))) := by
  subst hq
  exact .step (fun _ t => XS.ishl X.here C.1 rfl (hb C.2 hd) rfl t) k
theorem o_ishr (C : Cx p c code) (X : Stand p l e R s m args below meth c T locs cells slots) {x y : Int32} (hd : decode code pc = .ok (.ishr, 1)) (q : Nat) (hq : pc + 1 = q) (k : Ends p e below s Q K N (T.setTop (mkF m q Ls (.int (x >>> (y &&& 31)) :: rest)))) : Ends p e below s Q K N (T.setTop (mkF m pc Ls (.int y :: .int x :: rest))) := by
  subst hq
  exact .step (fun _ t => XS.ishr X.here C.1 rfl (hb C.2 hd) rfl t) k
theorem o_iushr (C : Cx p c code) (X : Stand p l e R s m args below meth c T locs cells slots) {x y : Int32} (hd : decode code pc = .ok (.iushr, 1)) (q : Nat) (hq : pc + 1 = q) (k : Ends p e below s Q K N (T.setTop (mkF m q Ls (.int (ushr x y) :: rest)))) : Ends p e below s Q K N (T.setTop (mkF m pc Ls (.int y :: .int x :: rest))) := by
  subst hq
  exact .step (fun _ t => XS.iushr X.here C.1 rfl (hb C.2 hd) rfl t) k
theorem o_irem (C : Cx p c code) (X : Stand p l e R s m args below meth c T locs cells slots) {x y : Int32} (hd : decode code pc = .ok (.irem, 1)) (q : Nat) (hq : pc + 1 = q) (hy : y ≠ 0) (k : Ends p e below s Q K N (T.setTop (mkF m q Ls (.int (x % y) :: rest)))) : Ends p e below s Q K N (T.setTop (mkF m pc Ls (.int y :: .int x :: rest))) := by
  subst hq
  exact .step (fun _ t => iremM X C.1 rfl (hb C.2 hd) rfl hy t) k
theorem o_idiv (C : Cx p c code) (X : Stand p l e R s m args below meth c T locs cells slots) {x y : Int32} (hd : decode code pc = .ok (.idiv, 1)) (q : Nat) (hq : pc + 1 = q) (hy : y ≠ 0) (k : Ends p e below s Q K N (T.setTop (mkF m q Ls (.int (x / y) :: rest)))) : Ends p e below s Q K N (T.setTop (mkF m pc Ls (.int y :: .int x :: rest))) := by
  subst hq
  exact .step (fun _ t => XS.idiv X.here C.1 rfl (hb C.2 hd) rfl hy t) k
theorem o_ladd (C : Cx p c code) (X : Stand p l e R s m args below meth c T locs cells slots) {x y : Int64} (hd : decode code pc = .ok (.ladd, 1)) (q : Nat) (hq : pc + 1 = q) (k : Ends p e below s Q K N (T.setTop (mkF m q Ls (.long (x + y) :: rest)))) : Ends p e below s Q K N (T.setTop (mkF m pc Ls (.long y :: .long x :: rest))) := by
  subst hq
  exact .step (fun _ t => XS.ladd X.here C.1 rfl (hb C.2 hd) rfl t) k
theorem o_lsub (C : Cx p c code) (X : Stand p l e R s m args below meth c T locs cells slots) {x y : Int64} (hd : decode code pc = .ok (.lsub, 1)) (q : Nat) (hq : pc + 1 = q) (k : Ends p e below s Q K N (T.setTop (mkF m q Ls (.long (x - y) :: rest)))) : Ends p e below s Q K N (T.setTop (mkF m pc Ls (.long y :: .long x :: rest))) := by
  subst hq
  exact .step (fun _ t => XS.lsub X.here C.1 rfl (hb C.2 hd) rfl t) k
theorem o_land (C : Cx p c code) (X : Stand p l e R s m args below meth c T locs cells slots) {x y : Int64} (hd : decode code pc = .ok (.land, 1)) (q : Nat) (hq : pc + 1 = q) (k : Ends p e below s Q K N (T.setTop (mkF m q Ls (.long (x &&& y) :: rest)))) : Ends p e below s Q K N (T.setTop (mkF m pc Ls (.long y :: .long x :: rest))) := by
  subst hq
  exact .step (fun _ t => XS.land X.here C.1 rfl (hb C.2 hd) rfl t) k
theorem o_lor (C : Cx p c code) (X : Stand p l e R s m args below meth c T locs cells slots) {x y : Int64} (hd : decode code pc = .ok (.lor, 1)) (q : Nat) (hq : pc + 1 = q) (k : Ends p e below s Q K N (T.setTop (mkF m q Ls (.long (x ||| y) :: rest)))) : Ends p e below s Q K N (T.setTop (mkF m pc Ls (.long y :: .long x :: rest))) := by
  subst hq
  exact .step (fun _ t => XS.lor X.here C.1 rfl (hb C.2 hd) rfl t) k
theorem o_lxor (C : Cx p c code) (X : Stand p l e R s m args below meth c T locs cells slots) {x y : Int64} (hd : decode code pc = .ok (.lxor, 1)) (q : Nat) (hq : pc + 1 = q) (k : Ends p e below s Q K N (T.setTop (mkF m q Ls (.long (x ^^^ y) :: rest)))) : Ends p e below s Q K N (T.setTop (mkF m pc Ls (.long y :: .long x :: rest))) := by
  subst hq
  exact .step (fun _ t => XS.lxor X.here C.1 rfl (hb C.2 hd) rfl t) k
theorem o_lushr (C : Cx p c code) (X : Stand p l e R s m args below meth c T locs cells slots) {x : Int64} {y : Int32} (hd : decode code pc = .ok (.lushr, 1)) (q : Nat) (hq : pc + 1 = q) (k : Ends p e below s Q K N (T.setTop (mkF m q Ls (.long (ushrL x y) :: rest)))) : Ends p e below s Q K N (T.setTop (mkF m pc Ls (.int y :: .long x :: rest))) := by
  subst hq
  exact .step (fun _ t => XS.lushr X.here C.1 rfl (hb C.2 hd) rfl t) k
theorem o_lcmp (C : Cx p c code) (X : Stand p l e R s m args below meth c T locs cells slots) {x y : Int64} (hd : decode code pc = .ok (.lcmp, 1)) (q : Nat) (hq : pc + 1 = q) (k : Ends p e below s Q K N (T.setTop (mkF m q Ls (.int (cmpL x y) :: rest)))) : Ends p e below s Q K N (T.setTop (mkF m pc Ls (.long y :: .long x :: rest))) := by
  subst hq
  exact .step (fun _ t => XS.lcmp X.here C.1 rfl (hb C.2 hd) rfl t) k
theorem o_i2l (C : Cx p c code) (X : Stand p l e R s m args below meth c T locs cells slots) {x : Int32} (hd : decode code pc = .ok (.i2l, 1)) (q : Nat) (hq : pc + 1 = q) (k : Ends p e below s Q K N (T.setTop (mkF m q Ls (.long x.toInt64 :: rest)))) : Ends p e below s Q K N (T.setTop (mkF m pc Ls (.int x :: rest))) := by
  subst hq
  exact .step (fun _ t => XS.i2l X.here C.1 rfl (hb C.2 hd) rfl t) k
theorem o_l2i (C : Cx p c code) (X : Stand p l e R s m args below meth c T locs cells slots) {x : Int64} (hd : decode code pc = .ok (.l2i, 1)) (q : Nat) (hq : pc + 1 = q) (k : Ends p e below s Q K N (T.setTop (mkF m q Ls (.int x.toInt32 :: rest)))) : Ends p e below s Q K N (T.setTop (mkF m pc Ls (.long x :: rest))) := by
  subst hq
  exact .step (fun _ t => XS.l2i X.here C.1 rfl (hb C.2 hd) rfl t) k
theorem o_i2b (C : Cx p c code) (X : Stand p l e R s m args below meth c T locs cells slots) {x : Int32} (hd : decode code pc = .ok (.i2b, 1)) (q : Nat) (hq : pc + 1 = q) (k : Ends p e below s Q K N (T.setTop (mkF m q Ls (.int x.toInt8.toInt32 :: rest)))) : Ends p e below s Q K N (T.setTop (mkF m pc Ls (.int x :: rest))) := by
  subst hq
  exact .step (fun _ t => XS.i2b X.here C.1 rfl (hb C.2 hd) rfl t) k
theorem o_i2c (C : Cx p c code) (X : Stand p l e R s m args below meth c T locs cells slots) {x : Int32} (hd : decode code pc = .ok (.i2c, 1)) (q : Nat) (hq : pc + 1 = q) (k : Ends p e below s Q K N (T.setTop (mkF m q Ls (.int x.toUInt32.toUInt16.toUInt32.toInt32 :: rest)))) : Ends p e below s Q K N (T.setTop (mkF m pc Ls (.int x :: rest))) := by
  subst hq
  exact .step (fun _ t => XS.i2c X.here C.1 rfl (hb C.2 hd) rfl t) k
theorem o_iconst (C : Cx p c code) (X : Stand p l e R s m args below meth c T locs cells slots) {i : Int} (hd : decode code pc = .ok (.iconst i, 1)) (q : Nat) (hq : pc + 1 = q) (v : Int32) (hv : Int32.ofInt i = v) (k : Ends p e below s Q K N (T.setTop (mkF m q Ls (.int v :: rest)))) : Ends p e below s Q K N (T.setTop (mkF m pc Ls rest)) := by
  subst hq
  exact .step (fun _ t => XS.iconst X.here C.1 rfl (hb C.2 hd) (by rw [hv]; exact t)) k
theorem o_bipush (C : Cx p c code) (X : Stand p l e R s m args below meth c T locs cells slots) {i : Int} (hd : decode code pc = .ok (.bipush i, 2)) (q : Nat) (hq : pc + 2 = q) (v : Int32) (hv : (Int8.ofInt i).toInt32 = v) (k : Ends p e below s Q K N (T.setTop (mkF m q Ls (.int v :: rest)))) : Ends p e below s Q K N (T.setTop (mkF m pc Ls rest)) := by
  subst hq
  exact .step (fun _ t => XS.bipush X.here C.1 rfl (hb C.2 hd) (by rw [hv]; exact t)) k
theorem o_sipush (C : Cx p c code) (X : Stand p l e R s m args below meth c T locs cells slots) {i : Int} (hd : decode code pc = .ok (.sipush i, 3)) (q : Nat) (hq : pc + 3 = q) (v : Int32) (hv : (Int16.ofInt i).toInt32 = v) (k : Ends p e below s Q K N (T.setTop (mkF m q Ls (.int v :: rest)))) : Ends p e below s Q K N (T.setTop (mkF m pc Ls rest)) := by
  subst hq
  exact .step (fun _ t => XS.sipush X.here C.1 rfl (hb C.2 hd) (by rw [hv]; exact t)) k
theorem o_lconst (C : Cx p c code) (X : Stand p l e R s m args below meth c T locs cells slots) {i : Fin 2} (hd : decode code pc = .ok (.lconst i, 1)) (q : Nat) (hq : pc + 1 = q) (v : Int64) (hv : Int64.ofNat i = v) (k : Ends p e below s Q K N (T.setTop (mkF m q Ls (.long v :: rest)))) : Ends p e below s Q K N (T.setTop (mkF m pc Ls rest)) := by
  subst hq
  exact .step (fun _ t => XS.lconst X.here C.1 rfl (hb C.2 hd) (by rw [hv]; exact t)) k
theorem o_aconst_null (C : Cx p c code) (X : Stand p l e R s m args below meth c T locs cells slots) (hd : decode code pc = .ok (.aconst_null, 1)) (q : Nat) (hq : pc + 1 = q) (k : Ends p e below s Q K N (T.setTop (mkF m q Ls (.null :: rest)))) : Ends p e below s Q K N (T.setTop (mkF m pc Ls rest)) := by
  subst hq
  exact .step (fun _ t => XS.aconstNull X.here C.1 rfl (hb C.2 hd) t) k
theorem o_dup (C : Cx p c code) (X : Stand p l e R s m args below meth c T locs cells slots) {x : Value} (hd : decode code pc = .ok (.dup, 1)) (q : Nat) (hq : pc + 1 = q) (hc : x.category = 1) (k : Ends p e below s Q K N (T.setTop (mkF m q Ls (x :: x :: rest)))) : Ends p e below s Q K N (T.setTop (mkF m pc Ls (x :: rest))) := by
  subst hq
  exact .step (fun _ t => XS.dup X.here C.1 rfl (hb C.2 hd) rfl hc t) k
theorem o_dup_x1 (C : Cx p c code) (X : Stand p l e R s m args below meth c T locs cells slots) {x y : Value} (hd : decode code pc = .ok (.dup_x1, 1)) (q : Nat) (hq : pc + 1 = q) (hc : x.category = 1) (hc' : y.category = 1) (k : Ends p e below s Q K N (T.setTop (mkF m q Ls (x :: y :: x :: rest)))) : Ends p e below s Q K N (T.setTop (mkF m pc Ls (x :: y :: rest))) := by
  subst hq
  exact .step (fun _ t => XS.dupX1 X.here C.1 rfl (hb C.2 hd) rfl hc hc' t) k
theorem o_pop (C : Cx p c code) (X : Stand p l e R s m args below meth c T locs cells slots) {x : Value} (hd : decode code pc = .ok (.pop, 1)) (q : Nat) (hq : pc + 1 = q) (hc : x.category = 1) (k : Ends p e below s Q K N (T.setTop (mkF m q Ls rest))) : Ends p e below s Q K N (T.setTop (mkF m pc Ls (x :: rest))) := by
  subst hq
  exact .step (fun _ t => XS.pop X.here C.1 rfl (hb C.2 hd) rfl hc t) k
theorem o_iloadN (C : Cx p c code) (X : Stand p l e R s m args below meth c T locs cells slots) {i : Fin 4} {v : Int32} (hd : decode code pc = .ok (.iload_n i, 1)) (q : Nat) (hq : pc + 1 = q) (hl : Ls[i.val]? = some (.val (.int v))) (k : Ends p e below s Q K N (T.setTop (mkF m q Ls (.int v :: rest)))) : Ends p e below s Q K N (T.setTop (mkF m pc Ls rest)) := by
  subst hq
  exact .step (fun _ t => XS.iloadN X.here C.1 rfl (hb C.2 hd) hl t) k
theorem o_iload (C : Cx p c code) (X : Stand p l e R s m args below meth c T locs cells slots) {i : Nat} {v : Int32} (hd : decode code pc = .ok (.iload i, 2)) (q : Nat) (hq : pc + 2 = q) (hl : Ls[i]? = some (.val (.int v))) (k : Ends p e below s Q K N (T.setTop (mkF m q Ls (.int v :: rest)))) : Ends p e below s Q K N (T.setTop (mkF m pc Ls rest)) := by
  subst hq
  exact .step (fun _ t => XS.iload X.here C.1 rfl (hb C.2 hd) hl t) k
theorem o_lloadN (C : Cx p c code) (X : Stand p l e R s m args below meth c T locs cells slots) {i : Fin 4} {v : Int64} (hd : decode code pc = .ok (.lload_n i, 1)) (q : Nat) (hq : pc + 1 = q) (hl : Ls[i.val]? = some (.val (.long v))) (k : Ends p e below s Q K N (T.setTop (mkF m q Ls (.long v :: rest)))) : Ends p e below s Q K N (T.setTop (mkF m pc Ls rest)) := by
  subst hq
  exact .step (fun _ t => XS.lloadN X.here C.1 rfl (hb C.2 hd) hl t) k
theorem o_lload (C : Cx p c code) (X : Stand p l e R s m args below meth c T locs cells slots) {i : Nat} {v : Int64} (hd : decode code pc = .ok (.lload i, 2)) (q : Nat) (hq : pc + 2 = q) (hl : Ls[i]? = some (.val (.long v))) (k : Ends p e below s Q K N (T.setTop (mkF m q Ls (.long v :: rest)))) : Ends p e below s Q K N (T.setTop (mkF m pc Ls rest)) := by
  subst hq
  exact .step (fun _ t => XS.lload X.here C.1 rfl (hb C.2 hd) hl t) k
theorem o_aloadN (C : Cx p c code) (X : Stand p l e R s m args below meth c T locs cells slots) {i : Fin 4} {v : Value} (hd : decode code pc = .ok (.aload_n i, 1)) (q : Nat) (hq : pc + 1 = q) (hl : Ls[i.val]? = some (.val v)) (hv : v.isRef = true) (k : Ends p e below s Q K N (T.setTop (mkF m q Ls (v :: rest)))) : Ends p e below s Q K N (T.setTop (mkF m pc Ls rest)) := by
  subst hq
  exact .step (fun _ t => XS.aloadN X.here C.1 rfl (hb C.2 hd) hl hv t) k
theorem o_aload (C : Cx p c code) (X : Stand p l e R s m args below meth c T locs cells slots) {i : Nat} {v : Value} (hd : decode code pc = .ok (.aload i, 2)) (q : Nat) (hq : pc + 2 = q) (hl : Ls[i]? = some (.val v)) (hv : v.isRef = true) (k : Ends p e below s Q K N (T.setTop (mkF m q Ls (v :: rest)))) : Ends p e below s Q K N (T.setTop (mkF m pc Ls rest)) := by
  subst hq
  exact .step (fun _ t => XS.aload X.here C.1 rfl (hb C.2 hd) hl hv t) k
theorem o_istoreN (C : Cx p c code) (X : Stand p l e R s m args below meth c T locs cells slots) {i : Fin 4} {x : Int32} (hd : decode code pc = .ok (.istore_n i, 1)) (q : Nat) (hq : pc + 1 = q) (l' : Array Slot) (hl : storeLocals Ls i.val (.int x) = some l') (k : Ends p e below s Q K N (T.setTop (mkF m q l' rest))) : Ends p e below s Q K N (T.setTop (mkF m pc Ls (.int x :: rest))) := by
  subst hq
  exact .step (fun _ t => XS.istoreN X.here C.1 rfl (hb C.2 hd) rfl hl t) k
theorem o_istore (C : Cx p c code) (X : Stand p l e R s m args below meth c T locs cells slots) {i : Nat} {x : Int32} (hd : decode code pc = .ok (.istore i, 2)) (q : Nat) (hq : pc + 2 = q) (l' : Array Slot) (hl : storeLocals Ls i (.int x) = some l') (k : Ends p e below s Q K N (T.setTop (mkF m q l' rest))) : Ends p e below s Q K N (T.setTop (mkF m pc Ls (.int x :: rest))) := by
  subst hq
  exact .step (fun _ t => XS.istore X.here C.1 rfl (hb C.2 hd) rfl hl t) k
theorem o_lstoreN (C : Cx p c code) (X : Stand p l e R s m args below meth c T locs cells slots) {i : Fin 4} {x : Int64} (hd : decode code pc = .ok (.lstore_n i, 1)) (q : Nat) (hq : pc + 1 = q) (l' : Array Slot) (hl : storeLocals Ls i.val (.long x) = some l') (k : Ends p e below s Q K N (T.setTop (mkF m q l' rest))) : Ends p e below s Q K N (T.setTop (mkF m pc Ls (.long x :: rest))) := by
  subst hq
  exact .step (fun _ t => XS.lstoreN X.here C.1 rfl (hb C.2 hd) rfl hl t) k
theorem o_lstore (C : Cx p c code) (X : Stand p l e R s m args below meth c T locs cells slots) {i : Nat} {x : Int64} (hd : decode code pc = .ok (.lstore i, 2)) (q : Nat) (hq : pc + 2 = q) (l' : Array Slot) (hl : storeLocals Ls i (.long x) = some l') (k : Ends p e below s Q K N (T.setTop (mkF m q l' rest))) : Ends p e below s Q K N (T.setTop (mkF m pc Ls (.long x :: rest))) := by
  subst hq
  exact .step (fun _ t => XS.lstore X.here C.1 rfl (hb C.2 hd) rfl hl t) k
theorem o_astoreN (C : Cx p c code) (X : Stand p l e R s m args below meth c T locs cells slots) {i : Fin 4} {x : Value} (hd : decode code pc = .ok (.astore_n i, 1)) (q : Nat) (hq : pc + 1 = q) (hv : x.isRef = true) (l' : Array Slot) (hl : storeLocals Ls i.val x = some l') (k : Ends p e below s Q K N (T.setTop (mkF m q l' rest))) : Ends p e below s Q K N (T.setTop (mkF m pc Ls (x :: rest))) := by
  subst hq
  exact .step (fun _ t => XS.astoreN X.here C.1 rfl (hb C.2 hd) rfl hv hl t) k
theorem o_astore (C : Cx p c code) (X : Stand p l e R s m args below meth c T locs cells slots) {i : Nat} {x : Value} (hd : decode code pc = .ok (.astore i, 2)) (q : Nat) (hq : pc + 2 = q) (hv : x.isRef = true) (l' : Array Slot) (hl : storeLocals Ls i x = some l') (k : Ends p e below s Q K N (T.setTop (mkF m q l' rest))) : Ends p e below s Q K N (T.setTop (mkF m pc Ls (x :: rest))) := by
  subst hq
  exact .step (fun _ t => XS.astore X.here C.1 rfl (hb C.2 hd) rfl hv hl t) k
theorem o_iinc (C : Cx p c code) (X : Stand p l e R s m args below meth c T locs cells slots) {i : Nat} {cst : Int} {x : Int32} (v : Int32) (hd : decode code pc = .ok (.iinc i cst, 3)) (q : Nat) (hq : pc + 3 = q) (l' : Array Slot) (hl : Ls[i]? = some (.val (.int x))) (hv : x + Int32.ofInt cst = v) (hl' : storeLocals Ls i (.int v) = some l') (k : Ends p e below s Q K N (T.setTop (mkF m q l' rest))) : Ends p e below s Q K N (T.setTop (mkF m pc Ls rest)) := by
  subst hq hv
  exact .step (fun _ t => XS.iinc X.here C.1 rfl (hb C.2 hd) hl hl' t) k
theorem o_goto (C : Cx p c code) (X : Stand p l e R s m args below meth c T locs cells slots) {o : Int} (hd : decode code pc = .ok (.goto o, 3)) (q : Nat) (ho : 0 ≤ (pc : Int) + o) (hq : ((pc : Int) + o).toNat = q) (k : Ends p e below s Q K N (T.setTop (mkF m q Ls rest))) : Ends p e below s Q K N (T.setTop (mkF m pc Ls rest)) := by
  exact .step (fun _ t => XS.goto X.here C.1 rfl (pc0 := pc) rfl (hb C.2 hd) ho hq t) k
theorem o_ifY (C : Cx p c code) (X : Stand p l e R s m args below meth c T locs cells slots) {cd : ClassFile.Cond} {o : Int} {x : Int32} (hd : decode code pc = .ok (.ifCond cd o, 3)) (q : Nat) (ho : 0 ≤ (pc : Int) + o) (hq : ((pc : Int) + o).toNat = q) (hc : ifCond.holds cd x = true) (k : Ends p e below s Q K N (T.setTop (mkF m q Ls rest))) : Ends p e below s Q K N (T.setTop (mkF m pc Ls (.int x :: rest))) := by
  exact .step (fun _ t => XS.ifYes X.here C.1 rfl (pc0 := pc) rfl (hb C.2 hd) rfl hc ho hq t) k
theorem o_ifN (C : Cx p c code) (X : Stand p l e R s m args below meth c T locs cells slots) {cd : ClassFile.Cond} {o : Int} {x : Int32} (hd : decode code pc = .ok (.ifCond cd o, 3)) (q : Nat) (hq : pc + 3 = q) (hc : ifCond.holds cd x = false) (k : Ends p e below s Q K N (T.setTop (mkF m q Ls rest))) : Ends p e below s Q K N (T.setTop (mkF m pc Ls (.int x :: rest))) := by
  subst hq
  exact .step (fun _ t => XS.ifNo X.here C.1 rfl (hb C.2 hd) rfl hc t) k
theorem o_icmpY (C : Cx p c code) (X : Stand p l e R s m args below meth c T locs cells slots) {cd : ClassFile.Cond} {o : Int} {x y : Int32} (hd : decode code pc = .ok (.if_icmp cd o, 3)) (q : Nat) (ho : 0 ≤ (pc : Int) + o) (hq : ((pc : Int) + o).toNat = q) (hc : if_icmp.holds cd x y = true) (k : Ends p e below s Q K N (T.setTop (mkF m q Ls rest))) : Ends p e below s Q K N (T.setTop (mkF m pc Ls (.int y :: .int x :: rest))) := by
  exact .step (fun _ t => XS.icmpYes X.here C.1 rfl (pc0 := pc) rfl (hb C.2 hd) rfl hc ho hq t) k
theorem o_icmpN (C : Cx p c code) (X : Stand p l e R s m args below meth c T locs cells slots) {cd : ClassFile.Cond} {o : Int} {x y : Int32} (hd : decode code pc = .ok (.if_icmp cd o, 3)) (q : Nat) (hq : pc + 3 = q) (hc : if_icmp.holds cd x y = false) (k : Ends p e below s Q K N (T.setTop (mkF m q Ls rest))) : Ends p e below s Q K N (T.setTop (mkF m pc Ls (.int y :: .int x :: rest))) := by
  subst hq
  exact .step (fun _ t => XS.icmpNo X.here C.1 rfl (hb C.2 hd) rfl hc t) k
theorem o_tlt {x y : Int64} (h : x < y) : ifCond.holds .lt (cmpL x y) = true ∧ ifCond.holds .ge (cmpL x y) = false := by
  have := (lw_lt x y).mpr h
  simp only [if0]; exact ⟨(tlt this).1, (tlt this).2.1⟩
theorem o_flt {x y : Int64} (h : ¬ x < y) : ifCond.holds .lt (cmpL x y) = false ∧ ifCond.holds .ge (cmpL x y) = true := by
  have := fun q => h ((lw_lt x y).mp q)
  simp only [if0]; exact ⟨(flt this).1, (flt this).2.1⟩
theorem o_tgt {x y : Int64} (h : y < x) : ifCond.holds .gt (cmpL x y) = true ∧ ifCond.holds .le (cmpL x y) = false := by
  have := (lw_gt x y).mpr h
  simp only [if0]; exact ⟨(tlt this).2.2.1, (tlt this).2.2.2⟩
theorem o_fgt {x y : Int64} (h : ¬ y < x) : ifCond.holds .gt (cmpL x y) = false ∧ ifCond.holds .le (cmpL x y) = true := by
  have := fun q => h ((lw_gt x y).mp q)
  simp only [if0]; exact ⟨(flt this).2.2.1, (flt this).2.2.2⟩
theorem o_teq {x y : Int64} (h : x = y) : ifCond.holds .eq (cmpL x y) = true ∧ ifCond.holds .ne (cmpL x y) = false := by
  have := (lw_eq x y).mpr h
  simp only [if0]; exact ⟨(teq this).1, (teq this).2⟩
theorem o_feq {x y : Int64} (h : ¬ x = y) : ifCond.holds .eq (cmpL x y) = false ∧ ifCond.holds .ne (cmpL x y) = true := by
  have := fun q => h ((lw_eq x y).mp q)
  simp only [if0]; exact ⟨(feq this).1, (feq this).2⟩
theorem o_ldcI (C : Cx p c code) (X : Stand p l e R s m args below meth c T locs cells slots) (hZ : Z.Warmed39 s.vm) {own : String} {index : Nat} {v : Int32} (hown : s.vm.findClass own = some m.cls) (w : (Jvm.Cond.constant own index v).before a0 Z = true) (hd : decode code pc = .ok (.ldc index, 2)) (q : Nat) (hq : pc + 2 = q) (k : Ends p e below s Q K N (T.setTop (mkF m q Ls (.int v :: rest)))) : Ends p e below s Q K N (T.setTop (mkF m pc Ls rest)) := by
  subst hq
  exact .step (fun _ t => X.ldcI C.1 hown (mvT hZ w) (g := mkF m pc Ls rest) rfl (hb C.2 hd) t) k
theorem o_ldc2J (C : Cx p c code) (X : Stand p l e R s m args below meth c T locs cells slots) (hZ : Z.Warmed39 s.vm) {own : String} {index : Nat} {v : Int64} (hown : s.vm.findClass own = some m.cls) (w : (Jvm.Cond.constantLong own index v).before a0 Z = true) (hd : decode code pc = .ok (.ldc2_w index, 3)) (q : Nat) (hq : pc + 3 = q) (k : Ends p e below s Q K N (T.setTop (mkF m q Ls (.long v :: rest)))) : Ends p e below s Q K N (T.setTop (mkF m pc Ls rest)) := by
  subst hq
  exact .step (fun _ t => X.ldc2J C.1 hown (mvT hZ w) (g := mkF m pc Ls rest) rfl (hb C.2 hd) t) k
theorem o_retI (C : Cx p c code) (X : Stand p l e R s m args below meth c T locs cells slots) {z : Int32} (hret : meth.sig.returnType = some .int) (hlk : meth.locks = false) (hd : decode code pc = .ok (.ireturn, 1)) (hQ : Q (some (.int z)) T.heap locs) (hK : cells ≤ K) (hN : slots ≤ N) : Ends p e below s Q K N (T.setTop (mkF m pc Ls (.int z :: rest))) := by
  obtain ⟨fs, hr, hrun, hended, hW, hsame⟩ := X.leave (v := (some (.int z))) (fun h => by rw [hret] at h; cases h) hlk
  exact ⟨_, _, retOut X C.1 hret rfl (Or.inl ⟨rfl, Or.inl rfl, z, rfl⟩) (hb C.2 hd) hr, hrun, hended, _, _, rfl, hQ, ⟨_, rfl⟩, hW, hsame.mono hK hN⟩
theorem o_retN (C : Cx p c code) (X : Stand p l e R s m args below meth c T locs cells slots) {z : Int32} {t : FieldType} (hret : meth.sig.returnType = some t) (ht : t = .boolean ∨ t = .byte ∨ t = .char ∨ t = .short) (hlk : meth.locks = false) (hd : decode code pc = .ok (.ireturn, 1)) (hQ : Q (some (.int (nar t z))) T.heap locs) (hK : cells ≤ K) (hN : slots ≤ N) : Ends p e below s Q K N (T.setTop (mkF m pc Ls (.int z :: rest))) := by
  obtain ⟨fs, hr, hrun, hended, hW, hsame⟩ := X.leave (v := (some (.int (nar t z)))) (fun h => by rw [hret] at h; cases h) hlk
  exact ⟨_, _, retN X C.1 hret ht (hb C.2 hd) hr, hrun, hended, _, _, rfl, hQ, ⟨_, rfl⟩, hW, hsame.mono hK hN⟩
theorem o_retJ (C : Cx p c code) (X : Stand p l e R s m args below meth c T locs cells slots) {z : Int64} (hret : meth.sig.returnType = some .long) (hlk : meth.locks = false) (hd : decode code pc = .ok (.lreturn, 1)) (hQ : Q (some (.long z)) T.heap locs) (hK : cells ≤ K) (hN : slots ≤ N) : Ends p e below s Q K N (T.setTop (mkF m pc Ls (.long z :: rest))) := by
  obtain ⟨fs, hr, hrun, hended, hW, hsame⟩ := X.leave (v := (some (.long z))) (fun h => by rw [hret] at h; cases h) hlk
  exact ⟨_, _, retOut X C.1 hret rfl (Or.inr (Or.inl ⟨rfl, rfl, z, rfl⟩)) (hb C.2 hd) hr, hrun, hended, _, _, rfl, hQ, ⟨_, rfl⟩, hW, hsame.mono hK hN⟩
theorem o_retA (C : Cx p c code) (X : Stand p l e R s m args below meth c T locs cells slots) {z : Addr} {t : FieldType} (hret : meth.sig.returnType = some t) (ht : t.isReference = true) (hlk : meth.locks = false) (hd : decode code pc = .ok (.areturn, 1)) (hQ : Q (some (.ref z)) T.heap locs) (hK : cells ≤ K) (hN : slots ≤ N) : Ends p e below s Q K N (T.setTop (mkF m pc Ls (.ref z :: []))) := by
  obtain ⟨fs, hr, hrun, hended, hW, hsame⟩ := X.leave (v := (some (.ref z))) (fun h => by rw [hret] at h; cases h) hlk
  exact ⟨_, _, X.areturnOut C.1 rfl hret ht (hb C.2 hd) hr, hrun, hended, _, _, rfl, hQ, ⟨_, rfl⟩, hW, hsame.mono hK hN⟩
theorem o_ret (C : Cx p c code) (X : Stand p l e R s m args below meth c T locs cells slots) (hret : meth.sig.returnType = none) (hlk : meth.locks = false) (hd : decode code pc = .ok (.return_, 1)) (hQ : Q none T.heap locs) (hK : cells ≤ K) (hN : slots ≤ N) : Ends p e below s Q K N (T.setTop (mkF m pc Ls [])) := by
  obtain ⟨fs, hr, hrun, hended, hW, hsame⟩ := X.leave (v := none) (fun _ => rfl) hlk
  exact ⟨_, _, X.returnOut C.1 hret (hb C.2 hd) hr, hrun, hended, _, _, rfl, hQ, ⟨_, rfl⟩, hW, hsame.mono hK hN⟩
theorem o_callS (C : Cx p c code) (X : Stand p l e R s m args below meth c T locs cells slots) (hZ : Z.Warmed39 s.vm) (hml : c.maxLocals = Ls.size) {own : String} {index : Nat} {y : MethodName} {bytes : ByteArray} {maxL : Nat} {ret : Option FieldType} {rm : Room} {Qc : Option Value → Heap → List Loc → Prop} (hown : s.vm.findClass own = some m.cls)
    (w1 : (Jvm.Cond.methodLink own index y).before a0 Z = true) (w2 : (Jvm.Cond.static y).before a0 Z = true) (w3 : (Jvm.Cond.initialized y.cls).before a0 Z = true) (w4 : (Jvm.Cond.code y bytes maxL ret).before a0 Z = true) (hy : y.cls ≠ "java/lang/invoke/MethodHandle" ∧ y.cls ≠ "java/lang/invoke/VarHandle")
    {asL st : List Value} (hM : Con l Z y bytes maxL ret rm rm.cells rm.slots [] asL.toArray h Qc) (eT : T.heap = h) {ps : List FieldType} {rt : Option FieldType} (pd : parseMethodDescriptor y.desc = some ⟨ps, rt⟩) (hlen : asL.length = ps.length) (hst : st = asL.reverse ++ rest) (W : Nat) (hW : (rest.map fun v => v.category).sum ≤ W) (hf : rm.frames + 1 ≤ R.frames) (hl : W + (maxL + 11) + rm.locals ≤ R.locals) (hcl : cells + rm.cells ≤ R.cells) (hsl : slots + rm.slots ≤ R.slots)
    (hd : decode code pc = .ok (.invokestatic index, 3)) (q : Nat) (hq : pc + 3 = q) (k : ∀ (T' : State) (h' : Heap) (v : Option Value) (L : List Loc), Stand p l e R s m args below meth c T' (locs ++ L) (cells + rm.cells) (slots + rm.slots) → T'.heap = h' → Qc v h' L → Ends p e below s Q K N (T'.setTop (mkF m q Ls (v.toList ++ rest)))) : Ends p e below s Q K N (T.setTop (mkF m pc Ls st)) := by
  subst hq hst
  obtain ⟨v, _, ⟨T', L', k', n'⟩, -, X', ⟨Lc, hQ, rfl, rfl, rfl⟩, st⟩ := Jvm.LawKit.callS X C.1 (y := y) hown (mvT hZ w1) (mvT hZ w2) (mvT hZ w3) (mvT hZ w4) hy (backOf (W := W) hM hZ w4 w3 hf hl) (g := mkF m pc Ls (asL.reverse ++ rest)) rfl hml.symm (argsL := asL) (rest := rest) (lenOf pd hlen) rfl (by show 2 * 0 + _ ≤ _; omega) (hb C.2 hd) (fun _ _ => ⟨rfl, eT, hcl, hsl⟩)
  exact .step st (k T' _ v Lc X' rfl hQ)
theorem o_callI (C : Cx p c code) (X : Stand p l e R s m args below meth c T locs cells slots) (hZ : Z.Warmed39 s.vm) (hml : c.maxLocals = Ls.size) {own : String} {index : Nat} {y : MethodName} {bytes : ByteArray} {maxL : Nat} {rm : Room} {Qc : Option Value → Heap → List Loc → Prop} (hown : s.vm.findClass own = some m.cls) (hy1 : y.name = "<init>")
    (w1 : (Jvm.Cond.methodLink own index y).before a0 Z = true) (w2 : (Jvm.Cond.instanceMethod y).before a0 Z = true) (w3 : (Jvm.Cond.initialized y.cls).before a0 Z = true) (w4 : (Jvm.Cond.code y bytes maxL none).before a0 Z = true) (hy : y.cls ≠ "java/lang/invoke/MethodHandle" ∧ y.cls ≠ "java/lang/invoke/VarHandle")
    {asL st : List Value} {a : Addr} (hM : Con l Z y bytes maxL none rm rm.cells rm.slots [] (.ref a :: asL).toArray h Qc) (eT : T.heap = h) {ps : List FieldType} {rt : Option FieldType} (pd : parseMethodDescriptor y.desc = some ⟨ps, rt⟩) (hlen : asL.length = ps.length) (hst : st = asL.reverse ++ .ref a :: rest) (W : Nat) (hW : (rest.map fun v => v.category).sum ≤ W) (hf : rm.frames + 1 ≤ R.frames) (hl : W + (maxL + 11) + rm.locals ≤ R.locals) (hcl : cells + rm.cells ≤ R.cells) (hsl : slots + rm.slots ≤ R.slots)
    (hd : decode code pc = .ok (.invokespecial index, 3)) (q : Nat) (hq : pc + 3 = q) (k : ∀ (T' : State) (h' : Heap) (v : Option Value) (L : List Loc), Stand p l e R s m args below meth c T' (locs ++ L) (cells + rm.cells) (slots + rm.slots) → T'.heap = h' → Qc v h' L → Ends p e below s Q K N (T'.setTop (mkF m q Ls (v.toList ++ rest)))) : Ends p e below s Q K N (T.setTop (mkF m pc Ls st)) := by
  subst hq hst
  obtain ⟨v, _, ⟨T', L', k', n'⟩, -, X', ⟨Lc, hQ, rfl, rfl, rfl⟩, st⟩ := X.specialBack C.1 (y := y) hy1 hown (mvT hZ w1) (mvT hZ w2) (mvT hZ w4) hy (backOf (W := W) hM hZ w4 w3 hf hl) (g := mkF m pc Ls (asL.reverse ++ .ref a :: rest)) rfl hml.symm (Steps.refl _) (a := a) (argsL := asL) (rest := rest) (lenOf pd hlen) rfl (by show 2 * 0 + _ ≤ _; omega) (hb C.2 hd) (fun _ _ => ⟨rfl, eT, hcl, hsl⟩)
  exact .step (fun _ t => st.trans t) (k T' _ v Lc X' rfl hQ)
theorem o_callV (C : Cx p c code) (X : Stand p l e R s m args below meth c T locs cells slots) (hZ : Z.Warmed39 s.vm) (hml : c.maxLocals = Ls.size) {own : String} {index : Nat} {y : MethodName} {bytes : ByteArray} {maxL : Nat} {ret : Option FieldType} {rm : Room} {Qc : Option Value → Heap → List Loc → Prop} (hown : s.vm.findClass own = some m.cls)
    (w1 : (Jvm.Cond.methodLink own index y).before a0 Z = true) (w2 : (Jvm.Cond.declares y).before a0 Z = true) (w5 : (Jvm.Cond.selects y.cls y y).before a0 Z = true) (w6 : (Jvm.Cond.instanceMethod y).before a0 Z = true) (w3 : (Jvm.Cond.initialized y.cls).before a0 Z = true) (w4 : (Jvm.Cond.code y bytes maxL ret).before a0 Z = true) (hy : y.cls ≠ "java/lang/invoke/MethodHandle" ∧ y.cls ≠ "java/lang/invoke/VarHandle")
    {asL st : List Value} {a : Addr} (hM : Con l Z y bytes maxL ret rm rm.cells rm.slots [] (.ref a :: asL).toArray h Qc) (eT : T.heap = h) (E : Exa Z h a y.cls) {ps : List FieldType} {rt : Option FieldType} (pd : parseMethodDescriptor y.desc = some ⟨ps, rt⟩) (hlen : asL.length = ps.length) (hst : st = asL.reverse ++ .ref a :: rest) (W : Nat) (hW : (rest.map fun v => v.category).sum ≤ W) (hf : rm.frames + 1 ≤ R.frames) (hl : W + (maxL + 11) + rm.locals ≤ R.locals) (hcl : cells + rm.cells ≤ R.cells) (hsl : slots + rm.slots ≤ R.slots)
    (hd : decode code pc = .ok (.invokevirtual index, 3)) (q : Nat) (hq : pc + 3 = q) (k : ∀ (T' : State) (h' : Heap) (v : Option Value) (L : List Loc), Stand p l e R s m args below meth c T' (locs ++ L) (cells + rm.cells) (slots + rm.slots) → T'.heap = h' → Qc v h' L → Ends p e below s Q K N (T'.setTop (mkF m q Ls (v.toList ++ rest)))) : Ends p e below s Q K N (T.setTop (mkF m pc Ls st)) := by
  subst hq hst
  obtain ⟨cq, kq, qa, qb, qc⟩ := isOf hZ eT E
  obtain ⟨v, _, ⟨T', L', k', n'⟩, -, X', ⟨Lc, hQ, rfl, rfl, rfl⟩, st⟩ := X.virtualBack C.1 (y := y) (z := y) hown (mvT hZ w1) (mvT hZ w2) (notFace_of_selects (args := #[]) (mvT hZ w5)) (mvT hZ w5) (mvT hZ w6) hy (backOf (W := W) hM hZ w4 w3 hf hl) qa qc (g := mkF m pc Ls (asL.reverse ++ .ref a :: rest)) rfl hml.symm (Steps.refl _) (argsL := asL) (rest := rest) (lenOf pd hlen) rfl (by show 2 * 0 + _ ≤ _; omega) (hb C.2 hd) (fun _ _ => ⟨rfl, eT, hcl, hsl⟩)
  exact .step (fun _ t => st.trans t) (k T' _ v Lc X' rfl hQ)
theorem Ends.via {T0 : State} (F : JFrame) (k1 : Ends p e below s Q K N (T.setTop F) → Ends p e below s Q K N T0) (k2 : Ends p e below s Q K N (T.setTop F)) : Ends p e below s Q K N T0 := k1 k2
/-- what a callee that writes and makes nothing says: its value, the heap as it was -/
def PQ (v0 : Value) (h : Heap) : Option Value → Heap → List Loc → Prop := fun v h' L => v = some v0 ∧ L = [] ∧ h' = h
theorem o_callP (C : Cx p c code) (X : Stand p l e R s m args below meth c T locs cells slots) (hZ : Z.Warmed39 s.vm) (hml : c.maxLocals = Ls.size) {own : String} {index : Nat} {y : MethodName} {bytes : ByteArray} {maxL : Nat} {ret : Option FieldType} {rf rl : Nat} {v0 : Value} (hown : s.vm.findClass own = some m.cls)
    (w1 : (Jvm.Cond.methodLink own index y).before a0 Z = true) (w2 : (Jvm.Cond.static y).before a0 Z = true) (w3 : (Jvm.Cond.initialized y.cls).before a0 Z = true) (w4 : (Jvm.Cond.code y bytes maxL ret).before a0 Z = true) (hy : y.cls ≠ "java/lang/invoke/MethodHandle" ∧ y.cls ≠ "java/lang/invoke/VarHandle")
    {asL st : List Value} (hM : Con l Z y bytes maxL ret { frames := rf, cells := 0, slots := 0, locals := rl } 0 0 [] asL.toArray h (PQ v0 h)) (eT : T.heap = h) {ps : List FieldType} {rt : Option FieldType} (pd : parseMethodDescriptor y.desc = some ⟨ps, rt⟩) (hlen : asL.length = ps.length) (hst : st = asL.reverse ++ rest) (W : Nat) (hW : (rest.map fun v => v.category).sum ≤ W) (hf : rf + 1 ≤ R.frames) (hl : W + (maxL + 11) + rl ≤ R.locals) (hcl : cells ≤ R.cells) (hsl : slots ≤ R.slots)
    (hd : decode code pc = .ok (.invokestatic index, 3)) (q : Nat) (hq : pc + 3 = q) (k : ∀ (T' : State), Stand p l e R s m args below meth c T' locs cells slots → T'.heap = h → Ends p e below s Q K N (T'.setTop (mkF m q Ls (v0 :: rest)))) : Ends p e below s Q K N (T.setTop (mkF m pc Ls st)) := by
  refine o_callS C X hZ hml hown w1 w2 w3 w4 hy (rm := { frames := rf, cells := 0, slots := 0, locals := rl }) hM eT pd hlen hst W hW hf hl hcl hsl hd q hq ?_
  intro T' h' v L X' e' hq
  obtain ⟨rfl, rfl, hh⟩ := hq
  rw [List.append_nil] at X'
  exact k T' X' (e'.trans hh)
theorem o_callVP (C : Cx p c code) (X : Stand p l e R s m args below meth c T locs cells slots) (hZ : Z.Warmed39 s.vm) (hml : c.maxLocals = Ls.size) {own : String} {index : Nat} {y : MethodName} {bytes : ByteArray} {maxL : Nat} {ret : Option FieldType} {rf rl : Nat} {v0 : Value} (hown : s.vm.findClass own = some m.cls)
    (w1 : (Jvm.Cond.methodLink own index y).before a0 Z = true) (w2 : (Jvm.Cond.declares y).before a0 Z = true) (w5 : (Jvm.Cond.selects y.cls y y).before a0 Z = true) (w6 : (Jvm.Cond.instanceMethod y).before a0 Z = true) (w3 : (Jvm.Cond.initialized y.cls).before a0 Z = true) (w4 : (Jvm.Cond.code y bytes maxL ret).before a0 Z = true) (hy : y.cls ≠ "java/lang/invoke/MethodHandle" ∧ y.cls ≠ "java/lang/invoke/VarHandle")
    {asL st : List Value} {a : Addr} (hM : Con l Z y bytes maxL ret { frames := rf, cells := 0, slots := 0, locals := rl } 0 0 [] (.ref a :: asL).toArray h (PQ v0 h)) (eT : T.heap = h) (E : Exa Z h a y.cls) {ps : List FieldType} {rt : Option FieldType} (pd : parseMethodDescriptor y.desc = some ⟨ps, rt⟩) (hlen : asL.length = ps.length) (hst : st = asL.reverse ++ .ref a :: rest) (W : Nat) (hW : (rest.map fun v => v.category).sum ≤ W) (hf : rf + 1 ≤ R.frames) (hl : W + (maxL + 11) + rl ≤ R.locals) (hcl : cells ≤ R.cells) (hsl : slots ≤ R.slots)
    (hd : decode code pc = .ok (.invokevirtual index, 3)) (q : Nat) (hq : pc + 3 = q) (k : ∀ (T' : State), Stand p l e R s m args below meth c T' locs cells slots → T'.heap = h → Ends p e below s Q K N (T'.setTop (mkF m q Ls (v0 :: rest)))) : Ends p e below s Q K N (T.setTop (mkF m pc Ls st)) := by
  refine o_callV C X hZ hml hown w1 w2 w5 w6 w3 w4 hy (rm := { frames := rf, cells := 0, slots := 0, locals := rl }) hM eT E pd hlen hst W hW hf hl hcl hsl hd q hq ?_
  intro T' h' v L X' e' hq
  obtain ⟨rfl, rfl, hh⟩ := hq
  rw [List.append_nil] at X'
  exact k T' X' (e'.trans hh)
theorem o_new (C : Cx p c code) (X : Stand p l e R s m args below meth c T locs cells slots) (hZ : Z.Warmed39 s.vm) {own Cn : String} {index n : Nat} (hown : s.vm.findClass own = some m.cls) (w : (Jvm.Cond.classLink own index Cn).before a0 Z = true) (wi : (Jvm.Cond.instantiable Cn n).before a0 Z = true) (wz : (Jvm.Cond.initialized Cn).before a0 Z = true) (eT : T.heap = h) (hd : decode code pc = .ok (.new index, 3)) (hc : cells + 1 ≤ R.cells) (hl : slots + n ≤ R.slots) (q : Nat) (hq : pc + 3 = q)
    (k : ∀ (T' : State) (h' : Heap) (a : Addr), a = h.size → Stand p l e R s m args below meth c T' locs (cells + 1) (slots + n) → T'.heap = h' → Ext h h' → Exa Z h' a Cn → (∀ {O nm d : String} {ty : FieldType}, Laid Z a0 Cn O nm d → parseFieldDescriptor d = some ty → Fld Z h' a O nm d (defaultValue ty)) → Ends p e below s Q K N (T'.setTop (mkF m q Ls (.ref a :: rest)))) : Ends p e below s Q K N (T.setTop (mkF m pc Ls rest)) := by
  subst hq
  obtain ⟨T', h', X', e', E, A, D, -, st⟩ := newO X C.1 hZ hown w wi wz eT (g := mkF m pc Ls rest) rfl (hb C.2 hd) hc hl
  exact .step st (k T' h' _ rfl X' e' E A D)
theorem o_getF (C : Cx p c code) (X : Stand p l e R s m args below meth c T locs cells slots) (hZ : Z.Warmed39 s.vm) {own R0 O n d : String} {index : Nat} (hown : s.vm.findClass own = some m.cls) (w : (Jvm.Cond.fieldLink own index R0 n d).before a0 Z = true) (via : Via Z R0 O n d) (eT : T.heap = h) {a : Addr} {v : Value} (F : Fld Z h a O n d v) (hd : decode code pc = .ok (.getfield index, 3)) (q : Nat) (hq : pc + 3 = q)
    (k : ∀ (T' : State), Stand p l e R s m args below meth c T' locs cells slots → T'.heap = h → Ends p e below s Q K N (T'.setTop (mkF m q Ls (v :: rest)))) : Ends p e below s Q K N (T.setTop (mkF m pc Ls (.ref a :: rest))) := by
  subst hq
  obtain ⟨T', X', e', st⟩ := getF X C.1 hZ hown (host := "") (Or.inl w) via eT F (g := mkF m pc Ls (.ref a :: rest)) rfl rfl (hb C.2 hd)
  exact .step st (k T' X' e')
theorem o_putF (C : Cx p c code) (X : Stand p l e R s m args below meth c T locs cells slots) (hZ : Z.Warmed39 s.vm) {own R0 O n d Cn : String} {index kk : Nat} {ty : FieldType} (hown : s.vm.findClass own = some m.cls) (w : (Jvm.Cond.fieldLink own index R0 n d).before a0 Z = true) (via : Via Z R0 O n d) (eT : T.heap = h) {a : Addr} {v old : Value} (F : Fld Z h a O n d old) (E : Exa Z h a Cn) (L : (Jvm.Cond.lays Cn O n d).before a0 Z = true ∨ ((Jvm.Cond.laysFinal Cn O n d).before a0 Z = true ∧ own = O ∧ meth.name = "<init>")) (wi : (Jvm.Cond.instantiable Cn kk).before a0 Z = true) (hty : parseFieldDescriptor d = some ty) (hn : narrow ty v = v) (hf : fits ty v = true) (hd : decode code pc = .ok (.putfield index, 3)) (q : Nat) (hq : pc + 3 = q) {n0 : Nat} (N0 : Fr n0 locs) (ha : n0 ≤ a)
    (k : ∀ (T' : State) (h' : Heap) (locs' : List Loc), Stand p l e R s m args below meth c T' locs' cells slots → T'.heap = h' → Wr h h' a (Jvm.RoadKit.slotOf Z O n d) v → Fr n0 locs' → Ends p e below s Q K N (T'.setTop (mkF m q Ls rest))) : Ends p e below s Q K N (T.setTop (mkF m pc Ls (v :: .ref a :: rest))) := by
  subst hq
  obtain ⟨T', h', X', e', W, st⟩ := putF X C.1 hZ hown (host := "") (Or.inl w) via eT F E L wi hty hn hf (g := mkF m pc Ls (v :: .ref a :: rest)) rfl rfl (hb C.2 hd)
  exact .step st (k T' h' _ X' e' W (Fr.snoc X' N0 ha))
/-- the array at a has n places; the place j holds the int f j -/
def AI (Z : State) (h : Heap) (a : Addr) (ty : FieldType) (n : Nat) (f : Nat → Int32) : Prop := ∃ cl : Cell, Arr Z h a cl ty ∧ cl.slots.size = n ∧ n < 2 ^ 31 ∧ ∀ j, j < n → cl.slots[j]? = some (.int (f j))
theorem AI.lt {a : Addr} {ty : FieldType} {n : Nat} {f : Nat → Int32} (A : AI Z h a ty n f) : a < h.size := by
  obtain ⟨cl, A, -⟩ := A; exact A.lt
theorem AI.ext {h' : Heap} {a : Addr} {ty : FieldType} {n : Nat} {f : Nat → Int32} (A : AI Z h a ty n f) (E : Ext h h') : AI Z h' a ty n f := by
  obtain ⟨cl, A, B⟩ := A; exact ⟨cl, A.ext E, B⟩
theorem AI.other {h' : Heap} {a b : Addr} {ty : FieldType} {n sl : Nat} {v : Value} {f : Nat → Int32} (A : AI Z h b ty n f) (W : Wr h h' a sl v) (q : b ≠ a) : AI Z h' b ty n f := by
  obtain ⟨cl, A, B⟩ := A; exact ⟨cl, A.other W q, B⟩
theorem AI.keep {h' : Heap} {a : Addr} {ty : FieldType} {n : Nat} {f : Nat → Int32} {ws : List Addr} (A : AI Z h a ty n f) (k : Keep h h' ws) (q : a ∉ ws) : AI Z h' a ty n f := by
  obtain ⟨cl, ⟨A1, A2⟩, B⟩ := A; exact ⟨cl, ⟨k.2.1 _ _ A1 q, A2⟩, B⟩
theorem AI.wr {h' : Heap} {a : Addr} {ty : FieldType} {n i : Nat} {v : Int32} {f : Nat → Int32} (A : AI Z h a ty n f) (W : Wr h h' a i (.int v)) (hi : i < n) : AI Z h' a ty n (fun j => if j = i then v else f j) := by
  obtain ⟨cl, A, S, M, B⟩ := A
  refine ⟨_, A.same W, by rw [sz_set]; exact S, M, fun j hj => ?_⟩
  show (cl.slots.setIfInBounds i (.int v))[j]? = _
  rw [Array.getElem?_setIfInBounds]
  by_cases q : i = j
  · subst q; rw [if_pos rfl, if_pos (by rw [S]; exact hi)]; dsimp only; rw [if_pos rfl]
  · rw [if_neg q, B j hj]; dsimp only; rw [if_neg (fun r => q r.symm)]
theorem AI.congr {a : Addr} {ty : FieldType} {n : Nat} {f g : Nat → Int32} (A : AI Z h a ty n f) (q : ∀ j, j < n → f j = g j) : AI Z h a ty n g := by
  obtain ⟨cl, A, S, M, B⟩ := A
  exact ⟨cl, A, S, M, fun j hj => by rw [B j hj, q j hj]⟩
theorem AI.ne {a b : Addr} {ty : FieldType} {n : Nat} {f : Nat → Int32} (A : AI Z h a ty n f) (q : b = h.size) : a ≠ b := fun r => by
  have := A.lt; rw [r, q] at this; exact Nat.lt_irrefl _ this
theorem own_idx {m : Nat} {j : Int32} {i n : Nat} (hj : j.toInt = i) (hi : i < n) (S : m = n) : ¬ (j < 0 ∨ m ≤ j.toNatClampNeg) ∧ j.toNatClampNeg = i := by
  have e1 : j.toNatClampNeg = i := by rw [Int32.toNatClampNeg, hj]; rfl
  refine ⟨?_, e1⟩
  rw [e1, S, Int32.lt_iff_toInt_lt, hj, show (0 : Int32).toInt = 0 from rfl]
  omega
theorem o_iaload (C : Cx p c code) (X : Stand p l e R s m args below meth c T locs cells slots) (hZ : Z.Warmed39 s.vm) (eT : T.heap = h) {a : Addr} {n : Nat} {f : Nat → Int32} (A : AI Z h a .int n f) {j : Int32} (i : Nat) (hj : j.toInt = i) (hi : i < n) (hd : decode code pc = .ok (.iaload, 1)) (q : Nat) (hq : pc + 1 = q) (k : Ends p e below s Q K N (T.setTop (mkF m q Ls (.int (f i) :: rest)))) : Ends p e below s Q K N (T.setTop (mkF m pc Ls (.int j :: .ref a :: rest))) := by
  subst hq
  obtain ⟨cl, A, S, M, B⟩ := A
  obtain ⟨q1, q2⟩ := own_idx hj hi S
  exact .step (fun t kt => X.iaload C.1 (j := j) (v := .int (f i)) (by rw [eT]; exact A.1) (State.isArrayOf_alike hZ.alike A.2.1) A.2.2 q1 (by rw [q2]; exact B i hi) (g := mkF m pc Ls (.int j :: .ref a :: rest)) rfl rfl (hb C.2 hd) t kt) k
theorem o_baload (C : Cx p c code) (X : Stand p l e R s m args below meth c T locs cells slots) (hZ : Z.Warmed39 s.vm) (eT : T.heap = h) {a : Addr} {n : Nat} {f : Nat → Int32} (A : AI Z h a .byte n f) {j : Int32} (i : Nat) (hj : j.toInt = i) (hi : i < n) (hd : decode code pc = .ok (.baload, 1)) (q : Nat) (hq : pc + 1 = q) (k : Ends p e below s Q K N (T.setTop (mkF m q Ls (.int (f i) :: rest)))) : Ends p e below s Q K N (T.setTop (mkF m pc Ls (.int j :: .ref a :: rest))) := by
  subst hq
  obtain ⟨cl, A, S, M, B⟩ := A
  obtain ⟨q1, q2⟩ := own_idx hj hi S
  exact .step (fun t kt => X.baloadBytes C.1 (j := j) (v := .int (f i)) (by rw [eT]; exact A.1) (State.isArrayOf_alike hZ.alike A.2.1) A.2.2 q1 (by rw [q2]; exact B i hi) (g := mkF m pc Ls (.int j :: .ref a :: rest)) rfl rfl (hb C.2 hd) t kt) k
theorem o_arraylength (C : Cx p c code) (X : Stand p l e R s m args below meth c T locs cells slots) (hZ : Z.Warmed39 s.vm) (eT : T.heap = h) {a : Addr} {ty : FieldType} {n : Nat} {f : Nat → Int32} (A : AI Z h a ty n f) (v : Int32) (hv : n.toInt32 = v) (hd : decode code pc = .ok (.arraylength, 1)) (q : Nat) (hq : pc + 1 = q) (k : Ends p e below s Q K N (T.setTop (mkF m q Ls (.int v :: rest)))) : Ends p e below s Q K N (T.setTop (mkF m pc Ls (.ref a :: rest))) := by
  subst hq hv
  obtain ⟨cl, A, rfl, M, B⟩ := A
  exact .step (fun t kt => X.arraylength C.1 (by rw [eT]; exact A.1) (State.isArrayOf_alike hZ.alike A.2.1) (g := mkF m pc Ls (.ref a :: rest)) rfl (rest := rest) rfl (hb C.2 hd) t kt) k
theorem o_iastore (C : Cx p c code) (X : Stand p l e R s m args below meth c T locs cells slots) (hZ : Z.Warmed39 s.vm) (eT : T.heap = h) {a : Addr} {n : Nat} {f : Nat → Int32} (A : AI Z h a .int n f) {j x : Int32} (i : Nat) (hj : j.toInt = i) (hi : i < n) (hd : decode code pc = .ok (.iastore, 1)) (q : Nat) (hq : pc + 1 = q) {n0 : Nat} (N0 : Fr n0 locs) (ha : n0 ≤ a)
    (k : ∀ (T' : State) (h' : Heap) (locs' : List Loc), Stand p l e R s m args below meth c T' locs' cells slots → T'.heap = h' → Wr h h' a i (.int x) → Fr n0 locs' → AI Z h' a .int n (fun j => if j = i then x else f j) → Ends p e below s Q K N (T'.setTop (mkF m q Ls rest))) : Ends p e below s Q K N (T.setTop (mkF m pc Ls (.int x :: .int j :: .ref a :: rest))) := by
  subst hq
  obtain ⟨cl, A', S, M, B⟩ := A
  obtain ⟨q1, q2⟩ := own_idx hj hi S
  obtain ⟨T', h', X', e', W, st⟩ := stI X C.1 hZ eT A' (j := j) (x := x) q1 (g := mkF m pc Ls (.int x :: .int j :: .ref a :: rest)) rfl rfl (hb C.2 hd)
  rw [q2] at W
  exact .step st (k T' h' _ X' e' W (Fr.snoc X' N0 ha) (AI.wr ⟨cl, A', S, M, B⟩ W hi))
theorem o_bastore (C : Cx p c code) (X : Stand p l e R s m args below meth c T locs cells slots) (hZ : Z.Warmed39 s.vm) (eT : T.heap = h) {a : Addr} {n : Nat} {f : Nat → Int32} (A : AI Z h a .byte n f) {j x : Int32} (i : Nat) (hj : j.toInt = i) (hi : i < n) (hd : decode code pc = .ok (.bastore, 1)) (q : Nat) (hq : pc + 1 = q) {n0 : Nat} (N0 : Fr n0 locs) (ha : n0 ≤ a)
    (k : ∀ (T' : State) (h' : Heap) (locs' : List Loc), Stand p l e R s m args below meth c T' locs' cells slots → T'.heap = h' → Wr h h' a i (.int (nar .byte x)) → Fr n0 locs' → AI Z h' a .byte n (fun j => if j = i then (nar .byte x) else f j) → Ends p e below s Q K N (T'.setTop (mkF m q Ls rest))) : Ends p e below s Q K N (T.setTop (mkF m pc Ls (.int x :: .int j :: .ref a :: rest))) := by
  subst hq
  obtain ⟨cl, A', S, M, B⟩ := A
  obtain ⟨q1, q2⟩ := own_idx hj hi S
  obtain ⟨T', h', X', e', W, st⟩ := stB X C.1 hZ eT A' (j := j) (x := x) q1 (g := mkF m pc Ls (.int x :: .int j :: .ref a :: rest)) rfl rfl (hb C.2 hd)
  rw [q2] at W
  exact .step st (k T' h' _ X' e' W (Fr.snoc X' N0 ha) (AI.wr ⟨cl, A', S, M, B⟩ W hi))
theorem o_newarrayI (C : Cx p c code) (X : Stand p l e R s m args below meth c T locs cells slots) (hZ : Z.Warmed39 s.vm) (w : (Jvm.Cond.arrayClass .int).before a0 Z = true) (eT : T.heap = h) {z : Int32} (n : Nat) (hz : z.toInt = n) (cap : Nat) (hcap : n ≤ cap) (hb8 : cap * 8 ≤ 536870912) (hc : cells + 1 ≤ R.cells) (hl : slots + cap ≤ R.slots) (hd : decode code pc = .ok (.newarray .int, 2)) (q : Nat) (hq : pc + 2 = q)
    (k : ∀ (T' : State) (h' : Heap) (a : Addr), a = h.size → Stand p l e R s m args below meth c T' locs (cells + 1) (slots + cap) → T'.heap = h' → Ext h h' → AI Z h' a .int n (fun _ => 0) → Ends p e below s Q K N (T'.setTop (mkF m q Ls (.ref a :: rest)))) : Ends p e below s Q K N (T.setTop (mkF m pc Ls (.int z :: rest))) := by
  subst hq
  have hn : ¬ z < 0 := by rw [Int32.lt_iff_toInt_lt, hz, show (0 : Int32).toInt = 0 from rfl]; omega
  have e1 : z.toNatClampNeg = n := by rw [Int32.toNatClampNeg, hz]; rfl
  have hr := Int32.toInt_lt z
  obtain ⟨T', h', cA, X', e', E, A, st⟩ := newP X C.1 hZ (aty := .int) w eT (g := mkF m pc Ls (.int z :: rest)) rfl (hb C.2 hd) (n := z) (rest := rest) rfl hn (cap := cap) (by rw [e1]; exact hcap) hb8 hc hl
  refine .step st (k T' h' _ rfl X' e' E ⟨_, A, by rw [sz_new, e1], by omega, fun j hj => ?_⟩)
  simp only [newA, e1]
  rw [Array.getElem?_replicate, if_pos hj]; rfl
theorem o_newarrayB (C : Cx p c code) (X : Stand p l e R s m args below meth c T locs cells slots) (hZ : Z.Warmed39 s.vm) (w : (Jvm.Cond.arrayClass .byte).before a0 Z = true) (eT : T.heap = h) {z : Int32} (n : Nat) (hz : z.toInt = n) (cap : Nat) (hcap : n ≤ cap) (hb8 : cap * 8 ≤ 536870912) (hc : cells + 1 ≤ R.cells) (hl : slots + cap ≤ R.slots) (hd : decode code pc = .ok (.newarray .byte, 2)) (q : Nat) (hq : pc + 2 = q)
    (k : ∀ (T' : State) (h' : Heap) (a : Addr), a = h.size → Stand p l e R s m args below meth c T' locs (cells + 1) (slots + cap) → T'.heap = h' → Ext h h' → AI Z h' a .byte n (fun _ => 0) → Ends p e below s Q K N (T'.setTop (mkF m q Ls (.ref a :: rest)))) : Ends p e below s Q K N (T.setTop (mkF m pc Ls (.int z :: rest))) := by
  subst hq
  have hn : ¬ z < 0 := by rw [Int32.lt_iff_toInt_lt, hz, show (0 : Int32).toInt = 0 from rfl]; omega
  have e1 : z.toNatClampNeg = n := by rw [Int32.toNatClampNeg, hz]; rfl
  have hr := Int32.toInt_lt z
  obtain ⟨T', h', cA, X', e', E, A, st⟩ := newP X C.1 hZ (aty := .byte) w eT (g := mkF m pc Ls (.int z :: rest)) rfl (hb C.2 hd) (n := z) (rest := rest) rfl hn (cap := cap) (by rw [e1]; exact hcap) hb8 hc hl
  refine .step st (k T' h' _ rfl X' e' E ⟨_, A, by rw [sz_new, e1], by omega, fun j hj => ?_⟩)
  simp only [newA, e1]
  rw [Array.getElem?_replicate, if_pos hj]; rfl
end Own
theorem own_of {v : Int32} {j : Nat} (h : v.toInt = j) : v = Int32.ofNat j := by
  apply Int32.toInt_inj.mp
  have := rng32 v
  rw [h, Int32.toInt_ofNat_of_lt (by omega)]
theorem own_sub {v d : Int32} {j k : Int} (h : v.toInt = j) (hd : d.toInt = k) (h1 : -100 ≤ j - k) (h2 : j - k ≤ 100) : (v - d).toInt = j - k := by
  have := c_isub v d
  have r := rng32 (v - d)
  omega
theorem own_dec {v : Int32} {j : Int} (h : v.toInt = j) (h1 : -100 ≤ j) (h2 : j ≤ 100) : (v + (-1)).toInt = j - 1 := by
  have := c_iadd v (-1)
  have r := rng32 (v + (-1))
  rw [show (-1 : Int32).toInt = -1 from rfl] at this
  omega
def RO (f : Nat → Int32) : Nat → Nat → Nat
  | 0, r => r
  | k + 1, r => RO f k (if f k < f r then k else r)
theorem d1_0 : decode prog_7_method_5_code 0 = .ok (.aload_n 0, 1) := by decide +kernel
theorem d1_1 : decode prog_7_method_5_code 1 = .ok (.arraylength, 1) := by decide +kernel
theorem d1_2 : decode prog_7_method_5_code 2 = .ok (.iconst 1, 1) := by decide +kernel
theorem d1_3 : decode prog_7_method_5_code 3 = .ok (.isub, 1) := by decide +kernel
theorem d1_4 : decode prog_7_method_5_code 4 = .ok (.istore_n 1, 1) := by decide +kernel
theorem d1_5 : decode prog_7_method_5_code 5 = .ok (.aload_n 0, 1) := by decide +kernel
theorem d1_6 : decode prog_7_method_5_code 6 = .ok (.arraylength, 1) := by decide +kernel
theorem d1_7 : decode prog_7_method_5_code 7 = .ok (.iconst 2, 1) := by decide +kernel
theorem d1_8 : decode prog_7_method_5_code 8 = .ok (.isub, 1) := by decide +kernel
theorem d1_9 : decode prog_7_method_5_code 9 = .ok (.istore_n 2, 1) := by decide +kernel
theorem d1_10 : decode prog_7_method_5_code 10 = .ok (.iload_n 2, 1) := by decide +kernel
theorem d1_11 : decode prog_7_method_5_code 11 = .ok (.ifCond .lt 24, 3) := by decide +kernel
theorem d1_14 : decode prog_7_method_5_code 14 = .ok (.aload_n 0, 1) := by decide +kernel
theorem d1_15 : decode prog_7_method_5_code 15 = .ok (.iload_n 2, 1) := by decide +kernel
theorem d1_16 : decode prog_7_method_5_code 16 = .ok (.iaload, 1) := by decide +kernel
theorem d1_17 : decode prog_7_method_5_code 17 = .ok (.aload_n 0, 1) := by decide +kernel
theorem d1_18 : decode prog_7_method_5_code 18 = .ok (.iload_n 1, 1) := by decide +kernel
theorem d1_19 : decode prog_7_method_5_code 19 = .ok (.iaload, 1) := by decide +kernel
theorem d1_20 : decode prog_7_method_5_code 20 = .ok (.if_icmp .ge 7, 3) := by decide +kernel
theorem d1_23 : decode prog_7_method_5_code 23 = .ok (.iload_n 2, 1) := by decide +kernel
theorem d1_24 : decode prog_7_method_5_code 24 = .ok (.goto 4, 3) := by decide +kernel
theorem d1_27 : decode prog_7_method_5_code 27 = .ok (.iload_n 1, 1) := by decide +kernel
theorem d1_28 : decode prog_7_method_5_code 28 = .ok (.istore_n 1, 1) := by decide +kernel
theorem d1_29 : decode prog_7_method_5_code 29 = .ok (.iinc 2 (-1), 3) := by decide +kernel
theorem d1_32 : decode prog_7_method_5_code 32 = .ok (.goto (-22), 3) := by decide +kernel
theorem d1_35 : decode prog_7_method_5_code 35 = .ok (.iload_n 1, 1) := by decide +kernel
theorem d1_36 : decode prog_7_method_5_code 36 = .ok (.ireturn, 1) := by decide +kernel
theorem pn_1 : plainFor (⟨"com/example/sagasu/sagasu/BlockScan", "rarestOf", "([I)I"⟩ : MethodName) = true := by first | exact plainFor_of_name (by first | (simp [plainName, overriddenIn]; done) | decide +kernel) | decide +kernel
theorem ef_1 (m : MethodId) (a : Addr) : entryFrame m #[(.ref a)] 3 = (mkF m 0 #[.val (.ref a), .unset, .unset] []) := by first | (simp [entryFrame, mkF, argsToLocals, Value.category]; done) | rfl
set_option maxRecDepth 65536 in
set_option maxHeartbeats 40000000 in
theorem loop1 {p : Program} {l : Launch} {e : Env} {R : Room} {s : State} {m : MethodId} {args : Array Value} {below : List Frame} {meth : Method} {c : Code} {Z : State} {a0 : Array Value} {h0 : Heap} (a : Addr) (f : Nat → Int32) (n : Nat) (hn : n ≤ 4) (A : AI Z h0 a .int n f) (C : Cx p c prog_7_method_5_code) (hZ : Z.Warmed39 s.vm) (hret : meth.sig.returnType = some .int) (hlk : meth.locks = false) :
    ∀ (k r : Nat) (u v : Int32) (T : State), u.toInt = r → v.toInt = (k : Int) - 1 → r < n → k ≤ n → Stand p l e R s m args below meth c T [] 0 0 → T.heap = h0 →
      Ends p e below s (PQ (.int (Int32.ofNat (RO f k r))) h0) 0 0 (T.setTop (mkF m 10 #[.val (.ref a), .val (.int u), .val (.int v)] [])) := by
  intro k
  induction k with
  | zero =>
    intro r u v T hu hv hr hk X e0
    have q : v < 0 := by rw [Int32.lt_iff_toInt_lt, hv]; decide
    refine o_iloadN C X d1_10 11 rfl rfl ?_
    refine o_ifY C X d1_11 35 (by decide) (by decide) ((if0 _ _).trans (tlt q).1) ?_
    refine o_iloadN C X d1_35 36 rfl rfl ?_
    exact o_retI C X hret hlk d1_36 ⟨congrArg some (congrArg _ (own_of hu)), rfl, e0⟩ (Nat.le_refl _) (Nat.le_refl _)
  | succ k ih =>
    intro r u v T hu hv hr hk X e0
    have hv' : v.toInt = (k : Int) := by omega
    have q : ¬ v < 0 := by rw [Int32.lt_iff_toInt_lt, hv', show (0 : Int32).toInt = 0 from rfl]; omega
    refine o_iloadN C X d1_10 11 rfl rfl ?_
    refine o_ifN C X d1_11 14 rfl ((if0 _ _).trans (flt q).1) ?_
    refine o_aloadN C X d1_14 15 rfl rfl rfl ?_
    refine o_iloadN C X d1_15 16 rfl rfl ?_
    refine o_iaload C X hZ e0 A (k) hv' (by omega) d1_16 17 rfl ?_
    refine o_aloadN C X d1_17 18 rfl rfl rfl ?_
    refine o_iloadN C X d1_18 19 rfl rfl ?_
    refine o_iaload C X hZ e0 A (r) hu hr d1_19 20 rfl ?_
    by_cases g : (f k) < (f r)
    · skip
      refine o_icmpN C X d1_20 23 rfl (tlt g).2.1 ?_
      refine o_iloadN C X d1_23 24 rfl rfl ?_
      refine o_goto C X d1_24 28 (by decide) (by decide) ?_
      refine o_istoreN C X d1_28 29 rfl #[.val (.ref a), .val (.int v), .val (.int v)] rfl ?_
      refine o_iinc C X (v + (-1 : Int32)) d1_29 32 rfl #[.val (.ref a), .val (.int v), .val (.int (v + (-1 : Int32)))] rfl rfl rfl ?_
      refine o_goto C X d1_32 10 (by decide) (by decide) ?_
      rw [RO, if_pos g]
      exact ih k _ _ T hv' (by rw [own_dec hv' (by omega) (by omega)]) (by omega) (by omega) X e0
    · skip
      refine o_icmpY C X d1_20 27 (by decide) (by decide) (flt g).2.1 ?_
      refine o_iloadN C X d1_27 28 rfl rfl ?_
      refine o_istoreN C X d1_28 29 rfl #[.val (.ref a), .val (.int u), .val (.int v)] rfl ?_
      refine o_iinc C X (v + (-1 : Int32)) d1_29 32 rfl #[.val (.ref a), .val (.int u), .val (.int (v + (-1 : Int32)))] rfl rfl rfl ?_
      refine o_goto C X d1_32 10 (by decide) (by decide) ?_
      rw [RO, if_neg g]
      exact ih r _ _ T hu (by rw [own_dec hv' (by omega) (by omega)]) hr (by omega) X e0
set_option maxRecDepth 65536 in
set_option maxHeartbeats 40000000 in
theorem rm1 (l : Launch) (Z : State) (a0 : Array Value) (hw : ∀ d ∈ tables_1, d.before a0 Z = true) (a : Addr) (f : Nat → Int32) (h0 : Heap) (n : Nat) (h1 : 1 ≤ n) (hn : n ≤ 4) (A : AI Z h0 a .int n f) : Con l Z (⟨"com/example/sagasu/sagasu/BlockScan", "rarestOf", "([I)I"⟩ : MethodName) prog_7_method_5_code 3 (some .int) ({ frames := 0, cells := 0, slots := 0, locals := 0 } : Room) 0 0 [] #[(.ref a)] h0 (PQ (.int (Int32.ofNat (RO f (n - 1) (n - 1)))) h0) := by
  refine Con.of pn_1 ?_
  intro p e s m below meth c T C hZ hml hown hret hnm hlk X e0
  rw [ef_1]
  have hl : (Int32.ofNat n).toInt = (n : Int) := Int32.toInt_ofNat_of_lt (by omega)
  refine o_aloadN C X d1_0 1 rfl rfl rfl ?_
  refine o_arraylength C X hZ e0 A (Int32.ofNat n) rfl d1_1 2 rfl ?_
  refine o_iconst C X d1_2 3 rfl (1 : Int32) (by decide) ?_
  refine o_isub C X d1_3 4 rfl ?_
  refine o_istoreN C X d1_4 5 rfl #[.val (.ref a), .val (.int ((Int32.ofNat n) - (1 : Int32))), .unset] rfl ?_
  refine o_aloadN C X d1_5 6 rfl rfl rfl ?_
  refine o_arraylength C X hZ e0 A (Int32.ofNat n) rfl d1_6 7 rfl ?_
  refine o_iconst C X d1_7 8 rfl (2 : Int32) (by decide) ?_
  refine o_isub C X d1_8 9 rfl ?_
  refine o_istoreN C X d1_9 10 rfl #[.val (.ref a), .val (.int ((Int32.ofNat n) - (1 : Int32))), .val (.int ((Int32.ofNat n) - (2 : Int32)))] rfl ?_
  exact loop1 (a0 := a0) a f n hn A C hZ hret hlk (n - 1) (n - 1) _ _ T (by rw [own_sub hl (k := 1) rfl (by omega) (by omega)]; omega) (by rw [own_sub hl (k := 2) rfl (by omega) (by omega)]; omega) (by omega) (by omega) X e0
def FO (f : Nat → Int32) (i r : Nat) (r0 i0 : Int32) : Int32 := (if (f i) < (f r) then (0 : Int32) else (if r0 < i0 then (if (f i) = (f r) then (0 : Int32) else (1 : Int32)) else (1 : Int32)))
theorem d2_0 : decode method_3_code 0 = .ok (.iload_n 3, 1) := by decide +kernel
theorem d2_1 : decode method_3_code 1 = .ok (.iload_n 1, 1) := by decide +kernel
theorem d2_2 : decode method_3_code 2 = .ok (.if_icmp .lt 5, 3) := by decide +kernel
theorem d2_5 : decode method_3_code 5 = .ok (.iconst 1, 1) := by decide +kernel
theorem d2_6 : decode method_3_code 6 = .ok (.ireturn, 1) := by decide +kernel
theorem d2_7 : decode method_3_code 7 = .ok (.aload_n 0, 1) := by decide +kernel
theorem d2_8 : decode method_3_code 8 = .ok (.iload_n 3, 1) := by decide +kernel
theorem d2_9 : decode method_3_code 9 = .ok (.iaload, 1) := by decide +kernel
theorem d2_10 : decode method_3_code 10 = .ok (.aload_n 0, 1) := by decide +kernel
theorem d2_11 : decode method_3_code 11 = .ok (.iload_n 2, 1) := by decide +kernel
theorem d2_12 : decode method_3_code 12 = .ok (.iaload, 1) := by decide +kernel
theorem d2_13 : decode method_3_code 13 = .ok (.if_icmp .ge 5, 3) := by decide +kernel
theorem d2_16 : decode method_3_code 16 = .ok (.iconst 0, 1) := by decide +kernel
theorem d2_17 : decode method_3_code 17 = .ok (.ireturn, 1) := by decide +kernel
theorem d2_18 : decode method_3_code 18 = .ok (.iload_n 3, 1) := by decide +kernel
theorem d2_19 : decode method_3_code 19 = .ok (.iload_n 2, 1) := by decide +kernel
theorem d2_20 : decode method_3_code 20 = .ok (.if_icmp .le 14, 3) := by decide +kernel
theorem d2_23 : decode method_3_code 23 = .ok (.aload_n 0, 1) := by decide +kernel
theorem d2_24 : decode method_3_code 24 = .ok (.iload_n 3, 1) := by decide +kernel
theorem d2_25 : decode method_3_code 25 = .ok (.iaload, 1) := by decide +kernel
theorem d2_26 : decode method_3_code 26 = .ok (.aload_n 0, 1) := by decide +kernel
theorem d2_27 : decode method_3_code 27 = .ok (.iload_n 2, 1) := by decide +kernel
theorem d2_28 : decode method_3_code 28 = .ok (.iaload, 1) := by decide +kernel
theorem d2_29 : decode method_3_code 29 = .ok (.if_icmp .ne 5, 3) := by decide +kernel
theorem d2_32 : decode method_3_code 32 = .ok (.iconst 0, 1) := by decide +kernel
theorem d2_33 : decode method_3_code 33 = .ok (.ireturn, 1) := by decide +kernel
theorem d2_34 : decode method_3_code 34 = .ok (.iconst 1, 1) := by decide +kernel
theorem d2_35 : decode method_3_code 35 = .ok (.ireturn, 1) := by decide +kernel
theorem pn_2 : plainFor (⟨"com/example/sagasu/sagasu/BlockScanRarestOfPinLaw", "ok", "([IIII)Z"⟩ : MethodName) = true := by first | exact plainFor_of_name (by first | (simp [plainName, overriddenIn]; done) | decide +kernel) | decide +kernel
theorem ef_2 (m : MethodId) (a : Addr) (n0 : Int32) (r0 : Int32) (i0 : Int32) : entryFrame m #[(.ref a), (.int n0), (.int r0), (.int i0)] 4 = (mkF m 0 #[.val (.ref a), .val (.int n0), .val (.int r0), .val (.int i0)] []) := by first | (simp [entryFrame, mkF, argsToLocals, Value.category]; done) | rfl
set_option maxRecDepth 65536 in
set_option maxHeartbeats 40000000 in
theorem rm2 (l : Launch) (Z : State) (a0 : Array Value) (hw : ∀ d ∈ tables_1, d.before a0 Z = true) (a : Addr) (f : Nat → Int32) (n i r : Nat) (n0 r0 i0 : Int32) (h0 : Heap) (hi : i0.toInt = i) (hr : r0.toInt = r) (hin : i < n) (hrn : r < n) (q0 : i0 < n0) (A : AI Z h0 a .int n f) : Con l Z (⟨"com/example/sagasu/sagasu/BlockScanRarestOfPinLaw", "ok", "([IIII)Z"⟩ : MethodName) method_3_code 4 (some .boolean) ({ frames := 0, cells := 0, slots := 0, locals := 0 } : Room) 0 0 [] #[(.ref a), (.int n0), (.int r0), (.int i0)] h0 (PQ (.int (FO f i r r0 i0)) h0) := by
  refine Con.of pn_2 ?_
  intro p e s m below meth c T C hZ hml hown hret hnm hlk X e0
  rw [ef_2]
  refine o_iloadN C X d2_0 1 rfl rfl ?_
  refine o_iloadN C X d2_1 2 rfl rfl ?_
  refine o_icmpY C X d2_2 7 (by decide) (by decide) (tlt q0).1 ?_
  refine o_aloadN C X d2_7 8 rfl rfl rfl ?_
  refine o_iloadN C X d2_8 9 rfl rfl ?_
  refine o_iaload C X hZ e0 A (i) hi hin d2_9 10 rfl ?_
  refine o_aloadN C X d2_10 11 rfl rfl rfl ?_
  refine o_iloadN C X d2_11 12 rfl rfl ?_
  refine o_iaload C X hZ e0 A (r) hr hrn d2_12 13 rfl ?_
  by_cases q1 : (f i) < (f r)
  · skip
    refine o_icmpN C X d2_13 16 rfl (tlt q1).2.1 ?_
    refine o_iconst C X d2_16 17 rfl (0 : Int32) (by decide) ?_
    exact o_retN C X hret (by simp) hlk d2_17 ⟨congrArg some (congrArg _ (by rw [FO]; simp only [if_pos q1] <;> rfl)), rfl, e0⟩ (Nat.le_refl _) (Nat.le_refl _)
  · skip
    refine o_icmpY C X d2_13 18 (by decide) (by decide) (flt q1).2.1 ?_
    refine o_iloadN C X d2_18 19 rfl rfl ?_
    refine o_iloadN C X d2_19 20 rfl rfl ?_
    by_cases q2 : r0 < i0
    · skip
      refine o_icmpN C X d2_20 23 rfl (tlt q2).2.2.2 ?_
      refine o_aloadN C X d2_23 24 rfl rfl rfl ?_
      refine o_iloadN C X d2_24 25 rfl rfl ?_
      refine o_iaload C X hZ e0 A (i) hi hin d2_25 26 rfl ?_
      refine o_aloadN C X d2_26 27 rfl rfl rfl ?_
      refine o_iloadN C X d2_27 28 rfl rfl ?_
      refine o_iaload C X hZ e0 A (r) hr hrn d2_28 29 rfl ?_
      by_cases q3 : (f i) = (f r)
      · skip
        refine o_icmpN C X d2_29 32 rfl (teq q3).2 ?_
        refine o_iconst C X d2_32 33 rfl (0 : Int32) (by decide) ?_
        exact o_retN C X hret (by simp) hlk d2_33 ⟨congrArg some (congrArg _ (by rw [FO]; simp only [if_neg q1, if_pos q2, if_pos q3] <;> rfl)), rfl, e0⟩ (Nat.le_refl _) (Nat.le_refl _)
      · skip
        refine o_icmpY C X d2_29 34 (by decide) (by decide) (feq q3).2 ?_
        refine o_iconst C X d2_34 35 rfl (1 : Int32) (by decide) ?_
        exact o_retN C X hret (by simp) hlk d2_35 ⟨congrArg some (congrArg _ (by rw [FO]; simp only [if_neg q1, if_pos q2, if_neg q3] <;> rfl)), rfl, e0⟩ (Nat.le_refl _) (Nat.le_refl _)
    · skip
      refine o_icmpY C X d2_20 34 (by decide) (by decide) (flt q2).2.2.2 ?_
      refine o_iconst C X d2_34 35 rfl (1 : Int32) (by decide) ?_
      exact o_retN C X hret (by simp) hlk d2_35 ⟨congrArg some (congrArg _ (by rw [FO]; simp only [if_neg q1, if_neg q2] <;> rfl)), rfl, e0⟩ (Nat.le_refl _) (Nat.le_refl _)
set_option maxRecDepth 65536 in
set_option maxHeartbeats 40000000 in
theorem rk2 (l : Launch) (Z : State) (a0 : Array Value) (hw : ∀ d ∈ tables_1, d.before a0 Z = true) (a : Addr) (n0 r0 i0 : Int32) (h0 : Heap) (q0 : ¬ i0 < n0) : Con l Z (⟨"com/example/sagasu/sagasu/BlockScanRarestOfPinLaw", "ok", "([IIII)Z"⟩ : MethodName) method_3_code 4 (some .boolean) ({ frames := 0, cells := 0, slots := 0, locals := 0 } : Room) 0 0 [] #[(.ref a), (.int n0), (.int r0), (.int i0)] h0 (PQ (.int 1) h0) := by
  refine Con.of pn_2 ?_
  intro p e s m below meth c T C hZ hml hown hret hnm hlk X e0
  rw [ef_2]
  refine o_iloadN C X d2_0 1 rfl rfl ?_
  refine o_iloadN C X d2_1 2 rfl rfl ?_
  refine o_icmpN C X d2_2 5 rfl (flt q0).1 ?_
  refine o_iconst C X d2_5 6 rfl (1 : Int32) (by decide) ?_
  exact o_retN C X hret (by simp) hlk d2_6 ⟨rfl, rfl, e0⟩ (Nat.le_refl _) (Nat.le_refl _)
theorem pd_0 : parseMethodDescriptor "([I)I" = some ⟨[(.array .int)], some .int⟩ := by decide +kernel
theorem pd_1 : parseMethodDescriptor "([IIII)Z" = some ⟨[(.array .int), .int, .int, .int], some .boolean⟩ := by decide +kernel
theorem own_n (x : Int32) : (1 : Int32) + (x &&& (3 : Int32)) = 1 ∨ (1 : Int32) + (x &&& (3 : Int32)) = 2 ∨ (1 : Int32) + (x &&& (3 : Int32)) = 3 ∨ (1 : Int32) + (x &&& (3 : Int32)) = 4 := by
  have h := c_mask x 3 2 (by decide) (by decide)
  have g := c_iadd 1 (x &&& 3)
  have r := rng32 (1 + (x &&& 3))
  rw [show (1 : Int32).toInt = 1 from rfl] at g
  simp only [← Int32.toInt_inj, show (1 : Int32).toInt = 1 from rfl, show (2 : Int32).toInt = 2 from rfl, show (3 : Int32).toInt = 3 from rfl, show (4 : Int32).toInt = 4 from rfl]
  omega
theorem own_ro (f : Nat → Int32) : ∀ k r, k ≤ r → RO f k r ≤ r ∧ (∀ j, j < k → ¬ f j < f (RO f k r)) ∧ ¬ f r < f (RO f k r) ∧ (∀ j, RO f k r < j → j < k → f (RO f k r) < f j) ∧ (RO f k r = r ∨ f (RO f k r) < f r) := by
  intro k
  induction k with
  | zero => intro r _; exact ⟨Nat.le_refl _, fun j hj => absurd hj (Nat.not_lt_zero _), Int32.lt_irrefl, fun j _ hj => absurd hj (Nat.not_lt_zero _), Or.inl rfl⟩
  | succ k ih =>
    intro r hk
    rw [RO]
    by_cases g : f k < f r
    · rw [if_pos g]
      obtain ⟨h1, h2, h3, h4, h5⟩ := ih k (Nat.le_refl _)
      generalize RO f k k = t at *
      simp only [Int32.lt_iff_toInt_lt] at *
      refine ⟨by omega, fun j hj => ?_, ?_, fun j hj hjk => ?_, ?_⟩
      · rcases Nat.lt_succ_iff_lt_or_eq.mp hj with h | h
        · exact h2 j h
        · rw [h]; exact h3
      · omega
      · rcases Nat.lt_succ_iff_lt_or_eq.mp hjk with h | h
        · exact h4 j hj h
        · rcases h5 with h5 | h5
          · omega
          · rw [h]; exact h5
      · right
        rcases h5 with h5 | h5
        · rw [h5]; exact g
        · omega
    · rw [if_neg g]
      obtain ⟨h1, h2, h3, h4, h5⟩ := ih r (by omega)
      generalize RO f k r = t at *
      simp only [Int32.lt_iff_toInt_lt] at *
      refine ⟨h1, fun j hj => ?_, h3, fun j hj hjk => ?_, h5⟩
      · rcases Nat.lt_succ_iff_lt_or_eq.mp hj with h | h
        · exact h2 j h
        · rw [h]; omega
      · rcases Nat.lt_succ_iff_lt_or_eq.mp hjk with h | h
        · exact h4 j hj h
        · rw [h]
          rcases h5 with h5 | h5
          · omega
          · omega
theorem own_fo (f : Nat → Int32) (n i : Nat) (r0 i0 : Int32) (h1 : 1 ≤ n) (hn : n ≤ 4) (hin : i < n) (hi : i0.toInt = i) (hr : r0.toInt = (RO f (n - 1) (n - 1) : Nat)) : FO f i (RO f (n - 1) (n - 1)) r0 i0 = 1 := by
  obtain ⟨g1, g2, g3, g4, g5⟩ := own_ro f (n - 1) (n - 1) (Nat.le_refl _)
  generalize RO f (n - 1) (n - 1) = t at *
  have a1 : ¬ f i < f t := by
    by_cases q : i < n - 1
    · exact g2 i q
    · rw [show i = n - 1 by omega]; exact g3
  have a2 : r0 < i0 → ¬ f i = f t := fun q e => by
    rw [Int32.lt_iff_toInt_lt, hi, hr] at q
    by_cases q2 : i < n - 1
    · have := g4 i (by omega) q2
      rw [e] at this; exact Int32.lt_irrefl this
    · rw [show i = n - 1 by omega] at e
      rcases g5 with h | h
      · omega
      · rw [e] at h; exact Int32.lt_irrefl h
  unfold FO
  rw [if_neg a1]
  by_cases q : r0 < i0
  · rw [if_pos q, if_neg (a2 q)]
  · rw [if_neg q]
theorem pn_0 : plainFor x = true := by first | exact plainFor_of_name (by first | (simp [plainName, overriddenIn]; done) | decide +kernel) | decide +kernel
theorem ef_0 (m : MethodId) (x0 : Int32) (x1 : Int32) (x2 : Int32) (x3 : Int32) (x4 : Int32) : entryFrame m #[(.int x0), (.int x1), (.int x2), (.int x3), (.int x4)] maxLocals = (mkF m 0 #[.val (.int x0), .val (.int x1), .val (.int x2), .val (.int x3), .val (.int x4), .unset, .unset, .unset, .unset] []) := by first | (simp [entryFrame, mkF, argsToLocals, Value.category, maxLocals]; done) | rfl
set_option maxRecDepth 65536 in
set_option maxHeartbeats 40000000 in
theorem rm0 (l : Launch) (Z : State) (a0 : Array Value) (hw : ∀ d ∈ tables_1, d.before a0 Z = true) (x0 : Int32) (x1 : Int32) (x2 : Int32) (x3 : Int32) (x4 : Int32) (h0 : Heap) (n0 : Nat) (Z0 : n0 ≤ h0.size) : Con l Z x code maxLocals ret room_1 16 128 tables_1 #[(.int x0), (.int x1), (.int x2), (.int x3), (.int x4)] h0 (fun v _ L => v = some (.int 1) ∧ Fr n0 L) := by
  refine Con.of pn_0 ?_
  intro p e s m below meth c T C hZ hml hown hret hnm hlk X e0
  have N0 := Fr.nil n0
  rw [ef_0]
  refine o_iconst C X at_0 1 rfl (1 : Int32) (by decide) ?_
  refine o_iloadN C X at_1 2 rfl rfl ?_
  refine o_iconst C X at_2 3 rfl (3 : Int32) (by decide) ?_
  refine o_iand C X at_3 4 rfl ?_
  refine o_iadd C X at_4 5 rfl ?_
  refine o_istore C X at_5 7 rfl #[.val (.int x0), .val (.int x1), .val (.int x2), .val (.int x3), .val (.int x4), .val (.int ((1 : Int32) + (x0 &&& (3 : Int32)))), .unset, .unset, .unset] rfl ?_
  refine o_iloadN C X at_7 8 rfl rfl ?_
  refine o_iconst C X at_8 9 rfl (2 : Int32) (by decide) ?_
  refine o_iushr C X at_9 10 rfl ?_
  refine o_iconst C X at_10 11 rfl (1 : Int32) (by decide) ?_
  refine o_iand C X at_11 12 rfl ?_
  refine Ends.via (T := T) (mkF m 20 #[.val (.int x0), .val (.int x1), .val (.int x2), .val (.int x3), .val (.int x4), .val (.int ((1 : Int32) + (x0 &&& (3 : Int32)))), .unset, .unset, .unset] [(.int (if ((ushr x0 (2 : Int32)) &&& (1 : Int32)) = (0 : Int32) then (0 : Int32) else (1 : Int32)))]) (fun K0 => ?_) ?_
  · skip
    by_cases q4 : ((ushr x0 (2 : Int32)) &&& (1 : Int32)) = (0 : Int32)
    · skip
      refine o_ifY C X at_12 19 (by decide) (by decide) ((if0 _ _).trans (teq q4).1) ?_
      refine o_iconst C X at_19 20 rfl (0 : Int32) (by decide) ?_
      simp only [if_pos q4] at K0
      exact K0
    · skip
      refine o_ifN C X at_12 15 rfl ((if0 _ _).trans (feq q4).1) ?_
      refine o_iconst C X at_15 16 rfl (1 : Int32) (by decide) ?_
      refine o_goto C X at_16 20 (by decide) (by decide) ?_
      simp only [if_neg q4] at K0
      exact K0
  refine o_istore C X at_20 22 rfl #[.val (.int x0), .val (.int x1), .val (.int x2), .val (.int x3), .val (.int x4), .val (.int ((1 : Int32) + (x0 &&& (3 : Int32)))), .val (.int (if ((ushr x0 (2 : Int32)) &&& (1 : Int32)) = (0 : Int32) then (0 : Int32) else (1 : Int32))), .unset, .unset] rfl ?_
  generalize hsm : (if ((ushr x0 (2 : Int32)) &&& (1 : Int32)) = (0 : Int32) then (0 : Int32) else (1 : Int32)) = sm
  refine o_iload C X at_22 24 rfl rfl ?_
  refine Ends.via (T := T) (mkF m 45 #[.val (.int x0), .val (.int (if sm = (0 : Int32) then x1 else (x1 &&& (3 : Int32)))), .val (.int (if sm = (0 : Int32) then x2 else (x2 &&& (3 : Int32)))), .val (.int (if sm = (0 : Int32) then x3 else (x3 &&& (3 : Int32)))), .val (.int (if sm = (0 : Int32) then x4 else (x4 &&& (3 : Int32)))), .val (.int ((1 : Int32) + (x0 &&& (3 : Int32)))), .val (.int sm), .unset, .unset] []) (fun K0 => ?_) ?_
  · skip
    by_cases q5 : sm = (0 : Int32)
    · skip
      refine o_ifY C X at_24 45 (by decide) (by decide) ((if0 _ _).trans (teq q5).1) ?_
      simp only [if_pos q5] at K0
      exact K0
    · skip
      refine o_ifN C X at_24 27 rfl ((if0 _ _).trans (feq q5).1) ?_
      refine o_iloadN C X at_27 28 rfl rfl ?_
      refine o_iconst C X at_28 29 rfl (3 : Int32) (by decide) ?_
      refine o_iand C X at_29 30 rfl ?_
      refine o_istoreN C X at_30 31 rfl #[.val (.int x0), .val (.int (x1 &&& (3 : Int32))), .val (.int x2), .val (.int x3), .val (.int x4), .val (.int ((1 : Int32) + (x0 &&& (3 : Int32)))), .val (.int sm), .unset, .unset] rfl ?_
      refine o_iloadN C X at_31 32 rfl rfl ?_
      refine o_iconst C X at_32 33 rfl (3 : Int32) (by decide) ?_
      refine o_iand C X at_33 34 rfl ?_
      refine o_istoreN C X at_34 35 rfl #[.val (.int x0), .val (.int (x1 &&& (3 : Int32))), .val (.int (x2 &&& (3 : Int32))), .val (.int x3), .val (.int x4), .val (.int ((1 : Int32) + (x0 &&& (3 : Int32)))), .val (.int sm), .unset, .unset] rfl ?_
      refine o_iloadN C X at_35 36 rfl rfl ?_
      refine o_iconst C X at_36 37 rfl (3 : Int32) (by decide) ?_
      refine o_iand C X at_37 38 rfl ?_
      refine o_istoreN C X at_38 39 rfl #[.val (.int x0), .val (.int (x1 &&& (3 : Int32))), .val (.int (x2 &&& (3 : Int32))), .val (.int (x3 &&& (3 : Int32))), .val (.int x4), .val (.int ((1 : Int32) + (x0 &&& (3 : Int32)))), .val (.int sm), .unset, .unset] rfl ?_
      refine o_iload C X at_39 41 rfl rfl ?_
      refine o_iconst C X at_41 42 rfl (3 : Int32) (by decide) ?_
      refine o_iand C X at_42 43 rfl ?_
      refine o_istore C X at_43 45 rfl #[.val (.int x0), .val (.int (x1 &&& (3 : Int32))), .val (.int (x2 &&& (3 : Int32))), .val (.int (x3 &&& (3 : Int32))), .val (.int (x4 &&& (3 : Int32))), .val (.int ((1 : Int32) + (x0 &&& (3 : Int32)))), .val (.int sm), .unset, .unset] rfl ?_
      simp only [if_neg q5] at K0
      exact K0
  generalize hv1 : (if sm = (0 : Int32) then x1 else (x1 &&& (3 : Int32))) = v1
  generalize hv2 : (if sm = (0 : Int32) then x2 else (x2 &&& (3 : Int32))) = v2
  generalize hv3 : (if sm = (0 : Int32) then x3 else (x3 &&& (3 : Int32))) = v3
  generalize hv4 : (if sm = (0 : Int32) then x4 else (x4 &&& (3 : Int32))) = v4
  rcases own_n x0 with hn | hn | hn | hn
  · rw [hn]
    refine o_iload C X at_45 47 rfl rfl ?_
    refine o_newarrayI C X hZ (hw _ (List.mem_of_getElem? (i := 0) rfl)) e0 (1) (by decide) (1) (by decide) (by decide) (by decide) (by decide) at_47 49 rfl ?_
    intro T h_1 a g_a X e_1 E_1 Aa_1
    have ge_a : n0 ≤ a := by rw [g_a]; exact Z0
    have Z_1 : n0 ≤ h_1.size := Nat.le_trans Z0 E_1.1
    refine o_astore C X at_49 51 rfl rfl #[.val (.int x0), .val (.int v1), .val (.int v2), .val (.int v3), .val (.int v4), .val (.int (1 : Int32)), .val (.int sm), .val (.ref a), .unset] rfl ?_
    refine o_aload C X at_51 53 rfl rfl rfl ?_
    refine o_iconst C X at_53 54 rfl (0 : Int32) (by decide) ?_
    refine o_iloadN C X at_54 55 rfl rfl ?_
    refine o_iastore C X hZ e_1 Aa_1 (0) (by decide) (by decide) at_55 56 rfl N0 ge_a ?_
    intro T h_2 locs_2 X e_2 W_2 N0 Aa_2
    have Z_2 : n0 ≤ h_2.size := by rw [W_2.size]; exact Z_1
    refine o_iload C X at_56 58 rfl rfl ?_
    refine o_iconst C X at_58 59 rfl (1 : Int32) (by decide) ?_
    refine o_icmpY C X at_59 67 (by decide) (by decide) (flt (by decide : ¬ ((1 : Int32) < (1 : Int32)))).2.2.2 ?_
    refine o_iload C X at_67 69 rfl rfl ?_
    refine o_iconst C X at_69 70 rfl (2 : Int32) (by decide) ?_
    refine o_icmpY C X at_70 78 (by decide) (by decide) (flt (by decide : ¬ ((2 : Int32) < (1 : Int32)))).2.2.2 ?_
    refine o_iload C X at_78 80 rfl rfl ?_
    refine o_iconst C X at_80 81 rfl (3 : Int32) (by decide) ?_
    refine o_icmpY C X at_81 90 (by decide) (by decide) (flt (by decide : ¬ ((3 : Int32) < (1 : Int32)))).2.2.2 ?_
    refine o_aload C X at_90 92 rfl rfl rfl ?_
    obtain ⟨f, Aa_3⟩ : ∃ f, AI Z h_2 a .int 1 f := ⟨_, Aa_2⟩
    refine o_callP C X hZ (by rw [hml]; rfl) (own := "com/example/sagasu/sagasu/BlockScanRarestOfPinLaw") (y := (⟨"com/example/sagasu/sagasu/BlockScan", "rarestOf", "([I)I"⟩ : MethodName)) (rf := 0) (rl := 0) hown (hw _ (List.mem_of_getElem? (i := 1) rfl)) (hw _ (List.mem_of_getElem? (i := 2) rfl)) (hw _ (List.mem_of_getElem? (i := 3) rfl)) (hw _ (List.mem_of_getElem? (i := 4) rfl)) (by decide) (asL := [(.ref a)]) (rm1 l Z a0 hw a f h_2 1 (by decide) (by decide) Aa_3) e_2 pd_0 rfl rfl 0 (Nat.le_of_eq rfl) (by decide) (by decide) (by decide) (by decide) at_92 95 rfl ?_
    intro T X e_2
    have hb := (own_ro f (1 - 1) (1 - 1) (Nat.le_refl _)).1
    have hr : (Int32.ofNat (RO f (1 - 1) (1 - 1))).toInt = (RO f (1 - 1) (1 - 1) : Nat) := Int32.toInt_ofNat_of_lt (by omega)
    refine o_istore C X at_95 97 rfl #[.val (.int x0), .val (.int v1), .val (.int v2), .val (.int v3), .val (.int v4), .val (.int (1 : Int32)), .val (.int sm), .val (.ref a), .val (.int (Int32.ofNat (RO f (1 - 1) (1 - 1))))] rfl ?_
    refine o_iload C X at_97 99 rfl rfl ?_
    generalize hr0 : (Int32.ofNat (RO f (1 - 1) (1 - 1))) = r0
    rw [hr0] at hr
    refine o_ifN C X at_99 102 rfl ((if0 _ _).trans (flt (by rw [Int32.lt_iff_toInt_lt, hr, show (0 : Int32).toInt = 0 from rfl]; omega : ¬ (r0 < (0 : Int32)))).1) ?_
    refine o_iload C X at_102 104 rfl rfl ?_
    refine o_iload C X at_104 106 rfl rfl ?_
    refine o_icmpY C X at_106 111 (by decide) (by decide) (tlt (by rw [Int32.lt_iff_toInt_lt, hr, show (1 : Int32).toInt = 1 from rfl]; omega : r0 < (1 : Int32))).1 ?_
    refine o_aload C X at_111 113 rfl rfl rfl ?_
    refine o_iload C X at_113 115 rfl rfl ?_
    refine o_iload C X at_115 117 rfl rfl ?_
    refine o_iconst C X at_117 118 rfl (0 : Int32) (by decide) ?_
    refine o_callP C X hZ (by rw [hml]; rfl) (own := "com/example/sagasu/sagasu/BlockScanRarestOfPinLaw") (y := (⟨"com/example/sagasu/sagasu/BlockScanRarestOfPinLaw", "ok", "([IIII)Z"⟩ : MethodName)) (rf := 0) (rl := 0) hown (hw _ (List.mem_of_getElem? (i := 5) rfl)) (hw _ (List.mem_of_getElem? (i := 6) rfl)) (hw _ (List.mem_of_getElem? (i := 7) rfl)) (hw _ (List.mem_of_getElem? (i := 8) rfl)) (by decide) (asL := [(.ref a), (.int (1 : Int32)), (.int r0), (.int (0 : Int32))]) (rm2 l Z a0 hw a f 1 0 (RO f (1 - 1) (1 - 1)) (1 : Int32) r0 (0 : Int32) h_2 (by decide) hr (by decide) (by omega) (by decide) Aa_3) e_2 pd_1 rfl rfl 0 (Nat.le_of_eq rfl) (by decide) (by decide) (by decide) (by decide) at_118 121 rfl ?_
    intro T X e_2
    refine o_ifN C X at_121 124 rfl ((if0 _ _).trans (feq (by rw [own_fo f 1 0 r0 (0 : Int32) (by decide) (by decide) (by decide) (by decide) hr]; decide : ¬ ((FO f 0 (RO f (1 - 1) (1 - 1)) r0 (0 : Int32)) = (0 : Int32)))).1) ?_
    refine o_aload C X at_124 126 rfl rfl rfl ?_
    refine o_iload C X at_126 128 rfl rfl ?_
    refine o_iload C X at_128 130 rfl rfl ?_
    refine o_iconst C X at_130 131 rfl (1 : Int32) (by decide) ?_
    refine o_callP C X hZ (by rw [hml]; rfl) (own := "com/example/sagasu/sagasu/BlockScanRarestOfPinLaw") (y := (⟨"com/example/sagasu/sagasu/BlockScanRarestOfPinLaw", "ok", "([IIII)Z"⟩ : MethodName)) (rf := 0) (rl := 0) hown (hw _ (List.mem_of_getElem? (i := 5) rfl)) (hw _ (List.mem_of_getElem? (i := 6) rfl)) (hw _ (List.mem_of_getElem? (i := 7) rfl)) (hw _ (List.mem_of_getElem? (i := 8) rfl)) (by decide) (asL := [(.ref a), (.int (1 : Int32)), (.int r0), (.int (1 : Int32))]) (rk2 l Z a0 hw a (1 : Int32) r0 (1 : Int32) h_2 (by decide)) e_2 pd_1 rfl rfl 0 (Nat.le_of_eq rfl) (by decide) (by decide) (by decide) (by decide) at_131 134 rfl ?_
    intro T X e_2
    refine o_ifN C X at_134 137 rfl ((if0 _ _).trans (feq (by decide : ¬ ((1 : Int32) = (0 : Int32)))).1) ?_
    refine o_aload C X at_137 139 rfl rfl rfl ?_
    refine o_iload C X at_139 141 rfl rfl ?_
    refine o_iload C X at_141 143 rfl rfl ?_
    refine o_iconst C X at_143 144 rfl (2 : Int32) (by decide) ?_
    refine o_callP C X hZ (by rw [hml]; rfl) (own := "com/example/sagasu/sagasu/BlockScanRarestOfPinLaw") (y := (⟨"com/example/sagasu/sagasu/BlockScanRarestOfPinLaw", "ok", "([IIII)Z"⟩ : MethodName)) (rf := 0) (rl := 0) hown (hw _ (List.mem_of_getElem? (i := 5) rfl)) (hw _ (List.mem_of_getElem? (i := 6) rfl)) (hw _ (List.mem_of_getElem? (i := 7) rfl)) (hw _ (List.mem_of_getElem? (i := 8) rfl)) (by decide) (asL := [(.ref a), (.int (1 : Int32)), (.int r0), (.int (2 : Int32))]) (rk2 l Z a0 hw a (1 : Int32) r0 (2 : Int32) h_2 (by decide)) e_2 pd_1 rfl rfl 0 (Nat.le_of_eq rfl) (by decide) (by decide) (by decide) (by decide) at_144 147 rfl ?_
    intro T X e_2
    refine o_ifN C X at_147 150 rfl ((if0 _ _).trans (feq (by decide : ¬ ((1 : Int32) = (0 : Int32)))).1) ?_
    refine o_aload C X at_150 152 rfl rfl rfl ?_
    refine o_iload C X at_152 154 rfl rfl ?_
    refine o_iload C X at_154 156 rfl rfl ?_
    refine o_iconst C X at_156 157 rfl (3 : Int32) (by decide) ?_
    refine o_callP C X hZ (by rw [hml]; rfl) (own := "com/example/sagasu/sagasu/BlockScanRarestOfPinLaw") (y := (⟨"com/example/sagasu/sagasu/BlockScanRarestOfPinLaw", "ok", "([IIII)Z"⟩ : MethodName)) (rf := 0) (rl := 0) hown (hw _ (List.mem_of_getElem? (i := 5) rfl)) (hw _ (List.mem_of_getElem? (i := 6) rfl)) (hw _ (List.mem_of_getElem? (i := 7) rfl)) (hw _ (List.mem_of_getElem? (i := 8) rfl)) (by decide) (asL := [(.ref a), (.int (1 : Int32)), (.int r0), (.int (3 : Int32))]) (rk2 l Z a0 hw a (1 : Int32) r0 (3 : Int32) h_2 (by decide)) e_2 pd_1 rfl rfl 0 (Nat.le_of_eq rfl) (by decide) (by decide) (by decide) (by decide) at_157 160 rfl ?_
    intro T X e_2
    refine o_ifN C X at_160 163 rfl ((if0 _ _).trans (feq (by decide : ¬ ((1 : Int32) = (0 : Int32)))).1) ?_
    refine o_iconst C X at_163 164 rfl (1 : Int32) (by decide) ?_
    refine o_goto C X at_164 168 (by decide) (by decide) ?_
    exact o_retN C X hret (by simp) hlk at_168 ⟨congrArg some (congrArg _ (rfl)), N0⟩ (by decide) (by decide)
  · rw [hn]
    refine o_iload C X at_45 47 rfl rfl ?_
    refine o_newarrayI C X hZ (hw _ (List.mem_of_getElem? (i := 0) rfl)) e0 (2) (by decide) (2) (by decide) (by decide) (by decide) (by decide) at_47 49 rfl ?_
    intro T h_1 a g_a X e_1 E_1 Aa_1
    have ge_a : n0 ≤ a := by rw [g_a]; exact Z0
    have Z_1 : n0 ≤ h_1.size := Nat.le_trans Z0 E_1.1
    refine o_astore C X at_49 51 rfl rfl #[.val (.int x0), .val (.int v1), .val (.int v2), .val (.int v3), .val (.int v4), .val (.int (2 : Int32)), .val (.int sm), .val (.ref a), .unset] rfl ?_
    refine o_aload C X at_51 53 rfl rfl rfl ?_
    refine o_iconst C X at_53 54 rfl (0 : Int32) (by decide) ?_
    refine o_iloadN C X at_54 55 rfl rfl ?_
    refine o_iastore C X hZ e_1 Aa_1 (0) (by decide) (by decide) at_55 56 rfl N0 ge_a ?_
    intro T h_2 locs_2 X e_2 W_2 N0 Aa_2
    have Z_2 : n0 ≤ h_2.size := by rw [W_2.size]; exact Z_1
    refine o_iload C X at_56 58 rfl rfl ?_
    refine o_iconst C X at_58 59 rfl (1 : Int32) (by decide) ?_
    refine o_icmpN C X at_59 62 rfl (tlt (by decide : (1 : Int32) < (2 : Int32))).2.2.2 ?_
    refine o_aload C X at_62 64 rfl rfl rfl ?_
    refine o_iconst C X at_64 65 rfl (1 : Int32) (by decide) ?_
    refine o_iloadN C X at_65 66 rfl rfl ?_
    refine o_iastore C X hZ e_2 Aa_2 (1) (by decide) (by decide) at_66 67 rfl N0 ge_a ?_
    intro T h_3 locs_3 X e_3 W_3 N0 Aa_3
    have Z_3 : n0 ≤ h_3.size := by rw [W_3.size]; exact Z_2
    refine o_iload C X at_67 69 rfl rfl ?_
    refine o_iconst C X at_69 70 rfl (2 : Int32) (by decide) ?_
    refine o_icmpY C X at_70 78 (by decide) (by decide) (flt (by decide : ¬ ((2 : Int32) < (2 : Int32)))).2.2.2 ?_
    refine o_iload C X at_78 80 rfl rfl ?_
    refine o_iconst C X at_80 81 rfl (3 : Int32) (by decide) ?_
    refine o_icmpY C X at_81 90 (by decide) (by decide) (flt (by decide : ¬ ((3 : Int32) < (2 : Int32)))).2.2.2 ?_
    refine o_aload C X at_90 92 rfl rfl rfl ?_
    obtain ⟨f, Aa_4⟩ : ∃ f, AI Z h_3 a .int 2 f := ⟨_, Aa_3⟩
    refine o_callP C X hZ (by rw [hml]; rfl) (own := "com/example/sagasu/sagasu/BlockScanRarestOfPinLaw") (y := (⟨"com/example/sagasu/sagasu/BlockScan", "rarestOf", "([I)I"⟩ : MethodName)) (rf := 0) (rl := 0) hown (hw _ (List.mem_of_getElem? (i := 1) rfl)) (hw _ (List.mem_of_getElem? (i := 2) rfl)) (hw _ (List.mem_of_getElem? (i := 3) rfl)) (hw _ (List.mem_of_getElem? (i := 4) rfl)) (by decide) (asL := [(.ref a)]) (rm1 l Z a0 hw a f h_3 2 (by decide) (by decide) Aa_4) e_3 pd_0 rfl rfl 0 (Nat.le_of_eq rfl) (by decide) (by decide) (by decide) (by decide) at_92 95 rfl ?_
    intro T X e_3
    have hb := (own_ro f (2 - 1) (2 - 1) (Nat.le_refl _)).1
    have hr : (Int32.ofNat (RO f (2 - 1) (2 - 1))).toInt = (RO f (2 - 1) (2 - 1) : Nat) := Int32.toInt_ofNat_of_lt (by omega)
    refine o_istore C X at_95 97 rfl #[.val (.int x0), .val (.int v1), .val (.int v2), .val (.int v3), .val (.int v4), .val (.int (2 : Int32)), .val (.int sm), .val (.ref a), .val (.int (Int32.ofNat (RO f (2 - 1) (2 - 1))))] rfl ?_
    refine o_iload C X at_97 99 rfl rfl ?_
    generalize hr0 : (Int32.ofNat (RO f (2 - 1) (2 - 1))) = r0
    rw [hr0] at hr
    refine o_ifN C X at_99 102 rfl ((if0 _ _).trans (flt (by rw [Int32.lt_iff_toInt_lt, hr, show (0 : Int32).toInt = 0 from rfl]; omega : ¬ (r0 < (0 : Int32)))).1) ?_
    refine o_iload C X at_102 104 rfl rfl ?_
    refine o_iload C X at_104 106 rfl rfl ?_
    refine o_icmpY C X at_106 111 (by decide) (by decide) (tlt (by rw [Int32.lt_iff_toInt_lt, hr, show (2 : Int32).toInt = 2 from rfl]; omega : r0 < (2 : Int32))).1 ?_
    refine o_aload C X at_111 113 rfl rfl rfl ?_
    refine o_iload C X at_113 115 rfl rfl ?_
    refine o_iload C X at_115 117 rfl rfl ?_
    refine o_iconst C X at_117 118 rfl (0 : Int32) (by decide) ?_
    refine o_callP C X hZ (by rw [hml]; rfl) (own := "com/example/sagasu/sagasu/BlockScanRarestOfPinLaw") (y := (⟨"com/example/sagasu/sagasu/BlockScanRarestOfPinLaw", "ok", "([IIII)Z"⟩ : MethodName)) (rf := 0) (rl := 0) hown (hw _ (List.mem_of_getElem? (i := 5) rfl)) (hw _ (List.mem_of_getElem? (i := 6) rfl)) (hw _ (List.mem_of_getElem? (i := 7) rfl)) (hw _ (List.mem_of_getElem? (i := 8) rfl)) (by decide) (asL := [(.ref a), (.int (2 : Int32)), (.int r0), (.int (0 : Int32))]) (rm2 l Z a0 hw a f 2 0 (RO f (2 - 1) (2 - 1)) (2 : Int32) r0 (0 : Int32) h_3 (by decide) hr (by decide) (by omega) (by decide) Aa_4) e_3 pd_1 rfl rfl 0 (Nat.le_of_eq rfl) (by decide) (by decide) (by decide) (by decide) at_118 121 rfl ?_
    intro T X e_3
    refine o_ifN C X at_121 124 rfl ((if0 _ _).trans (feq (by rw [own_fo f 2 0 r0 (0 : Int32) (by decide) (by decide) (by decide) (by decide) hr]; decide : ¬ ((FO f 0 (RO f (2 - 1) (2 - 1)) r0 (0 : Int32)) = (0 : Int32)))).1) ?_
    refine o_aload C X at_124 126 rfl rfl rfl ?_
    refine o_iload C X at_126 128 rfl rfl ?_
    refine o_iload C X at_128 130 rfl rfl ?_
    refine o_iconst C X at_130 131 rfl (1 : Int32) (by decide) ?_
    refine o_callP C X hZ (by rw [hml]; rfl) (own := "com/example/sagasu/sagasu/BlockScanRarestOfPinLaw") (y := (⟨"com/example/sagasu/sagasu/BlockScanRarestOfPinLaw", "ok", "([IIII)Z"⟩ : MethodName)) (rf := 0) (rl := 0) hown (hw _ (List.mem_of_getElem? (i := 5) rfl)) (hw _ (List.mem_of_getElem? (i := 6) rfl)) (hw _ (List.mem_of_getElem? (i := 7) rfl)) (hw _ (List.mem_of_getElem? (i := 8) rfl)) (by decide) (asL := [(.ref a), (.int (2 : Int32)), (.int r0), (.int (1 : Int32))]) (rm2 l Z a0 hw a f 2 1 (RO f (2 - 1) (2 - 1)) (2 : Int32) r0 (1 : Int32) h_3 (by decide) hr (by decide) (by omega) (by decide) Aa_4) e_3 pd_1 rfl rfl 0 (Nat.le_of_eq rfl) (by decide) (by decide) (by decide) (by decide) at_131 134 rfl ?_
    intro T X e_3
    refine o_ifN C X at_134 137 rfl ((if0 _ _).trans (feq (by rw [own_fo f 2 1 r0 (1 : Int32) (by decide) (by decide) (by decide) (by decide) hr]; decide : ¬ ((FO f 1 (RO f (2 - 1) (2 - 1)) r0 (1 : Int32)) = (0 : Int32)))).1) ?_
    refine o_aload C X at_137 139 rfl rfl rfl ?_
    refine o_iload C X at_139 141 rfl rfl ?_
    refine o_iload C X at_141 143 rfl rfl ?_
    refine o_iconst C X at_143 144 rfl (2 : Int32) (by decide) ?_
    refine o_callP C X hZ (by rw [hml]; rfl) (own := "com/example/sagasu/sagasu/BlockScanRarestOfPinLaw") (y := (⟨"com/example/sagasu/sagasu/BlockScanRarestOfPinLaw", "ok", "([IIII)Z"⟩ : MethodName)) (rf := 0) (rl := 0) hown (hw _ (List.mem_of_getElem? (i := 5) rfl)) (hw _ (List.mem_of_getElem? (i := 6) rfl)) (hw _ (List.mem_of_getElem? (i := 7) rfl)) (hw _ (List.mem_of_getElem? (i := 8) rfl)) (by decide) (asL := [(.ref a), (.int (2 : Int32)), (.int r0), (.int (2 : Int32))]) (rk2 l Z a0 hw a (2 : Int32) r0 (2 : Int32) h_3 (by decide)) e_3 pd_1 rfl rfl 0 (Nat.le_of_eq rfl) (by decide) (by decide) (by decide) (by decide) at_144 147 rfl ?_
    intro T X e_3
    refine o_ifN C X at_147 150 rfl ((if0 _ _).trans (feq (by decide : ¬ ((1 : Int32) = (0 : Int32)))).1) ?_
    refine o_aload C X at_150 152 rfl rfl rfl ?_
    refine o_iload C X at_152 154 rfl rfl ?_
    refine o_iload C X at_154 156 rfl rfl ?_
    refine o_iconst C X at_156 157 rfl (3 : Int32) (by decide) ?_
    refine o_callP C X hZ (by rw [hml]; rfl) (own := "com/example/sagasu/sagasu/BlockScanRarestOfPinLaw") (y := (⟨"com/example/sagasu/sagasu/BlockScanRarestOfPinLaw", "ok", "([IIII)Z"⟩ : MethodName)) (rf := 0) (rl := 0) hown (hw _ (List.mem_of_getElem? (i := 5) rfl)) (hw _ (List.mem_of_getElem? (i := 6) rfl)) (hw _ (List.mem_of_getElem? (i := 7) rfl)) (hw _ (List.mem_of_getElem? (i := 8) rfl)) (by decide) (asL := [(.ref a), (.int (2 : Int32)), (.int r0), (.int (3 : Int32))]) (rk2 l Z a0 hw a (2 : Int32) r0 (3 : Int32) h_3 (by decide)) e_3 pd_1 rfl rfl 0 (Nat.le_of_eq rfl) (by decide) (by decide) (by decide) (by decide) at_157 160 rfl ?_
    intro T X e_3
    refine o_ifN C X at_160 163 rfl ((if0 _ _).trans (feq (by decide : ¬ ((1 : Int32) = (0 : Int32)))).1) ?_
    refine o_iconst C X at_163 164 rfl (1 : Int32) (by decide) ?_
    refine o_goto C X at_164 168 (by decide) (by decide) ?_
    exact o_retN C X hret (by simp) hlk at_168 ⟨congrArg some (congrArg _ (rfl)), N0⟩ (by decide) (by decide)
  · rw [hn]
    refine o_iload C X at_45 47 rfl rfl ?_
    refine o_newarrayI C X hZ (hw _ (List.mem_of_getElem? (i := 0) rfl)) e0 (3) (by decide) (3) (by decide) (by decide) (by decide) (by decide) at_47 49 rfl ?_
    intro T h_1 a g_a X e_1 E_1 Aa_1
    have ge_a : n0 ≤ a := by rw [g_a]; exact Z0
    have Z_1 : n0 ≤ h_1.size := Nat.le_trans Z0 E_1.1
    refine o_astore C X at_49 51 rfl rfl #[.val (.int x0), .val (.int v1), .val (.int v2), .val (.int v3), .val (.int v4), .val (.int (3 : Int32)), .val (.int sm), .val (.ref a), .unset] rfl ?_
    refine o_aload C X at_51 53 rfl rfl rfl ?_
    refine o_iconst C X at_53 54 rfl (0 : Int32) (by decide) ?_
    refine o_iloadN C X at_54 55 rfl rfl ?_
    refine o_iastore C X hZ e_1 Aa_1 (0) (by decide) (by decide) at_55 56 rfl N0 ge_a ?_
    intro T h_2 locs_2 X e_2 W_2 N0 Aa_2
    have Z_2 : n0 ≤ h_2.size := by rw [W_2.size]; exact Z_1
    refine o_iload C X at_56 58 rfl rfl ?_
    refine o_iconst C X at_58 59 rfl (1 : Int32) (by decide) ?_
    refine o_icmpN C X at_59 62 rfl (tlt (by decide : (1 : Int32) < (3 : Int32))).2.2.2 ?_
    refine o_aload C X at_62 64 rfl rfl rfl ?_
    refine o_iconst C X at_64 65 rfl (1 : Int32) (by decide) ?_
    refine o_iloadN C X at_65 66 rfl rfl ?_
    refine o_iastore C X hZ e_2 Aa_2 (1) (by decide) (by decide) at_66 67 rfl N0 ge_a ?_
    intro T h_3 locs_3 X e_3 W_3 N0 Aa_3
    have Z_3 : n0 ≤ h_3.size := by rw [W_3.size]; exact Z_2
    refine o_iload C X at_67 69 rfl rfl ?_
    refine o_iconst C X at_69 70 rfl (2 : Int32) (by decide) ?_
    refine o_icmpN C X at_70 73 rfl (tlt (by decide : (2 : Int32) < (3 : Int32))).2.2.2 ?_
    refine o_aload C X at_73 75 rfl rfl rfl ?_
    refine o_iconst C X at_75 76 rfl (2 : Int32) (by decide) ?_
    refine o_iloadN C X at_76 77 rfl rfl ?_
    refine o_iastore C X hZ e_3 Aa_3 (2) (by decide) (by decide) at_77 78 rfl N0 ge_a ?_
    intro T h_4 locs_4 X e_4 W_4 N0 Aa_4
    have Z_4 : n0 ≤ h_4.size := by rw [W_4.size]; exact Z_3
    refine o_iload C X at_78 80 rfl rfl ?_
    refine o_iconst C X at_80 81 rfl (3 : Int32) (by decide) ?_
    refine o_icmpY C X at_81 90 (by decide) (by decide) (flt (by decide : ¬ ((3 : Int32) < (3 : Int32)))).2.2.2 ?_
    refine o_aload C X at_90 92 rfl rfl rfl ?_
    obtain ⟨f, Aa_5⟩ : ∃ f, AI Z h_4 a .int 3 f := ⟨_, Aa_4⟩
    refine o_callP C X hZ (by rw [hml]; rfl) (own := "com/example/sagasu/sagasu/BlockScanRarestOfPinLaw") (y := (⟨"com/example/sagasu/sagasu/BlockScan", "rarestOf", "([I)I"⟩ : MethodName)) (rf := 0) (rl := 0) hown (hw _ (List.mem_of_getElem? (i := 1) rfl)) (hw _ (List.mem_of_getElem? (i := 2) rfl)) (hw _ (List.mem_of_getElem? (i := 3) rfl)) (hw _ (List.mem_of_getElem? (i := 4) rfl)) (by decide) (asL := [(.ref a)]) (rm1 l Z a0 hw a f h_4 3 (by decide) (by decide) Aa_5) e_4 pd_0 rfl rfl 0 (Nat.le_of_eq rfl) (by decide) (by decide) (by decide) (by decide) at_92 95 rfl ?_
    intro T X e_4
    have hb := (own_ro f (3 - 1) (3 - 1) (Nat.le_refl _)).1
    have hr : (Int32.ofNat (RO f (3 - 1) (3 - 1))).toInt = (RO f (3 - 1) (3 - 1) : Nat) := Int32.toInt_ofNat_of_lt (by omega)
    refine o_istore C X at_95 97 rfl #[.val (.int x0), .val (.int v1), .val (.int v2), .val (.int v3), .val (.int v4), .val (.int (3 : Int32)), .val (.int sm), .val (.ref a), .val (.int (Int32.ofNat (RO f (3 - 1) (3 - 1))))] rfl ?_
    refine o_iload C X at_97 99 rfl rfl ?_
    generalize hr0 : (Int32.ofNat (RO f (3 - 1) (3 - 1))) = r0
    rw [hr0] at hr
    refine o_ifN C X at_99 102 rfl ((if0 _ _).trans (flt (by rw [Int32.lt_iff_toInt_lt, hr, show (0 : Int32).toInt = 0 from rfl]; omega : ¬ (r0 < (0 : Int32)))).1) ?_
    refine o_iload C X at_102 104 rfl rfl ?_
    refine o_iload C X at_104 106 rfl rfl ?_
    refine o_icmpY C X at_106 111 (by decide) (by decide) (tlt (by rw [Int32.lt_iff_toInt_lt, hr, show (3 : Int32).toInt = 3 from rfl]; omega : r0 < (3 : Int32))).1 ?_
    refine o_aload C X at_111 113 rfl rfl rfl ?_
    refine o_iload C X at_113 115 rfl rfl ?_
    refine o_iload C X at_115 117 rfl rfl ?_
    refine o_iconst C X at_117 118 rfl (0 : Int32) (by decide) ?_
    refine o_callP C X hZ (by rw [hml]; rfl) (own := "com/example/sagasu/sagasu/BlockScanRarestOfPinLaw") (y := (⟨"com/example/sagasu/sagasu/BlockScanRarestOfPinLaw", "ok", "([IIII)Z"⟩ : MethodName)) (rf := 0) (rl := 0) hown (hw _ (List.mem_of_getElem? (i := 5) rfl)) (hw _ (List.mem_of_getElem? (i := 6) rfl)) (hw _ (List.mem_of_getElem? (i := 7) rfl)) (hw _ (List.mem_of_getElem? (i := 8) rfl)) (by decide) (asL := [(.ref a), (.int (3 : Int32)), (.int r0), (.int (0 : Int32))]) (rm2 l Z a0 hw a f 3 0 (RO f (3 - 1) (3 - 1)) (3 : Int32) r0 (0 : Int32) h_4 (by decide) hr (by decide) (by omega) (by decide) Aa_5) e_4 pd_1 rfl rfl 0 (Nat.le_of_eq rfl) (by decide) (by decide) (by decide) (by decide) at_118 121 rfl ?_
    intro T X e_4
    refine o_ifN C X at_121 124 rfl ((if0 _ _).trans (feq (by rw [own_fo f 3 0 r0 (0 : Int32) (by decide) (by decide) (by decide) (by decide) hr]; decide : ¬ ((FO f 0 (RO f (3 - 1) (3 - 1)) r0 (0 : Int32)) = (0 : Int32)))).1) ?_
    refine o_aload C X at_124 126 rfl rfl rfl ?_
    refine o_iload C X at_126 128 rfl rfl ?_
    refine o_iload C X at_128 130 rfl rfl ?_
    refine o_iconst C X at_130 131 rfl (1 : Int32) (by decide) ?_
    refine o_callP C X hZ (by rw [hml]; rfl) (own := "com/example/sagasu/sagasu/BlockScanRarestOfPinLaw") (y := (⟨"com/example/sagasu/sagasu/BlockScanRarestOfPinLaw", "ok", "([IIII)Z"⟩ : MethodName)) (rf := 0) (rl := 0) hown (hw _ (List.mem_of_getElem? (i := 5) rfl)) (hw _ (List.mem_of_getElem? (i := 6) rfl)) (hw _ (List.mem_of_getElem? (i := 7) rfl)) (hw _ (List.mem_of_getElem? (i := 8) rfl)) (by decide) (asL := [(.ref a), (.int (3 : Int32)), (.int r0), (.int (1 : Int32))]) (rm2 l Z a0 hw a f 3 1 (RO f (3 - 1) (3 - 1)) (3 : Int32) r0 (1 : Int32) h_4 (by decide) hr (by decide) (by omega) (by decide) Aa_5) e_4 pd_1 rfl rfl 0 (Nat.le_of_eq rfl) (by decide) (by decide) (by decide) (by decide) at_131 134 rfl ?_
    intro T X e_4
    refine o_ifN C X at_134 137 rfl ((if0 _ _).trans (feq (by rw [own_fo f 3 1 r0 (1 : Int32) (by decide) (by decide) (by decide) (by decide) hr]; decide : ¬ ((FO f 1 (RO f (3 - 1) (3 - 1)) r0 (1 : Int32)) = (0 : Int32)))).1) ?_
    refine o_aload C X at_137 139 rfl rfl rfl ?_
    refine o_iload C X at_139 141 rfl rfl ?_
    refine o_iload C X at_141 143 rfl rfl ?_
    refine o_iconst C X at_143 144 rfl (2 : Int32) (by decide) ?_
    refine o_callP C X hZ (by rw [hml]; rfl) (own := "com/example/sagasu/sagasu/BlockScanRarestOfPinLaw") (y := (⟨"com/example/sagasu/sagasu/BlockScanRarestOfPinLaw", "ok", "([IIII)Z"⟩ : MethodName)) (rf := 0) (rl := 0) hown (hw _ (List.mem_of_getElem? (i := 5) rfl)) (hw _ (List.mem_of_getElem? (i := 6) rfl)) (hw _ (List.mem_of_getElem? (i := 7) rfl)) (hw _ (List.mem_of_getElem? (i := 8) rfl)) (by decide) (asL := [(.ref a), (.int (3 : Int32)), (.int r0), (.int (2 : Int32))]) (rm2 l Z a0 hw a f 3 2 (RO f (3 - 1) (3 - 1)) (3 : Int32) r0 (2 : Int32) h_4 (by decide) hr (by decide) (by omega) (by decide) Aa_5) e_4 pd_1 rfl rfl 0 (Nat.le_of_eq rfl) (by decide) (by decide) (by decide) (by decide) at_144 147 rfl ?_
    intro T X e_4
    refine o_ifN C X at_147 150 rfl ((if0 _ _).trans (feq (by rw [own_fo f 3 2 r0 (2 : Int32) (by decide) (by decide) (by decide) (by decide) hr]; decide : ¬ ((FO f 2 (RO f (3 - 1) (3 - 1)) r0 (2 : Int32)) = (0 : Int32)))).1) ?_
    refine o_aload C X at_150 152 rfl rfl rfl ?_
    refine o_iload C X at_152 154 rfl rfl ?_
    refine o_iload C X at_154 156 rfl rfl ?_
    refine o_iconst C X at_156 157 rfl (3 : Int32) (by decide) ?_
    refine o_callP C X hZ (by rw [hml]; rfl) (own := "com/example/sagasu/sagasu/BlockScanRarestOfPinLaw") (y := (⟨"com/example/sagasu/sagasu/BlockScanRarestOfPinLaw", "ok", "([IIII)Z"⟩ : MethodName)) (rf := 0) (rl := 0) hown (hw _ (List.mem_of_getElem? (i := 5) rfl)) (hw _ (List.mem_of_getElem? (i := 6) rfl)) (hw _ (List.mem_of_getElem? (i := 7) rfl)) (hw _ (List.mem_of_getElem? (i := 8) rfl)) (by decide) (asL := [(.ref a), (.int (3 : Int32)), (.int r0), (.int (3 : Int32))]) (rk2 l Z a0 hw a (3 : Int32) r0 (3 : Int32) h_4 (by decide)) e_4 pd_1 rfl rfl 0 (Nat.le_of_eq rfl) (by decide) (by decide) (by decide) (by decide) at_157 160 rfl ?_
    intro T X e_4
    refine o_ifN C X at_160 163 rfl ((if0 _ _).trans (feq (by decide : ¬ ((1 : Int32) = (0 : Int32)))).1) ?_
    refine o_iconst C X at_163 164 rfl (1 : Int32) (by decide) ?_
    refine o_goto C X at_164 168 (by decide) (by decide) ?_
    exact o_retN C X hret (by simp) hlk at_168 ⟨congrArg some (congrArg _ (rfl)), N0⟩ (by decide) (by decide)
  · rw [hn]
    refine o_iload C X at_45 47 rfl rfl ?_
    refine o_newarrayI C X hZ (hw _ (List.mem_of_getElem? (i := 0) rfl)) e0 (4) (by decide) (4) (by decide) (by decide) (by decide) (by decide) at_47 49 rfl ?_
    intro T h_1 a g_a X e_1 E_1 Aa_1
    have ge_a : n0 ≤ a := by rw [g_a]; exact Z0
    have Z_1 : n0 ≤ h_1.size := Nat.le_trans Z0 E_1.1
    refine o_astore C X at_49 51 rfl rfl #[.val (.int x0), .val (.int v1), .val (.int v2), .val (.int v3), .val (.int v4), .val (.int (4 : Int32)), .val (.int sm), .val (.ref a), .unset] rfl ?_
    refine o_aload C X at_51 53 rfl rfl rfl ?_
    refine o_iconst C X at_53 54 rfl (0 : Int32) (by decide) ?_
    refine o_iloadN C X at_54 55 rfl rfl ?_
    refine o_iastore C X hZ e_1 Aa_1 (0) (by decide) (by decide) at_55 56 rfl N0 ge_a ?_
    intro T h_2 locs_2 X e_2 W_2 N0 Aa_2
    have Z_2 : n0 ≤ h_2.size := by rw [W_2.size]; exact Z_1
    refine o_iload C X at_56 58 rfl rfl ?_
    refine o_iconst C X at_58 59 rfl (1 : Int32) (by decide) ?_
    refine o_icmpN C X at_59 62 rfl (tlt (by decide : (1 : Int32) < (4 : Int32))).2.2.2 ?_
    refine o_aload C X at_62 64 rfl rfl rfl ?_
    refine o_iconst C X at_64 65 rfl (1 : Int32) (by decide) ?_
    refine o_iloadN C X at_65 66 rfl rfl ?_
    refine o_iastore C X hZ e_2 Aa_2 (1) (by decide) (by decide) at_66 67 rfl N0 ge_a ?_
    intro T h_3 locs_3 X e_3 W_3 N0 Aa_3
    have Z_3 : n0 ≤ h_3.size := by rw [W_3.size]; exact Z_2
    refine o_iload C X at_67 69 rfl rfl ?_
    refine o_iconst C X at_69 70 rfl (2 : Int32) (by decide) ?_
    refine o_icmpN C X at_70 73 rfl (tlt (by decide : (2 : Int32) < (4 : Int32))).2.2.2 ?_
    refine o_aload C X at_73 75 rfl rfl rfl ?_
    refine o_iconst C X at_75 76 rfl (2 : Int32) (by decide) ?_
    refine o_iloadN C X at_76 77 rfl rfl ?_
    refine o_iastore C X hZ e_3 Aa_3 (2) (by decide) (by decide) at_77 78 rfl N0 ge_a ?_
    intro T h_4 locs_4 X e_4 W_4 N0 Aa_4
    have Z_4 : n0 ≤ h_4.size := by rw [W_4.size]; exact Z_3
    refine o_iload C X at_78 80 rfl rfl ?_
    refine o_iconst C X at_80 81 rfl (3 : Int32) (by decide) ?_
    refine o_icmpN C X at_81 84 rfl (tlt (by decide : (3 : Int32) < (4 : Int32))).2.2.2 ?_
    refine o_aload C X at_84 86 rfl rfl rfl ?_
    refine o_iconst C X at_86 87 rfl (3 : Int32) (by decide) ?_
    refine o_iload C X at_87 89 rfl rfl ?_
    refine o_iastore C X hZ e_4 Aa_4 (3) (by decide) (by decide) at_89 90 rfl N0 ge_a ?_
    intro T h_5 locs_5 X e_5 W_5 N0 Aa_5
    have Z_5 : n0 ≤ h_5.size := by rw [W_5.size]; exact Z_4
    refine o_aload C X at_90 92 rfl rfl rfl ?_
    obtain ⟨f, Aa_6⟩ : ∃ f, AI Z h_5 a .int 4 f := ⟨_, Aa_5⟩
    refine o_callP C X hZ (by rw [hml]; rfl) (own := "com/example/sagasu/sagasu/BlockScanRarestOfPinLaw") (y := (⟨"com/example/sagasu/sagasu/BlockScan", "rarestOf", "([I)I"⟩ : MethodName)) (rf := 0) (rl := 0) hown (hw _ (List.mem_of_getElem? (i := 1) rfl)) (hw _ (List.mem_of_getElem? (i := 2) rfl)) (hw _ (List.mem_of_getElem? (i := 3) rfl)) (hw _ (List.mem_of_getElem? (i := 4) rfl)) (by decide) (asL := [(.ref a)]) (rm1 l Z a0 hw a f h_5 4 (by decide) (by decide) Aa_6) e_5 pd_0 rfl rfl 0 (Nat.le_of_eq rfl) (by decide) (by decide) (by decide) (by decide) at_92 95 rfl ?_
    intro T X e_5
    have hb := (own_ro f (4 - 1) (4 - 1) (Nat.le_refl _)).1
    have hr : (Int32.ofNat (RO f (4 - 1) (4 - 1))).toInt = (RO f (4 - 1) (4 - 1) : Nat) := Int32.toInt_ofNat_of_lt (by omega)
    refine o_istore C X at_95 97 rfl #[.val (.int x0), .val (.int v1), .val (.int v2), .val (.int v3), .val (.int v4), .val (.int (4 : Int32)), .val (.int sm), .val (.ref a), .val (.int (Int32.ofNat (RO f (4 - 1) (4 - 1))))] rfl ?_
    refine o_iload C X at_97 99 rfl rfl ?_
    generalize hr0 : (Int32.ofNat (RO f (4 - 1) (4 - 1))) = r0
    rw [hr0] at hr
    refine o_ifN C X at_99 102 rfl ((if0 _ _).trans (flt (by rw [Int32.lt_iff_toInt_lt, hr, show (0 : Int32).toInt = 0 from rfl]; omega : ¬ (r0 < (0 : Int32)))).1) ?_
    refine o_iload C X at_102 104 rfl rfl ?_
    refine o_iload C X at_104 106 rfl rfl ?_
    refine o_icmpY C X at_106 111 (by decide) (by decide) (tlt (by rw [Int32.lt_iff_toInt_lt, hr, show (4 : Int32).toInt = 4 from rfl]; omega : r0 < (4 : Int32))).1 ?_
    refine o_aload C X at_111 113 rfl rfl rfl ?_
    refine o_iload C X at_113 115 rfl rfl ?_
    refine o_iload C X at_115 117 rfl rfl ?_
    refine o_iconst C X at_117 118 rfl (0 : Int32) (by decide) ?_
    refine o_callP C X hZ (by rw [hml]; rfl) (own := "com/example/sagasu/sagasu/BlockScanRarestOfPinLaw") (y := (⟨"com/example/sagasu/sagasu/BlockScanRarestOfPinLaw", "ok", "([IIII)Z"⟩ : MethodName)) (rf := 0) (rl := 0) hown (hw _ (List.mem_of_getElem? (i := 5) rfl)) (hw _ (List.mem_of_getElem? (i := 6) rfl)) (hw _ (List.mem_of_getElem? (i := 7) rfl)) (hw _ (List.mem_of_getElem? (i := 8) rfl)) (by decide) (asL := [(.ref a), (.int (4 : Int32)), (.int r0), (.int (0 : Int32))]) (rm2 l Z a0 hw a f 4 0 (RO f (4 - 1) (4 - 1)) (4 : Int32) r0 (0 : Int32) h_5 (by decide) hr (by decide) (by omega) (by decide) Aa_6) e_5 pd_1 rfl rfl 0 (Nat.le_of_eq rfl) (by decide) (by decide) (by decide) (by decide) at_118 121 rfl ?_
    intro T X e_5
    refine o_ifN C X at_121 124 rfl ((if0 _ _).trans (feq (by rw [own_fo f 4 0 r0 (0 : Int32) (by decide) (by decide) (by decide) (by decide) hr]; decide : ¬ ((FO f 0 (RO f (4 - 1) (4 - 1)) r0 (0 : Int32)) = (0 : Int32)))).1) ?_
    refine o_aload C X at_124 126 rfl rfl rfl ?_
    refine o_iload C X at_126 128 rfl rfl ?_
    refine o_iload C X at_128 130 rfl rfl ?_
    refine o_iconst C X at_130 131 rfl (1 : Int32) (by decide) ?_
    refine o_callP C X hZ (by rw [hml]; rfl) (own := "com/example/sagasu/sagasu/BlockScanRarestOfPinLaw") (y := (⟨"com/example/sagasu/sagasu/BlockScanRarestOfPinLaw", "ok", "([IIII)Z"⟩ : MethodName)) (rf := 0) (rl := 0) hown (hw _ (List.mem_of_getElem? (i := 5) rfl)) (hw _ (List.mem_of_getElem? (i := 6) rfl)) (hw _ (List.mem_of_getElem? (i := 7) rfl)) (hw _ (List.mem_of_getElem? (i := 8) rfl)) (by decide) (asL := [(.ref a), (.int (4 : Int32)), (.int r0), (.int (1 : Int32))]) (rm2 l Z a0 hw a f 4 1 (RO f (4 - 1) (4 - 1)) (4 : Int32) r0 (1 : Int32) h_5 (by decide) hr (by decide) (by omega) (by decide) Aa_6) e_5 pd_1 rfl rfl 0 (Nat.le_of_eq rfl) (by decide) (by decide) (by decide) (by decide) at_131 134 rfl ?_
    intro T X e_5
    refine o_ifN C X at_134 137 rfl ((if0 _ _).trans (feq (by rw [own_fo f 4 1 r0 (1 : Int32) (by decide) (by decide) (by decide) (by decide) hr]; decide : ¬ ((FO f 1 (RO f (4 - 1) (4 - 1)) r0 (1 : Int32)) = (0 : Int32)))).1) ?_
    refine o_aload C X at_137 139 rfl rfl rfl ?_
    refine o_iload C X at_139 141 rfl rfl ?_
    refine o_iload C X at_141 143 rfl rfl ?_
    refine o_iconst C X at_143 144 rfl (2 : Int32) (by decide) ?_
    refine o_callP C X hZ (by rw [hml]; rfl) (own := "com/example/sagasu/sagasu/BlockScanRarestOfPinLaw") (y := (⟨"com/example/sagasu/sagasu/BlockScanRarestOfPinLaw", "ok", "([IIII)Z"⟩ : MethodName)) (rf := 0) (rl := 0) hown (hw _ (List.mem_of_getElem? (i := 5) rfl)) (hw _ (List.mem_of_getElem? (i := 6) rfl)) (hw _ (List.mem_of_getElem? (i := 7) rfl)) (hw _ (List.mem_of_getElem? (i := 8) rfl)) (by decide) (asL := [(.ref a), (.int (4 : Int32)), (.int r0), (.int (2 : Int32))]) (rm2 l Z a0 hw a f 4 2 (RO f (4 - 1) (4 - 1)) (4 : Int32) r0 (2 : Int32) h_5 (by decide) hr (by decide) (by omega) (by decide) Aa_6) e_5 pd_1 rfl rfl 0 (Nat.le_of_eq rfl) (by decide) (by decide) (by decide) (by decide) at_144 147 rfl ?_
    intro T X e_5
    refine o_ifN C X at_147 150 rfl ((if0 _ _).trans (feq (by rw [own_fo f 4 2 r0 (2 : Int32) (by decide) (by decide) (by decide) (by decide) hr]; decide : ¬ ((FO f 2 (RO f (4 - 1) (4 - 1)) r0 (2 : Int32)) = (0 : Int32)))).1) ?_
    refine o_aload C X at_150 152 rfl rfl rfl ?_
    refine o_iload C X at_152 154 rfl rfl ?_
    refine o_iload C X at_154 156 rfl rfl ?_
    refine o_iconst C X at_156 157 rfl (3 : Int32) (by decide) ?_
    refine o_callP C X hZ (by rw [hml]; rfl) (own := "com/example/sagasu/sagasu/BlockScanRarestOfPinLaw") (y := (⟨"com/example/sagasu/sagasu/BlockScanRarestOfPinLaw", "ok", "([IIII)Z"⟩ : MethodName)) (rf := 0) (rl := 0) hown (hw _ (List.mem_of_getElem? (i := 5) rfl)) (hw _ (List.mem_of_getElem? (i := 6) rfl)) (hw _ (List.mem_of_getElem? (i := 7) rfl)) (hw _ (List.mem_of_getElem? (i := 8) rfl)) (by decide) (asL := [(.ref a), (.int (4 : Int32)), (.int r0), (.int (3 : Int32))]) (rm2 l Z a0 hw a f 4 3 (RO f (4 - 1) (4 - 1)) (4 : Int32) r0 (3 : Int32) h_5 (by decide) hr (by decide) (by omega) (by decide) Aa_6) e_5 pd_1 rfl rfl 0 (Nat.le_of_eq rfl) (by decide) (by decide) (by decide) (by decide) at_157 160 rfl ?_
    intro T X e_5
    refine o_ifN C X at_160 163 rfl ((if0 _ _).trans (feq (by rw [own_fo f 4 3 r0 (3 : Int32) (by decide) (by decide) (by decide) (by decide) hr]; decide : ¬ ((FO f 3 (RO f (4 - 1) (4 - 1)) r0 (3 : Int32)) = (0 : Int32)))).1) ?_
    refine o_iconst C X at_163 164 rfl (1 : Int32) (by decide) ?_
    refine o_goto C X at_164 168 (by decide) (by decide) ?_
    exact o_retN C X hret (by simp) hlk at_168 ⟨congrArg some (congrArg _ (rfl)), N0⟩ (by decide) (by decide)
set_option maxRecDepth 65536 in
set_option maxHeartbeats 40000000 in
theorem comes_1 {Post : Tables → Env → Array Value → State → Outcome → State → Prop} (hpost : ∀ tb e args s v u, (limb_1_1.after args s (.returned v) u = true ∧ limb_1_2.after args s (.returned v) u = true ∧ True) → FrameEnd s (.returned v) u (Jvm.fieldLocs frame_1_writes args s ++ Jvm.arrayLocs frame_1_arrays args s ++ Jvm.staticLocs frame_1_statics s) 16 128 → Post tb e args s (.returned v) u) :
    ArmFor flags0 classFile x code maxLocals ret World_1 tables_1 room_1 Calls_1 rest_1 Pre_1 Post := by
  intro l hfl _ _ p e ha hc hk s m args below hf hA hF happ hP
  obtain ⟨hcalls, hrest, hpre⟩ := hP
  obtain ⟨-, -, -, hnamed, -, -, -, hat⟩ := (Spec.applies_iff hf).mp happ
  obtain ⟨hg, hn⟩ := and_e (Cond.before_iff.mp (show (Jvm.Cond.and given_1 narrow_1).before args s = true from hpre))
  obtain ⟨g0, g1⟩ := and_e hg
  obtain ⟨w0, w1, w2, w3, w4, rfl⟩ : ∃ w0 w1 w2 w3 w4 : Value, args = #[w0, w1, w2, w3, w4] := by
    have hs : args.size = 5 := by simpa [Cond.value, given_1] using g0
    obtain ⟨L⟩ := args
    match L, hs with
    | [w0, w1, w2, w3, w4], _ => exact ⟨w0, w1, w2, w3, w4, rfl⟩
  have hw := fun d (hd : d ∈ tables_1) => atoms_spec (ws := Jvm.Cond.code x code maxLocals ret :: tables_1) hat d (List.mem_cons_of_mem _ hd)
  have hfit : Fit s := fun {y c} hc i hi => by
    obtain ⟨ha, rfl⟩ := Array.getElem?_eq_some_iff.mp hc
    have q := List.all_eq_true.mp ((Array.all_eq_true_iff_forall_mem.mp hF) _ (Array.getElem_mem ha)) i (List.mem_range.mpr hi)
    simpa [Array.getElem?_eq_getElem hi] using q
  obtain ⟨f0, g1⟩ := and_e g1
  obtain ⟨i0, e0⟩ := is_v f0
  obtain rfl : w0 = (.int i0) := Option.some.inj e0
  obtain ⟨f1, g1⟩ := and_e g1
  obtain ⟨i1, e1⟩ := is_v f1
  obtain rfl : w1 = (.int i1) := Option.some.inj e1
  obtain ⟨f2, g1⟩ := and_e g1
  obtain ⟨i2, e2⟩ := is_v f2
  obtain rfl : w2 = (.int i2) := Option.some.inj e2
  obtain ⟨f3, g1⟩ := and_e g1
  obtain ⟨i3, e3⟩ := is_v f3
  obtain rfl : w3 = (.int i3) := Option.some.inj e3
  have f4 := g1
  obtain ⟨i4, e4⟩ := is_v f4
  obtain rfl : w4 = (.int i4) := Option.some.inj e4
  obtain ⟨n, o, h1, h2, h3, _, L, rfl, ⟨rfl, N⟩, hq⟩ := rm0 l s _ hw i0 i1 i2 i3 i4 s.heap s.heap.size (Nat.le_refl _) p e ha hc hk s m _ below hf ((Spec.applies_iff_loose hf).mp happ).1 ⟨rfl, State.Warmed39.refl s, rfl⟩ trivial
  exact ⟨n, _, h1, h2, h3, hpost _ _ _ _ _ _ ⟨Cond.after_iff.mpr rfl, Cond.after_iff.mpr (eq_i res_at (Term.int_eval (1)) rfl), trivial⟩ ⟨hq.1, hq.2.1, (hq.2.2.sift fun y hy => Or.inr (N y hy)).mono (by decide) (by decide)⟩⟩
theorem main_1_1 : Claimed_1_1 := comes_1 fun _ _ _ _ _ _ h hF => ⟨h.1, hF⟩
theorem main_1_2 : Claimed_1_2 := comes_1 fun _ _ _ _ _ _ h hF => ⟨h.2.1, hF⟩
end Jvm.Pilot.@@N@@
namespace Jvm.Pilot.@@N@@
open Jvm Jvm.ClassFile Sem Op Lib Jvm.Free Jvm.Stand Jvm.Pilot.@@N@@.Jvm.D
/-! MADE BY PROGRAM (witnessworld.py) out of the Statement's table words and the real class files: 10 classes; the members and pool entries that the words name. The judged class is class 1, her method 1. -/
namespace start1
open Jvm.ClassFile
def u (s : String) : CpInfo := .utf8 (stringToUtf16 s)
/-- a pool by its gaps: so many unusable entries, then the entry; so many at the end -/
def gap : Nat → List CpInfo → List CpInfo
  | 0, r => r
  | n + 1, r => .unusable :: gap n r
def poolList (es : List (Nat × CpInfo)) (last : Nat) : List CpInfo := es.foldr (fun e r => gap e.1 (e.2 :: r)) (gap last [])
def pool (es : List (Nat × CpInfo)) (last : Nat) : Array CpInfo := ⟨poolList es last⟩
def fileOf (pool : Array CpInfo) (this : Nat) (attrs : Array Attribute := #[]) (ms : Array MethodInfo := #[]) (fl : Nat := 33) (sup : Nat := 0) (ifs : Array Nat := #[]) (fds : Array FieldInfo := #[]) : ClassFile where
  minorVersion := 0
  majorVersion := 65
  constantPool := pool
  accessFlags := fl
  thisClass := this
  superClass := sup
  interfaces := ifs
  fields := fds
  methods := ms
  attributes := attrs
def plain (name : String) (sup : Option ClassId) : Class where
  name := name
  kind := .ordinary
  loader := none
  accessFlags := 33
  super := sup
  interfaces := #[]
  cf := none
  fields := #[]
  methods := #[]
  instanceTypes := #[]
  staticTypes := #[]
  resolved := #[]
  callSites := []
  init := .initialized
  statics := none
  mirror := none

def pool0 : Array CpInfo := pool [(5, u "<init>"), (0, u "()V"), (1, .class_ 10), (1, u "java/lang/Object")] 113

def k0m0 : Method := { name := "<init>", desc := "()V", sig := { parameters := [], returnType := none }, accessFlags := 1, code := none }
/-- java/lang/Object -/
def k0 : Class := { plain "java/lang/Object" none with
  accessFlags := 33
  interfaces := #[]
  cf := some (fileOf pool0 8 #[] #[{ accessFlags := 1, nameIndex := 5, descriptorIndex := 6, attributes := #[] }] 33 0 #[] #[])
  fields := #[]
  methods := #[k0m0]
  instanceTypes := #[]
  staticTypes := #[]
  resolved := Array.replicate 124 none
  statics := none }

def pool1 : Array CpInfo := pool [(2, .class_ 4), (1, u "java/lang/Object"), (0, u "<init>"), (0, u "()V"), (0, .methodref 8 9), (0, .class_ 10), (0, .nameAndType 11 12), (0, u "com/example/sagasu/sagasu/BlockScan"), (0, u "rarestOf"), (0, u "([I)I"), (0, .methodref 14 15), (0, .class_ 16), (0, .nameAndType 17 18), (0, u "com/example/sagasu/sagasu/BlockScanRarestOfPinLaw"), (0, u "ok"), (0, u "([IIII)Z"), (2, u "law"), (0, u "(IIIII)Z")] 5

def k1m0 : Method := { name := "<init>", desc := "()V", sig := { parameters := [], returnType := none }, accessFlags := 1, code := none }
def k1c1 : Code := { maxStack := 4, maxLocals := 9, code := code, exceptionTable := #[], attributes := #[] }
def k1m1 : Method := { name := "law", desc := "(IIIII)Z", sig := { parameters := [.int, .int, .int, .int, .int], returnType := some .boolean }, accessFlags := 9, code := some k1c1 }
def k1c2 : Code := { maxStack := 3, maxLocals := 4, code := method_3_code, exceptionTable := #[], attributes := #[] }
def k1m2 : Method := { name := "ok", desc := "([IIII)Z", sig := { parameters := [(.array .int), .int, .int, .int], returnType := some .boolean }, accessFlags := 10, code := some k1c2 }
/-- com/example/sagasu/sagasu/BlockScanRarestOfPinLaw -/
def k1 : Class := { plain "com/example/sagasu/sagasu/BlockScanRarestOfPinLaw" (some 0) with
  accessFlags := 49
  interfaces := #[]
  cf := some (fileOf pool1 14 #[] #[{ accessFlags := 1, nameIndex := 5, descriptorIndex := 6, attributes := #[] }, { accessFlags := 9, nameIndex := 21, descriptorIndex := 22, attributes := #[] }, { accessFlags := 10, nameIndex := 17, descriptorIndex := 18, attributes := #[] }] 49 2 #[] #[])
  fields := #[]
  methods := #[k1m0, k1m1, k1m2]
  instanceTypes := #[]
  staticTypes := #[]
  resolved := Array.replicate 28 none
  statics := none }

def pool2 : Array CpInfo := pool [(2, .class_ 4), (1, u "com/example/sagasu/sagasu/Search"), (11, .class_ 17), (0, u "java/lang/Object")] 7

/-- com/example/sagasu/sagasu/Search -/
def k2 : Class := { plain "com/example/sagasu/sagasu/Search" (some 0) with
  accessFlags := 1536
  interfaces := #[]
  cf := some (fileOf pool2 2 #[] #[] 1536 16 #[] #[])
  fields := #[]
  methods := #[]
  instanceTypes := #[]
  staticTypes := #[]
  resolved := Array.replicate 25 none
  statics := none }

def pool3 : Array CpInfo := pool [(2, .class_ 4), (1, u "java/lang/Object"), (2, .class_ 8), (0, u "com/example/sagasu/sagasu/BlockScan$Reads"), (4, .class_ 15), (1, u "com/example/sagasu/sagasu/BlockScan"), (0, u "reads"), (0, u "Lcom/example/sagasu/sagasu/BlockScan$Reads;"), (14, u "pattern"), (0, u "[C"), (2, u "ignoresCase"), (0, u "Z"), (2, u "charMasks"), (22, u "patternBytes"), (0, u "[B"), (2, u "byteMasks"), (20, u "turnedBytes"), (7, u "boyerMoore"), (0, u "Lcom/example/sagasu/sagasu/BoyerMoore;"), (0, .class_ 99), (0, u "com/example/sagasu/sagasu/BlockScan$Rest"), (85, .class_ 187), (1, u "com/example/sagasu/sagasu/BlockScan$Walk"), (51, .class_ 241), (1, u "com/example/sagasu/sagasu/BlockScan$Blocks"), (1, u "I"), (31, .class_ 276), (0, u "com/example/sagasu/sagasu/Search"), (0, u "MIN_WINDOWS"), (2, u "MAX_CHARAT_SCAN"), (1, u "DENSE"), (1, u "SAMPLES"), (0, u "OWN_BLOCKS"), (1, u "NEAR"), (1, u "FIRST_BLOCK"), (0, u "BOYER_MOORE_FROM"), (1, u "TRIES"), (0, u "PERIOD_NEAR"), (9, u "rarestOf"), (0, u "([I)I")] 32

def k3c0 : Code := { maxStack := 3, maxLocals := 3, code := prog_7_method_5_code, exceptionTable := #[], attributes := #[] }
def k3m0 : Method := { name := "rarestOf", desc := "([I)I", sig := { parameters := [(.array .int)], returnType := some .int }, accessFlags := 8, code := some k3c0 }
/-- com/example/sagasu/sagasu/BlockScan -/
def k3 : Class := { plain "com/example/sagasu/sagasu/BlockScan" (some 0) with
  accessFlags := 1056
  interfaces := #[2]
  cf := some (fileOf pool3 13 #[.nestMembers #[185, 7, 98, 239]] #[{ accessFlags := 8, nameIndex := 303, descriptorIndex := 304, attributes := #[] }] 1056 2 #[275] #[{ accessFlags := 24, nameIndex := 277, descriptorIndex := 243, attributes := #[] }, { accessFlags := 24, nameIndex := 280, descriptorIndex := 243, attributes := #[] }, { accessFlags := 24, nameIndex := 282, descriptorIndex := 243, attributes := #[] }, { accessFlags := 26, nameIndex := 284, descriptorIndex := 243, attributes := #[] }, { accessFlags := 26, nameIndex := 285, descriptorIndex := 243, attributes := #[] }, { accessFlags := 26, nameIndex := 287, descriptorIndex := 243, attributes := #[] }, { accessFlags := 26, nameIndex := 289, descriptorIndex := 243, attributes := #[] }, { accessFlags := 26, nameIndex := 290, descriptorIndex := 243, attributes := #[] }, { accessFlags := 26, nameIndex := 292, descriptorIndex := 243, attributes := #[] }, { accessFlags := 26, nameIndex := 293, descriptorIndex := 243, attributes := #[] }, { accessFlags := 16, nameIndex := 32, descriptorIndex := 33, attributes := #[] }, { accessFlags := 16, nameIndex := 40, descriptorIndex := 33, attributes := #[] }, { accessFlags := 16, nameIndex := 63, descriptorIndex := 64, attributes := #[] }, { accessFlags := 16, nameIndex := 67, descriptorIndex := 64, attributes := #[] }, { accessFlags := 16, nameIndex := 36, descriptorIndex := 37, attributes := #[] }, { accessFlags := 18, nameIndex := 88, descriptorIndex := 64, attributes := #[] }, { accessFlags := 18, nameIndex := 96, descriptorIndex := 97, attributes := #[] }, { accessFlags := 18, nameIndex := 16, descriptorIndex := 17, attributes := #[] }])
  fields := #[{ name := "MIN_WINDOWS", type := .int, accessFlags := 24, slot := 0, constantValue := 0 }, { name := "MAX_CHARAT_SCAN", type := .int, accessFlags := 24, slot := 1, constantValue := 0 }, { name := "DENSE", type := .int, accessFlags := 24, slot := 2, constantValue := 0 }, { name := "SAMPLES", type := .int, accessFlags := 26, slot := 3, constantValue := 0 }, { name := "OWN_BLOCKS", type := .int, accessFlags := 26, slot := 4, constantValue := 0 }, { name := "NEAR", type := .int, accessFlags := 26, slot := 5, constantValue := 0 }, { name := "FIRST_BLOCK", type := .int, accessFlags := 26, slot := 6, constantValue := 0 }, { name := "BOYER_MOORE_FROM", type := .int, accessFlags := 26, slot := 7, constantValue := 0 }, { name := "TRIES", type := .int, accessFlags := 26, slot := 8, constantValue := 0 }, { name := "PERIOD_NEAR", type := .int, accessFlags := 26, slot := 9, constantValue := 0 }, { name := "pattern", type := (.array .char), accessFlags := 16, slot := 0, constantValue := 0 }, { name := "charMasks", type := (.array .char), accessFlags := 16, slot := 1, constantValue := 0 }, { name := "patternBytes", type := (.array .byte), accessFlags := 16, slot := 2, constantValue := 0 }, { name := "byteMasks", type := (.array .byte), accessFlags := 16, slot := 3, constantValue := 0 }, { name := "ignoresCase", type := .boolean, accessFlags := 16, slot := 4, constantValue := 0 }, { name := "turnedBytes", type := (.array .byte), accessFlags := 18, slot := 5, constantValue := 0 }, { name := "boyerMoore", type := (.object "com/example/sagasu/sagasu/BoyerMoore"), accessFlags := 18, slot := 6, constantValue := 0 }, { name := "reads", type := (.object "com/example/sagasu/sagasu/BlockScan$Reads"), accessFlags := 18, slot := 7, constantValue := 0 }]
  methods := #[k3m0]
  instanceTypes := #[(.array .char), (.array .char), (.array .byte), (.array .byte), .boolean, (.array .byte), (.object "com/example/sagasu/sagasu/BoyerMoore"), (.object "com/example/sagasu/sagasu/BlockScan$Reads")]
  staticTypes := #[.int, .int, .int, .int, .int, .int, .int, .int, .int, .int]
  resolved := Array.replicate 337 none
  statics := none }

def pool4 : Array CpInfo := pool [(1, u "java/lang/Cloneable"), (0, .class_ 1), (0, u "java/lang/Object"), (0, .class_ 3)] 3

/-- java/lang/Cloneable -/
def k4 : Class := { plain "java/lang/Cloneable" (some 0) with
  accessFlags := 1537
  interfaces := #[]
  cf := some (fileOf pool4 2 #[] #[] 1537 4 #[] #[])
  fields := #[]
  methods := #[]
  instanceTypes := #[]
  staticTypes := #[]
  resolved := Array.replicate 8 none
  statics := none }

def pool5 : Array CpInfo := pool [(1, u "java/io/Serializable"), (0, .class_ 1), (0, u "java/lang/Object"), (0, .class_ 3)] 3

/-- java/io/Serializable -/
def k5 : Class := { plain "java/io/Serializable" (some 0) with
  accessFlags := 1537
  interfaces := #[]
  cf := some (fileOf pool5 2 #[] #[] 1537 4 #[] #[])
  fields := #[]
  methods := #[]
  instanceTypes := #[]
  staticTypes := #[]
  resolved := Array.replicate 8 none
  statics := none }

/-- the primitive byte -/
def k6 : Class := { plain "byte" none with kind := .primitive 'B', accessFlags := 0x411 }
/-- [B -/
def k7 : Class := { plain "[B" (some 0) with kind := .array 6 .byte, interfaces := #[4, 5], accessFlags := 1041 }

/-- the primitive int -/
def k8 : Class := { plain "int" none with kind := .primitive 'I', accessFlags := 0x411 }
/-- [I -/
def k9 : Class := { plain "[I" (some 0) with kind := .array 8 .int, interfaces := #[4, 5], accessFlags := 1041 }

def heap : Heap := #[]
def classes : Array Class := #[k0, k1, k2, k3, k4, k5, k6, k7, k8, k9]
def interned : List (Array UInt16 × Addr) := []
def slotsUsed : Nat := 0
def theMethod : MethodId := ⟨1, 1⟩
def args0 : Array Value := #[.int 3, .int 5, .int 2, .int 7, .int 2]
def aboutOver (below : List Frame) : State where
  vm := { classes := classes, interned := interned.toArray }
  heap := heap
  slotsUsed := slotsUsed
  threads := #[{ frames := .invoking theMethod args0 :: below }]
def below0 : List Frame := [.native { method := ⟨0, 0⟩, args := #[] }]
def about1 : State := aboutOver below0
def p0 : Program := .bare "" "" ""
def e0 : Env := launch0.env 0 0 0
theorem w_frames : about1.frames = Frame.invoking theMethod args0 :: below0 := rfl
set_option maxRecDepth 65536 in
theorem w_args : argsFit about1.vm theMethod args0 = true := by decide +kernel
set_option maxRecDepth 65536 in
theorem w_heap : heapFits about1 = true := by decide +kernel
set_option maxRecDepth 65536 in
theorem w_runnable : about1.curStatus? = some .runnable := by decide +kernel
set_option maxRecDepth 65536 in
theorem w_alone : about1.alone = true := by decide +kernel
set_option maxRecDepth 65536 in
theorem w_named : about1.methodNamed? x = some theMethod := by decide +kernel
set_option maxRecDepth 65536 in
theorem w_hears : about1.hears theMethod below0 = true := by decide +kernel
set_option maxRecDepth 65536 in
theorem w_ripe : about1.ripe theMethod args0 below0 = true := by decide +kernel
theorem w_running : about1.status = .running := rfl
set_option maxRecDepth 65536 in
theorem w_room : about1.hasRoom e0.platform room_1 = true :=
  launch0.hasRoom_least _ room_1 (by decide +kernel) (by decide +kernel) (by decide +kernel) (by decide +kernel) (by decide +kernel) (by decide +kernel)
theorem allAtoms_all (ts : List Jvm.Cond) (a : Array Jvm.Value) (st : Jvm.State) : (allAtoms ts).before a st = ts.all (fun c => c.before a st) := by
  induction ts with
  | nil => rfl
  | cons c t ih =>
    show (Jvm.Cond.and c (allAtoms t)).before a st = _
    rw [Jvm.Cond.before_and, ih, List.all_cons]
def words1 : List Jvm.Cond := Jvm.Cond.code x code maxLocals ret :: tables_1
/-- a 'code' word, met by the world's own term for the bytes: nothing is compared byte by byte -/
theorem code_word {y : MethodName} {bytes : ByteArray} {mx : Nat} {rt : Option FieldType} {a : Array Value} {s : State} {m : MethodId} {meth : Method} {c : Code} (h1 : s.methodNamed? y = some m) (h2 : s.vm.method? m = some meth) (h3 : meth.code = some c) (h4 : c.code = bytes)
    (h5 : (c.maxLocals == mx && c.exceptionTable.isEmpty && decide (c.maxStack ≤ mostOperands) && decide (meth.sig.returnType = rt) && !meth.locks && decide (parseMethodDescriptor y.desc = some meth.sig)) = true) : (Jvm.Cond.code y bytes mx rt).before a s = true := by
  simp only [Bool.and_eq_true, beq_iff_eq, Bool.not_eq_true', decide_eq_true_eq] at h5
  obtain ⟨⟨⟨⟨⟨g1, g2⟩, g3⟩, g4⟩, g5⟩, g6⟩ := h5
  simp [Cond.before, Cond.holds, Cond.value, h1, h2, h3, h4, g1, g2, g3, g4, g5, g6]
def isCode : Jvm.Cond → Bool
  | .code _ _ _ _ => true
  | _ => false
theorem all_split {L : List Jvm.Cond} {P : Jvm.Cond → Bool} (h1 : L.all (fun c => isCode c || P c) = true) (h2 : ∀ c ∈ L.filter isCode, P c = true) : L.all P = true := by
  refine List.all_eq_true.mpr fun c hc => ?_
  have h := List.all_eq_true.mp h1 c hc
  rcases Bool.eq_false_or_eq_true (isCode c) with hi | hi
  · exact h2 c (List.mem_filter.mpr ⟨hc, hi⟩)
  · simpa [hi] using h
set_option maxRecDepth 65536 in
theorem w_c0 : (Jvm.Cond.code x code maxLocals ret).before args0 about1 = true := code_word (m := ⟨1, 1⟩) (meth := k1m1) (c := k1c1) (by decide +kernel) rfl rfl rfl (by decide +kernel)
set_option maxRecDepth 65536 in
theorem w_c1 : (Jvm.Cond.code ({ cls := "com/example/sagasu/sagasu/BlockScan", name := "rarestOf", desc := "([I)I" } : Jvm.MethodName) prog_7_method_5_code (3 : Nat) (Option.some Jvm.ClassFile.FieldType.int)).before args0 about1 = true := code_word (m := ⟨3, 0⟩) (meth := k3m0) (c := k3c0) (by decide +kernel) rfl rfl rfl (by decide +kernel)
set_option maxRecDepth 65536 in
theorem w_c2 : (Jvm.Cond.code ({ cls := "com/example/sagasu/sagasu/BlockScanRarestOfPinLaw", name := "ok", desc := "([IIII)Z" } : Jvm.MethodName) method_3_code (4 : Nat) (Option.some Jvm.ClassFile.FieldType.boolean)).before args0 about1 = true := code_word (m := ⟨1, 2⟩) (meth := k1m2) (c := k1c2) (by decide +kernel) rfl rfl rfl (by decide +kernel)
def codes1 : List Jvm.Cond := [Jvm.Cond.code x code maxLocals ret, Jvm.Cond.code ({ cls := "com/example/sagasu/sagasu/BlockScan", name := "rarestOf", desc := "([I)I" } : Jvm.MethodName) prog_7_method_5_code (3 : Nat) (Option.some Jvm.ClassFile.FieldType.int), Jvm.Cond.code ({ cls := "com/example/sagasu/sagasu/BlockScanRarestOfPinLaw", name := "ok", desc := "([IIII)Z" } : Jvm.MethodName) method_3_code (4 : Nat) (Option.some Jvm.ClassFile.FieldType.boolean)]
set_option maxRecDepth 65536 in
theorem codes_eq : words1.filter isCode = codes1 := rfl
theorem w_codes : ∀ c ∈ words1.filter isCode, c.before args0 about1 = true := by
  rw [codes_eq]
  intro c hc
  simp only [codes1, List.mem_cons, List.not_mem_nil, or_false] at hc
  rcases hc with rfl | rfl | rfl
  · exact w_c0
  · exact w_c1
  · exact w_c2
set_option maxRecDepth 65536 in
theorem w_t1 : words1.all (fun c => isCode c || c.before args0 about1) = true := by decide +kernel
theorem w_tables : (allAtoms (Jvm.Cond.code x code maxLocals ret :: tables_1)).before args0 about1 = true := by
  rw [allAtoms_all]
  show words1.all (fun c => c.before args0 about1) = true
  refine all_split ?_ w_codes
  rw [w_t1]
set_option maxRecDepth 65536 in
theorem w_case : (Jvm.Cond.and given_1 narrow_1).before args0 about1 = true := by decide +kernel
theorem w_applies : (headSpec (Jvm.Cond.code x code maxLocals ret :: tables_1) room_1).applies x e0.platform about1 = true :=
  (Spec.applies_iff w_frames).mpr ⟨w_running, w_runnable, w_alone, w_named, w_hears, w_ripe, w_room, w_tables⟩
theorem atStart : AtStart classFile x code maxLocals ret World_1 tables_1 room_1 Calls_1 rest_1 Pre_1 launch0 p0 e0 about1 theMethod args0 below0 :=
  ⟨lists_1, trivial, launch0.admits_env _ _ _, launch0.least_env, fairChoices_fair.cas, fairChoices_fair.clock, w_frames, w_args, w_heap, w_applies, trivial, trivial, w_case⟩
end start1
theorem witness_1 : WitnessClaimed_1 := ⟨start1.p0, start1.e0, start1.about1, start1.theMethod, start1.args0, start1.below0, start1.atStart⟩
end Jvm.Pilot.@@N@@
