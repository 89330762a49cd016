import JvmDerived
import JvmDerived.Pilot.@@N@@Statement
import JvmDerived.Pilot.@@N@@Code
set_option linter.unusedVariables false
set_option linter.unusedSimpArgs false
@@BLOCK:NumsL.lean.txt@@
@@BLOCK:Masks.lean.txt@@
namespace Jvm.Wk
open Sem ClassFile Op Lib Jvm.Stand Jvm.Free Jvm.LawKit Jvm.RoadKit
def Fin_ (p : Program) (e : Env) (s : State) (below : List Frame) (R : Room) (n0 : Nat) (P : Option Value → Heap → Prop) (S0 : State) : Prop :=
  ∃ s₂ o, Steps p.tables e below S0 s₂ ∧ s₂.status = .running ∧ Ended s₂ below o ∧ ∃ v L, o = .returned v ∧ (Fr n0 L ∧ P v s₂.heap) ∧ FrameEnd s o s₂ L R.cells R.slots
def Fa (Z : State) (y : MethodName) (bytes : ByteArray) (maxL : Nat) (ret : Option FieldType) (p : Program) (s : State) (m : MethodId) (meth : Method) (c : Code) : Prop :=
  p.tables.exec = Jvm.exec ∧ c.code = bytes ∧ c.maxLocals = maxL ∧ Z.Warmed39 s.vm ∧ s.vm.findClass y.cls = some m.cls ∧ meth.name = y.name ∧ meth.sig.returnType = ret ∧ meth.locks = false
/-- a walk that has come to pc with these locals and this operand stack over the heap h; G: what it is walked for -/
def Wk (l : Launch) (Z : State) (R : Room) (y : MethodName) (bytes : ByteArray) (maxL : Nat) (ret : Option FieldType) (n0 : Nat) (Xt : Program → Env → List Frame → State → Prop) (s : State) (h : Heap) (cells slots pc : Nat) (Ls : Array Slot) (st : List Value) : Prop :=
  ∃ (p : Program) (e : Env) (m : MethodId) (args : Array Value) (below : List Frame) (meth : Method) (c : Code) (S0 T : State) (locs : List Loc), Fa Z y bytes maxL ret p s m meth c ∧
    Stand p l e R s m args below meth c T locs cells slots ∧ T.heap = h ∧ Fr n0 locs ∧ (∀ t, Steps p.tables e below (T.setTop (mkF m pc Ls st)) t → Steps p.tables e below S0 t) ∧ Xt p e below S0
/-- how a walk of a contract ends: G is what it is walked for -/
abbrev Ex (s : State) (R : Room) (n0 : Nat) (P : Option Value → Heap → Prop) (G : Prop) : Program → Env → List Frame → State → Prop := fun p e below S0 => Fin_ p e s below R n0 P S0 → G
/-- a callee's contract: entered with the arguments as' over the heap h0 it returns; P says what and over which heap -/
def Con (l : Launch) (Z : State) (y : MethodName) (bytes : ByteArray) (maxL : Nat) (ret : Option FieldType) (rm : Room) (as' : Array Value) (h0 : Heap) (n0 : Nat) (P : Option Value → Heap → Prop) : Prop :=
  ∀ ws : List Jvm.Cond, MetFree l y (head1 (Jvm.Cond.code y bytes maxL ret :: ws) rm) (fun a U => a = as' ∧ Z.Warmed39 U.vm ∧ U.heap = h0) (fun _ _ _ _ _ => True) (fun _ U o U' => ∃ v L, o = .returned v ∧ (Fr n0 L ∧ P v U'.heap) ∧ FrameEnd U o U' L rm.cells rm.slots)
/-- an array of the component type ty that holds vs -/
def AV (Z : State) (h : Heap) (a : Addr) (ty : FieldType) (vs : List Value) : Prop := vs.length < 2 ^ 31 ∧ ∃ c : Cell, Arr Z h a c ty ∧ c.slots = vs.toArray
section L
variable {l : Launch} {Z : State} {R : Room} {y : MethodName} {bytes : ByteArray} {maxL : Nat} {ret : Option FieldType} {n0 : Nat} {P : Option Value → Heap → Prop} {G : Prop} {Xt : Program → Env → List Frame → State → Prop} {s : State} {h h' : Heap} {cells slots pc : Nat} {Ls : Array Slot} {st : List Value} {a0 : Array Value} {a : Addr} {ty : FieldType} {vs : List Value} {ws : List Addr}
theorem AV.lt (A : AV Z h a ty vs) : a < h.size := by obtain ⟨-, c, A, -⟩ := A; exact A.lt
theorem AV.keep (A : AV Z h a ty vs) (K : Keep h h' ws) (q : a ∉ ws) : AV Z h' a ty vs := by obtain ⟨n, c, A, r⟩ := A; exact ⟨n, c, ⟨K.2.1 a c A.1 q, A.2⟩, r⟩
theorem nS {x y : Nat} {L : List Addr} (q : ¬ x = y) (r : (x : Addr) ∉ L) : (x : Addr) ∉ (y : Addr) :: L := ninS q r
theorem Keep.of_ext (E : Ext h h') : Keep h h' [] := (Keep.refl h []).ext E
theorem mk {p : Program} {e : Env} {m : MethodId} {args : Array Value} {below : List Frame} {meth : Method} {c : Code} {S0 T : State} {locs : List Loc} (F : Fa Z y bytes maxL ret p s m meth c)
    (X : Stand p l e R s m args below meth c T locs cells slots) (eT : T.heap = h) (N : Fr n0 locs) (r : ∀ t, Steps p.tables e below (T.setTop (mkF m pc Ls st)) t → Steps p.tables e below S0 t) (ex : Xt p e below S0) : Wk l Z R y bytes maxL ret n0 Xt s h cells slots pc Ls st :=
  Exists.intro p ⟨e, m, args, below, meth, c, S0, T, locs, F, X, eT, N, r, ex⟩
theorem Con.of {as' : Array Value} (hpn : plainFor y = true) (hef : ∀ m, entryFrame m as' maxL = mkF m 0 Ls []) (body : ∀ (G : Prop) (s : State), Wk l Z R y bytes maxL ret n0 (Ex s R n0 P G) s h 0 0 0 Ls [] → G) : Con l Z y bytes maxL ret R as' h n0 P := by
  intro ws
  refine MetFree.of_bodySF hpn hisR ?_
  intro p e s m args below meth c s₁ Bd hml0 hP hK
  obtain ⟨rfl, hZ, hh⟩ := hP
  refine body _ s ?_
  have X0 : Stand p l e R s m args below meth c s₁ [] 0 0 := Stand.of_body Bd
  exact mk (S0 := s₁.setTop (entryFrame m args maxL)) ⟨Bd.exec, Bd.bytes, hml0, hZ, findClass_of_methodNamed Bd.named, (name_of_methodNamed Bd.named Bd.method).1, Bd.returns, Bd.notSynchronized⟩ X0 (by rw [← hh, Bd.state]; rfl) (Fr.nil n0) (fun t k => castTop (hef m) k) (fun q => q)
theorem Wk.pure {pc' : Nat} {Ls' : Array Slot} {st' : List Value} (k : Wk l Z R y bytes maxL ret n0 Xt s h cells slots pc Ls st) (f : ∀ {tb : Tables} [Ours tb] {e : Env} {below : List Frame} {T t : State} {m : MethodId} {c : Code}, At T m c below → tb.exec = Jvm.exec → c.code = bytes → Steps tb e below (T.setTop (mkF m pc' Ls' st')) t → Steps tb e below (T.setTop (mkF m pc Ls st)) t) : Wk l Z R y bytes maxL ret n0 Xt s h cells slots pc' Ls' st' := by
  obtain ⟨p, e, m, args, below, meth, c, S0, T, locs, F, X, eT, N, r, ex⟩ := k
  exact mk F X eT N (fun t q => r t (f X.here F.1 F.2.1 q)) ex
/-- more cells and slots booked than were made -/
theorem Wk.more {cells' slots' : Nat} (k : Wk l Z R y bytes maxL ret n0 Xt s h cells slots pc Ls st) (h1 : cells ≤ cells') (h2 : slots ≤ slots') : Wk l Z R y bytes maxL ret n0 Xt s h cells' slots' pc Ls st := by
  obtain ⟨p, e, m, args, below, meth, c, S0, T, locs, F, X, eT, N, r, ex⟩ := k
  exact mk F { X with same := X.same.mono h1 h2 } eT N r ex
theorem Wk.aloadN {j : Fin 4} {v : Value} (k : Wk l Z R y bytes maxL ret n0 Xt s h cells slots pc Ls st) (hd : decode bytes pc = .ok (.aload_n j, 1)) (hl : Ls[j.val]? = some (.val v)) (hv : v.isRef = true) : Wk l Z R y bytes maxL ret n0 Xt s h cells slots (pc + 1) Ls (v :: st) := k.pure fun a hx hb' q => XS.aloadN a hx rfl (hb hb' hd) hl hv q
theorem Wk.aload {j : Nat} {v : Value} (k : Wk l Z R y bytes maxL ret n0 Xt s h cells slots pc Ls st) (hd : decode bytes pc = .ok (.aload j, 2)) (hl : Ls[j]? = some (.val v)) (hv : v.isRef = true) : Wk l Z R y bytes maxL ret n0 Xt s h cells slots (pc + 2) Ls (v :: st) := k.pure fun a hx hb' q => XS.aload a hx rfl (hb hb' hd) hl hv q
theorem Wk.iloadN {j : Fin 4} {v : Int32} (k : Wk l Z R y bytes maxL ret n0 Xt s h cells slots pc Ls st) (hd : decode bytes pc = .ok (.iload_n j, 1)) (hl : Ls[j.val]? = some (.val (.int v))) : Wk l Z R y bytes maxL ret n0 Xt s h cells slots (pc + 1) Ls (.int v :: st) := k.pure fun a hx hb' q => XS.iloadN a hx rfl (hb hb' hd) hl q
theorem Wk.iload {j : Nat} {v : Int32} (k : Wk l Z R y bytes maxL ret n0 Xt s h cells slots pc Ls st) (hd : decode bytes pc = .ok (.iload j, 2)) (hl : Ls[j]? = some (.val (.int v))) : Wk l Z R y bytes maxL ret n0 Xt s h cells slots (pc + 2) Ls (.int v :: st) := k.pure fun a hx hb' q => XS.iload a hx rfl (hb hb' hd) hl q
theorem Wk.lloadN {j : Fin 4} {v : Int64} (k : Wk l Z R y bytes maxL ret n0 Xt s h cells slots pc Ls st) (hd : decode bytes pc = .ok (.lload_n j, 1)) (hl : Ls[j.val]? = some (.val (.long v))) : Wk l Z R y bytes maxL ret n0 Xt s h cells slots (pc + 1) Ls (.long v :: st) := k.pure fun a hx hb' q => XT.lloadN a hx rfl (hb hb' hd) hl q
theorem Wk.lload {j : Nat} {v : Int64} (k : Wk l Z R y bytes maxL ret n0 Xt s h cells slots pc Ls st) (hd : decode bytes pc = .ok (.lload j, 2)) (hl : Ls[j]? = some (.val (.long v))) : Wk l Z R y bytes maxL ret n0 Xt s h cells slots (pc + 2) Ls (.long v :: st) := k.pure fun a hx hb' q => XT.lload a hx rfl (hb hb' hd) hl q
theorem Wk.istoreN {j : Fin 4} {v : Int32} {Ls' : Array Slot} (k : Wk l Z R y bytes maxL ret n0 Xt s h cells slots pc Ls (.int v :: st)) (hd : decode bytes pc = .ok (.istore_n j, 1)) (hl : storeLocals Ls j.val (.int v) = some Ls') : Wk l Z R y bytes maxL ret n0 Xt s h cells slots (pc + 1) Ls' st := k.pure fun a hx hb' q => XS.istoreN a hx rfl (hb hb' hd) rfl hl q
theorem Wk.istore {j : Nat} {v : Int32} {Ls' : Array Slot} (k : Wk l Z R y bytes maxL ret n0 Xt s h cells slots pc Ls (.int v :: st)) (hd : decode bytes pc = .ok (.istore j, 2)) (hl : storeLocals Ls j (.int v) = some Ls') : Wk l Z R y bytes maxL ret n0 Xt s h cells slots (pc + 2) Ls' st := k.pure fun a hx hb' q => XS.istore a hx rfl (hb hb' hd) rfl hl q
theorem Wk.lstoreN {j : Fin 4} {v : Int64} {Ls' : Array Slot} (k : Wk l Z R y bytes maxL ret n0 Xt s h cells slots pc Ls (.long v :: st)) (hd : decode bytes pc = .ok (.lstore_n j, 1)) (hl : storeLocals Ls j.val (.long v) = some Ls') : Wk l Z R y bytes maxL ret n0 Xt s h cells slots (pc + 1) Ls' st := k.pure fun a hx hb' q => XT.lstoreN a hx rfl (hb hb' hd) rfl hl q
theorem Wk.lstore {j : Nat} {v : Int64} {Ls' : Array Slot} (k : Wk l Z R y bytes maxL ret n0 Xt s h cells slots pc Ls (.long v :: st)) (hd : decode bytes pc = .ok (.lstore j, 2)) (hl : storeLocals Ls j (.long v) = some Ls') : Wk l Z R y bytes maxL ret n0 Xt s h cells slots (pc + 2) Ls' st := k.pure fun a hx hb' q => XT.lstore a hx rfl (hb hb' hd) rfl hl q
theorem Wk.astoreN {j : Fin 4} {v : Value} {Ls' : Array Slot} (k : Wk l Z R y bytes maxL ret n0 Xt s h cells slots pc Ls (v :: st)) (hd : decode bytes pc = .ok (.astore_n j, 1)) (hv : v.isRef = true) (hl : storeLocals Ls j.val v = some Ls') : Wk l Z R y bytes maxL ret n0 Xt s h cells slots (pc + 1) Ls' st := k.pure fun a hx hb' q => XS.astoreN a hx rfl (hb hb' hd) rfl hv hl q
theorem Wk.astore {j : Nat} {v : Value} {Ls' : Array Slot} (k : Wk l Z R y bytes maxL ret n0 Xt s h cells slots pc Ls (v :: st)) (hd : decode bytes pc = .ok (.astore j, 2)) (hv : v.isRef = true) (hl : storeLocals Ls j v = some Ls') : Wk l Z R y bytes maxL ret n0 Xt s h cells slots (pc + 2) Ls' st := k.pure fun a hx hb' q => XS.astore a hx rfl (hb hb' hd) rfl hv hl q
theorem Wk.iconst {i : Int} (k : Wk l Z R y bytes maxL ret n0 Xt s h cells slots pc Ls st) (v : Int32) (hd : decode bytes pc = .ok (.iconst i, 1)) (hv : Int32.ofInt i = v) : Wk l Z R y bytes maxL ret n0 Xt s h cells slots (pc + 1) Ls (.int v :: st) := k.pure fun a hx hb' q => XT.iconstV a hx rfl v (hb hb' hd) hv q
theorem Wk.bipush {i : Int} (k : Wk l Z R y bytes maxL ret n0 Xt s h cells slots pc Ls st) (v : Int32) (hd : decode bytes pc = .ok (.bipush i, 2)) (hv : (Int8.ofInt i).toInt32 = v) : Wk l Z R y bytes maxL ret n0 Xt s h cells slots (pc + 2) Ls (.int v :: st) := k.pure fun a hx hb' q => XT.bipushV a hx rfl v (hb hb' hd) hv q
theorem Wk.sipush {i : Int} (k : Wk l Z R y bytes maxL ret n0 Xt s h cells slots pc Ls st) (v : Int32) (hd : decode bytes pc = .ok (.sipush i, 3)) (hv : (Int16.ofInt i).toInt32 = v) : Wk l Z R y bytes maxL ret n0 Xt s h cells slots (pc + 3) Ls (.int v :: st) := k.pure fun a hx hb' q => XT.sipushV a hx rfl v (hb hb' hd) hv q
theorem Wk.lconst {i : Fin 2} (k : Wk l Z R y bytes maxL ret n0 Xt s h cells slots pc Ls st) (v : Int64) (hd : decode bytes pc = .ok (.lconst i, 1)) (hv : Int64.ofNat i = v) : Wk l Z R y bytes maxL ret n0 Xt s h cells slots (pc + 1) Ls (.long v :: st) := k.pure fun a hx hb' q => XT.lconstV a hx rfl v (hb hb' hd) hv q
theorem Wk.anull (k : Wk l Z R y bytes maxL ret n0 Xt s h cells slots pc Ls st) (hd : decode bytes pc = .ok (.aconst_null, 1)) : Wk l Z R y bytes maxL ret n0 Xt s h cells slots (pc + 1) Ls (.null :: st) := k.pure fun a hx hb' q => XS.aconstNull a hx rfl (hb hb' hd) q
theorem Wk.iadd {x z : Int32} (k : Wk l Z R y bytes maxL ret n0 Xt s h cells slots pc Ls (.int z :: .int x :: st)) (hd : decode bytes pc = .ok (.iadd, 1)) : Wk l Z R y bytes maxL ret n0 Xt s h cells slots (pc + 1) Ls (.int (x + z) :: st) := k.pure fun a hx hb' q => XS.iadd a hx rfl (hb hb' hd) rfl q
theorem Wk.isub {x z : Int32} (k : Wk l Z R y bytes maxL ret n0 Xt s h cells slots pc Ls (.int z :: .int x :: st)) (hd : decode bytes pc = .ok (.isub, 1)) : Wk l Z R y bytes maxL ret n0 Xt s h cells slots (pc + 1) Ls (.int (x - z) :: st) := k.pure fun a hx hb' q => XS.isub a hx rfl (hb hb' hd) rfl q
theorem Wk.imul {x z : Int32} (k : Wk l Z R y bytes maxL ret n0 Xt s h cells slots pc Ls (.int z :: .int x :: st)) (hd : decode bytes pc = .ok (.imul, 1)) : Wk l Z R y bytes maxL ret n0 Xt s h cells slots (pc + 1) Ls (.int (x * z) :: st) := k.pure fun a hx hb' q => XS.imul a hx rfl (hb hb' hd) rfl q
theorem Wk.iand {x z : Int32} (k : Wk l Z R y bytes maxL ret n0 Xt s h cells slots pc Ls (.int z :: .int x :: st)) (hd : decode bytes pc = .ok (.iand, 1)) : Wk l Z R y bytes maxL ret n0 Xt s h cells slots (pc + 1) Ls (.int (x &&& z) :: st) := k.pure fun a hx hb' q => XS.iand a hx rfl (hb hb' hd) rfl q
theorem Wk.ior {x z : Int32} (k : Wk l Z R y bytes maxL ret n0 Xt s h cells slots pc Ls (.int z :: .int x :: st)) (hd : decode bytes pc = .ok (.ior, 1)) : Wk l Z R y bytes maxL ret n0 Xt s h cells slots (pc + 1) Ls (.int (x ||| z) :: st) := k.pure fun a hx hb' q => XT.ior a hx rfl (hb hb' hd) rfl q
theorem Wk.ixor {x z : Int32} (k : Wk l Z R y bytes maxL ret n0 Xt s h cells slots pc Ls (.int z :: .int x :: st)) (hd : decode bytes pc = .ok (.ixor, 1)) : Wk l Z R y bytes maxL ret n0 Xt s h cells slots (pc + 1) Ls (.int (x ^^^ z) :: st) := k.pure fun a hx hb' q => XT.ixor a hx rfl (hb hb' hd) rfl q
theorem Wk.iushr {x z : Int32} (k : Wk l Z R y bytes maxL ret n0 Xt s h cells slots pc Ls (.int z :: .int x :: st)) (hd : decode bytes pc = .ok (.iushr, 1)) : Wk l Z R y bytes maxL ret n0 Xt s h cells slots (pc + 1) Ls (.int (XT.ushr x z) :: st) := k.pure fun a hx hb' q => XT.iushr a hx rfl (hb hb' hd) rfl q
theorem Wk.ladd {x z : Int64} (k : Wk l Z R y bytes maxL ret n0 Xt s h cells slots pc Ls (.long z :: .long x :: st)) (hd : decode bytes pc = .ok (.ladd, 1)) : Wk l Z R y bytes maxL ret n0 Xt s h cells slots (pc + 1) Ls (.long (x + z) :: st) := k.pure fun a hx hb' q => XT.ladd a hx rfl (hb hb' hd) rfl q
theorem Wk.lsub {x z : Int64} (k : Wk l Z R y bytes maxL ret n0 Xt s h cells slots pc Ls (.long z :: .long x :: st)) (hd : decode bytes pc = .ok (.lsub, 1)) : Wk l Z R y bytes maxL ret n0 Xt s h cells slots (pc + 1) Ls (.long (x - z) :: st) := k.pure fun a hx hb' q => XT.lsub a hx rfl (hb hb' hd) rfl q
theorem Wk.lmul {x z : Int64} (k : Wk l Z R y bytes maxL ret n0 Xt s h cells slots pc Ls (.long z :: .long x :: st)) (hd : decode bytes pc = .ok (.lmul, 1)) : Wk l Z R y bytes maxL ret n0 Xt s h cells slots (pc + 1) Ls (.long (x * z) :: st) := k.pure fun a hx hb' q => XT.lmul a hx rfl (hb hb' hd) rfl q
theorem Wk.land {x z : Int64} (k : Wk l Z R y bytes maxL ret n0 Xt s h cells slots pc Ls (.long z :: .long x :: st)) (hd : decode bytes pc = .ok (.land, 1)) : Wk l Z R y bytes maxL ret n0 Xt s h cells slots (pc + 1) Ls (.long (x &&& z) :: st) := k.pure fun a hx hb' q => XT.land a hx rfl (hb hb' hd) rfl q
theorem Wk.lor {x z : Int64} (k : Wk l Z R y bytes maxL ret n0 Xt s h cells slots pc Ls (.long z :: .long x :: st)) (hd : decode bytes pc = .ok (.lor, 1)) : Wk l Z R y bytes maxL ret n0 Xt s h cells slots (pc + 1) Ls (.long (x ||| z) :: st) := k.pure fun a hx hb' q => XT.lor a hx rfl (hb hb' hd) rfl q
theorem Wk.lxor {x z : Int64} (k : Wk l Z R y bytes maxL ret n0 Xt s h cells slots pc Ls (.long z :: .long x :: st)) (hd : decode bytes pc = .ok (.lxor, 1)) : Wk l Z R y bytes maxL ret n0 Xt s h cells slots (pc + 1) Ls (.long (x ^^^ z) :: st) := k.pure fun a hx hb' q => XT.lxor a hx rfl (hb hb' hd) rfl q
theorem Wk.lcmp {x z : Int64} (k : Wk l Z R y bytes maxL ret n0 Xt s h cells slots pc Ls (.long z :: .long x :: st)) (hd : decode bytes pc = .ok (.lcmp, 1)) : Wk l Z R y bytes maxL ret n0 Xt s h cells slots (pc + 1) Ls (.int (XT.cmpL x z) :: st) := k.pure fun a hx hb' q => XT.lcmp a hx rfl (hb hb' hd) rfl q
theorem Wk.lshl {x : Int64} {z : Int32} (k : Wk l Z R y bytes maxL ret n0 Xt s h cells slots pc Ls (.int z :: .long x :: st)) (hd : decode bytes pc = .ok (.lshl, 1)) : Wk l Z R y bytes maxL ret n0 Xt s h cells slots (pc + 1) Ls (.long (x <<< (z.toInt64 &&& 63)) :: st) := k.pure fun a hx hb' q => XT.lshl a hx rfl (hb hb' hd) rfl q
theorem Wk.lushr {x : Int64} {z : Int32} (k : Wk l Z R y bytes maxL ret n0 Xt s h cells slots pc Ls (.int z :: .long x :: st)) (hd : decode bytes pc = .ok (.lushr, 1)) : Wk l Z R y bytes maxL ret n0 Xt s h cells slots (pc + 1) Ls (.long (XT.ushrL x z) :: st) := k.pure fun a hx hb' q => XT.lushr a hx rfl (hb hb' hd) rfl q
theorem Wk.i2l {x : Int32} (k : Wk l Z R y bytes maxL ret n0 Xt s h cells slots pc Ls (.int x :: st)) (hd : decode bytes pc = .ok (.i2l, 1)) : Wk l Z R y bytes maxL ret n0 Xt s h cells slots (pc + 1) Ls (.long x.toInt64 :: st) := k.pure fun a hx hb' q => XT.i2l a hx rfl (hb hb' hd) rfl q
theorem Wk.l2i {x : Int64} (k : Wk l Z R y bytes maxL ret n0 Xt s h cells slots pc Ls (.long x :: st)) (hd : decode bytes pc = .ok (.l2i, 1)) : Wk l Z R y bytes maxL ret n0 Xt s h cells slots (pc + 1) Ls (.int x.toInt32 :: st) := k.pure fun a hx hb' q => XT.l2i a hx rfl (hb hb' hd) rfl q
theorem Wk.i2b {x : Int32} (k : Wk l Z R y bytes maxL ret n0 Xt s h cells slots pc Ls (.int x :: st)) (hd : decode bytes pc = .ok (.i2b, 1)) : Wk l Z R y bytes maxL ret n0 Xt s h cells slots (pc + 1) Ls (.int x.toInt8.toInt32 :: st) := k.pure fun a hx hb' q => XT.i2b a hx rfl (hb hb' hd) rfl q
theorem Wk.i2c {x : Int32} (k : Wk l Z R y bytes maxL ret n0 Xt s h cells slots pc Ls (.int x :: st)) (hd : decode bytes pc = .ok (.i2c, 1)) : Wk l Z R y bytes maxL ret n0 Xt s h cells slots (pc + 1) Ls (.int x.toUInt32.toUInt16.toUInt32.toInt32 :: st) := k.pure fun a hx hb' q => XT.i2c a hx rfl (hb hb' hd) rfl q
theorem Wk.dup {x : Value} (k : Wk l Z R y bytes maxL ret n0 Xt s h cells slots pc Ls (x :: st)) (hd : decode bytes pc = .ok (.dup, 1)) (hc : x.category = 1) : Wk l Z R y bytes maxL ret n0 Xt s h cells slots (pc + 1) Ls (x :: x :: st) := k.pure fun a hx hb' q => XS.dup a hx rfl (hb hb' hd) rfl hc q
theorem Wk.pop {x : Value} (k : Wk l Z R y bytes maxL ret n0 Xt s h cells slots pc Ls (x :: st)) (hd : decode bytes pc = .ok (.pop, 1)) (hc : x.category = 1) : Wk l Z R y bytes maxL ret n0 Xt s h cells slots (pc + 1) Ls st := k.pure fun a hx hb' q => XT.pop a hx rfl (hb hb' hd) rfl hc q
theorem Wk.iinc {j : Nat} {i : Int} {x : Int32} {Ls' : Array Slot} (k : Wk l Z R y bytes maxL ret n0 Xt s h cells slots pc Ls st) (v : Int32) (hd : decode bytes pc = .ok (.iinc j i, 3)) (hv : Int32.ofInt i = v) (hl : Ls[j]? = some (.val (.int x))) (hl' : storeLocals Ls j (.int (x + v)) = some Ls') : Wk l Z R y bytes maxL ret n0 Xt s h cells slots (pc + 3) Ls' st := k.pure fun a hx hb' q => XT.iincV a hx rfl v (hb hb' hd) hv hl hl' q
theorem Wk.goto {o : Int} {pc' : Nat} (k : Wk l Z R y bytes maxL ret n0 Xt s h cells slots pc Ls st) (hd : decode bytes pc = .ok (.goto o, 3)) (hp : 0 ≤ (pc : Int) + o ∧ ((pc : Int) + o).toNat = pc') : Wk l Z R y bytes maxL ret n0 Xt s h cells slots pc' Ls st := k.pure fun a hx hb' q => XS.goto a hx rfl (pc0 := pc) (pc' := pc') rfl (hb hb' hd) hp.1 hp.2 q
theorem Wk.ifT {x : Int32} {cd : ClassFile.Cond} {o : Int} {pc' : Nat} (k : Wk l Z R y bytes maxL ret n0 Xt s h cells slots pc Ls (.int x :: st)) (hd : decode bytes pc = .ok (.ifCond cd o, 3)) (hc : ifCond.holds cd x = true) (hp : 0 ≤ (pc : Int) + o ∧ ((pc : Int) + o).toNat = pc') : Wk l Z R y bytes maxL ret n0 Xt s h cells slots pc' Ls st := k.pure fun a hx hb' q => XS.ifYes a hx rfl (pc0 := pc) (pc' := pc') rfl (hb hb' hd) rfl hc hp.1 hp.2 q
theorem Wk.ifF {x : Int32} {cd : ClassFile.Cond} {o : Int} (k : Wk l Z R y bytes maxL ret n0 Xt s h cells slots pc Ls (.int x :: st)) (hd : decode bytes pc = .ok (.ifCond cd o, 3)) (hc : ifCond.holds cd x = false) : Wk l Z R y bytes maxL ret n0 Xt s h cells slots (pc + 3) Ls st := k.pure fun a hx hb' q => XS.ifNo a hx rfl (hb hb' hd) rfl hc q
theorem Wk.icT {x z : Int32} {cd : ClassFile.Cond} {o : Int} {pc' : Nat} (k : Wk l Z R y bytes maxL ret n0 Xt s h cells slots pc Ls (.int z :: .int x :: st)) (hd : decode bytes pc = .ok (.if_icmp cd o, 3)) (hc : if_icmp.holds cd x z = true) (hp : 0 ≤ (pc : Int) + o ∧ ((pc : Int) + o).toNat = pc') : Wk l Z R y bytes maxL ret n0 Xt s h cells slots pc' Ls st := k.pure fun a hx hb' q => XS.icmpYes a hx rfl (pc0 := pc) (pc' := pc') rfl (hb hb' hd) rfl hc hp.1 hp.2 q
theorem Wk.icF {x z : Int32} {cd : ClassFile.Cond} {o : Int} (k : Wk l Z R y bytes maxL ret n0 Xt s h cells slots pc Ls (.int z :: .int x :: st)) (hd : decode bytes pc = .ok (.if_icmp cd o, 3)) (hc : if_icmp.holds cd x z = false) : Wk l Z R y bytes maxL ret n0 Xt s h cells slots (pc + 3) Ls st := k.pure fun a hx hb' q => XS.icmpNo a hx rfl (hb hb' hd) rfl hc q
theorem Wk.acT {x z : Value} {cd : ClassFile.ACond} {o : Int} {pc' : Nat} (k : Wk l Z R y bytes maxL ret n0 Xt s h cells slots pc Ls (z :: x :: st)) (hd : decode bytes pc = .ok (.if_acmp cd o, 3)) (h1 : x.isRef = true) (h2 : z.isRef = true) (hc : XT.acmp cd x z = true) (hp : 0 ≤ (pc : Int) + o ∧ ((pc : Int) + o).toNat = pc') : Wk l Z R y bytes maxL ret n0 Xt s h cells slots pc' Ls st := k.pure fun a hx hb' q => XT.acmpYes a hx rfl (pc0 := pc) (pc' := pc') rfl (hb hb' hd) rfl h1 h2 hc hp.1 hp.2 q
theorem Wk.acF {x z : Value} {cd : ClassFile.ACond} {o : Int} (k : Wk l Z R y bytes maxL ret n0 Xt s h cells slots pc Ls (z :: x :: st)) (hd : decode bytes pc = .ok (.if_acmp cd o, 3)) (h1 : x.isRef = true) (h2 : z.isRef = true) (hc : XT.acmp cd x z = false) : Wk l Z R y bytes maxL ret n0 Xt s h cells slots (pc + 3) Ls st := k.pure fun a hx hb' q => XT.acmpNo a hx rfl (hb hb' hd) rfl h1 h2 hc q
theorem Wk.nnT {b : Addr} {o : Int} {pc' : Nat} (k : Wk l Z R y bytes maxL ret n0 Xt s h cells slots pc Ls (.ref b :: st)) (hd : decode bytes pc = .ok (.ifnonnull o, 3)) (hp : 0 ≤ (pc : Int) + o ∧ ((pc : Int) + o).toNat = pc') : Wk l Z R y bytes maxL ret n0 Xt s h cells slots pc' Ls st := k.pure fun a hx hb' q => XT.ifnonnullYes a hx rfl (pc0 := pc) (pc' := pc') rfl (hb hb' hd) rfl hp.1 hp.2 q
theorem Wk.nnF {o : Int} (k : Wk l Z R y bytes maxL ret n0 Xt s h cells slots pc Ls (.null :: st)) (hd : decode bytes pc = .ok (.ifnonnull o, 3)) : Wk l Z R y bytes maxL ret n0 Xt s h cells slots (pc + 3) Ls st := k.pure fun a hx hb' q => XT.ifnonnullNo a hx rfl (hb hb' hd) rfl q
theorem Wk.irem {x z : Int32} (k : Wk l Z R y bytes maxL ret n0 Xt s h cells slots pc Ls (.int z :: .int x :: st)) (hd : decode bytes pc = .ok (.irem, 1)) (hz : z ≠ 0) : Wk l Z R y bytes maxL ret n0 Xt s h cells slots (pc + 1) Ls (.int (x % z) :: st) := by
  obtain ⟨p, e, m, args, below, meth, c, S0, T, locs, F, X, eT, N, r, ex⟩ := k
  exact mk F X eT N (fun t q => r t (iremM X F.1 rfl (hb F.2.1 hd) rfl hz q)) ex
theorem Wk.ldc {i : Nat} {v : Int32} (k : Wk l Z R y bytes maxL ret n0 Xt s h cells slots pc Ls st) (w : (Jvm.Cond.constant y.cls i v).before a0 Z = true) (hd : decode bytes pc = .ok (.ldc i, 2)) : Wk l Z R y bytes maxL ret n0 Xt s h cells slots (pc + 2) Ls (.int v :: st) := by
  obtain ⟨p, e, m, args, below, meth, c, S0, T, locs, F, X, eT, N, r, ex⟩ := k
  exact mk F X eT N (fun t q => r t (X.ldcI F.1 F.2.2.2.2.1 (mvT F.2.2.2.1 w) rfl (hb F.2.1 hd) q)) ex
theorem Wk.ldc2 {i : Nat} {v : Int64} (k : Wk l Z R y bytes maxL ret n0 Xt s h cells slots pc Ls st) (w : (Jvm.Cond.constantLong y.cls i v).before a0 Z = true) (hd : decode bytes pc = .ok (.ldc2_w i, 3)) : Wk l Z R y bytes maxL ret n0 Xt s h cells slots (pc + 3) Ls (.long v :: st) := by
  obtain ⟨p, e, m, args, below, meth, c, S0, T, locs, F, X, eT, N, r, ex⟩ := k
  exact mk F X eT N (fun t q => r t (X.ldc2J F.1 F.2.2.2.2.1 (mvT F.2.2.2.1 w) rfl (hb F.2.1 hd) q)) ex
theorem Wk.getF {i : Nat} {O n d : String} {v : Value} (k : Wk l Z R y bytes maxL ret n0 Xt s h cells slots pc Ls (.ref a :: st)) (w : (Jvm.Cond.fieldLink y.cls i O n d).before a0 Z = true) (A : Fld Z h a O n d v) (hd : decode bytes pc = .ok (.getfield i, 3)) : Wk l Z R y bytes maxL ret n0 Xt s h cells slots (pc + 3) Ls (v :: st) := by
  obtain ⟨p, e, m, args, below, meth, c, S0, T, locs, F, X, eT, N, r, ex⟩ := k
  obtain ⟨T', X', e', q⟩ := RoadKit.getF X F.1 F.2.2.2.1 F.2.2.2.2.1 (host := "") (Or.inl w) Via.refl eT A (g := mkF m pc Ls (.ref a :: st)) rfl rfl (hb F.2.1 hd)
  exact mk F X' e' N (fun t u => r t (q t u)) ex
theorem Wk.getS {i : Nat} {O n d : String} {v : Value} (k : Wk l Z R y bytes maxL ret n0 Xt s h cells slots pc Ls st) (w : (Jvm.Cond.fieldLink y.cls i O n d).before a0 Z = true) (A : Sta Z h O n d v) (hd : decode bytes pc = .ok (.getstatic i, 3)) : Wk l Z R y bytes maxL ret n0 Xt s h cells slots (pc + 3) Ls (v :: st) := by
  obtain ⟨p, e, m, args, below, meth, c, S0, T, locs, F, X, eT, N, r, ex⟩ := k
  obtain ⟨T', X', e', q⟩ := RoadKit.getS X F.1 F.2.2.2.1 F.2.2.2.2.1 (host := "") w Via.refl eT A (g := mkF m pc Ls st) rfl (hb F.2.1 hd)
  exact mk F X' e' N (fun t u => r t (q t u)) ex
theorem Wk.putF {i kk : Nat} {O n d C : String} {v old : Value} (k : Wk l Z R y bytes maxL ret n0 Xt s h cells slots pc Ls (v :: .ref a :: st)) (w : (Jvm.Cond.fieldLink y.cls i O n d).before a0 Z = true) (A : Fld Z h a O n d old) (E : Exa Z h a C)
    (L : (Jvm.Cond.lays C O n d).before a0 Z = true ∨ ((Jvm.Cond.laysFinal C O n d).before a0 Z = true ∧ y.cls = O ∧ y.name = "<init>")) (wi : (Jvm.Cond.instantiable C kk).before a0 Z = true)
    (hty : parseFieldDescriptor d = some ty) (hn : narrow ty v = v) (hf : fits ty v = true) (hg : n0 ≤ a) (hd : decode bytes pc = .ok (.putfield i, 3)) :
    ∃ h', Wr h h' a (RoadKit.slotOf Z O n d) v ∧ Keep h h' [a] ∧ Fld Z h' a O n d v ∧ Exa Z h' a C ∧ Wk l Z R y bytes maxL ret n0 Xt s h' cells slots (pc + 3) Ls st := by
  obtain ⟨p, e, m, args, below, meth, c, S0, T, locs, F, X, eT, N, r, ex⟩ := k
  obtain ⟨T', h', X', e', W1, q⟩ := RoadKit.putF X F.1 F.2.2.2.1 F.2.2.2.2.1 (host := "") (Or.inl w) Via.refl eT A E (L.imp id fun z => ⟨z.1, z.2.1, F.2.2.2.2.2.1.trans z.2.2⟩) wi hty hn hf (g := mkF m pc Ls (v :: .ref a :: st)) rfl rfl (hb F.2.1 hd)
  exact ⟨h', W1, Keep.of_wr W1, A.same W1, E.wr W1, mk F X' e' (Fr.snoc X' N hg) (fun t u => r t (q t u)) ex⟩
theorem Wk.newO {i n : Nat} {C : String} (k : Wk l Z R y bytes maxL ret n0 Xt s h cells slots pc Ls st) (w : (Jvm.Cond.classLink y.cls i C).before a0 Z = true) (wi : (Jvm.Cond.instantiable C n).before a0 Z = true) (wz : (Jvm.Cond.initialized C).before a0 Z = true) (hd : decode bytes pc = .ok (.new i, 3)) (hc : cells + 1 ≤ R.cells) (hl : slots + n ≤ R.slots) :
    ∃ h', Keep h h' [] ∧ Exa Z h' h.size C ∧ (∀ {O nm d : String} {ty : FieldType}, Laid Z a0 C O nm d → parseFieldDescriptor d = some ty → Fld Z h' h.size O nm d (defaultValue ty)) ∧ Wk l Z R y bytes maxL ret n0 Xt s h' (cells + 1) (slots + n) (pc + 3) Ls (.ref h.size :: st) := by
  obtain ⟨p, e, m, args, below, meth, c, S0, T, locs, F, X, eT, N, r, ex⟩ := k
  obtain ⟨T', h', X', e', E, A, D, -, q⟩ := RoadKit.newO X F.1 F.2.2.2.1 F.2.2.2.2.1 w wi wz eT (g := mkF m pc Ls st) rfl (hb F.2.1 hd) hc hl
  exact ⟨h', Keep.of_ext E, A, D, mk F X' e' N (fun t u => r t (q t u)) ex⟩
theorem Wk.initO {i : Nat} (k : Wk l Z R y bytes maxL ret n0 Xt s h cells slots pc Ls (.ref a :: st)) (w1 : (Jvm.Cond.methodLink y.cls i Lib.objectInit).before a0 Z = true) (w2 : (Jvm.Cond.instanceMethod Lib.objectInit).before a0 Z = true) (w3 : (Jvm.Cond.code Lib.objectInit Jvm.Pilot.@@N@@.object_method_1_code 1 none).before a0 Z = true) (hd : decode bytes pc = .ok (.invokespecial i, 3)) (hL : Ls.size = maxL)
    (hf : 1 ≤ R.frames) (W0 : Nat) (hW : (st.map fun v => v.category).sum ≤ W0) (hl : W0 + 12 ≤ R.locals) : Wk l Z R y bytes maxL ret n0 Xt s h cells slots (pc + 3) Ls st := by
  obtain ⟨p, e, m, args, below, meth, c, S0, T, locs, F, X, eT, N, r, ex⟩ := k
  obtain ⟨T', X', e', q⟩ := RoadKit.initO X F.1 F.2.2.2.1 F.2.2.2.2.1 w1 w2 w3 eT (g := mkF m pc Ls (.ref a :: st)) rfl (by rw [F.2.2.1]; exact hL) rfl (hb F.2.1 hd) hf (W := W0) (by show 2 * 0 + _ ≤ _; omega) hl
  exact mk F X' e' N (fun t u => r t (q t u)) ex
theorem Wk.newA {n : Int32} {aty : ArrayType} (k : Wk l Z R y bytes maxL ret n0 Xt s h cells slots pc Ls (.int n :: st)) (w : (Jvm.Cond.arrayClass (newarray.typeOf aty)).before a0 Z = true) (hd : decode bytes pc = .ok (.newarray aty, 2)) (n' : Nat) (hN : n.toNatClampNeg = n') (hn : ¬ n < 0) (hm : n' ≤ 1000) (hc : cells + 1 ≤ R.cells) (hl : slots + n' ≤ R.slots) :
    ∃ h', Keep h h' [] ∧ AV Z h' h.size (newarray.typeOf aty) (List.replicate n' (defaultValue (newarray.typeOf aty))) ∧ Wk l Z R y bytes maxL ret n0 Xt s h' (cells + 1) (slots + n') (pc + 2) Ls (.ref h.size :: st) := by
  obtain ⟨p, e, m, args, below, meth, c, S0, T, locs, F, X, eT, N, r, ex⟩ := k
  obtain ⟨T', h', cA, X', e', E, A, q⟩ := newP X F.1 F.2.2.2.1 w eT (g := mkF m pc Ls (.int n :: st)) rfl (hb F.2.1 hd) rfl hn (cap := n') (Nat.le_of_eq hN) (by omega) hc hl
  refine ⟨h', Keep.of_ext E, ⟨by rw [List.length_replicate]; omega, _, A, ?_⟩, mk F X' e' N (fun t u => r t (q t u)) ex⟩
  subst hN; rfl
theorem AV.inb {c : Cell} {j : Int32} {i : Nat} (e : c.slots = vs.toArray) (h0 : ¬ j < 0) (hj : j.toNatClampNeg = i) (hi : i < vs.length) : ¬ (j < 0 ∨ c.slots.size ≤ j.toNatClampNeg) := by
  rintro (q | q)
  · exact h0 q
  · rw [e, hj, List.size_toArray] at q; omega
theorem AV.set {c : Cell} {i : Nat} {v : Value} (e : c.slots = vs.toArray) : (c.setSlot i v).slots = (vs.set i v).toArray := by
  show c.slots.setIfInBounds i v = _
  rw [e, List.setIfInBounds_toArray]
theorem Wk.stI {x j : Int32} (k : Wk l Z R y bytes maxL ret n0 Xt s h cells slots pc Ls (.int x :: .int j :: .ref a :: st)) (A : AV Z h a .int vs) (i : Nat) (hj : j.toNatClampNeg = i) (h0 : ¬ j < 0) (hi : i < vs.length) (hg : n0 ≤ a) (hd : decode bytes pc = .ok (.iastore, 1)) :
    ∃ h', Keep h h' [a] ∧ AV Z h' a .int (vs.set i (.int (x))) ∧ Wk l Z R y bytes maxL ret n0 Xt s h' cells slots (pc + 1) Ls st := by
  obtain ⟨p, e, m, args, below, meth, c, S0, T, locs, F, X, eT, N, r, ex⟩ := k
  obtain ⟨hlen, cl, A, hcl⟩ := A
  obtain ⟨T', h', X', e', W1, q⟩ := RoadKit.stI X F.1 F.2.2.2.1 eT A (AV.inb hcl h0 hj hi) (g := mkF m pc Ls (.int x :: .int j :: .ref a :: st)) rfl rfl (hb F.2.1 hd)
  refine ⟨h', Keep.of_wr W1, ⟨by rw [List.length_set]; exact hlen, _, A.same W1, ?_⟩, mk F X' e' (Fr.snoc X' N hg) (fun t u => r t (q t u)) ex⟩
  rw [hj]; exact AV.set hcl
theorem Wk.stB {x j : Int32} (k : Wk l Z R y bytes maxL ret n0 Xt s h cells slots pc Ls (.int x :: .int j :: .ref a :: st)) (A : AV Z h a .byte vs) (i : Nat) (hj : j.toNatClampNeg = i) (h0 : ¬ j < 0) (hi : i < vs.length) (hg : n0 ≤ a) (hd : decode bytes pc = .ok (.bastore, 1)) :
    ∃ h', Keep h h' [a] ∧ AV Z h' a .byte (vs.set i (.int (nar .byte x))) ∧ Wk l Z R y bytes maxL ret n0 Xt s h' cells slots (pc + 1) Ls st := by
  obtain ⟨p, e, m, args, below, meth, c, S0, T, locs, F, X, eT, N, r, ex⟩ := k
  obtain ⟨hlen, cl, A, hcl⟩ := A
  obtain ⟨T', h', X', e', W1, q⟩ := RoadKit.stB X F.1 F.2.2.2.1 eT A (AV.inb hcl h0 hj hi) (g := mkF m pc Ls (.int x :: .int j :: .ref a :: st)) rfl rfl (hb F.2.1 hd)
  refine ⟨h', Keep.of_wr W1, ⟨by rw [List.length_set]; exact hlen, _, A.same W1, ?_⟩, mk F X' e' (Fr.snoc X' N hg) (fun t u => r t (q t u)) ex⟩
  rw [hj]; exact AV.set hcl
theorem Wk.stC {x j : Int32} (k : Wk l Z R y bytes maxL ret n0 Xt s h cells slots pc Ls (.int x :: .int j :: .ref a :: st)) (A : AV Z h a .char vs) (i : Nat) (hj : j.toNatClampNeg = i) (h0 : ¬ j < 0) (hi : i < vs.length) (hg : n0 ≤ a) (hd : decode bytes pc = .ok (.castore, 1)) :
    ∃ h', Keep h h' [a] ∧ AV Z h' a .char (vs.set i (.int (nar .char x))) ∧ Wk l Z R y bytes maxL ret n0 Xt s h' cells slots (pc + 1) Ls st := by
  obtain ⟨p, e, m, args, below, meth, c, S0, T, locs, F, X, eT, N, r, ex⟩ := k
  obtain ⟨hlen, cl, A, hcl⟩ := A
  obtain ⟨T', h', X', e', W1, q⟩ := RoadKit.stC X F.1 F.2.2.2.1 eT A (AV.inb hcl h0 hj hi) (g := mkF m pc Ls (.int x :: .int j :: .ref a :: st)) rfl rfl (hb F.2.1 hd)
  refine ⟨h', Keep.of_wr W1, ⟨by rw [List.length_set]; exact hlen, _, A.same W1, ?_⟩, mk F X' e' (Fr.snoc X' N hg) (fun t u => r t (q t u)) ex⟩
  rw [hj]; exact AV.set hcl
theorem Wk.ldI {j : Int32} {v : Value} (k : Wk l Z R y bytes maxL ret n0 Xt s h cells slots pc Ls (.int j :: .ref a :: st)) (A : AV Z h a .int vs) (h0 : ¬ j < 0) (hv : vs[j.toNatClampNeg]? = some v) (hd : decode bytes pc = .ok (.iaload, 1)) : Wk l Z R y bytes maxL ret n0 Xt s h cells slots (pc + 1) Ls (v :: st) := by
  obtain ⟨p, e, m, args, below, meth, c, S0, T, locs, F, X, eT, N, r, ex⟩ := k
  obtain ⟨hlen, cl, A, hcl⟩ := A
  have hi : j.toNatClampNeg < vs.length := (List.getElem?_eq_some_iff.mp hv).1
  exact mk F X eT N (fun t u => r t (X.iaload F.1 (j := j) (v := v) (by rw [eT]; exact A.1) (State.isArrayOf_alike F.2.2.2.1.alike A.2.1) A.2.2 (AV.inb hcl h0 rfl hi) (by rw [hcl, List.getElem?_toArray]; exact hv) (g := mkF m pc Ls (.int j :: .ref a :: st)) rfl rfl (hb F.2.1 hd) t u)) ex
theorem Wk.ldB {j : Int32} {v : Value} (k : Wk l Z R y bytes maxL ret n0 Xt s h cells slots pc Ls (.int j :: .ref a :: st)) (A : AV Z h a .byte vs) (h0 : ¬ j < 0) (hv : vs[j.toNatClampNeg]? = some v) (hd : decode bytes pc = .ok (.baload, 1)) : Wk l Z R y bytes maxL ret n0 Xt s h cells slots (pc + 1) Ls (v :: st) := by
  obtain ⟨p, e, m, args, below, meth, c, S0, T, locs, F, X, eT, N, r, ex⟩ := k
  obtain ⟨hlen, cl, A, hcl⟩ := A
  have hi : j.toNatClampNeg < vs.length := (List.getElem?_eq_some_iff.mp hv).1
  exact mk F X eT N (fun t u => r t (X.baloadBytes F.1 (j := j) (v := v) (by rw [eT]; exact A.1) (State.isArrayOf_alike F.2.2.2.1.alike A.2.1) A.2.2 (AV.inb hcl h0 rfl hi) (by rw [hcl, List.getElem?_toArray]; exact hv) (g := mkF m pc Ls (.int j :: .ref a :: st)) rfl rfl (hb F.2.1 hd) t u)) ex
theorem Wk.ldC {j : Int32} {v : Value} (k : Wk l Z R y bytes maxL ret n0 Xt s h cells slots pc Ls (.int j :: .ref a :: st)) (A : AV Z h a .char vs) (h0 : ¬ j < 0) (hv : vs[j.toNatClampNeg]? = some v) (hd : decode bytes pc = .ok (.caload, 1)) : Wk l Z R y bytes maxL ret n0 Xt s h cells slots (pc + 1) Ls (v :: st) := by
  obtain ⟨p, e, m, args, below, meth, c, S0, T, locs, F, X, eT, N, r, ex⟩ := k
  obtain ⟨hlen, cl, A, hcl⟩ := A
  have hi : j.toNatClampNeg < vs.length := (List.getElem?_eq_some_iff.mp hv).1
  exact mk F X eT N (fun t u => r t (X.caload F.1 (j := j) (v := v) (by rw [eT]; exact A.1) (State.isArrayOf_alike F.2.2.2.1.alike A.2.1) A.2.2 (AV.inb hcl h0 rfl hi) (by rw [hcl, List.getElem?_toArray]; exact hv) (g := mkF m pc Ls (.int j :: .ref a :: st)) rfl rfl (hb F.2.1 hd) t u)) ex
theorem Wk.len {n : Int32} (k : Wk l Z R y bytes maxL ret n0 Xt s h cells slots pc Ls (.ref a :: st)) (A : AV Z h a ty vs) (hn : vs.length.toInt32 = n) (hd : decode bytes pc = .ok (.arraylength, 1)) : Wk l Z R y bytes maxL ret n0 Xt s h cells slots (pc + 1) Ls (.int n :: st) := by
  obtain ⟨p, e, m, args, below, meth, c, S0, T, locs, F, X, eT, N, r, ex⟩ := k
  obtain ⟨hlen, cl, A, hcl⟩ := A
  have e : cl.slots.size.toInt32 = n := by rw [hcl, List.size_toArray]; exact hn
  exact mk F X eT N (fun t u => r t (X.arraylength F.1 (cell := cl) (by rw [eT]; exact A.1) (State.isArrayOf_alike F.2.2.2.1.alike A.2.1) (g := mkF m pc Ls (.ref a :: st)) rfl rfl (hb F.2.1 hd) t (by rw [e]; exact u))) ex
theorem Wk.callS {i : Nat} {y' : MethodName} {bytes' : ByteArray} {maxL' : Nat} {ret' : Option FieldType} {rm : Room} {P' : Option Value → Heap → Prop} {argsL rest : List Value} (k : Wk l Z R y bytes maxL ret n0 Xt s h cells slots pc Ls st) (wl : (Jvm.Cond.methodLink y.cls i y').before a0 Z = true) (wt : (Jvm.Cond.static y').before a0 Z = true) (wi : (Jvm.Cond.initialized y'.cls).before a0 Z = true) (wc : (Jvm.Cond.code y' bytes' maxL' ret').before a0 Z = true)
    (hy : y'.cls ≠ "java/lang/invoke/MethodHandle" ∧ y'.cls ≠ "java/lang/invoke/VarHandle") (hC : Con l Z y' bytes' maxL' ret' rm argsL.toArray h n0 P') (hlen : ∀ sig, parseMethodDescriptor y'.desc = some sig → argsL.length = sig.parameters.length)
    (hd : decode bytes pc = .ok (.invokestatic i, 3)) (hst : st = argsL.reverse ++ rest) (hL : Ls.size = maxL) (W0 : Nat) (hW : (rest.map fun v => v.category).sum ≤ W0) (hf : rm.frames + 1 ≤ R.frames) (hl : W0 + (maxL' + 11) + rm.locals ≤ R.locals) (hc : cells + rm.cells ≤ R.cells) (hs : slots + rm.slots ≤ R.slots) : ∃ v h', P' v h' ∧ Wk l Z R y bytes maxL ret n0 Xt s h' (cells + rm.cells) (slots + rm.slots) (pc + 3) Ls (v.toList ++ rest) := by
  obtain ⟨p, e, m, args, below, meth, c, S0, T, locs, F, X, eT, N, r, ex⟩ := k
  obtain ⟨v, vm₁, ⟨T', L', k', n'⟩, -, X', ⟨Lc, hQ, l1, y1, z1⟩, q⟩ := Jvm.LawKit.callS X F.1 (y := y') F.2.2.2.2.1 (mvT F.2.2.2.1 wl) (mvT F.2.2.2.1 wt) (mvT F.2.2.2.1 wi) (mvT F.2.2.2.1 wc) hy (backOf (W := W0) (Q := fun v h L => Fr n0 L ∧ P' v h) (hC []) F.2.2.2.1 wc wi hf hl) (g := mkF m pc Ls st) rfl (by rw [F.2.2.1]; exact hL) (argsL := argsL) (rest := rest) hlen hst (by show 2 * 0 + _ ≤ _; omega) (hb F.2.1 hd) (fun _ _ => ⟨rfl, eT, hc, hs⟩)
  dsimp only [Pt.U, Pt.locs, Pt.cells, Pt.slots] at X' l1 y1 z1 q hQ
  subst l1 y1 z1
  exact ⟨v, T'.heap, hQ.2, mk F X' rfl (Fr.app N hQ.1) (fun t u => r t (q t u)) ex⟩
theorem Wk.callSN {i : Nat} {y' : MethodName} {bytes' : ByteArray} {maxL' : Nat} {ret' : Option FieldType} {rm : Room} {P' : Option Value → Heap → Prop} {argsL rest : List Value} {host : String} (k : Wk l Z R y bytes maxL ret n0 Xt s h cells slots pc Ls st) (wl : (Jvm.Cond.methodLinkNest y.cls i y' host).before a0 Z = true) (wt : (Jvm.Cond.static y').before a0 Z = true) (wi : (Jvm.Cond.initialized y'.cls).before a0 Z = true) (wc : (Jvm.Cond.code y' bytes' maxL' ret').before a0 Z = true)
    (hy : y'.cls ≠ "java/lang/invoke/MethodHandle" ∧ y'.cls ≠ "java/lang/invoke/VarHandle") (hC : Con l Z y' bytes' maxL' ret' rm argsL.toArray h n0 P') (hlen : ∀ sig, parseMethodDescriptor y'.desc = some sig → argsL.length = sig.parameters.length)
    (hd : decode bytes pc = .ok (.invokestatic i, 3)) (hst : st = argsL.reverse ++ rest) (hL : Ls.size = maxL) (W0 : Nat) (hW : (rest.map fun v => v.category).sum ≤ W0) (hf : rm.frames + 1 ≤ R.frames) (hl : W0 + (maxL' + 11) + rm.locals ≤ R.locals) (hc : cells + rm.cells ≤ R.cells) (hs : slots + rm.slots ≤ R.slots) : ∃ v h', P' v h' ∧ Wk l Z R y bytes maxL ret n0 Xt s h' (cells + rm.cells) (slots + rm.slots) (pc + 3) Ls (v.toList ++ rest) := by
  obtain ⟨p, e, m, args, below, meth, c, S0, T, locs, F, X, eT, N, r, ex⟩ := k
  obtain ⟨v, vm₁, ⟨T', L', k', n'⟩, -, X', ⟨Lc, hQ, l1, y1, z1⟩, q⟩ := RoadKit.callSN X F.1 (y := y') F.2.2.2.2.1 (Jvm.Cond.methodLinkNest_wide F.2.2.2.1 wl :) (mvT F.2.2.2.1 wt) (mvT F.2.2.2.1 wi) (mvT F.2.2.2.1 wc) hy (backOf (W := W0) (Q := fun v h L => Fr n0 L ∧ P' v h) (hC []) F.2.2.2.1 wc wi hf hl) (g := mkF m pc Ls st) rfl (by rw [F.2.2.1]; exact hL) (argsL := argsL) (rest := rest) hlen hst (by show 2 * 0 + _ ≤ _; omega) (hb F.2.1 hd) (fun _ _ => ⟨rfl, eT, hc, hs⟩)
  dsimp only [Pt.U, Pt.locs, Pt.cells, Pt.slots] at X' l1 y1 z1 q hQ
  subst l1 y1 z1
  exact ⟨v, T'.heap, hQ.2, mk F X' rfl (Fr.app N hQ.1) (fun t u => r t (q.trans u)) ex⟩
theorem Wk.callN {i : Nat} {y' : MethodName} {bytes' : ByteArray} {maxL' : Nat} {rm : Room} {P' : Option Value → Heap → Prop} {argsL rest : List Value} (k : Wk l Z R y bytes maxL ret n0 Xt s h cells slots pc Ls st) (hy1 : y'.name = "<init>") (wl : (Jvm.Cond.methodLink y.cls i y').before a0 Z = true) (wm : (Jvm.Cond.instanceMethod y').before a0 Z = true) (wi : (Jvm.Cond.initialized y'.cls).before a0 Z = true) (wc : (Jvm.Cond.code y' bytes' maxL' none).before a0 Z = true)
    (hy : y'.cls ≠ "java/lang/invoke/MethodHandle" ∧ y'.cls ≠ "java/lang/invoke/VarHandle") (hC : Con l Z y' bytes' maxL' none rm (.ref a :: argsL).toArray h n0 P') (hlen : ∀ sig, parseMethodDescriptor y'.desc = some sig → argsL.length = sig.parameters.length)
    (hd : decode bytes pc = .ok (.invokespecial i, 3)) (hst : st = argsL.reverse ++ .ref a :: rest) (hL : Ls.size = maxL) (W0 : Nat) (hW : (rest.map fun v => v.category).sum ≤ W0) (hf : rm.frames + 1 ≤ R.frames) (hl : W0 + (maxL' + 11) + rm.locals ≤ R.locals) (hc : cells + rm.cells ≤ R.cells) (hs : slots + rm.slots ≤ R.slots) : ∃ v h', P' v h' ∧ Wk l Z R y bytes maxL ret n0 Xt s h' (cells + rm.cells) (slots + rm.slots) (pc + 3) Ls (v.toList ++ rest) := by
  obtain ⟨p, e, m, args, below, meth, c, S0, T, locs, F, X, eT, N, r, ex⟩ := k
  obtain ⟨v, vm₁, ⟨T', L', k', n'⟩, -, X', ⟨Lc, hQ, l1, y1, z1⟩, q⟩ := X.specialBack F.1 (y := y') hy1 F.2.2.2.2.1 (mvT F.2.2.2.1 wl) (mvT F.2.2.2.1 wm) (mvT F.2.2.2.1 wc) hy (backOf (W := W0) (Q := fun v h L => Fr n0 L ∧ P' v h) (hC []) F.2.2.2.1 wc wi hf hl) (g := mkF m pc Ls st) rfl (by rw [F.2.2.1]; exact hL) (Steps.refl _) (a := a) (argsL := argsL) (rest := rest) hlen hst (by show 2 * 0 + _ ≤ _; omega) (hb F.2.1 hd) (fun _ _ => ⟨rfl, eT, hc, hs⟩)
  dsimp only [Pt.U, Pt.locs, Pt.cells, Pt.slots] at X' l1 y1 z1 q hQ
  subst l1 y1 z1
  exact ⟨v, T'.heap, hQ.2, mk F X' rfl (Fr.app N hQ.1) (fun t u => r t (q.trans u)) ex⟩
theorem Wk.callV {i : Nat} {y' : MethodName} {bytes' : ByteArray} {maxL' : Nat} {ret' : Option FieldType} {rm : Room} {P' : Option Value → Heap → Prop} {argsL rest : List Value} {C : String} (k : Wk l Z R y bytes maxL ret n0 Xt s h cells slots pc Ls st) (wl : (Jvm.Cond.methodLink y.cls i y').before a0 Z = true) (wd : (Jvm.Cond.declares y').before a0 Z = true) (wm : (Jvm.Cond.instanceMethod y').before a0 Z = true) (wsl : (Jvm.Cond.selects C y' y').before a0 Z = true) (hCy : C = y'.cls) (wi : (Jvm.Cond.initialized y'.cls).before a0 Z = true) (wc : (Jvm.Cond.code y' bytes' maxL' ret').before a0 Z = true)
    (hy : y'.cls ≠ "java/lang/invoke/MethodHandle" ∧ y'.cls ≠ "java/lang/invoke/VarHandle") (E : Exa Z h a C) (hC : Con l Z y' bytes' maxL' ret' rm (.ref a :: argsL).toArray h n0 P') (hlen : ∀ sig, parseMethodDescriptor y'.desc = some sig → argsL.length = sig.parameters.length)
    (hd : decode bytes pc = .ok (.invokevirtual i, 3)) (hst : st = argsL.reverse ++ .ref a :: rest) (hL : Ls.size = maxL) (W0 : Nat) (hW : (rest.map fun v => v.category).sum ≤ W0) (hf : rm.frames + 1 ≤ R.frames) (hl : W0 + (maxL' + 11) + rm.locals ≤ R.locals) (hc : cells + rm.cells ≤ R.cells) (hs : slots + rm.slots ≤ R.slots) : ∃ v h', P' v h' ∧ Wk l Z R y bytes maxL ret n0 Xt s h' (cells + rm.cells) (slots + rm.slots) (pc + 3) Ls (v.toList ++ rest) := by
  obtain ⟨p, e, m, args, below, meth, c, S0, T, locs, F, X, eT, N, r, ex⟩ := k
  subst hCy
  obtain ⟨cq, kq, q1, q2, q3⟩ := isOf F.2.2.2.1 eT E
  obtain ⟨v, vm₁, ⟨T', L', k', n'⟩, -, X', ⟨Lc, hQ, l1, y1, z1⟩, q⟩ := X.virtualBack F.1 (y := y') (z := y') F.2.2.2.2.1 (mvT F.2.2.2.1 wl) (mvT F.2.2.2.1 wd) (notFace_of_selects (args := #[]) (mvT F.2.2.2.1 wsl)) (mvT F.2.2.2.1 wsl) (mvT F.2.2.2.1 wm) hy (backOf (W := W0) (Q := fun v h L => Fr n0 L ∧ P' v h) (hC []) F.2.2.2.1 wc wi hf hl) q1 q3 (g := mkF m pc Ls st) rfl (by rw [F.2.2.1]; exact hL) (Steps.refl _) (argsL := argsL) (rest := rest) hlen hst (by show 2 * 0 + _ ≤ _; omega) (hb F.2.1 hd) (fun _ _ => ⟨rfl, eT, hc, hs⟩)
  dsimp only [Pt.U, Pt.locs, Pt.cells, Pt.slots] at X' l1 y1 z1 q hQ
  subst l1 y1 z1
  exact ⟨v, T'.heap, hQ.2, mk F X' rfl (Fr.app N hQ.1) (fun t u => r t (q.trans u)) ex⟩
theorem Wk.callP {i : Nat} {y' : MethodName} {bytes' : ByteArray} {maxL' : Nat} {ret' : Option FieldType} {rm : Room} {P' : Option Value → Heap → Prop} {argsL rest : List Value} {z : MethodName} (k : Wk l Z R y bytes maxL ret n0 Xt s h cells slots pc Ls st) (wl : (Jvm.Cond.methodLink y.cls i y').before a0 Z = true) (wm : (Jvm.Cond.instanceMethod y').before a0 Z = true) (wp : (Jvm.Cond.privateMethod y').before a0 Z = true) (wz : (Jvm.Cond.selects y'.cls z z).before a0 Z = true) (hz : z.cls = y'.cls) (wi : (Jvm.Cond.initialized y'.cls).before a0 Z = true) (wc : (Jvm.Cond.code y' bytes' maxL' ret').before a0 Z = true)
    (hy : y'.cls ≠ "java/lang/invoke/MethodHandle" ∧ y'.cls ≠ "java/lang/invoke/VarHandle") (E : Exa Z h a y'.cls) (hC : Con l Z y' bytes' maxL' ret' rm (.ref a :: argsL).toArray h n0 P') (hlen : ∀ sig, parseMethodDescriptor y'.desc = some sig → argsL.length = sig.parameters.length)
    (hd : decode bytes pc = .ok (.invokevirtual i, 3)) (hst : st = argsL.reverse ++ .ref a :: rest) (hL : Ls.size = maxL) (W0 : Nat) (hW : (rest.map fun v => v.category).sum ≤ W0) (hf : rm.frames + 1 ≤ R.frames) (hl : W0 + (maxL' + 11) + rm.locals ≤ R.locals) (hc : cells + rm.cells ≤ R.cells) (hs : slots + rm.slots ≤ R.slots) : ∃ v h', P' v h' ∧ Wk l Z R y bytes maxL ret n0 Xt s h' (cells + rm.cells) (slots + rm.slots) (pc + 3) Ls (v.toList ++ rest) := by
  obtain ⟨p, e, m, args, below, meth, c, S0, T, locs, F, X, eT, N, r, ex⟩ := k
  obtain ⟨cq, q1, q2⟩ := E.cell
  have hsz : (Jvm.Cond.selects y'.cls z z).before args s = true := mvT F.2.2.2.1 wz
  have hpv : s.PrivateAt y' := Jvm.Cond.privateMethod_at (mvP F.2.2.2.1 wp (args := #[]))
  have hsel : (Jvm.Cond.selects y'.cls y' y').before args s = true := by
    obtain ⟨c2, r2, m2, u1, u2, u3, u4, kP, u5, u6⟩ := Jvm.Cond.selects_spec hsz
    have u7 : s.vm.findClass z.cls = some m2.cls := findClass_of_methodNamed u3
    rw [hz] at u7
    exact selects_self_of_private u7 u5 u6 hpv (mvT F.2.2.2.1 wm) hy
  obtain ⟨v, vm₁, ⟨T', L', k', n'⟩, -, X', ⟨Lc, hQ, l1, y1, z1⟩, q⟩ := X.privateBack F.1 (y := y') F.2.2.2.2.1 (mvT F.2.2.2.1 wl) (mvT F.2.2.2.1 wm) hsel hpv (mvT F.2.2.2.1 wc) hy (backOf (W := W0) (Q := fun v h L => Fr n0 L ∧ P' v h) (hC []) F.2.2.2.1 wc wi hf hl) (g := mkF m pc Ls st) rfl (by rw [F.2.2.1]; exact hL) (Steps.refl _) (a := a) (by rw [eT]; exact q1) q2 (argsL := argsL) (rest := rest) hlen hst (by show 2 * 0 + _ ≤ _; omega) (hb F.2.1 hd) (fun _ _ => ⟨rfl, eT, hc, hs⟩)
  dsimp only [Pt.U, Pt.locs, Pt.cells, Pt.slots] at X' l1 y1 z1 q hQ
  subst l1 y1 z1
  exact ⟨v, T'.heap, hQ.2, mk F X' rfl (Fr.app N hQ.1) (fun t u => r t (q.trans u)) ex⟩
theorem Wk.tswIn {x : Int32} {dflt low high : Int} {offs : Array Int} {len : Nat} {o : Int} {pc' : Nat} (k : Wk l Z R y bytes maxL ret n0 Xt s h cells slots pc Ls (.int x :: st)) (hd : decode bytes pc = .ok (.tableswitch dflt low high offs, len)) (hin : ¬ (x.toInt < low ∨ x.toInt > high)) (hoff : offs[(x.toInt - low).toNat]? = some o) (hp : 0 ≤ (pc : Int) + o ∧ ((pc : Int) + o).toNat = pc') : Wk l Z R y bytes maxL ret n0 Xt s h cells slots pc' Ls st := k.pure fun a hx hb' q => XS.tswIn a hx rfl (pc0 := pc) (pc' := pc') rfl (hb hb' hd) rfl hin hoff hp.1 hp.2 q
theorem Wk.tswOut {x : Int32} {dflt low high : Int} {offs : Array Int} {len : Nat} {pc' : Nat} (k : Wk l Z R y bytes maxL ret n0 Xt s h cells slots pc Ls (.int x :: st)) (hd : decode bytes pc = .ok (.tableswitch dflt low high offs, len)) (hout : x.toInt < low ∨ x.toInt > high) (hp : 0 ≤ (pc : Int) + dflt ∧ ((pc : Int) + dflt).toNat = pc') : Wk l Z R y bytes maxL ret n0 Xt s h cells slots pc' Ls st := k.pure fun a hx hb' q => XS.tswOut a hx rfl (pc0 := pc) (pc' := pc') rfl (hb hb' hd) rfl hout hp.1 hp.2 q
theorem Wk.out {t : FieldType} {w : Value} {i : Instr} (k : Wk l Z R y bytes maxL (some t) n0 (Ex s R n0 P G) s h cells slots pc Ls (w :: st)) (hn : narrow t w = w)
    (hi : (i = .ireturn ∧ (t = .int ∨ t = .boolean ∨ t = .byte ∨ t = .char ∨ t = .short) ∧ ∃ z, w = .int z) ∨ (i = .lreturn ∧ t = .long ∧ ∃ z, w = .long z) ∨ (i = .dreturn ∧ t = .double ∧ ∃ z, w = .double z) ∨ (i = .freturn ∧ t = .float ∧ ∃ z, w = .float z) ∨ (i = .areturn ∧ t.isReference = true ∧ w.isRef = true))
    (hd : decode bytes pc = .ok (i, 1)) (hc : cells ≤ R.cells) (hs : slots ≤ R.slots) (hP : P (some w) h) : G := by
  obtain ⟨p, e, m, args, below, meth, c, S0, T, locs, F, X, eT, N, r, ex⟩ := k
  have hlk : meth.locks = false := F.2.2.2.2.2.2.2
  obtain ⟨fs, hr, hrun, hended, hW, hsame⟩ := X.leave (v := some w) (fun z => by rw [F.2.2.2.2.2.2.1] at z; cases z)
  refine ex ⟨_, _, r _ (retOut X F.1 F.2.2.2.2.2.2.1 hn hi (hb F.2.1 hd) hr), hrun, hended, _, locs, rfl, ⟨N, ?_⟩, ⟨_, rfl⟩, hW, hsame.mono hc hs⟩
  show P (some w) T.heap
  rw [eT]; exact hP
theorem Wk.outN (k : Wk l Z R y bytes maxL none n0 (Ex s R n0 P G) s h cells slots pc Ls []) (hd : decode bytes pc = .ok (.return_, 1)) (hc : cells ≤ R.cells) (hs : slots ≤ R.slots) (hP : P none h) : G := by
  obtain ⟨p, e, m, args, below, meth, c, S0, T, locs, F, X, eT, N, r, ex⟩ := k
  have hlk : meth.locks = false := F.2.2.2.2.2.2.2
  obtain ⟨fs, hr, hrun, hended, hW, hsame⟩ := X.leave (v := none) (fun _ => rfl)
  refine ex ⟨_, _, r _ (X.returnOut F.1 F.2.2.2.2.2.2.1 (hb F.2.1 hd) hr), hrun, hended, _, locs, rfl, ⟨N, ?_⟩, ⟨_, rfl⟩, hW, hsame.mono hc hs⟩
  show P none T.heap
  rw [eT]; exact hP
theorem Wk.outI {z : Int32} (k : Wk l Z R y bytes maxL (some .int) n0 (Ex s R n0 P G) s h cells slots pc Ls (.int z :: st)) (hd : decode bytes pc = .ok (.ireturn, 1)) (hc : cells ≤ R.cells) (hs : slots ≤ R.slots) (hP : P (some (.int z)) h) : G := k.out rfl (Or.inl ⟨rfl, Or.inl rfl, z, rfl⟩) hd hc hs hP
theorem Wk.outZ {z : Int32} (k : Wk l Z R y bytes maxL (some .boolean) n0 (Ex s R n0 P G) s h cells slots pc Ls (.int z :: st)) (hz : z = 0 ∨ z = 1) (hd : decode bytes pc = .ok (.ireturn, 1)) (hc : cells ≤ R.cells) (hs : slots ≤ R.slots) (hP : P (some (.int z)) h) : G := k.out (by rcases hz with rfl | rfl <;> rfl) (Or.inl ⟨rfl, Or.inr (Or.inl rfl), z, rfl⟩) hd hc hs hP
theorem Wk.outC {z : Int32} (k : Wk l Z R y bytes maxL (some .char) n0 (Ex s R n0 P G) s h cells slots pc Ls (.int z :: st)) (hz : z.toUInt32.toUInt16.toUInt32.toInt32 = z) (hd : decode bytes pc = .ok (.ireturn, 1)) (hc : cells ≤ R.cells) (hs : slots ≤ R.slots) (hP : P (some (.int z)) h) : G := k.out (congrArg Value.int hz) (Or.inl ⟨rfl, Or.inr (Or.inr (Or.inr (Or.inl rfl))), z, rfl⟩) hd hc hs hP
theorem Wk.outB {z : Int32} (k : Wk l Z R y bytes maxL (some .byte) n0 (Ex s R n0 P G) s h cells slots pc Ls (.int z :: st)) (hz : z.toInt8.toInt32 = z) (hd : decode bytes pc = .ok (.ireturn, 1)) (hc : cells ≤ R.cells) (hs : slots ≤ R.slots) (hP : P (some (.int z)) h) : G := k.out (congrArg Value.int hz) (Or.inl ⟨rfl, Or.inr (Or.inr (Or.inl rfl)), z, rfl⟩) hd hc hs hP
theorem Wk.outJ {z : Int64} (k : Wk l Z R y bytes maxL (some .long) n0 (Ex s R n0 P G) s h cells slots pc Ls (.long z :: st)) (hd : decode bytes pc = .ok (.lreturn, 1)) (hc : cells ≤ R.cells) (hs : slots ≤ R.slots) (hP : P (some (.long z)) h) : G := k.out rfl (Or.inr (Or.inl ⟨rfl, rfl, z, rfl⟩)) hd hc hs hP
theorem Wk.outA {w : Value} {t : FieldType} (k : Wk l Z R y bytes maxL (some t) n0 (Ex s R n0 P G) s h cells slots pc Ls (w :: st)) (ht : t.isReference = true) (hw : w.isRef = true) (hd : decode bytes pc = .ok (.areturn, 1)) (hc : cells ≤ R.cells) (hs : slots ≤ R.slots) (hP : P (some w) h) : G := k.out (by cases t <;> first | rfl | cases ht) (Or.inr (Or.inr (Or.inr (Or.inr ⟨rfl, ht, hw⟩)))) hd hc hs hP
end L
end Jvm.Wk
namespace Jvm.Pilot.@@N@@
open Jvm Jvm.ClassFile Sem Op Lib Jvm.Free Jvm.Stand Jvm.LawKit Jvm.RoadKit Bundle Jvm.Wk Jvm.Pilot.@@N@@.Jvm.D
abbrev i32 (n : Nat) : Int32 := Int32.ofNat n
theorem own_toInt {n : Nat} (h : n < 2 ^ 31) : (i32 n).toInt = (n : Int) := Int32.toInt_ofNat_small h
theorem own_lt {a b : Nat} (ha : a < 2 ^ 31) (hb : b < 2 ^ 31) (h : a < b) : i32 a < i32 b := by rw [Int32.lt_iff_toInt_lt, own_toInt ha, own_toInt hb]; omega
theorem own_nlt {a b : Nat} (ha : a < 2 ^ 31) (hb : b < 2 ^ 31) (h : ¬ a < b) : ¬ i32 a < i32 b := by rw [Int32.lt_iff_toInt_lt, own_toInt ha, own_toInt hb]; omega
theorem own_ne {a b : Nat} (ha : a < 2 ^ 31) (hb : b < 2 ^ 31) (h : ¬ a = b) : ¬ i32 a = i32 b := fun e => h (by have q := congrArg Int32.toInt e; rw [own_toInt ha, own_toInt hb] at q; omega)
theorem own_nn {a : Nat} (ha : a < 2 ^ 31) : ¬ i32 a < 0 := by rw [Int32.lt_iff_toInt_lt, own_toInt ha]; show ¬ (a : Int) < 0; omega
theorem own_cl {a : Nat} (ha : a < 2 ^ 31) : (i32 a).toNatClampNeg = a := by
  show (i32 a).toInt.toNat = a
  rw [own_toInt ha]; exact Int.toNat_natCast a
theorem own_succ (a : Nat) : i32 a + (1 : Int32) = i32 (a + 1) := i32_ofNat_add_one a
abbrev vk (ks : List Nat) : List Value := ks.map fun d => Value.int (i32 d)
abbrev gk (ks : List Nat) (p : Nat) : Nat := ks.getD p 9
theorem own_get {ks : List Nat} {p : Nat} (hk : ks.length = 5) (hp : p ≤ 4) : (vk ks)[(i32 p).toNatClampNeg]? = some (.int (i32 (gk ks p))) := by
  have hp' : p < ks.length := by omega
  rw [own_cl (by omega), List.getElem?_map, List.getElem?_eq_getElem hp']
  show some (Value.int (i32 ks[p])) = some (Value.int (i32 (ks.getD p 9)))
  rw [List.getD_eq_getElem?_getD, List.getElem?_eq_getElem hp']; rfl
theorem own_gle {ks : List Nat} {p : Nat} (hs : ∀ d ∈ ks, d ≤ 6) : gk ks p < 2 ^ 31 := by
  show ks.getD p 9 < _
  rw [List.getD_eq_getElem?_getD]
  cases e : ks[p]? with
  | none => simp
  | some v => have := hs v (List.mem_of_getElem? e); show v < _; omega
theorem own_c (q : Int32) : q.toUInt32.toUInt16.toUInt32.toInt32.toUInt32.toUInt16.toUInt32.toInt32 = q.toUInt32.toUInt16.toUInt32.toInt32 := Value.int.inj (XT.narrow_c q)
def Cl (c : Int32) : Nat → Prop
  | 0 => c = (32 : Int32) ∨ c = (9 : Int32) ∨ c = (13 : Int32) ∨ c = (10 : Int32)
  | 1 => c = (45 : Int32)
  | 2 => c = (46 : Int32)
  | 3 => c = (48 : Int32)
  | 4 => ¬ c < (49 : Int32) ∧ ¬ (57 : Int32) < c
  | 5 => ¬ c = (32 : Int32) ∧ ¬ c = (9 : Int32) ∧ ¬ c = (13 : Int32) ∧ ¬ c = (10 : Int32) ∧ ¬ c = (45 : Int32) ∧ ¬ c = (46 : Int32) ∧ ¬ c = (48 : Int32) ∧ (c < (49 : Int32) ∨ (57 : Int32) < c)
  | _ => False
theorem own_cl6 {c : Int32} {d : Nat} (h : Cl c d) : d < 6 := by
  match d, h with
  | 0, _ => omega
  | 1, _ => omega
  | 2, _ => omega
  | 3, _ => omega
  | 4, _ => omega
  | 5, _ => omega
  | _ + 6, h => exact h.elim
/-! what a class says of the tests on the char -/
theorem own_i {c : Int32} {n : Int32} (h : c = n) : c.toInt = n.toInt := congrArg Int32.toInt h
theorem own_ws1 {c : Int32} (h : Cl c 0) : c = (32 : Int32) ∨ c = (9 : Int32) ∨ c = (13 : Int32) ∨ c = (10 : Int32) := h
theorem own_ws0 {c : Int32} {d : Nat} (h : Cl c d) (hd : d ≠ 0) : ¬ c = (32 : Int32) ∧ ¬ c = (9 : Int32) ∧ ¬ c = (13 : Int32) ∧ ¬ c = (10 : Int32) := by
  match d, h, hd with
  | 1, h, _ => have h : c = (45 : Int32) := h; subst h; decide
  | 2, h, _ => have h : c = (46 : Int32) := h; subst h; decide
  | 3, h, _ => have h : c = (48 : Int32) := h; subst h; decide
  | 4, h, _ =>
    have h1 : ¬ c < (49 : Int32) := h.1
    refine ⟨?_, ?_, ?_, ?_⟩ <;> (intro q; subst q; exact h1 (by decide))
  | 5, h, _ => exact ⟨h.1, h.2.1, h.2.2.1, h.2.2.2.1⟩
  | _ + 6, h, _ => exact h.elim
theorem own_dg1 {c : Int32} {d : Nat} (h : Cl c d) (hd : d = 3 ∨ d = 4) : ¬ c < (48 : Int32) ∧ ¬ (57 : Int32) < c := by
  rcases hd with rfl | rfl
  · have h : c = (48 : Int32) := h; subst h; decide
  · refine ⟨fun q => h.1 ?_, h.2⟩
    rw [Int32.lt_iff_toInt_lt] at q ⊢
    have e1 : (48 : Int32).toInt = 48 := rfl
    have e2 : (49 : Int32).toInt = 49 := rfl
    omega
theorem own_dg0 {c : Int32} {d : Nat} (h : Cl c d) (hd : d ≠ 3 ∧ d ≠ 4) : c < (48 : Int32) ∨ (57 : Int32) < c := by
  match d, h, hd with
  | 0, h, _ =>
    have h : c = (32 : Int32) ∨ c = (9 : Int32) ∨ c = (13 : Int32) ∨ c = (10 : Int32) := h
    left; rcases h with rfl | rfl | rfl | rfl <;> decide
  | 1, h, _ => have h : c = (45 : Int32) := h; subst h; left; decide
  | 2, h, _ => have h : c = (46 : Int32) := h; subst h; left; decide
  | 5, h, _ =>
    rcases h.2.2.2.2.2.2.2 with q | q
    · left
      have n48 : ¬ c.toInt = (48 : Int32).toInt := fun z => h.2.2.2.2.2.2.1 (Int32.toInt_inj.mp z)
      rw [Int32.lt_iff_toInt_lt] at q ⊢
      have e1 : (48 : Int32).toInt = 48 := rfl
      have e2 : (49 : Int32).toInt = 49 := rfl
      omega
    · exact Or.inr q
  | _ + 6, h, _ => exact h.elim
theorem own_n45 {c : Int32} {d : Nat} (h : Cl c d) (hd : d ≠ 1) : ¬ c = (45 : Int32) := by
  intro q
  match d, h, hd with
  | 0, h, _ =>
    have h : c = (32 : Int32) ∨ c = (9 : Int32) ∨ c = (13 : Int32) ∨ c = (10 : Int32) := h
    subst q; revert h; decide
  | 2, h, _ => have h : c = (46 : Int32) := h; subst q; revert h; decide
  | 3, h, _ => have h : c = (48 : Int32) := h; subst q; revert h; decide
  | 4, h, _ => have h1 : ¬ c < (49 : Int32) := h.1; subst q; exact h1 (by decide)
  | 5, h, _ => exact h.2.2.2.2.1 q
  | _ + 6, h, _ => exact h.elim
theorem own_n46 {c : Int32} {d : Nat} (h : Cl c d) (hd : d ≠ 2) : ¬ c = (46 : Int32) := by
  intro q
  match d, h, hd with
  | 0, h, _ =>
    have h : c = (32 : Int32) ∨ c = (9 : Int32) ∨ c = (13 : Int32) ∨ c = (10 : Int32) := h
    subst q; revert h; decide
  | 1, h, _ => have h : c = (45 : Int32) := h; subst q; revert h; decide
  | 3, h, _ => have h : c = (48 : Int32) := h; subst q; revert h; decide
  | 4, h, _ => have h1 : ¬ c < (49 : Int32) := h.1; subst q; exact h1 (by decide)
  | 5, h, _ => exact h.2.2.2.2.2.1 q
  | _ + 6, h, _ => exact h.elim
theorem own_n48 {c : Int32} (h : Cl c 4) : ¬ c = (48 : Int32) := by
  intro q; have h1 : ¬ c < (49 : Int32) := h.1; subst q; exact h1 (by decide)
/-! the plain functions -/
def wsN (ks : List Nat) (p : Nat) : Nat := if p < 4 ∧ gk ks p = 0 then p + 1 else p
def skipWsN (ks : List Nat) (p : Nat) : Nat := wsN ks (wsN ks (wsN ks (wsN ks p)))
def dgN (ks : List Nat) (p : Nat) : Nat := if p < 4 ∧ (gk ks p = 3 ∨ gk ks p = 4) then p + 1 else p
def skipDgN (ks : List Nat) (p : Nat) : Nat := dgN ks (dgN ks (dgN ks (dgN ks p)))
abbrev any1 (ks : List Nat) (f t s : Nat) : Prop := f ≤ s ∧ s < t ∧ gk ks s = 4
def anyN (ks : List Nat) (f t : Nat) : Nat := if any1 ks f t 0 then 1 else if any1 ks f t 1 then 1 else if any1 ks f t 2 then 1 else if any1 ks f t 3 then 1 else 0
def iN (ks : List Nat) : Nat := skipWsN ks 0
def jN (ks : List Nat) : Nat := if gk ks (iN ks) = 1 then iN ks + 1 else iN ks
def mN (ks : List Nat) : Nat := skipDgN ks (jN ks)
def eN (ks : List Nat) : Nat := if gk ks (mN ks) = 2 then skipDgN ks (mN ks + 1) else mN ks
def expN (ks : List Nat) : Nat :=
  if gk ks (iN ks) = 6 then 1 else if ¬ (gk ks (jN ks) = 2 ∨ gk ks (jN ks) = 3 ∨ gk ks (jN ks) = 4) then 0 else
  if gk ks (eN ks) = 6 then (if anyN ks (jN ks) (eN ks) = 0 then 3 else 0) else if gk ks (eN ks) = 0 then (if gk ks (skipWsN ks (eN ks)) = 6 then 1 else 0) else 0
def startN (d : Nat) : Nat := if d = 3 ∨ d = 4 then 2 else if d = 2 then 3 else 5
def stN (st d : Nat) : Nat :=
  if st = 0 then (if d = 1 then 1 else if d = 0 then 0 else startN d) else if st = 1 then startN d
  else if st = 2 then (if d = 3 ∨ d = 4 then 2 else if d = 2 then 3 else if d = 0 then 4 else 5)
  else if st = 3 then (if d = 3 ∨ d = 4 then 3 else if d = 0 then 4 else 5) else if st = 4 then (if d = 0 then 4 else 5) else st
def incN (sg d : Nat) : Nat := if sg = 0 ∧ d = 3 then sg else sg + 1
def sgN (st sg d : Nat) : Nat := if (d = 3 ∨ d = 4) ∧ st ≤ 3 then incN sg d else sg
def steadyN (st sg : Nat) : Nat := if st = 0 ∨ st = 4 then 1 else if (st = 2 ∨ st = 3) ∧ sg = 0 then 3 else 0
theorem own_wsle {ks : List Nat} {p : Nat} (h : p ≤ 4) : wsN ks p ≤ 4 := by unfold wsN; split <;> omega
theorem own_dgle {ks : List Nat} {p : Nat} (h : p ≤ 4) : dgN ks p ≤ 4 := by unfold dgN; split <;> omega
theorem own_skw {ks : List Nat} {p : Nat} (h : p ≤ 4) : skipWsN ks p ≤ 4 := own_wsle (own_wsle (own_wsle (own_wsle h)))
theorem own_skd {ks : List Nat} {p : Nat} (h : p ≤ 4) : skipDgN ks p ≤ 4 := own_dgle (own_dgle (own_dgle (own_dgle h)))
theorem own_any {ks : List Nat} {f t : Nat} : anyN ks f t < 2 ^ 31 := by unfold anyN; (repeat' split) <;> omega
theorem own_ans {a b : Nat} (h : a = b) : (some (Value.int (i32 b)) : Option Value) = some (Value.int (i32 a)) := by rw [h]
theorem own_st5 {st d : Nat} (h : st ≤ 5) : stN st d ≤ 5 := by unfold stN startN; (repeat' split) <;> omega
theorem own_sg {st sg d : Nat} : sgN st sg d ≤ sg + 1 := by unfold sgN incN; (repeat' split) <;> omega
theorem own_fin0 : steadyN 0 0 = expN [6, 6, 6, 6, 6] := by decide +kernel
theorem own_fin1 : ∀ d0, d0 < 6 → steadyN (stN 0 d0) (sgN 0 0 d0) = expN [d0, 6, 6, 6, 6] := by decide +kernel
theorem own_fin2 : ∀ d0, d0 < 6 → ∀ d1, d1 < 6 → steadyN (stN (stN 0 d0) d1) (sgN (stN 0 d0) (sgN 0 0 d0) d1) = expN [d0, d1, 6, 6, 6] := by decide +kernel
theorem own_fin3 : ∀ d0, d0 < 6 → ∀ d1, d1 < 6 → ∀ d2, d2 < 6 → steadyN (stN (stN (stN 0 d0) d1) d2) (sgN (stN (stN 0 d0) d1) (sgN (stN 0 d0) (sgN 0 0 d0) d1) d2) = expN [d0, d1, d2, 6, 6] := by decide +kernel
theorem own_fin4 : ∀ d0, d0 < 6 → ∀ d1, d1 < 6 → ∀ d2, d2 < 6 → ∀ d3, d3 < 6 → steadyN (stN (stN (stN (stN 0 d0) d1) d2) d3) (sgN (stN (stN (stN 0 d0) d1) d2) (sgN (stN (stN 0 d0) d1) (sgN (stN 0 d0) (sgN 0 0 d0) d1) d2) d3) = expN [d0, d1, d2, d3, 6] := by decide +kernel
theorem own_rem5 (c : Int32) : (c &&& (2147483647 : Int32)) % (5 : Int32) = 0 ∨ (c &&& (2147483647 : Int32)) % (5 : Int32) = 1 ∨ (c &&& (2147483647 : Int32)) % (5 : Int32) = 2 ∨ (c &&& (2147483647 : Int32)) % (5 : Int32) = 3 ∨ (c &&& (2147483647 : Int32)) % (5 : Int32) = 4 := by
  have e1 : (c &&& (2147483647 : Int32)).toInt = c.toInt % 2 ^ 31 := Jvm.Kit.i32_mask c 2147483647 (k := 31) (by decide) (by decide)
  have e2 : ((c &&& (2147483647 : Int32)) % (5 : Int32)).toInt = (c &&& (2147483647 : Int32)).toInt % (5 : Int32).toInt := Jvm.Kit.i32_rem_nonneg (by omega)
  have e3 : (5 : Int32).toInt = 5 := rfl
  rw [e3] at e2
  generalize (c &&& (2147483647 : Int32)) % (5 : Int32) = z at *
  rcases (show z.toInt = 0 ∨ z.toInt = 1 ∨ z.toInt = 2 ∨ z.toInt = 3 ∨ z.toInt = 4 by omega) with q | q | q | q | q
  · exact Or.inl (Int32.toInt_inj.mp (q.trans rfl))
  · exact Or.inr (Or.inl (Int32.toInt_inj.mp (q.trans rfl)))
  · exact Or.inr (Or.inr (Or.inl (Int32.toInt_inj.mp (q.trans rfl))))
  · exact Or.inr (Or.inr (Or.inr (Or.inl (Int32.toInt_inj.mp (q.trans rfl)))))
  · exact Or.inr (Or.inr (Or.inr (Or.inr (Int32.toInt_inj.mp (q.trans rfl)))))
abbrev QB (r : Int32) (h0 : Heap) : Option Value → Heap → Prop := fun v h => h0 = h ∧ v = some (.int r)
theorem da_0 : decode prog_158_method_8_code 0 = .ok (.iload_n 0, 1) := by decide +kernel
theorem da_1 : decode prog_158_method_8_code 1 = .ok (.bipush 32, 2) := by decide +kernel
theorem da_3 : decode prog_158_method_8_code 3 = .ok (.if_icmp .eq 21, 3) := by decide +kernel
theorem da_6 : decode prog_158_method_8_code 6 = .ok (.iload_n 0, 1) := by decide +kernel
theorem da_7 : decode prog_158_method_8_code 7 = .ok (.bipush 9, 2) := by decide +kernel
theorem da_9 : decode prog_158_method_8_code 9 = .ok (.if_icmp .eq 15, 3) := by decide +kernel
theorem da_12 : decode prog_158_method_8_code 12 = .ok (.iload_n 0, 1) := by decide +kernel
theorem da_13 : decode prog_158_method_8_code 13 = .ok (.bipush 13, 2) := by decide +kernel
theorem da_15 : decode prog_158_method_8_code 15 = .ok (.if_icmp .eq 9, 3) := by decide +kernel
theorem da_18 : decode prog_158_method_8_code 18 = .ok (.iload_n 0, 1) := by decide +kernel
theorem da_19 : decode prog_158_method_8_code 19 = .ok (.bipush 10, 2) := by decide +kernel
theorem da_21 : decode prog_158_method_8_code 21 = .ok (.if_icmp .ne 7, 3) := by decide +kernel
theorem da_24 : decode prog_158_method_8_code 24 = .ok (.iconst 1, 1) := by decide +kernel
theorem da_25 : decode prog_158_method_8_code 25 = .ok (.goto 4, 3) := by decide +kernel
theorem da_28 : decode prog_158_method_8_code 28 = .ok (.iconst 0, 1) := by decide +kernel
theorem da_29 : decode prog_158_method_8_code 29 = .ok (.ireturn, 1) := by decide +kernel
theorem pna : plainFor (⟨"com/example/caddisfly/caddisfly/XpathNumbers", "isWhitespace", "(C)Z"⟩ : MethodName) = true := plainFor_of_name (show plainName "com/example/caddisfly/caddisfly/XpathNumbers" = true by first | (simp [plainName, overriddenIn]; done) | decide +kernel)
theorem pda : parseMethodDescriptor "(C)Z" = some ⟨[.char], some .boolean⟩ := by decide +kernel
abbrev Wa (l : Launch) (Z : State) (n0 : Nat) (P : Option Value → Heap → Prop) (G : Prop) (s : State) := Wk l Z ({ frames := 0, cells := 0, slots := 0, locals := 0 } : Room) (⟨"com/example/caddisfly/caddisfly/XpathNumbers", "isWhitespace", "(C)Z"⟩ : MethodName) prog_158_method_8_code 1 (some .boolean) n0 (Ex s ({ frames := 0, cells := 0, slots := 0, locals := 0 } : Room) n0 P G) s
set_option maxRecDepth 65536 in
set_option maxHeartbeats 40000000 in
theorem cona1 (l : Launch) (Z : State) (a0 : Array Value) (hw : ∀ d ∈ tables_1, d.before a0 Z = true) (c : Int32) (h0 : Heap) (n0 : Nat) (hc : c = (32 : Int32) ∨ c = (9 : Int32) ∨ c = (13 : Int32) ∨ c = (10 : Int32)) : Con l Z (⟨"com/example/caddisfly/caddisfly/XpathNumbers", "isWhitespace", "(C)Z"⟩ : MethodName) prog_158_method_8_code 1 (some .boolean) ({ frames := 0, cells := 0, slots := 0, locals := 0 } : Room) #[.int c] h0 n0 (QB (1 : Int32) h0) := by
  refine Con.of pna (Ls := #[.val (.int c)]) (fun m => by first | (simp [entryFrame, mkF, argsToLocals, Value.category]; done) | rfl) ?_
  intro G s k
  have k : Wa l Z n0 (QB (1 : Int32) h0) G s h0 0 0 3 #[.val (.int c)] [(.int (32 : Int32)), (.int c)] := (k.iloadN da_0 rfl).bipush (32) da_1 rfl
  by_cases c1 : c = (32 : Int32)
  · have k : Wa l Z n0 (QB (1 : Int32) h0) G s h0 0 0 24 #[.val (.int c)] [] := k.icT (pc' := 24) da_3 (XT.ii_eq_t c1) (by decide)
    have k : Wa l Z n0 (QB (1 : Int32) h0) G s h0 0 0 29 #[.val (.int c)] [(.int (1 : Int32))] := (k.iconst (1) da_24 rfl).goto (pc' := 29) da_25 (by decide)
    exact k.outZ (Or.inr rfl) da_29 (by decide) (by decide) ⟨rfl, rfl⟩
  · have k : Wa l Z n0 (QB (1 : Int32) h0) G s h0 0 0 6 #[.val (.int c)] [] := k.icF da_3 (XT.ii_eq_f c1)
    have k : Wa l Z n0 (QB (1 : Int32) h0) G s h0 0 0 9 #[.val (.int c)] [(.int (9 : Int32)), (.int c)] := (k.iloadN da_6 rfl).bipush (9) da_7 rfl
    by_cases c2 : c = (9 : Int32)
    · have k : Wa l Z n0 (QB (1 : Int32) h0) G s h0 0 0 24 #[.val (.int c)] [] := k.icT (pc' := 24) da_9 (XT.ii_eq_t c2) (by decide)
      have k : Wa l Z n0 (QB (1 : Int32) h0) G s h0 0 0 29 #[.val (.int c)] [(.int (1 : Int32))] := (k.iconst (1) da_24 rfl).goto (pc' := 29) da_25 (by decide)
      exact k.outZ (Or.inr rfl) da_29 (by decide) (by decide) ⟨rfl, rfl⟩
    · have k : Wa l Z n0 (QB (1 : Int32) h0) G s h0 0 0 12 #[.val (.int c)] [] := k.icF da_9 (XT.ii_eq_f c2)
      have k : Wa l Z n0 (QB (1 : Int32) h0) G s h0 0 0 15 #[.val (.int c)] [(.int (13 : Int32)), (.int c)] := (k.iloadN da_12 rfl).bipush (13) da_13 rfl
      by_cases c3 : c = (13 : Int32)
      · have k : Wa l Z n0 (QB (1 : Int32) h0) G s h0 0 0 24 #[.val (.int c)] [] := k.icT (pc' := 24) da_15 (XT.ii_eq_t c3) (by decide)
        have k : Wa l Z n0 (QB (1 : Int32) h0) G s h0 0 0 29 #[.val (.int c)] [(.int (1 : Int32))] := (k.iconst (1) da_24 rfl).goto (pc' := 29) da_25 (by decide)
        exact k.outZ (Or.inr rfl) da_29 (by decide) (by decide) ⟨rfl, rfl⟩
      · have k : Wa l Z n0 (QB (1 : Int32) h0) G s h0 0 0 18 #[.val (.int c)] [] := k.icF da_15 (XT.ii_eq_f c3)
        have k : Wa l Z n0 (QB (1 : Int32) h0) G s h0 0 0 21 #[.val (.int c)] [(.int (10 : Int32)), (.int c)] := (k.iloadN da_18 rfl).bipush (10) da_19 rfl
        by_cases c4 : c = (10 : Int32)
        · have k : Wa l Z n0 (QB (1 : Int32) h0) G s h0 0 0 24 #[.val (.int c)] [] := k.icF da_21 (XT.ii_ne_f c4)
          have k : Wa l Z n0 (QB (1 : Int32) h0) G s h0 0 0 29 #[.val (.int c)] [(.int (1 : Int32))] := (k.iconst (1) da_24 rfl).goto (pc' := 29) da_25 (by decide)
          exact k.outZ (Or.inr rfl) da_29 (by decide) (by decide) ⟨rfl, rfl⟩
        · have k : Wa l Z n0 (QB (1 : Int32) h0) G s h0 0 0 28 #[.val (.int c)] [] := k.icT (pc' := 28) da_21 (XT.ii_ne_t c4) (by decide)
          have k : Wa l Z n0 (QB (1 : Int32) h0) G s h0 0 0 29 #[.val (.int c)] [(.int (0 : Int32))] := k.iconst (0) da_28 rfl
          exact (hc.elim c1 (fun q => q.elim c2 (fun q => q.elim c3 c4))).elim
set_option maxRecDepth 65536 in
set_option maxHeartbeats 40000000 in
theorem cona0 (l : Launch) (Z : State) (a0 : Array Value) (hw : ∀ d ∈ tables_1, d.before a0 Z = true) (c : Int32) (h0 : Heap) (n0 : Nat) (hc : ¬ c = (32 : Int32) ∧ ¬ c = (9 : Int32) ∧ ¬ c = (13 : Int32) ∧ ¬ c = (10 : Int32)) : Con l Z (⟨"com/example/caddisfly/caddisfly/XpathNumbers", "isWhitespace", "(C)Z"⟩ : MethodName) prog_158_method_8_code 1 (some .boolean) ({ frames := 0, cells := 0, slots := 0, locals := 0 } : Room) #[.int c] h0 n0 (QB (0 : Int32) h0) := by
  refine Con.of pna (Ls := #[.val (.int c)]) (fun m => by first | (simp [entryFrame, mkF, argsToLocals, Value.category]; done) | rfl) ?_
  intro G s k
  have k : Wa l Z n0 (QB (0 : Int32) h0) G s h0 0 0 3 #[.val (.int c)] [(.int (32 : Int32)), (.int c)] := (k.iloadN da_0 rfl).bipush (32) da_1 rfl
  have k : Wa l Z n0 (QB (0 : Int32) h0) G s h0 0 0 6 #[.val (.int c)] [] := k.icF da_3 (XT.ii_eq_f hc.1)
  have k : Wa l Z n0 (QB (0 : Int32) h0) G s h0 0 0 9 #[.val (.int c)] [(.int (9 : Int32)), (.int c)] := (k.iloadN da_6 rfl).bipush (9) da_7 rfl
  have k : Wa l Z n0 (QB (0 : Int32) h0) G s h0 0 0 12 #[.val (.int c)] [] := k.icF da_9 (XT.ii_eq_f hc.2.1)
  have k : Wa l Z n0 (QB (0 : Int32) h0) G s h0 0 0 15 #[.val (.int c)] [(.int (13 : Int32)), (.int c)] := (k.iloadN da_12 rfl).bipush (13) da_13 rfl
  have k : Wa l Z n0 (QB (0 : Int32) h0) G s h0 0 0 18 #[.val (.int c)] [] := k.icF da_15 (XT.ii_eq_f hc.2.2.1)
  have k : Wa l Z n0 (QB (0 : Int32) h0) G s h0 0 0 21 #[.val (.int c)] [(.int (10 : Int32)), (.int c)] := (k.iloadN da_18 rfl).bipush (10) da_19 rfl
  have k : Wa l Z n0 (QB (0 : Int32) h0) G s h0 0 0 28 #[.val (.int c)] [] := k.icT (pc' := 28) da_21 (XT.ii_ne_t hc.2.2.2) (by decide)
  have k : Wa l Z n0 (QB (0 : Int32) h0) G s h0 0 0 29 #[.val (.int c)] [(.int (0 : Int32))] := k.iconst (0) da_28 rfl
  exact k.outZ (Or.inl rfl) da_29 (by decide) (by decide) ⟨rfl, rfl⟩
theorem db_0 : decode prog_158_method_9_code 0 = .ok (.iload_n 0, 1) := by decide +kernel
theorem db_1 : decode prog_158_method_9_code 1 = .ok (.bipush 48, 2) := by decide +kernel
theorem db_3 : decode prog_158_method_9_code 3 = .ok (.if_icmp .lt 13, 3) := by decide +kernel
theorem db_6 : decode prog_158_method_9_code 6 = .ok (.iload_n 0, 1) := by decide +kernel
theorem db_7 : decode prog_158_method_9_code 7 = .ok (.bipush 57, 2) := by decide +kernel
theorem db_9 : decode prog_158_method_9_code 9 = .ok (.if_icmp .gt 7, 3) := by decide +kernel
theorem db_12 : decode prog_158_method_9_code 12 = .ok (.iconst 1, 1) := by decide +kernel
theorem db_13 : decode prog_158_method_9_code 13 = .ok (.goto 4, 3) := by decide +kernel
theorem db_16 : decode prog_158_method_9_code 16 = .ok (.iconst 0, 1) := by decide +kernel
theorem db_17 : decode prog_158_method_9_code 17 = .ok (.ireturn, 1) := by decide +kernel
theorem pnb : plainFor (⟨"com/example/caddisfly/caddisfly/XpathNumbers", "isDigit", "(C)Z"⟩ : MethodName) = true := plainFor_of_name (show plainName "com/example/caddisfly/caddisfly/XpathNumbers" = true by first | (simp [plainName, overriddenIn]; done) | decide +kernel)
theorem pdb : parseMethodDescriptor "(C)Z" = some ⟨[.char], some .boolean⟩ := by decide +kernel
abbrev Wb (l : Launch) (Z : State) (n0 : Nat) (P : Option Value → Heap → Prop) (G : Prop) (s : State) := Wk l Z ({ frames := 0, cells := 0, slots := 0, locals := 0 } : Room) (⟨"com/example/caddisfly/caddisfly/XpathNumbers", "isDigit", "(C)Z"⟩ : MethodName) prog_158_method_9_code 1 (some .boolean) n0 (Ex s ({ frames := 0, cells := 0, slots := 0, locals := 0 } : Room) n0 P G) s
set_option maxRecDepth 65536 in
set_option maxHeartbeats 40000000 in
theorem conb1 (l : Launch) (Z : State) (a0 : Array Value) (hw : ∀ d ∈ tables_1, d.before a0 Z = true) (c : Int32) (h0 : Heap) (n0 : Nat) (hc : ¬ c < (48 : Int32) ∧ ¬ (57 : Int32) < c) : Con l Z (⟨"com/example/caddisfly/caddisfly/XpathNumbers", "isDigit", "(C)Z"⟩ : MethodName) prog_158_method_9_code 1 (some .boolean) ({ frames := 0, cells := 0, slots := 0, locals := 0 } : Room) #[.int c] h0 n0 (QB (1 : Int32) h0) := by
  refine Con.of pnb (Ls := #[.val (.int c)]) (fun m => by first | (simp [entryFrame, mkF, argsToLocals, Value.category]; done) | rfl) ?_
  intro G s k
  have k : Wb l Z n0 (QB (1 : Int32) h0) G s h0 0 0 3 #[.val (.int c)] [(.int (48 : Int32)), (.int c)] := (k.iloadN db_0 rfl).bipush (48) db_1 rfl
  have k : Wb l Z n0 (QB (1 : Int32) h0) G s h0 0 0 6 #[.val (.int c)] [] := k.icF db_3 (XT.ii_lt_f hc.1)
  have k : Wb l Z n0 (QB (1 : Int32) h0) G s h0 0 0 9 #[.val (.int c)] [(.int (57 : Int32)), (.int c)] := (k.iloadN db_6 rfl).bipush (57) db_7 rfl
  have k : Wb l Z n0 (QB (1 : Int32) h0) G s h0 0 0 12 #[.val (.int c)] [] := k.icF db_9 (XT.ii_gt_f hc.2)
  have k : Wb l Z n0 (QB (1 : Int32) h0) G s h0 0 0 17 #[.val (.int c)] [(.int (1 : Int32))] := (k.iconst (1) db_12 rfl).goto (pc' := 17) db_13 (by decide)
  exact k.outZ (Or.inr rfl) db_17 (by decide) (by decide) ⟨rfl, rfl⟩
set_option maxRecDepth 65536 in
set_option maxHeartbeats 40000000 in
theorem conb0 (l : Launch) (Z : State) (a0 : Array Value) (hw : ∀ d ∈ tables_1, d.before a0 Z = true) (c : Int32) (h0 : Heap) (n0 : Nat) (hc : c < (48 : Int32) ∨ (57 : Int32) < c) : Con l Z (⟨"com/example/caddisfly/caddisfly/XpathNumbers", "isDigit", "(C)Z"⟩ : MethodName) prog_158_method_9_code 1 (some .boolean) ({ frames := 0, cells := 0, slots := 0, locals := 0 } : Room) #[.int c] h0 n0 (QB (0 : Int32) h0) := by
  refine Con.of pnb (Ls := #[.val (.int c)]) (fun m => by first | (simp [entryFrame, mkF, argsToLocals, Value.category]; done) | rfl) ?_
  intro G s k
  have k : Wb l Z n0 (QB (0 : Int32) h0) G s h0 0 0 3 #[.val (.int c)] [(.int (48 : Int32)), (.int c)] := (k.iloadN db_0 rfl).bipush (48) db_1 rfl
  by_cases c5 : c < (48 : Int32)
  · have k : Wb l Z n0 (QB (0 : Int32) h0) G s h0 0 0 16 #[.val (.int c)] [] := k.icT (pc' := 16) db_3 (XT.ii_lt_t c5) (by decide)
    have k : Wb l Z n0 (QB (0 : Int32) h0) G s h0 0 0 17 #[.val (.int c)] [(.int (0 : Int32))] := k.iconst (0) db_16 rfl
    exact k.outZ (Or.inl rfl) db_17 (by decide) (by decide) ⟨rfl, rfl⟩
  · have k : Wb l Z n0 (QB (0 : Int32) h0) G s h0 0 0 6 #[.val (.int c)] [] := k.icF db_3 (XT.ii_lt_f c5)
    have k : Wb l Z n0 (QB (0 : Int32) h0) G s h0 0 0 9 #[.val (.int c)] [(.int (57 : Int32)), (.int c)] := (k.iloadN db_6 rfl).bipush (57) db_7 rfl
    have k : Wb l Z n0 (QB (0 : Int32) h0) G s h0 0 0 16 #[.val (.int c)] [] := k.icT (pc' := 16) db_9 (XT.ii_gt_t (hc.resolve_left c5)) (by decide)
    have k : Wb l Z n0 (QB (0 : Int32) h0) G s h0 0 0 17 #[.val (.int c)] [(.int (0 : Int32))] := k.iconst (0) db_16 rfl
    exact k.outZ (Or.inl rfl) db_17 (by decide) (by decide) ⟨rfl, rfl⟩
theorem dc_0 : decode method_3_code 0 = .ok (.iload_n 0, 1) := by decide +kernel
theorem dc_1 : decode method_3_code 1 = .ok (.bipush 7, 2) := by decide +kernel
theorem dc_3 : decode method_3_code 3 = .ok (.iand, 1) := by decide +kernel
theorem dc_4 : decode method_3_code 4 = .ok (.istore_n 1, 1) := by decide +kernel
theorem dc_5 : decode method_3_code 5 = .ok (.iload_n 0, 1) := by decide +kernel
theorem dc_6 : decode method_3_code 6 = .ok (.iconst 3, 1) := by decide +kernel
theorem dc_7 : decode method_3_code 7 = .ok (.iushr, 1) := by decide +kernel
theorem dc_8 : decode method_3_code 8 = .ok (.istore_n 2, 1) := by decide +kernel
theorem dc_9 : decode method_3_code 9 = .ok (.iload_n 1, 1) := by decide +kernel
theorem dc_10 : decode method_3_code 10 = .ok (.ifCond .ne 46, 3) := by decide +kernel
theorem dc_13 : decode method_3_code 13 = .ok (.iload_n 2, 1) := by decide +kernel
theorem dc_14 : decode method_3_code 14 = .ok (.iconst 3, 1) := by decide +kernel
theorem dc_15 : decode method_3_code 15 = .ok (.iand, 1) := by decide +kernel
theorem dc_16 : decode method_3_code 16 = .ok (.istore 4, 2) := by decide +kernel
theorem dc_18 : decode method_3_code 18 = .ok (.iload 4, 2) := by decide +kernel
theorem dc_20 : decode method_3_code 20 = .ok (.ifCond .ne 8, 3) := by decide +kernel
theorem dc_23 : decode method_3_code 23 = .ok (.bipush 32, 2) := by decide +kernel
theorem dc_25 : decode method_3_code 25 = .ok (.goto 27, 3) := by decide +kernel
theorem dc_28 : decode method_3_code 28 = .ok (.iload 4, 2) := by decide +kernel
theorem dc_30 : decode method_3_code 30 = .ok (.iconst 1, 1) := by decide +kernel
theorem dc_31 : decode method_3_code 31 = .ok (.if_icmp .ne 8, 3) := by decide +kernel
theorem dc_34 : decode method_3_code 34 = .ok (.bipush 9, 2) := by decide +kernel
theorem dc_36 : decode method_3_code 36 = .ok (.goto 16, 3) := by decide +kernel
theorem dc_39 : decode method_3_code 39 = .ok (.iload 4, 2) := by decide +kernel
theorem dc_41 : decode method_3_code 41 = .ok (.iconst 2, 1) := by decide +kernel
theorem dc_42 : decode method_3_code 42 = .ok (.if_icmp .ne 8, 3) := by decide +kernel
theorem dc_45 : decode method_3_code 45 = .ok (.bipush 13, 2) := by decide +kernel
theorem dc_47 : decode method_3_code 47 = .ok (.goto 5, 3) := by decide +kernel
theorem dc_50 : decode method_3_code 50 = .ok (.bipush 10, 2) := by decide +kernel
theorem dc_52 : decode method_3_code 52 = .ok (.istore_n 3, 1) := by decide +kernel
theorem dc_53 : decode method_3_code 53 = .ok (.goto 59, 3) := by decide +kernel
theorem dc_56 : decode method_3_code 56 = .ok (.iload_n 1, 1) := by decide +kernel
theorem dc_57 : decode method_3_code 57 = .ok (.iconst 1, 1) := by decide +kernel
theorem dc_58 : decode method_3_code 58 = .ok (.if_icmp .ne 9, 3) := by decide +kernel
theorem dc_61 : decode method_3_code 61 = .ok (.bipush 45, 2) := by decide +kernel
theorem dc_63 : decode method_3_code 63 = .ok (.istore_n 3, 1) := by decide +kernel
theorem dc_64 : decode method_3_code 64 = .ok (.goto 48, 3) := by decide +kernel
theorem dc_67 : decode method_3_code 67 = .ok (.iload_n 1, 1) := by decide +kernel
theorem dc_68 : decode method_3_code 68 = .ok (.iconst 2, 1) := by decide +kernel
theorem dc_69 : decode method_3_code 69 = .ok (.if_icmp .ne 9, 3) := by decide +kernel
theorem dc_72 : decode method_3_code 72 = .ok (.bipush 46, 2) := by decide +kernel
theorem dc_74 : decode method_3_code 74 = .ok (.istore_n 3, 1) := by decide +kernel
theorem dc_75 : decode method_3_code 75 = .ok (.goto 37, 3) := by decide +kernel
theorem dc_78 : decode method_3_code 78 = .ok (.iload_n 1, 1) := by decide +kernel
theorem dc_79 : decode method_3_code 79 = .ok (.iconst 3, 1) := by decide +kernel
theorem dc_80 : decode method_3_code 80 = .ok (.if_icmp .ne 9, 3) := by decide +kernel
theorem dc_83 : decode method_3_code 83 = .ok (.bipush 48, 2) := by decide +kernel
theorem dc_85 : decode method_3_code 85 = .ok (.istore_n 3, 1) := by decide +kernel
theorem dc_86 : decode method_3_code 86 = .ok (.goto 26, 3) := by decide +kernel
theorem dc_89 : decode method_3_code 89 = .ok (.iload_n 1, 1) := by decide +kernel
theorem dc_90 : decode method_3_code 90 = .ok (.iconst 4, 1) := by decide +kernel
theorem dc_91 : decode method_3_code 91 = .ok (.if_icmp .ne 15, 3) := by decide +kernel
theorem dc_94 : decode method_3_code 94 = .ok (.bipush 48, 2) := by decide +kernel
theorem dc_96 : decode method_3_code 96 = .ok (.iload_n 2, 1) := by decide +kernel
theorem dc_97 : decode method_3_code 97 = .ok (.bipush 10, 2) := by decide +kernel
theorem dc_99 : decode method_3_code 99 = .ok (.irem, 1) := by decide +kernel
theorem dc_100 : decode method_3_code 100 = .ok (.iadd, 1) := by decide +kernel
theorem dc_101 : decode method_3_code 101 = .ok (.i2c, 1) := by decide +kernel
theorem dc_102 : decode method_3_code 102 = .ok (.istore_n 3, 1) := by decide +kernel
theorem dc_103 : decode method_3_code 103 = .ok (.goto 9, 3) := by decide +kernel
theorem dc_106 : decode method_3_code 106 = .ok (.iload_n 2, 1) := by decide +kernel
theorem dc_107 : decode method_3_code 107 = .ok (.ldc 33, 2) := by decide +kernel
theorem dc_109 : decode method_3_code 109 = .ok (.iand, 1) := by decide +kernel
theorem dc_110 : decode method_3_code 110 = .ok (.i2c, 1) := by decide +kernel
theorem dc_111 : decode method_3_code 111 = .ok (.istore_n 3, 1) := by decide +kernel
theorem dc_112 : decode method_3_code 112 = .ok (.iload_n 3, 1) := by decide +kernel
theorem dc_113 : decode method_3_code 113 = .ok (.ireturn, 1) := by decide +kernel
theorem pnc : plainFor (⟨"com/example/caddisfly/caddisfly/NumeralSteadyInPinLaw", "draw", "(I)C"⟩ : MethodName) = true := plainFor_of_name (show plainName "com/example/caddisfly/caddisfly/NumeralSteadyInPinLaw" = true by first | (simp [plainName, overriddenIn]; done) | decide +kernel)
theorem pdc : parseMethodDescriptor "(I)C" = some ⟨[.int], some .char⟩ := by decide +kernel
abbrev Wc (l : Launch) (Z : State) (n0 : Nat) (P : Option Value → Heap → Prop) (G : Prop) (s : State) := Wk l Z ({ frames := 0, cells := 0, slots := 0, locals := 0 } : Room) (⟨"com/example/caddisfly/caddisfly/NumeralSteadyInPinLaw", "draw", "(I)C"⟩ : MethodName) method_3_code 5 (some .char) n0 (Ex s ({ frames := 0, cells := 0, slots := 0, locals := 0 } : Room) n0 P G) s
abbrev Qc (h0 : Heap) : Option Value → Heap → Prop := fun v h => h0 = h ∧ ∃ r : Int32, v = some (.int r)
set_option maxRecDepth 65536 in
set_option maxHeartbeats 40000000 in
theorem conc (l : Launch) (Z : State) (a0 : Array Value) (hw : ∀ d ∈ tables_1, d.before a0 Z = true) (q : Int32) (h0 : Heap) (n0 : Nat) : Con l Z (⟨"com/example/caddisfly/caddisfly/NumeralSteadyInPinLaw", "draw", "(I)C"⟩ : MethodName) method_3_code 5 (some .char) ({ frames := 0, cells := 0, slots := 0, locals := 0 } : Room) #[.int q] h0 n0 (Qc h0) := by
  refine Con.of pnc (Ls := #[.val (.int q), .unset, .unset, .unset, .unset]) (fun m => by first | (simp [entryFrame, mkF, argsToLocals, Value.category]; done) | rfl) ?_
  intro G s k
  have k : Wc l Z n0 (Qc h0) G s h0 0 0 7 #[.val (.int q), .val (.int (q &&& (7 : Int32))), .unset, .unset, .unset] [(.int (3 : Int32)), (.int q)] := (((((k.iloadN dc_0 rfl).bipush (7) dc_1 rfl).iand dc_3).istoreN dc_4 (Ls' := #[.val (.int q), .val (.int (q &&& (7 : Int32))), .unset, .unset, .unset]) rfl).iloadN dc_5 rfl).iconst (3) dc_6 rfl
  have k : Wc l Z n0 (Qc h0) G s h0 0 0 10 #[.val (.int q), .val (.int (q &&& (7 : Int32))), .val (.int (XT.ushr q (3 : Int32))), .unset, .unset] [(.int (q &&& (7 : Int32)))] := ((k.iushr dc_7).istoreN dc_8 (Ls' := #[.val (.int q), .val (.int (q &&& (7 : Int32))), .val (.int (XT.ushr q (3 : Int32))), .unset, .unset]) rfl).iloadN dc_9 rfl
  by_cases c6 : (q &&& (7 : Int32)) = 0
  · have k : Wc l Z n0 (Qc h0) G s h0 0 0 13 #[.val (.int q), .val (.int (q &&& (7 : Int32))), .val (.int (XT.ushr q (3 : Int32))), .unset, .unset] [] := k.ifF dc_10 (XT.i0_ne_f c6)
    have k : Wc l Z n0 (Qc h0) G s h0 0 0 20 #[.val (.int q), .val (.int (q &&& (7 : Int32))), .val (.int (XT.ushr q (3 : Int32))), .unset, .val (.int ((XT.ushr q (3 : Int32)) &&& (3 : Int32)))] [(.int ((XT.ushr q (3 : Int32)) &&& (3 : Int32)))] := ((((k.iloadN dc_13 rfl).iconst (3) dc_14 rfl).iand dc_15).istore dc_16 (Ls' := #[.val (.int q), .val (.int (q &&& (7 : Int32))), .val (.int (XT.ushr q (3 : Int32))), .unset, .val (.int ((XT.ushr q (3 : Int32)) &&& (3 : Int32)))]) rfl).iload dc_18 rfl
    by_cases c7 : ((XT.ushr q (3 : Int32)) &&& (3 : Int32)) = 0
    · have k : Wc l Z n0 (Qc h0) G s h0 0 0 23 #[.val (.int q), .val (.int (q &&& (7 : Int32))), .val (.int (XT.ushr q (3 : Int32))), .unset, .val (.int ((XT.ushr q (3 : Int32)) &&& (3 : Int32)))] [] := k.ifF dc_20 (XT.i0_ne_f c7)
      have k : Wc l Z n0 (Qc h0) G s h0 0 0 52 #[.val (.int q), .val (.int (q &&& (7 : Int32))), .val (.int (XT.ushr q (3 : Int32))), .unset, .val (.int ((XT.ushr q (3 : Int32)) &&& (3 : Int32)))] [(.int (32 : Int32))] := (k.bipush (32) dc_23 rfl).goto (pc' := 52) dc_25 (by decide)
      have k : Wc l Z n0 (Qc h0) G s h0 0 0 112 #[.val (.int q), .val (.int (q &&& (7 : Int32))), .val (.int (XT.ushr q (3 : Int32))), .val (.int (32 : Int32)), .val (.int ((XT.ushr q (3 : Int32)) &&& (3 : Int32)))] [] := (k.istoreN dc_52 (Ls' := #[.val (.int q), .val (.int (q &&& (7 : Int32))), .val (.int (XT.ushr q (3 : Int32))), .val (.int (32 : Int32)), .val (.int ((XT.ushr q (3 : Int32)) &&& (3 : Int32)))]) rfl).goto (pc' := 112) dc_53 (by decide)
      have k : Wc l Z n0 (Qc h0) G s h0 0 0 113 #[.val (.int q), .val (.int (q &&& (7 : Int32))), .val (.int (XT.ushr q (3 : Int32))), .val (.int (32 : Int32)), .val (.int ((XT.ushr q (3 : Int32)) &&& (3 : Int32)))] [(.int (32 : Int32))] := k.iloadN dc_112 rfl
      exact k.outC rfl dc_113 (by decide) (by decide) ⟨rfl, _, rfl⟩
    · have k : Wc l Z n0 (Qc h0) G s h0 0 0 28 #[.val (.int q), .val (.int (q &&& (7 : Int32))), .val (.int (XT.ushr q (3 : Int32))), .unset, .val (.int ((XT.ushr q (3 : Int32)) &&& (3 : Int32)))] [] := k.ifT (pc' := 28) dc_20 (XT.i0_ne_t c7) (by decide)
      have k : Wc l Z n0 (Qc h0) G s h0 0 0 31 #[.val (.int q), .val (.int (q &&& (7 : Int32))), .val (.int (XT.ushr q (3 : Int32))), .unset, .val (.int ((XT.ushr q (3 : Int32)) &&& (3 : Int32)))] [(.int (1 : Int32)), (.int ((XT.ushr q (3 : Int32)) &&& (3 : Int32)))] := (k.iload dc_28 rfl).iconst (1) dc_30 rfl
      by_cases c8 : ((XT.ushr q (3 : Int32)) &&& (3 : Int32)) = (1 : Int32)
      · have k : Wc l Z n0 (Qc h0) G s h0 0 0 34 #[.val (.int q), .val (.int (q &&& (7 : Int32))), .val (.int (XT.ushr q (3 : Int32))), .unset, .val (.int ((XT.ushr q (3 : Int32)) &&& (3 : Int32)))] [] := k.icF dc_31 (XT.ii_ne_f c8)
        have k : Wc l Z n0 (Qc h0) G s h0 0 0 52 #[.val (.int q), .val (.int (q &&& (7 : Int32))), .val (.int (XT.ushr q (3 : Int32))), .unset, .val (.int ((XT.ushr q (3 : Int32)) &&& (3 : Int32)))] [(.int (9 : Int32))] := (k.bipush (9) dc_34 rfl).goto (pc' := 52) dc_36 (by decide)
        have k : Wc l Z n0 (Qc h0) G s h0 0 0 112 #[.val (.int q), .val (.int (q &&& (7 : Int32))), .val (.int (XT.ushr q (3 : Int32))), .val (.int (9 : Int32)), .val (.int ((XT.ushr q (3 : Int32)) &&& (3 : Int32)))] [] := (k.istoreN dc_52 (Ls' := #[.val (.int q), .val (.int (q &&& (7 : Int32))), .val (.int (XT.ushr q (3 : Int32))), .val (.int (9 : Int32)), .val (.int ((XT.ushr q (3 : Int32)) &&& (3 : Int32)))]) rfl).goto (pc' := 112) dc_53 (by decide)
        have k : Wc l Z n0 (Qc h0) G s h0 0 0 113 #[.val (.int q), .val (.int (q &&& (7 : Int32))), .val (.int (XT.ushr q (3 : Int32))), .val (.int (9 : Int32)), .val (.int ((XT.ushr q (3 : Int32)) &&& (3 : Int32)))] [(.int (9 : Int32))] := k.iloadN dc_112 rfl
        exact k.outC rfl dc_113 (by decide) (by decide) ⟨rfl, _, rfl⟩
      · have k : Wc l Z n0 (Qc h0) G s h0 0 0 39 #[.val (.int q), .val (.int (q &&& (7 : Int32))), .val (.int (XT.ushr q (3 : Int32))), .unset, .val (.int ((XT.ushr q (3 : Int32)) &&& (3 : Int32)))] [] := k.icT (pc' := 39) dc_31 (XT.ii_ne_t c8) (by decide)
        have k : Wc l Z n0 (Qc h0) G s h0 0 0 42 #[.val (.int q), .val (.int (q &&& (7 : Int32))), .val (.int (XT.ushr q (3 : Int32))), .unset, .val (.int ((XT.ushr q (3 : Int32)) &&& (3 : Int32)))] [(.int (2 : Int32)), (.int ((XT.ushr q (3 : Int32)) &&& (3 : Int32)))] := (k.iload dc_39 rfl).iconst (2) dc_41 rfl
        by_cases c9 : ((XT.ushr q (3 : Int32)) &&& (3 : Int32)) = (2 : Int32)
        · have k : Wc l Z n0 (Qc h0) G s h0 0 0 45 #[.val (.int q), .val (.int (q &&& (7 : Int32))), .val (.int (XT.ushr q (3 : Int32))), .unset, .val (.int ((XT.ushr q (3 : Int32)) &&& (3 : Int32)))] [] := k.icF dc_42 (XT.ii_ne_f c9)
          have k : Wc l Z n0 (Qc h0) G s h0 0 0 52 #[.val (.int q), .val (.int (q &&& (7 : Int32))), .val (.int (XT.ushr q (3 : Int32))), .unset, .val (.int ((XT.ushr q (3 : Int32)) &&& (3 : Int32)))] [(.int (13 : Int32))] := (k.bipush (13) dc_45 rfl).goto (pc' := 52) dc_47 (by decide)
          have k : Wc l Z n0 (Qc h0) G s h0 0 0 112 #[.val (.int q), .val (.int (q &&& (7 : Int32))), .val (.int (XT.ushr q (3 : Int32))), .val (.int (13 : Int32)), .val (.int ((XT.ushr q (3 : Int32)) &&& (3 : Int32)))] [] := (k.istoreN dc_52 (Ls' := #[.val (.int q), .val (.int (q &&& (7 : Int32))), .val (.int (XT.ushr q (3 : Int32))), .val (.int (13 : Int32)), .val (.int ((XT.ushr q (3 : Int32)) &&& (3 : Int32)))]) rfl).goto (pc' := 112) dc_53 (by decide)
          have k : Wc l Z n0 (Qc h0) G s h0 0 0 113 #[.val (.int q), .val (.int (q &&& (7 : Int32))), .val (.int (XT.ushr q (3 : Int32))), .val (.int (13 : Int32)), .val (.int ((XT.ushr q (3 : Int32)) &&& (3 : Int32)))] [(.int (13 : Int32))] := k.iloadN dc_112 rfl
          exact k.outC rfl dc_113 (by decide) (by decide) ⟨rfl, _, rfl⟩
        · have k : Wc l Z n0 (Qc h0) G s h0 0 0 50 #[.val (.int q), .val (.int (q &&& (7 : Int32))), .val (.int (XT.ushr q (3 : Int32))), .unset, .val (.int ((XT.ushr q (3 : Int32)) &&& (3 : Int32)))] [] := k.icT (pc' := 50) dc_42 (XT.ii_ne_t c9) (by decide)
          have k : Wc l Z n0 (Qc h0) G s h0 0 0 112 #[.val (.int q), .val (.int (q &&& (7 : Int32))), .val (.int (XT.ushr q (3 : Int32))), .val (.int (10 : Int32)), .val (.int ((XT.ushr q (3 : Int32)) &&& (3 : Int32)))] [] := ((k.bipush (10) dc_50 rfl).istoreN dc_52 (Ls' := #[.val (.int q), .val (.int (q &&& (7 : Int32))), .val (.int (XT.ushr q (3 : Int32))), .val (.int (10 : Int32)), .val (.int ((XT.ushr q (3 : Int32)) &&& (3 : Int32)))]) rfl).goto (pc' := 112) dc_53 (by decide)
          have k : Wc l Z n0 (Qc h0) G s h0 0 0 113 #[.val (.int q), .val (.int (q &&& (7 : Int32))), .val (.int (XT.ushr q (3 : Int32))), .val (.int (10 : Int32)), .val (.int ((XT.ushr q (3 : Int32)) &&& (3 : Int32)))] [(.int (10 : Int32))] := k.iloadN dc_112 rfl
          exact k.outC rfl dc_113 (by decide) (by decide) ⟨rfl, _, rfl⟩
  · have k : Wc l Z n0 (Qc h0) G s h0 0 0 56 #[.val (.int q), .val (.int (q &&& (7 : Int32))), .val (.int (XT.ushr q (3 : Int32))), .unset, .unset] [] := k.ifT (pc' := 56) dc_10 (XT.i0_ne_t c6) (by decide)
    have k : Wc l Z n0 (Qc h0) G s h0 0 0 58 #[.val (.int q), .val (.int (q &&& (7 : Int32))), .val (.int (XT.ushr q (3 : Int32))), .unset, .unset] [(.int (1 : Int32)), (.int (q &&& (7 : Int32)))] := (k.iloadN dc_56 rfl).iconst (1) dc_57 rfl
    by_cases c10 : (q &&& (7 : Int32)) = (1 : Int32)
    · have k : Wc l Z n0 (Qc h0) G s h0 0 0 61 #[.val (.int q), .val (.int (q &&& (7 : Int32))), .val (.int (XT.ushr q (3 : Int32))), .unset, .unset] [] := k.icF dc_58 (XT.ii_ne_f c10)
      have k : Wc l Z n0 (Qc h0) G s h0 0 0 112 #[.val (.int q), .val (.int (q &&& (7 : Int32))), .val (.int (XT.ushr q (3 : Int32))), .val (.int (45 : Int32)), .unset] [] := ((k.bipush (45) dc_61 rfl).istoreN dc_63 (Ls' := #[.val (.int q), .val (.int (q &&& (7 : Int32))), .val (.int (XT.ushr q (3 : Int32))), .val (.int (45 : Int32)), .unset]) rfl).goto (pc' := 112) dc_64 (by decide)
      have k : Wc l Z n0 (Qc h0) G s h0 0 0 113 #[.val (.int q), .val (.int (q &&& (7 : Int32))), .val (.int (XT.ushr q (3 : Int32))), .val (.int (45 : Int32)), .unset] [(.int (45 : Int32))] := k.iloadN dc_112 rfl
      exact k.outC rfl dc_113 (by decide) (by decide) ⟨rfl, _, rfl⟩
    · have k : Wc l Z n0 (Qc h0) G s h0 0 0 67 #[.val (.int q), .val (.int (q &&& (7 : Int32))), .val (.int (XT.ushr q (3 : Int32))), .unset, .unset] [] := k.icT (pc' := 67) dc_58 (XT.ii_ne_t c10) (by decide)
      have k : Wc l Z n0 (Qc h0) G s h0 0 0 69 #[.val (.int q), .val (.int (q &&& (7 : Int32))), .val (.int (XT.ushr q (3 : Int32))), .unset, .unset] [(.int (2 : Int32)), (.int (q &&& (7 : Int32)))] := (k.iloadN dc_67 rfl).iconst (2) dc_68 rfl
      by_cases c11 : (q &&& (7 : Int32)) = (2 : Int32)
      · have k : Wc l Z n0 (Qc h0) G s h0 0 0 72 #[.val (.int q), .val (.int (q &&& (7 : Int32))), .val (.int (XT.ushr q (3 : Int32))), .unset, .unset] [] := k.icF dc_69 (XT.ii_ne_f c11)
        have k : Wc l Z n0 (Qc h0) G s h0 0 0 112 #[.val (.int q), .val (.int (q &&& (7 : Int32))), .val (.int (XT.ushr q (3 : Int32))), .val (.int (46 : Int32)), .unset] [] := ((k.bipush (46) dc_72 rfl).istoreN dc_74 (Ls' := #[.val (.int q), .val (.int (q &&& (7 : Int32))), .val (.int (XT.ushr q (3 : Int32))), .val (.int (46 : Int32)), .unset]) rfl).goto (pc' := 112) dc_75 (by decide)
        have k : Wc l Z n0 (Qc h0) G s h0 0 0 113 #[.val (.int q), .val (.int (q &&& (7 : Int32))), .val (.int (XT.ushr q (3 : Int32))), .val (.int (46 : Int32)), .unset] [(.int (46 : Int32))] := k.iloadN dc_112 rfl
        exact k.outC rfl dc_113 (by decide) (by decide) ⟨rfl, _, rfl⟩
      · have k : Wc l Z n0 (Qc h0) G s h0 0 0 78 #[.val (.int q), .val (.int (q &&& (7 : Int32))), .val (.int (XT.ushr q (3 : Int32))), .unset, .unset] [] := k.icT (pc' := 78) dc_69 (XT.ii_ne_t c11) (by decide)
        have k : Wc l Z n0 (Qc h0) G s h0 0 0 80 #[.val (.int q), .val (.int (q &&& (7 : Int32))), .val (.int (XT.ushr q (3 : Int32))), .unset, .unset] [(.int (3 : Int32)), (.int (q &&& (7 : Int32)))] := (k.iloadN dc_78 rfl).iconst (3) dc_79 rfl
        by_cases c12 : (q &&& (7 : Int32)) = (3 : Int32)
        · have k : Wc l Z n0 (Qc h0) G s h0 0 0 83 #[.val (.int q), .val (.int (q &&& (7 : Int32))), .val (.int (XT.ushr q (3 : Int32))), .unset, .unset] [] := k.icF dc_80 (XT.ii_ne_f c12)
          have k : Wc l Z n0 (Qc h0) G s h0 0 0 112 #[.val (.int q), .val (.int (q &&& (7 : Int32))), .val (.int (XT.ushr q (3 : Int32))), .val (.int (48 : Int32)), .unset] [] := ((k.bipush (48) dc_83 rfl).istoreN dc_85 (Ls' := #[.val (.int q), .val (.int (q &&& (7 : Int32))), .val (.int (XT.ushr q (3 : Int32))), .val (.int (48 : Int32)), .unset]) rfl).goto (pc' := 112) dc_86 (by decide)
          have k : Wc l Z n0 (Qc h0) G s h0 0 0 113 #[.val (.int q), .val (.int (q &&& (7 : Int32))), .val (.int (XT.ushr q (3 : Int32))), .val (.int (48 : Int32)), .unset] [(.int (48 : Int32))] := k.iloadN dc_112 rfl
          exact k.outC rfl dc_113 (by decide) (by decide) ⟨rfl, _, rfl⟩
        · have k : Wc l Z n0 (Qc h0) G s h0 0 0 89 #[.val (.int q), .val (.int (q &&& (7 : Int32))), .val (.int (XT.ushr q (3 : Int32))), .unset, .unset] [] := k.icT (pc' := 89) dc_80 (XT.ii_ne_t c12) (by decide)
          have k : Wc l Z n0 (Qc h0) G s h0 0 0 91 #[.val (.int q), .val (.int (q &&& (7 : Int32))), .val (.int (XT.ushr q (3 : Int32))), .unset, .unset] [(.int (4 : Int32)), (.int (q &&& (7 : Int32)))] := (k.iloadN dc_89 rfl).iconst (4) dc_90 rfl
          by_cases c13 : (q &&& (7 : Int32)) = (4 : Int32)
          · have k : Wc l Z n0 (Qc h0) G s h0 0 0 94 #[.val (.int q), .val (.int (q &&& (7 : Int32))), .val (.int (XT.ushr q (3 : Int32))), .unset, .unset] [] := k.icF dc_91 (XT.ii_ne_f c13)
            have k : Wc l Z n0 (Qc h0) G s h0 0 0 102 #[.val (.int q), .val (.int (q &&& (7 : Int32))), .val (.int (XT.ushr q (3 : Int32))), .unset, .unset] [(.int (((48 : Int32) + ((XT.ushr q (3 : Int32)) % (10 : Int32))).toUInt32.toUInt16.toUInt32.toInt32))] := (((((k.bipush (48) dc_94 rfl).iloadN dc_96 rfl).bipush (10) dc_97 rfl).irem dc_99 (by decide)).iadd dc_100).i2c dc_101
            have k : Wc l Z n0 (Qc h0) G s h0 0 0 112 #[.val (.int q), .val (.int (q &&& (7 : Int32))), .val (.int (XT.ushr q (3 : Int32))), .val (.int (((48 : Int32) + ((XT.ushr q (3 : Int32)) % (10 : Int32))).toUInt32.toUInt16.toUInt32.toInt32)), .unset] [] := (k.istoreN dc_102 (Ls' := #[.val (.int q), .val (.int (q &&& (7 : Int32))), .val (.int (XT.ushr q (3 : Int32))), .val (.int (((48 : Int32) + ((XT.ushr q (3 : Int32)) % (10 : Int32))).toUInt32.toUInt16.toUInt32.toInt32)), .unset]) rfl).goto (pc' := 112) dc_103 (by decide)
            have k : Wc l Z n0 (Qc h0) G s h0 0 0 113 #[.val (.int q), .val (.int (q &&& (7 : Int32))), .val (.int (XT.ushr q (3 : Int32))), .val (.int (((48 : Int32) + ((XT.ushr q (3 : Int32)) % (10 : Int32))).toUInt32.toUInt16.toUInt32.toInt32)), .unset] [(.int (((48 : Int32) + ((XT.ushr q (3 : Int32)) % (10 : Int32))).toUInt32.toUInt16.toUInt32.toInt32))] := k.iloadN dc_112 rfl
            exact k.outC (own_c _) dc_113 (by decide) (by decide) ⟨rfl, _, rfl⟩
          · have k : Wc l Z n0 (Qc h0) G s h0 0 0 106 #[.val (.int q), .val (.int (q &&& (7 : Int32))), .val (.int (XT.ushr q (3 : Int32))), .unset, .unset] [] := k.icT (pc' := 106) dc_91 (XT.ii_ne_t c13) (by decide)
            have k : Wc l Z n0 (Qc h0) G s h0 0 0 113 #[.val (.int q), .val (.int (q &&& (7 : Int32))), .val (.int (XT.ushr q (3 : Int32))), .val (.int (((XT.ushr q (3 : Int32)) &&& (65535 : Int32)).toUInt32.toUInt16.toUInt32.toInt32)), .unset] [(.int (((XT.ushr q (3 : Int32)) &&& (65535 : Int32)).toUInt32.toUInt16.toUInt32.toInt32))] := (((((k.iloadN dc_106 rfl).ldc (hw _ (List.mem_of_getElem? (i := 28) rfl)) dc_107).iand dc_109).i2c dc_110).istoreN dc_111 (Ls' := #[.val (.int q), .val (.int (q &&& (7 : Int32))), .val (.int (XT.ushr q (3 : Int32))), .val (.int (((XT.ushr q (3 : Int32)) &&& (65535 : Int32)).toUInt32.toUInt16.toUInt32.toInt32)), .unset]) rfl).iloadN dc_112 rfl
            exact k.outC (own_c _) dc_113 (by decide) (by decide) ⟨rfl, _, rfl⟩
theorem dd_0 : decode method_4_code 0 = .ok (.iload_n 0, 1) := by decide +kernel
theorem dd_1 : decode method_4_code 1 = .ok (.bipush 32, 2) := by decide +kernel
theorem dd_3 : decode method_4_code 3 = .ok (.if_icmp .eq 21, 3) := by decide +kernel
theorem dd_6 : decode method_4_code 6 = .ok (.iload_n 0, 1) := by decide +kernel
theorem dd_7 : decode method_4_code 7 = .ok (.bipush 9, 2) := by decide +kernel
theorem dd_9 : decode method_4_code 9 = .ok (.if_icmp .eq 15, 3) := by decide +kernel
theorem dd_12 : decode method_4_code 12 = .ok (.iload_n 0, 1) := by decide +kernel
theorem dd_13 : decode method_4_code 13 = .ok (.bipush 13, 2) := by decide +kernel
theorem dd_15 : decode method_4_code 15 = .ok (.if_icmp .eq 9, 3) := by decide +kernel
theorem dd_18 : decode method_4_code 18 = .ok (.iload_n 0, 1) := by decide +kernel
theorem dd_19 : decode method_4_code 19 = .ok (.bipush 10, 2) := by decide +kernel
theorem dd_21 : decode method_4_code 21 = .ok (.if_icmp .ne 8, 3) := by decide +kernel
theorem dd_24 : decode method_4_code 24 = .ok (.iconst 0, 1) := by decide +kernel
theorem dd_25 : decode method_4_code 25 = .ok (.istore_n 1, 1) := by decide +kernel
theorem dd_26 : decode method_4_code 26 = .ok (.goto 55, 3) := by decide +kernel
theorem dd_29 : decode method_4_code 29 = .ok (.iload_n 0, 1) := by decide +kernel
theorem dd_30 : decode method_4_code 30 = .ok (.bipush 45, 2) := by decide +kernel
theorem dd_32 : decode method_4_code 32 = .ok (.if_icmp .ne 8, 3) := by decide +kernel
theorem dd_35 : decode method_4_code 35 = .ok (.iconst 1, 1) := by decide +kernel
theorem dd_36 : decode method_4_code 36 = .ok (.istore_n 1, 1) := by decide +kernel
theorem dd_37 : decode method_4_code 37 = .ok (.goto 44, 3) := by decide +kernel
theorem dd_40 : decode method_4_code 40 = .ok (.iload_n 0, 1) := by decide +kernel
theorem dd_41 : decode method_4_code 41 = .ok (.bipush 46, 2) := by decide +kernel
theorem dd_43 : decode method_4_code 43 = .ok (.if_icmp .ne 8, 3) := by decide +kernel
theorem dd_46 : decode method_4_code 46 = .ok (.iconst 2, 1) := by decide +kernel
theorem dd_47 : decode method_4_code 47 = .ok (.istore_n 1, 1) := by decide +kernel
theorem dd_48 : decode method_4_code 48 = .ok (.goto 33, 3) := by decide +kernel
theorem dd_51 : decode method_4_code 51 = .ok (.iload_n 0, 1) := by decide +kernel
theorem dd_52 : decode method_4_code 52 = .ok (.bipush 48, 2) := by decide +kernel
theorem dd_54 : decode method_4_code 54 = .ok (.if_icmp .ne 8, 3) := by decide +kernel
theorem dd_57 : decode method_4_code 57 = .ok (.iconst 3, 1) := by decide +kernel
theorem dd_58 : decode method_4_code 58 = .ok (.istore_n 1, 1) := by decide +kernel
theorem dd_59 : decode method_4_code 59 = .ok (.goto 22, 3) := by decide +kernel
theorem dd_62 : decode method_4_code 62 = .ok (.iload_n 0, 1) := by decide +kernel
theorem dd_63 : decode method_4_code 63 = .ok (.bipush 49, 2) := by decide +kernel
theorem dd_65 : decode method_4_code 65 = .ok (.if_icmp .lt 14, 3) := by decide +kernel
theorem dd_68 : decode method_4_code 68 = .ok (.iload_n 0, 1) := by decide +kernel
theorem dd_69 : decode method_4_code 69 = .ok (.bipush 57, 2) := by decide +kernel
theorem dd_71 : decode method_4_code 71 = .ok (.if_icmp .gt 8, 3) := by decide +kernel
theorem dd_74 : decode method_4_code 74 = .ok (.iconst 4, 1) := by decide +kernel
theorem dd_75 : decode method_4_code 75 = .ok (.istore_n 1, 1) := by decide +kernel
theorem dd_76 : decode method_4_code 76 = .ok (.goto 5, 3) := by decide +kernel
theorem dd_79 : decode method_4_code 79 = .ok (.iconst 5, 1) := by decide +kernel
theorem dd_80 : decode method_4_code 80 = .ok (.istore_n 1, 1) := by decide +kernel
theorem dd_81 : decode method_4_code 81 = .ok (.iload_n 1, 1) := by decide +kernel
theorem dd_82 : decode method_4_code 82 = .ok (.ireturn, 1) := by decide +kernel
theorem pnd : plainFor (⟨"com/example/caddisfly/caddisfly/NumeralSteadyInPinLaw", "cls", "(C)I"⟩ : MethodName) = true := plainFor_of_name (show plainName "com/example/caddisfly/caddisfly/NumeralSteadyInPinLaw" = true by first | (simp [plainName, overriddenIn]; done) | decide +kernel)
theorem pdd : parseMethodDescriptor "(C)I" = some ⟨[.char], some .int⟩ := by decide +kernel
abbrev Wd (l : Launch) (Z : State) (n0 : Nat) (P : Option Value → Heap → Prop) (G : Prop) (s : State) := Wk l Z ({ frames := 0, cells := 0, slots := 0, locals := 0 } : Room) (⟨"com/example/caddisfly/caddisfly/NumeralSteadyInPinLaw", "cls", "(C)I"⟩ : MethodName) method_4_code 2 (some .int) n0 (Ex s ({ frames := 0, cells := 0, slots := 0, locals := 0 } : Room) n0 P G) s
abbrev Qd (c : Int32) (h0 : Heap) : Option Value → Heap → Prop := fun v h => h0 = h ∧ ∃ d : Nat, v = some (.int (i32 d)) ∧ Cl c d
set_option maxRecDepth 65536 in
set_option maxHeartbeats 40000000 in
theorem cond (l : Launch) (Z : State) (a0 : Array Value) (hw : ∀ d ∈ tables_1, d.before a0 Z = true) (c : Int32) (h0 : Heap) (n0 : Nat) : Con l Z (⟨"com/example/caddisfly/caddisfly/NumeralSteadyInPinLaw", "cls", "(C)I"⟩ : MethodName) method_4_code 2 (some .int) ({ frames := 0, cells := 0, slots := 0, locals := 0 } : Room) #[.int c] h0 n0 (Qd c h0) := by
  refine Con.of pnd (Ls := #[.val (.int c), .unset]) (fun m => by first | (simp [entryFrame, mkF, argsToLocals, Value.category]; done) | rfl) ?_
  intro G s k
  have k : Wd l Z n0 (Qd c h0) G s h0 0 0 3 #[.val (.int c), .unset] [(.int (32 : Int32)), (.int c)] := (k.iloadN dd_0 rfl).bipush (32) dd_1 rfl
  by_cases c14 : c = (32 : Int32)
  · have k : Wd l Z n0 (Qd c h0) G s h0 0 0 24 #[.val (.int c), .unset] [] := k.icT (pc' := 24) dd_3 (XT.ii_eq_t c14) (by decide)
    have k : Wd l Z n0 (Qd c h0) G s h0 0 0 81 #[.val (.int c), .val (.int (0 : Int32))] [] := ((k.iconst (0) dd_24 rfl).istoreN dd_25 (Ls' := #[.val (.int c), .val (.int (0 : Int32))]) rfl).goto (pc' := 81) dd_26 (by decide)
    have k : Wd l Z n0 (Qd c h0) G s h0 0 0 82 #[.val (.int c), .val (.int (0 : Int32))] [(.int (0 : Int32))] := k.iloadN dd_81 rfl
    exact k.outI dd_82 (by decide) (by decide) ⟨rfl, 0, rfl, (show Cl c 0 from Or.inl c14)⟩
  · have k : Wd l Z n0 (Qd c h0) G s h0 0 0 6 #[.val (.int c), .unset] [] := k.icF dd_3 (XT.ii_eq_f c14)
    have k : Wd l Z n0 (Qd c h0) G s h0 0 0 9 #[.val (.int c), .unset] [(.int (9 : Int32)), (.int c)] := (k.iloadN dd_6 rfl).bipush (9) dd_7 rfl
    by_cases c15 : c = (9 : Int32)
    · have k : Wd l Z n0 (Qd c h0) G s h0 0 0 24 #[.val (.int c), .unset] [] := k.icT (pc' := 24) dd_9 (XT.ii_eq_t c15) (by decide)
      have k : Wd l Z n0 (Qd c h0) G s h0 0 0 81 #[.val (.int c), .val (.int (0 : Int32))] [] := ((k.iconst (0) dd_24 rfl).istoreN dd_25 (Ls' := #[.val (.int c), .val (.int (0 : Int32))]) rfl).goto (pc' := 81) dd_26 (by decide)
      have k : Wd l Z n0 (Qd c h0) G s h0 0 0 82 #[.val (.int c), .val (.int (0 : Int32))] [(.int (0 : Int32))] := k.iloadN dd_81 rfl
      exact k.outI dd_82 (by decide) (by decide) ⟨rfl, 0, rfl, (show Cl c 0 from Or.inr (Or.inl c15))⟩
    · have k : Wd l Z n0 (Qd c h0) G s h0 0 0 12 #[.val (.int c), .unset] [] := k.icF dd_9 (XT.ii_eq_f c15)
      have k : Wd l Z n0 (Qd c h0) G s h0 0 0 15 #[.val (.int c), .unset] [(.int (13 : Int32)), (.int c)] := (k.iloadN dd_12 rfl).bipush (13) dd_13 rfl
      by_cases c16 : c = (13 : Int32)
      · have k : Wd l Z n0 (Qd c h0) G s h0 0 0 24 #[.val (.int c), .unset] [] := k.icT (pc' := 24) dd_15 (XT.ii_eq_t c16) (by decide)
        have k : Wd l Z n0 (Qd c h0) G s h0 0 0 81 #[.val (.int c), .val (.int (0 : Int32))] [] := ((k.iconst (0) dd_24 rfl).istoreN dd_25 (Ls' := #[.val (.int c), .val (.int (0 : Int32))]) rfl).goto (pc' := 81) dd_26 (by decide)
        have k : Wd l Z n0 (Qd c h0) G s h0 0 0 82 #[.val (.int c), .val (.int (0 : Int32))] [(.int (0 : Int32))] := k.iloadN dd_81 rfl
        exact k.outI dd_82 (by decide) (by decide) ⟨rfl, 0, rfl, (show Cl c 0 from Or.inr (Or.inr (Or.inl c16)))⟩
      · have k : Wd l Z n0 (Qd c h0) G s h0 0 0 18 #[.val (.int c), .unset] [] := k.icF dd_15 (XT.ii_eq_f c16)
        have k : Wd l Z n0 (Qd c h0) G s h0 0 0 21 #[.val (.int c), .unset] [(.int (10 : Int32)), (.int c)] := (k.iloadN dd_18 rfl).bipush (10) dd_19 rfl
        by_cases c17 : c = (10 : Int32)
        · have k : Wd l Z n0 (Qd c h0) G s h0 0 0 24 #[.val (.int c), .unset] [] := k.icF dd_21 (XT.ii_ne_f c17)
          have k : Wd l Z n0 (Qd c h0) G s h0 0 0 81 #[.val (.int c), .val (.int (0 : Int32))] [] := ((k.iconst (0) dd_24 rfl).istoreN dd_25 (Ls' := #[.val (.int c), .val (.int (0 : Int32))]) rfl).goto (pc' := 81) dd_26 (by decide)
          have k : Wd l Z n0 (Qd c h0) G s h0 0 0 82 #[.val (.int c), .val (.int (0 : Int32))] [(.int (0 : Int32))] := k.iloadN dd_81 rfl
          exact k.outI dd_82 (by decide) (by decide) ⟨rfl, 0, rfl, (show Cl c 0 from Or.inr (Or.inr (Or.inr (c17))))⟩
        · have k : Wd l Z n0 (Qd c h0) G s h0 0 0 29 #[.val (.int c), .unset] [] := k.icT (pc' := 29) dd_21 (XT.ii_ne_t c17) (by decide)
          have k : Wd l Z n0 (Qd c h0) G s h0 0 0 32 #[.val (.int c), .unset] [(.int (45 : Int32)), (.int c)] := (k.iloadN dd_29 rfl).bipush (45) dd_30 rfl
          by_cases c18 : c = (45 : Int32)
          · have k : Wd l Z n0 (Qd c h0) G s h0 0 0 35 #[.val (.int c), .unset] [] := k.icF dd_32 (XT.ii_ne_f c18)
            have k : Wd l Z n0 (Qd c h0) G s h0 0 0 81 #[.val (.int c), .val (.int (1 : Int32))] [] := ((k.iconst (1) dd_35 rfl).istoreN dd_36 (Ls' := #[.val (.int c), .val (.int (1 : Int32))]) rfl).goto (pc' := 81) dd_37 (by decide)
            have k : Wd l Z n0 (Qd c h0) G s h0 0 0 82 #[.val (.int c), .val (.int (1 : Int32))] [(.int (1 : Int32))] := k.iloadN dd_81 rfl
            exact k.outI dd_82 (by decide) (by decide) ⟨rfl, 1, rfl, (show Cl c 1 from c18)⟩
          · have k : Wd l Z n0 (Qd c h0) G s h0 0 0 40 #[.val (.int c), .unset] [] := k.icT (pc' := 40) dd_32 (XT.ii_ne_t c18) (by decide)
            have k : Wd l Z n0 (Qd c h0) G s h0 0 0 43 #[.val (.int c), .unset] [(.int (46 : Int32)), (.int c)] := (k.iloadN dd_40 rfl).bipush (46) dd_41 rfl
            by_cases c19 : c = (46 : Int32)
            · have k : Wd l Z n0 (Qd c h0) G s h0 0 0 46 #[.val (.int c), .unset] [] := k.icF dd_43 (XT.ii_ne_f c19)
              have k : Wd l Z n0 (Qd c h0) G s h0 0 0 81 #[.val (.int c), .val (.int (2 : Int32))] [] := ((k.iconst (2) dd_46 rfl).istoreN dd_47 (Ls' := #[.val (.int c), .val (.int (2 : Int32))]) rfl).goto (pc' := 81) dd_48 (by decide)
              have k : Wd l Z n0 (Qd c h0) G s h0 0 0 82 #[.val (.int c), .val (.int (2 : Int32))] [(.int (2 : Int32))] := k.iloadN dd_81 rfl
              exact k.outI dd_82 (by decide) (by decide) ⟨rfl, 2, rfl, (show Cl c 2 from c19)⟩
            · have k : Wd l Z n0 (Qd c h0) G s h0 0 0 51 #[.val (.int c), .unset] [] := k.icT (pc' := 51) dd_43 (XT.ii_ne_t c19) (by decide)
              have k : Wd l Z n0 (Qd c h0) G s h0 0 0 54 #[.val (.int c), .unset] [(.int (48 : Int32)), (.int c)] := (k.iloadN dd_51 rfl).bipush (48) dd_52 rfl
              by_cases c20 : c = (48 : Int32)
              · have k : Wd l Z n0 (Qd c h0) G s h0 0 0 57 #[.val (.int c), .unset] [] := k.icF dd_54 (XT.ii_ne_f c20)
                have k : Wd l Z n0 (Qd c h0) G s h0 0 0 81 #[.val (.int c), .val (.int (3 : Int32))] [] := ((k.iconst (3) dd_57 rfl).istoreN dd_58 (Ls' := #[.val (.int c), .val (.int (3 : Int32))]) rfl).goto (pc' := 81) dd_59 (by decide)
                have k : Wd l Z n0 (Qd c h0) G s h0 0 0 82 #[.val (.int c), .val (.int (3 : Int32))] [(.int (3 : Int32))] := k.iloadN dd_81 rfl
                exact k.outI dd_82 (by decide) (by decide) ⟨rfl, 3, rfl, (show Cl c 3 from c20)⟩
              · have k : Wd l Z n0 (Qd c h0) G s h0 0 0 62 #[.val (.int c), .unset] [] := k.icT (pc' := 62) dd_54 (XT.ii_ne_t c20) (by decide)
                have k : Wd l Z n0 (Qd c h0) G s h0 0 0 65 #[.val (.int c), .unset] [(.int (49 : Int32)), (.int c)] := (k.iloadN dd_62 rfl).bipush (49) dd_63 rfl
                by_cases c21 : c < (49 : Int32)
                · have k : Wd l Z n0 (Qd c h0) G s h0 0 0 79 #[.val (.int c), .unset] [] := k.icT (pc' := 79) dd_65 (XT.ii_lt_t c21) (by decide)
                  have k : Wd l Z n0 (Qd c h0) G s h0 0 0 82 #[.val (.int c), .val (.int (5 : Int32))] [(.int (5 : Int32))] := ((k.iconst (5) dd_79 rfl).istoreN dd_80 (Ls' := #[.val (.int c), .val (.int (5 : Int32))]) rfl).iloadN dd_81 rfl
                  exact k.outI dd_82 (by decide) (by decide) ⟨rfl, 5, rfl, (show Cl c 5 from ⟨c14, c15, c16, c17, c18, c19, c20, Or.inl c21⟩)⟩
                · have k : Wd l Z n0 (Qd c h0) G s h0 0 0 68 #[.val (.int c), .unset] [] := k.icF dd_65 (XT.ii_lt_f c21)
                  have k : Wd l Z n0 (Qd c h0) G s h0 0 0 71 #[.val (.int c), .unset] [(.int (57 : Int32)), (.int c)] := (k.iloadN dd_68 rfl).bipush (57) dd_69 rfl
                  by_cases c22 : (57 : Int32) < c
                  · have k : Wd l Z n0 (Qd c h0) G s h0 0 0 79 #[.val (.int c), .unset] [] := k.icT (pc' := 79) dd_71 (XT.ii_gt_t c22) (by decide)
                    have k : Wd l Z n0 (Qd c h0) G s h0 0 0 82 #[.val (.int c), .val (.int (5 : Int32))] [(.int (5 : Int32))] := ((k.iconst (5) dd_79 rfl).istoreN dd_80 (Ls' := #[.val (.int c), .val (.int (5 : Int32))]) rfl).iloadN dd_81 rfl
                    exact k.outI dd_82 (by decide) (by decide) ⟨rfl, 5, rfl, (show Cl c 5 from ⟨c14, c15, c16, c17, c18, c19, c20, Or.inr c22⟩)⟩
                  · have k : Wd l Z n0 (Qd c h0) G s h0 0 0 74 #[.val (.int c), .unset] [] := k.icF dd_71 (XT.ii_gt_f c22)
                    have k : Wd l Z n0 (Qd c h0) G s h0 0 0 81 #[.val (.int c), .val (.int (4 : Int32))] [] := ((k.iconst (4) dd_74 rfl).istoreN dd_75 (Ls' := #[.val (.int c), .val (.int (4 : Int32))]) rfl).goto (pc' := 81) dd_76 (by decide)
                    have k : Wd l Z n0 (Qd c h0) G s h0 0 0 82 #[.val (.int c), .val (.int (4 : Int32))] [(.int (4 : Int32))] := k.iloadN dd_81 rfl
                    exact k.outI dd_82 (by decide) (by decide) ⟨rfl, 4, rfl, (show Cl c 4 from ⟨c21, c22⟩)⟩
theorem de_0 : decode method_5_code 0 = .ok (.iload_n 1, 1) := by decide +kernel
theorem de_1 : decode method_5_code 1 = .ok (.istore_n 2, 1) := by decide +kernel
theorem de_2 : decode method_5_code 2 = .ok (.iload_n 2, 1) := by decide +kernel
theorem de_3 : decode method_5_code 3 = .ok (.iconst 4, 1) := by decide +kernel
theorem de_4 : decode method_5_code 4 = .ok (.if_icmp .ge 12, 3) := by decide +kernel
theorem de_7 : decode method_5_code 7 = .ok (.aload_n 0, 1) := by decide +kernel
theorem de_8 : decode method_5_code 8 = .ok (.iload_n 2, 1) := by decide +kernel
theorem de_9 : decode method_5_code 9 = .ok (.iaload, 1) := by decide +kernel
theorem de_10 : decode method_5_code 10 = .ok (.ifCond .ne 6, 3) := by decide +kernel
theorem de_13 : decode method_5_code 13 = .ok (.iinc 2 1, 3) := by decide +kernel
theorem de_16 : decode method_5_code 16 = .ok (.iload_n 2, 1) := by decide +kernel
theorem de_17 : decode method_5_code 17 = .ok (.iconst 4, 1) := by decide +kernel
theorem de_18 : decode method_5_code 18 = .ok (.if_icmp .ge 12, 3) := by decide +kernel
theorem de_21 : decode method_5_code 21 = .ok (.aload_n 0, 1) := by decide +kernel
theorem de_22 : decode method_5_code 22 = .ok (.iload_n 2, 1) := by decide +kernel
theorem de_23 : decode method_5_code 23 = .ok (.iaload, 1) := by decide +kernel
theorem de_24 : decode method_5_code 24 = .ok (.ifCond .ne 6, 3) := by decide +kernel
theorem de_27 : decode method_5_code 27 = .ok (.iinc 2 1, 3) := by decide +kernel
theorem de_30 : decode method_5_code 30 = .ok (.iload_n 2, 1) := by decide +kernel
theorem de_31 : decode method_5_code 31 = .ok (.iconst 4, 1) := by decide +kernel
theorem de_32 : decode method_5_code 32 = .ok (.if_icmp .ge 12, 3) := by decide +kernel
theorem de_35 : decode method_5_code 35 = .ok (.aload_n 0, 1) := by decide +kernel
theorem de_36 : decode method_5_code 36 = .ok (.iload_n 2, 1) := by decide +kernel
theorem de_37 : decode method_5_code 37 = .ok (.iaload, 1) := by decide +kernel
theorem de_38 : decode method_5_code 38 = .ok (.ifCond .ne 6, 3) := by decide +kernel
theorem de_41 : decode method_5_code 41 = .ok (.iinc 2 1, 3) := by decide +kernel
theorem de_44 : decode method_5_code 44 = .ok (.iload_n 2, 1) := by decide +kernel
theorem de_45 : decode method_5_code 45 = .ok (.iconst 4, 1) := by decide +kernel
theorem de_46 : decode method_5_code 46 = .ok (.if_icmp .ge 12, 3) := by decide +kernel
theorem de_49 : decode method_5_code 49 = .ok (.aload_n 0, 1) := by decide +kernel
theorem de_50 : decode method_5_code 50 = .ok (.iload_n 2, 1) := by decide +kernel
theorem de_51 : decode method_5_code 51 = .ok (.iaload, 1) := by decide +kernel
theorem de_52 : decode method_5_code 52 = .ok (.ifCond .ne 6, 3) := by decide +kernel
theorem de_55 : decode method_5_code 55 = .ok (.iinc 2 1, 3) := by decide +kernel
theorem de_58 : decode method_5_code 58 = .ok (.iload_n 2, 1) := by decide +kernel
theorem de_59 : decode method_5_code 59 = .ok (.ireturn, 1) := by decide +kernel
theorem pne : plainFor (⟨"com/example/caddisfly/caddisfly/NumeralSteadyInPinLaw", "skipWs", "([II)I"⟩ : MethodName) = true := plainFor_of_name (show plainName "com/example/caddisfly/caddisfly/NumeralSteadyInPinLaw" = true by first | (simp [plainName, overriddenIn]; done) | decide +kernel)
theorem pde : parseMethodDescriptor "([II)I" = some ⟨[(.array .int), .int], some .int⟩ := by decide +kernel
abbrev We (l : Launch) (Z : State) (n0 : Nat) (P : Option Value → Heap → Prop) (G : Prop) (s : State) := Wk l Z ({ frames := 0, cells := 0, slots := 0, locals := 0 } : Room) (⟨"com/example/caddisfly/caddisfly/NumeralSteadyInPinLaw", "skipWs", "([II)I"⟩ : MethodName) method_5_code 3 (some .int) n0 (Ex s ({ frames := 0, cells := 0, slots := 0, locals := 0 } : Room) n0 P G) s
set_option maxRecDepth 65536 in
set_option maxHeartbeats 40000000 in
theorem cone (l : Launch) (Z : State) (a0 : Array Value) (hw : ∀ d ∈ tables_1, d.before a0 Z = true) (a : Nat) (ks : List Nat) (hk : ks.length = 5) (hs : ∀ d ∈ ks, d ≤ 6) (p : Nat) (hp : p ≤ 4) (h0 : Heap) (n0 : Nat) (A : AV Z h0 a .int (vk ks)) : Con l Z (⟨"com/example/caddisfly/caddisfly/NumeralSteadyInPinLaw", "skipWs", "([II)I"⟩ : MethodName) method_5_code 3 (some .int) ({ frames := 0, cells := 0, slots := 0, locals := 0 } : Room) #[.ref a, .int (i32 p)] h0 n0 (QB (i32 (skipWsN ks p)) h0) := by
  refine Con.of pne (Ls := #[.val (.ref a), .val (.int (i32 p)), .unset]) (fun m => by first | (simp [entryFrame, mkF, argsToLocals, Value.category]; done) | rfl) ?_
  intro G s k
  have k : We l Z n0 (QB (i32 (skipWsN ks p)) h0) G s h0 0 0 2 #[.val (.ref a), .val (.int (i32 p)), .val (.int (i32 p))] [] := (k.iloadN de_0 rfl).istoreN de_1 (Ls' := #[.val (.ref a), .val (.int (i32 p)), .val (.int (i32 p))]) rfl
  have k : We l Z n0 (QB (i32 (skipWsN ks p)) h0) G s h0 0 0 16 #[.val (.ref a), .val (.int (i32 p)), .val (.int (i32 (wsN ks p)))] [] := by
    by_cases c1 : p < 4
    · have hb1 : p ≤ 4 := hp
      have k : We l Z n0 (QB (i32 (skipWsN ks p)) h0) G s h0 0 0 4 #[.val (.ref a), .val (.int (i32 p)), .val (.int (i32 p))] [(.int (4 : Int32)), (.int (i32 p))] := (k.iloadN de_2 rfl).iconst (4) de_3 rfl
      have k : We l Z n0 (QB (i32 (skipWsN ks p)) h0) G s h0 0 0 7 #[.val (.ref a), .val (.int (i32 p)), .val (.int (i32 p))] [] := k.icF de_4 (XT.ii_ge_f (own_lt (a := p) (b := 4) (by omega) (by omega) c1))
      have k : We l Z n0 (QB (i32 (skipWsN ks p)) h0) G s h0 0 0 9 #[.val (.ref a), .val (.int (i32 p)), .val (.int (i32 p))] [(.int (i32 p)), (.ref a)] := (k.aloadN de_7 rfl rfl).iloadN de_8 rfl
      have k : We l Z n0 (QB (i32 (skipWsN ks p)) h0) G s h0 0 0 10 #[.val (.ref a), .val (.int (i32 p)), .val (.int (i32 p))] [(.int (i32 (gk ks p)))] := k.ldI A (own_nn (a := p) (by omega)) (own_get hk hb1) de_9
      by_cases c2 : gk ks p = 0
      · have k : We l Z n0 (QB (i32 (skipWsN ks p)) h0) G s h0 0 0 13 #[.val (.ref a), .val (.int (i32 p)), .val (.int (i32 p))] [] := k.ifF de_10 (XT.i0_ne_f (congrArg i32 c2))
        have k : We l Z n0 (QB (i32 (skipWsN ks p)) h0) G s h0 0 0 16 #[.val (.ref a), .val (.int (i32 p)), .val (.int ((i32 p) + (1 : Int32)))] [] := k.iinc (Ls' := #[.val (.ref a), .val (.int (i32 p)), .val (.int ((i32 p) + (1 : Int32)))]) (1) de_13 rfl rfl rfl
        rw [own_succ] at k
        rw [show wsN ks p = p + 1 from if_pos ⟨c1, c2⟩]; exact k
      · have k : We l Z n0 (QB (i32 (skipWsN ks p)) h0) G s h0 0 0 16 #[.val (.ref a), .val (.int (i32 p)), .val (.int (i32 p))] [] := k.ifT (pc' := 16) de_10 (XT.i0_ne_t (own_ne (b := 0) (own_gle hs) (by omega) c2)) (by decide)
        rw [show wsN ks p = p from if_neg (fun z => c2 z.2)]; exact k
    · have hb1 : p ≤ 4 := hp
      have k : We l Z n0 (QB (i32 (skipWsN ks p)) h0) G s h0 0 0 4 #[.val (.ref a), .val (.int (i32 p)), .val (.int (i32 p))] [(.int (4 : Int32)), (.int (i32 p))] := (k.iloadN de_2 rfl).iconst (4) de_3 rfl
      have k : We l Z n0 (QB (i32 (skipWsN ks p)) h0) G s h0 0 0 16 #[.val (.ref a), .val (.int (i32 p)), .val (.int (i32 p))] [] := k.icT (pc' := 16) de_4 (XT.ii_ge_t (own_nlt (a := p) (b := 4) (by omega) (by omega) c1)) (by decide)
      rw [show wsN ks p = p from if_neg (fun z => c1 z.1)]; exact k
  have k : We l Z n0 (QB (i32 (skipWsN ks p)) h0) G s h0 0 0 30 #[.val (.ref a), .val (.int (i32 p)), .val (.int (i32 (wsN ks (wsN ks p))))] [] := by
    by_cases c1 : (wsN ks p) < 4
    · have hb1 : (wsN ks p) ≤ 4 := (own_wsle hp)
      have k : We l Z n0 (QB (i32 (skipWsN ks p)) h0) G s h0 0 0 18 #[.val (.ref a), .val (.int (i32 p)), .val (.int (i32 (wsN ks p)))] [(.int (4 : Int32)), (.int (i32 (wsN ks p)))] := (k.iloadN de_16 rfl).iconst (4) de_17 rfl
      have k : We l Z n0 (QB (i32 (skipWsN ks p)) h0) G s h0 0 0 21 #[.val (.ref a), .val (.int (i32 p)), .val (.int (i32 (wsN ks p)))] [] := k.icF de_18 (XT.ii_ge_f (own_lt (a := (wsN ks p)) (b := 4) (by omega) (by omega) c1))
      have k : We l Z n0 (QB (i32 (skipWsN ks p)) h0) G s h0 0 0 23 #[.val (.ref a), .val (.int (i32 p)), .val (.int (i32 (wsN ks p)))] [(.int (i32 (wsN ks p))), (.ref a)] := (k.aloadN de_21 rfl rfl).iloadN de_22 rfl
      have k : We l Z n0 (QB (i32 (skipWsN ks p)) h0) G s h0 0 0 24 #[.val (.ref a), .val (.int (i32 p)), .val (.int (i32 (wsN ks p)))] [(.int (i32 (gk ks (wsN ks p))))] := k.ldI A (own_nn (a := (wsN ks p)) (by omega)) (own_get hk hb1) de_23
      by_cases c2 : gk ks (wsN ks p) = 0
      · have k : We l Z n0 (QB (i32 (skipWsN ks p)) h0) G s h0 0 0 27 #[.val (.ref a), .val (.int (i32 p)), .val (.int (i32 (wsN ks p)))] [] := k.ifF de_24 (XT.i0_ne_f (congrArg i32 c2))
        have k : We l Z n0 (QB (i32 (skipWsN ks p)) h0) G s h0 0 0 30 #[.val (.ref a), .val (.int (i32 p)), .val (.int ((i32 (wsN ks p)) + (1 : Int32)))] [] := k.iinc (Ls' := #[.val (.ref a), .val (.int (i32 p)), .val (.int ((i32 (wsN ks p)) + (1 : Int32)))]) (1) de_27 rfl rfl rfl
        rw [own_succ] at k
        rw [show wsN ks (wsN ks p) = (wsN ks p) + 1 from if_pos ⟨c1, c2⟩]; exact k
      · have k : We l Z n0 (QB (i32 (skipWsN ks p)) h0) G s h0 0 0 30 #[.val (.ref a), .val (.int (i32 p)), .val (.int (i32 (wsN ks p)))] [] := k.ifT (pc' := 30) de_24 (XT.i0_ne_t (own_ne (b := 0) (own_gle hs) (by omega) c2)) (by decide)
        rw [show wsN ks (wsN ks p) = (wsN ks p) from if_neg (fun z => c2 z.2)]; exact k
    · have hb1 : (wsN ks p) ≤ 4 := (own_wsle hp)
      have k : We l Z n0 (QB (i32 (skipWsN ks p)) h0) G s h0 0 0 18 #[.val (.ref a), .val (.int (i32 p)), .val (.int (i32 (wsN ks p)))] [(.int (4 : Int32)), (.int (i32 (wsN ks p)))] := (k.iloadN de_16 rfl).iconst (4) de_17 rfl
      have k : We l Z n0 (QB (i32 (skipWsN ks p)) h0) G s h0 0 0 30 #[.val (.ref a), .val (.int (i32 p)), .val (.int (i32 (wsN ks p)))] [] := k.icT (pc' := 30) de_18 (XT.ii_ge_t (own_nlt (a := (wsN ks p)) (b := 4) (by omega) (by omega) c1)) (by decide)
      rw [show wsN ks (wsN ks p) = (wsN ks p) from if_neg (fun z => c1 z.1)]; exact k
  have k : We l Z n0 (QB (i32 (skipWsN ks p)) h0) G s h0 0 0 44 #[.val (.ref a), .val (.int (i32 p)), .val (.int (i32 (wsN ks (wsN ks (wsN ks p)))))] [] := by
    by_cases c1 : (wsN ks (wsN ks p)) < 4
    · have hb1 : (wsN ks (wsN ks p)) ≤ 4 := (own_wsle (own_wsle hp))
      have k : We l Z n0 (QB (i32 (skipWsN ks p)) h0) G s h0 0 0 32 #[.val (.ref a), .val (.int (i32 p)), .val (.int (i32 (wsN ks (wsN ks p))))] [(.int (4 : Int32)), (.int (i32 (wsN ks (wsN ks p))))] := (k.iloadN de_30 rfl).iconst (4) de_31 rfl
      have k : We l Z n0 (QB (i32 (skipWsN ks p)) h0) G s h0 0 0 35 #[.val (.ref a), .val (.int (i32 p)), .val (.int (i32 (wsN ks (wsN ks p))))] [] := k.icF de_32 (XT.ii_ge_f (own_lt (a := (wsN ks (wsN ks p))) (b := 4) (by omega) (by omega) c1))
      have k : We l Z n0 (QB (i32 (skipWsN ks p)) h0) G s h0 0 0 37 #[.val (.ref a), .val (.int (i32 p)), .val (.int (i32 (wsN ks (wsN ks p))))] [(.int (i32 (wsN ks (wsN ks p)))), (.ref a)] := (k.aloadN de_35 rfl rfl).iloadN de_36 rfl
      have k : We l Z n0 (QB (i32 (skipWsN ks p)) h0) G s h0 0 0 38 #[.val (.ref a), .val (.int (i32 p)), .val (.int (i32 (wsN ks (wsN ks p))))] [(.int (i32 (gk ks (wsN ks (wsN ks p)))))] := k.ldI A (own_nn (a := (wsN ks (wsN ks p))) (by omega)) (own_get hk hb1) de_37
      by_cases c2 : gk ks (wsN ks (wsN ks p)) = 0
      · have k : We l Z n0 (QB (i32 (skipWsN ks p)) h0) G s h0 0 0 41 #[.val (.ref a), .val (.int (i32 p)), .val (.int (i32 (wsN ks (wsN ks p))))] [] := k.ifF de_38 (XT.i0_ne_f (congrArg i32 c2))
        have k : We l Z n0 (QB (i32 (skipWsN ks p)) h0) G s h0 0 0 44 #[.val (.ref a), .val (.int (i32 p)), .val (.int ((i32 (wsN ks (wsN ks p))) + (1 : Int32)))] [] := k.iinc (Ls' := #[.val (.ref a), .val (.int (i32 p)), .val (.int ((i32 (wsN ks (wsN ks p))) + (1 : Int32)))]) (1) de_41 rfl rfl rfl
        rw [own_succ] at k
        rw [show wsN ks (wsN ks (wsN ks p)) = (wsN ks (wsN ks p)) + 1 from if_pos ⟨c1, c2⟩]; exact k
      · have k : We l Z n0 (QB (i32 (skipWsN ks p)) h0) G s h0 0 0 44 #[.val (.ref a), .val (.int (i32 p)), .val (.int (i32 (wsN ks (wsN ks p))))] [] := k.ifT (pc' := 44) de_38 (XT.i0_ne_t (own_ne (b := 0) (own_gle hs) (by omega) c2)) (by decide)
        rw [show wsN ks (wsN ks (wsN ks p)) = (wsN ks (wsN ks p)) from if_neg (fun z => c2 z.2)]; exact k
    · have hb1 : (wsN ks (wsN ks p)) ≤ 4 := (own_wsle (own_wsle hp))
      have k : We l Z n0 (QB (i32 (skipWsN ks p)) h0) G s h0 0 0 32 #[.val (.ref a), .val (.int (i32 p)), .val (.int (i32 (wsN ks (wsN ks p))))] [(.int (4 : Int32)), (.int (i32 (wsN ks (wsN ks p))))] := (k.iloadN de_30 rfl).iconst (4) de_31 rfl
      have k : We l Z n0 (QB (i32 (skipWsN ks p)) h0) G s h0 0 0 44 #[.val (.ref a), .val (.int (i32 p)), .val (.int (i32 (wsN ks (wsN ks p))))] [] := k.icT (pc' := 44) de_32 (XT.ii_ge_t (own_nlt (a := (wsN ks (wsN ks p))) (b := 4) (by omega) (by omega) c1)) (by decide)
      rw [show wsN ks (wsN ks (wsN ks p)) = (wsN ks (wsN ks p)) from if_neg (fun z => c1 z.1)]; exact k
  have k : We l Z n0 (QB (i32 (skipWsN ks p)) h0) G s h0 0 0 58 #[.val (.ref a), .val (.int (i32 p)), .val (.int (i32 (wsN ks (wsN ks (wsN ks (wsN ks p))))))] [] := by
    by_cases c1 : (wsN ks (wsN ks (wsN ks p))) < 4
    · have hb1 : (wsN ks (wsN ks (wsN ks p))) ≤ 4 := (own_wsle (own_wsle (own_wsle hp)))
      have k : We l Z n0 (QB (i32 (skipWsN ks p)) h0) G s h0 0 0 46 #[.val (.ref a), .val (.int (i32 p)), .val (.int (i32 (wsN ks (wsN ks (wsN ks p)))))] [(.int (4 : Int32)), (.int (i32 (wsN ks (wsN ks (wsN ks p)))))] := (k.iloadN de_44 rfl).iconst (4) de_45 rfl
      have k : We l Z n0 (QB (i32 (skipWsN ks p)) h0) G s h0 0 0 49 #[.val (.ref a), .val (.int (i32 p)), .val (.int (i32 (wsN ks (wsN ks (wsN ks p)))))] [] := k.icF de_46 (XT.ii_ge_f (own_lt (a := (wsN ks (wsN ks (wsN ks p)))) (b := 4) (by omega) (by omega) c1))
      have k : We l Z n0 (QB (i32 (skipWsN ks p)) h0) G s h0 0 0 51 #[.val (.ref a), .val (.int (i32 p)), .val (.int (i32 (wsN ks (wsN ks (wsN ks p)))))] [(.int (i32 (wsN ks (wsN ks (wsN ks p))))), (.ref a)] := (k.aloadN de_49 rfl rfl).iloadN de_50 rfl
      have k : We l Z n0 (QB (i32 (skipWsN ks p)) h0) G s h0 0 0 52 #[.val (.ref a), .val (.int (i32 p)), .val (.int (i32 (wsN ks (wsN ks (wsN ks p)))))] [(.int (i32 (gk ks (wsN ks (wsN ks (wsN ks p))))))] := k.ldI A (own_nn (a := (wsN ks (wsN ks (wsN ks p)))) (by omega)) (own_get hk hb1) de_51
      by_cases c2 : gk ks (wsN ks (wsN ks (wsN ks p))) = 0
      · have k : We l Z n0 (QB (i32 (skipWsN ks p)) h0) G s h0 0 0 55 #[.val (.ref a), .val (.int (i32 p)), .val (.int (i32 (wsN ks (wsN ks (wsN ks p)))))] [] := k.ifF de_52 (XT.i0_ne_f (congrArg i32 c2))
        have k : We l Z n0 (QB (i32 (skipWsN ks p)) h0) G s h0 0 0 58 #[.val (.ref a), .val (.int (i32 p)), .val (.int ((i32 (wsN ks (wsN ks (wsN ks p)))) + (1 : Int32)))] [] := k.iinc (Ls' := #[.val (.ref a), .val (.int (i32 p)), .val (.int ((i32 (wsN ks (wsN ks (wsN ks p)))) + (1 : Int32)))]) (1) de_55 rfl rfl rfl
        rw [own_succ] at k
        rw [show wsN ks (wsN ks (wsN ks (wsN ks p))) = (wsN ks (wsN ks (wsN ks p))) + 1 from if_pos ⟨c1, c2⟩]; exact k
      · have k : We l Z n0 (QB (i32 (skipWsN ks p)) h0) G s h0 0 0 58 #[.val (.ref a), .val (.int (i32 p)), .val (.int (i32 (wsN ks (wsN ks (wsN ks p)))))] [] := k.ifT (pc' := 58) de_52 (XT.i0_ne_t (own_ne (b := 0) (own_gle hs) (by omega) c2)) (by decide)
        rw [show wsN ks (wsN ks (wsN ks (wsN ks p))) = (wsN ks (wsN ks (wsN ks p))) from if_neg (fun z => c2 z.2)]; exact k
    · have hb1 : (wsN ks (wsN ks (wsN ks p))) ≤ 4 := (own_wsle (own_wsle (own_wsle hp)))
      have k : We l Z n0 (QB (i32 (skipWsN ks p)) h0) G s h0 0 0 46 #[.val (.ref a), .val (.int (i32 p)), .val (.int (i32 (wsN ks (wsN ks (wsN ks p)))))] [(.int (4 : Int32)), (.int (i32 (wsN ks (wsN ks (wsN ks p)))))] := (k.iloadN de_44 rfl).iconst (4) de_45 rfl
      have k : We l Z n0 (QB (i32 (skipWsN ks p)) h0) G s h0 0 0 58 #[.val (.ref a), .val (.int (i32 p)), .val (.int (i32 (wsN ks (wsN ks (wsN ks p)))))] [] := k.icT (pc' := 58) de_46 (XT.ii_ge_t (own_nlt (a := (wsN ks (wsN ks (wsN ks p)))) (b := 4) (by omega) (by omega) c1)) (by decide)
      rw [show wsN ks (wsN ks (wsN ks (wsN ks p))) = (wsN ks (wsN ks (wsN ks p))) from if_neg (fun z => c1 z.1)]; exact k
  have k : We l Z n0 (QB (i32 (skipWsN ks p)) h0) G s h0 0 0 59 #[.val (.ref a), .val (.int (i32 p)), .val (.int (i32 (wsN ks (wsN ks (wsN ks (wsN ks p))))))] [(.int (i32 (wsN ks (wsN ks (wsN ks (wsN ks p))))))] := k.iloadN de_58 rfl
  exact k.outI de_59 (by decide) (by decide) ⟨rfl, rfl⟩
theorem df_0 : decode method_6_code 0 = .ok (.iload_n 1, 1) := by decide +kernel
theorem df_1 : decode method_6_code 1 = .ok (.istore_n 2, 1) := by decide +kernel
theorem df_2 : decode method_6_code 2 = .ok (.iload_n 2, 1) := by decide +kernel
theorem df_3 : decode method_6_code 3 = .ok (.iconst 4, 1) := by decide +kernel
theorem df_4 : decode method_6_code 4 = .ok (.if_icmp .ge 20, 3) := by decide +kernel
theorem df_7 : decode method_6_code 7 = .ok (.aload_n 0, 1) := by decide +kernel
theorem df_8 : decode method_6_code 8 = .ok (.iload_n 2, 1) := by decide +kernel
theorem df_9 : decode method_6_code 9 = .ok (.iaload, 1) := by decide +kernel
theorem df_10 : decode method_6_code 10 = .ok (.iconst 3, 1) := by decide +kernel
theorem df_11 : decode method_6_code 11 = .ok (.if_icmp .eq 10, 3) := by decide +kernel
theorem df_14 : decode method_6_code 14 = .ok (.aload_n 0, 1) := by decide +kernel
theorem df_15 : decode method_6_code 15 = .ok (.iload_n 2, 1) := by decide +kernel
theorem df_16 : decode method_6_code 16 = .ok (.iaload, 1) := by decide +kernel
theorem df_17 : decode method_6_code 17 = .ok (.iconst 4, 1) := by decide +kernel
theorem df_18 : decode method_6_code 18 = .ok (.if_icmp .ne 6, 3) := by decide +kernel
theorem df_21 : decode method_6_code 21 = .ok (.iinc 2 1, 3) := by decide +kernel
theorem df_24 : decode method_6_code 24 = .ok (.iload_n 2, 1) := by decide +kernel
theorem df_25 : decode method_6_code 25 = .ok (.iconst 4, 1) := by decide +kernel
theorem df_26 : decode method_6_code 26 = .ok (.if_icmp .ge 20, 3) := by decide +kernel
theorem df_29 : decode method_6_code 29 = .ok (.aload_n 0, 1) := by decide +kernel
theorem df_30 : decode method_6_code 30 = .ok (.iload_n 2, 1) := by decide +kernel
theorem df_31 : decode method_6_code 31 = .ok (.iaload, 1) := by decide +kernel
theorem df_32 : decode method_6_code 32 = .ok (.iconst 3, 1) := by decide +kernel
theorem df_33 : decode method_6_code 33 = .ok (.if_icmp .eq 10, 3) := by decide +kernel
theorem df_36 : decode method_6_code 36 = .ok (.aload_n 0, 1) := by decide +kernel
theorem df_37 : decode method_6_code 37 = .ok (.iload_n 2, 1) := by decide +kernel
theorem df_38 : decode method_6_code 38 = .ok (.iaload, 1) := by decide +kernel
theorem df_39 : decode method_6_code 39 = .ok (.iconst 4, 1) := by decide +kernel
theorem df_40 : decode method_6_code 40 = .ok (.if_icmp .ne 6, 3) := by decide +kernel
theorem df_43 : decode method_6_code 43 = .ok (.iinc 2 1, 3) := by decide +kernel
theorem df_46 : decode method_6_code 46 = .ok (.iload_n 2, 1) := by decide +kernel
theorem df_47 : decode method_6_code 47 = .ok (.iconst 4, 1) := by decide +kernel
theorem df_48 : decode method_6_code 48 = .ok (.if_icmp .ge 20, 3) := by decide +kernel
theorem df_51 : decode method_6_code 51 = .ok (.aload_n 0, 1) := by decide +kernel
theorem df_52 : decode method_6_code 52 = .ok (.iload_n 2, 1) := by decide +kernel
theorem df_53 : decode method_6_code 53 = .ok (.iaload, 1) := by decide +kernel
theorem df_54 : decode method_6_code 54 = .ok (.iconst 3, 1) := by decide +kernel
theorem df_55 : decode method_6_code 55 = .ok (.if_icmp .eq 10, 3) := by decide +kernel
theorem df_58 : decode method_6_code 58 = .ok (.aload_n 0, 1) := by decide +kernel
theorem df_59 : decode method_6_code 59 = .ok (.iload_n 2, 1) := by decide +kernel
theorem df_60 : decode method_6_code 60 = .ok (.iaload, 1) := by decide +kernel
theorem df_61 : decode method_6_code 61 = .ok (.iconst 4, 1) := by decide +kernel
theorem df_62 : decode method_6_code 62 = .ok (.if_icmp .ne 6, 3) := by decide +kernel
theorem df_65 : decode method_6_code 65 = .ok (.iinc 2 1, 3) := by decide +kernel
theorem df_68 : decode method_6_code 68 = .ok (.iload_n 2, 1) := by decide +kernel
theorem df_69 : decode method_6_code 69 = .ok (.iconst 4, 1) := by decide +kernel
theorem df_70 : decode method_6_code 70 = .ok (.if_icmp .ge 20, 3) := by decide +kernel
theorem df_73 : decode method_6_code 73 = .ok (.aload_n 0, 1) := by decide +kernel
theorem df_74 : decode method_6_code 74 = .ok (.iload_n 2, 1) := by decide +kernel
theorem df_75 : decode method_6_code 75 = .ok (.iaload, 1) := by decide +kernel
theorem df_76 : decode method_6_code 76 = .ok (.iconst 3, 1) := by decide +kernel
theorem df_77 : decode method_6_code 77 = .ok (.if_icmp .eq 10, 3) := by decide +kernel
theorem df_80 : decode method_6_code 80 = .ok (.aload_n 0, 1) := by decide +kernel
theorem df_81 : decode method_6_code 81 = .ok (.iload_n 2, 1) := by decide +kernel
theorem df_82 : decode method_6_code 82 = .ok (.iaload, 1) := by decide +kernel
theorem df_83 : decode method_6_code 83 = .ok (.iconst 4, 1) := by decide +kernel
theorem df_84 : decode method_6_code 84 = .ok (.if_icmp .ne 6, 3) := by decide +kernel
theorem df_87 : decode method_6_code 87 = .ok (.iinc 2 1, 3) := by decide +kernel
theorem df_90 : decode method_6_code 90 = .ok (.iload_n 2, 1) := by decide +kernel
theorem df_91 : decode method_6_code 91 = .ok (.ireturn, 1) := by decide +kernel
theorem pnf : plainFor (⟨"com/example/caddisfly/caddisfly/NumeralSteadyInPinLaw", "skipDigitChars", "([II)I"⟩ : MethodName) = true := plainFor_of_name (show plainName "com/example/caddisfly/caddisfly/NumeralSteadyInPinLaw" = true by first | (simp [plainName, overriddenIn]; done) | decide +kernel)
theorem pdf : parseMethodDescriptor "([II)I" = some ⟨[(.array .int), .int], some .int⟩ := by decide +kernel
abbrev Wf (l : Launch) (Z : State) (n0 : Nat) (P : Option Value → Heap → Prop) (G : Prop) (s : State) := Wk l Z ({ frames := 0, cells := 0, slots := 0, locals := 0 } : Room) (⟨"com/example/caddisfly/caddisfly/NumeralSteadyInPinLaw", "skipDigitChars", "([II)I"⟩ : MethodName) method_6_code 3 (some .int) n0 (Ex s ({ frames := 0, cells := 0, slots := 0, locals := 0 } : Room) n0 P G) s
set_option maxRecDepth 65536 in
set_option maxHeartbeats 40000000 in
theorem conf (l : Launch) (Z : State) (a0 : Array Value) (hw : ∀ d ∈ tables_1, d.before a0 Z = true) (a : Nat) (ks : List Nat) (hk : ks.length = 5) (hs : ∀ d ∈ ks, d ≤ 6) (p : Nat) (hp : p ≤ 4) (h0 : Heap) (n0 : Nat) (A : AV Z h0 a .int (vk ks)) : Con l Z (⟨"com/example/caddisfly/caddisfly/NumeralSteadyInPinLaw", "skipDigitChars", "([II)I"⟩ : MethodName) method_6_code 3 (some .int) ({ frames := 0, cells := 0, slots := 0, locals := 0 } : Room) #[.ref a, .int (i32 p)] h0 n0 (QB (i32 (skipDgN ks p)) h0) := by
  refine Con.of pnf (Ls := #[.val (.ref a), .val (.int (i32 p)), .unset]) (fun m => by first | (simp [entryFrame, mkF, argsToLocals, Value.category]; done) | rfl) ?_
  intro G s k
  have k : Wf l Z n0 (QB (i32 (skipDgN ks p)) h0) G s h0 0 0 2 #[.val (.ref a), .val (.int (i32 p)), .val (.int (i32 p))] [] := (k.iloadN df_0 rfl).istoreN df_1 (Ls' := #[.val (.ref a), .val (.int (i32 p)), .val (.int (i32 p))]) rfl
  have k : Wf l Z n0 (QB (i32 (skipDgN ks p)) h0) G s h0 0 0 24 #[.val (.ref a), .val (.int (i32 p)), .val (.int (i32 (dgN ks p)))] [] := by
    by_cases c1 : p < 4
    · have hb1 : p ≤ 4 := hp
      have k : Wf l Z n0 (QB (i32 (skipDgN ks p)) h0) G s h0 0 0 4 #[.val (.ref a), .val (.int (i32 p)), .val (.int (i32 p))] [(.int (4 : Int32)), (.int (i32 p))] := (k.iloadN df_2 rfl).iconst (4) df_3 rfl
      have k : Wf l Z n0 (QB (i32 (skipDgN ks p)) h0) G s h0 0 0 7 #[.val (.ref a), .val (.int (i32 p)), .val (.int (i32 p))] [] := k.icF df_4 (XT.ii_ge_f (own_lt (a := p) (b := 4) (by omega) (by omega) c1))
      have k : Wf l Z n0 (QB (i32 (skipDgN ks p)) h0) G s h0 0 0 9 #[.val (.ref a), .val (.int (i32 p)), .val (.int (i32 p))] [(.int (i32 p)), (.ref a)] := (k.aloadN df_7 rfl rfl).iloadN df_8 rfl
      have k : Wf l Z n0 (QB (i32 (skipDgN ks p)) h0) G s h0 0 0 10 #[.val (.ref a), .val (.int (i32 p)), .val (.int (i32 p))] [(.int (i32 (gk ks p)))] := k.ldI A (own_nn (a := p) (by omega)) (own_get hk hb1) df_9
      have k : Wf l Z n0 (QB (i32 (skipDgN ks p)) h0) G s h0 0 0 11 #[.val (.ref a), .val (.int (i32 p)), .val (.int (i32 p))] [(.int (3 : Int32)), (.int (i32 (gk ks p)))] := k.iconst (3) df_10 rfl
      by_cases c2 : gk ks p = 3
      · have k : Wf l Z n0 (QB (i32 (skipDgN ks p)) h0) G s h0 0 0 21 #[.val (.ref a), .val (.int (i32 p)), .val (.int (i32 p))] [] := k.icT (pc' := 21) df_11 (XT.ii_eq_t (congrArg i32 c2)) (by decide)
        have k : Wf l Z n0 (QB (i32 (skipDgN ks p)) h0) G s h0 0 0 24 #[.val (.ref a), .val (.int (i32 p)), .val (.int ((i32 p) + (1 : Int32)))] [] := k.iinc (Ls' := #[.val (.ref a), .val (.int (i32 p)), .val (.int ((i32 p) + (1 : Int32)))]) (1) df_21 rfl rfl rfl
        rw [own_succ] at k
        rw [show dgN ks p = p + 1 from if_pos ⟨c1, Or.inl c2⟩]; exact k
      · have k : Wf l Z n0 (QB (i32 (skipDgN ks p)) h0) G s h0 0 0 14 #[.val (.ref a), .val (.int (i32 p)), .val (.int (i32 p))] [] := k.icF df_11 (XT.ii_eq_f (own_ne (b := 3) (own_gle hs) (by omega) c2))
        have k : Wf l Z n0 (QB (i32 (skipDgN ks p)) h0) G s h0 0 0 16 #[.val (.ref a), .val (.int (i32 p)), .val (.int (i32 p))] [(.int (i32 p)), (.ref a)] := (k.aloadN df_14 rfl rfl).iloadN df_15 rfl
        have k : Wf l Z n0 (QB (i32 (skipDgN ks p)) h0) G s h0 0 0 17 #[.val (.ref a), .val (.int (i32 p)), .val (.int (i32 p))] [(.int (i32 (gk ks p)))] := k.ldI A (own_nn (a := p) (by omega)) (own_get hk hb1) df_16
        have k : Wf l Z n0 (QB (i32 (skipDgN ks p)) h0) G s h0 0 0 18 #[.val (.ref a), .val (.int (i32 p)), .val (.int (i32 p))] [(.int (4 : Int32)), (.int (i32 (gk ks p)))] := k.iconst (4) df_17 rfl
        by_cases c3 : gk ks p = 4
        · have k : Wf l Z n0 (QB (i32 (skipDgN ks p)) h0) G s h0 0 0 21 #[.val (.ref a), .val (.int (i32 p)), .val (.int (i32 p))] [] := k.icF df_18 (XT.ii_ne_f (congrArg i32 c3))
          have k : Wf l Z n0 (QB (i32 (skipDgN ks p)) h0) G s h0 0 0 24 #[.val (.ref a), .val (.int (i32 p)), .val (.int ((i32 p) + (1 : Int32)))] [] := k.iinc (Ls' := #[.val (.ref a), .val (.int (i32 p)), .val (.int ((i32 p) + (1 : Int32)))]) (1) df_21 rfl rfl rfl
          rw [own_succ] at k
          rw [show dgN ks p = p + 1 from if_pos ⟨c1, Or.inr c3⟩]; exact k
        · have k : Wf l Z n0 (QB (i32 (skipDgN ks p)) h0) G s h0 0 0 24 #[.val (.ref a), .val (.int (i32 p)), .val (.int (i32 p))] [] := k.icT (pc' := 24) df_18 (XT.ii_ne_t (own_ne (b := 4) (own_gle hs) (by omega) c3)) (by decide)
          rw [show dgN ks p = p from if_neg (fun z => z.2.elim c2 c3)]; exact k
    · have hb1 : p ≤ 4 := hp
      have k : Wf l Z n0 (QB (i32 (skipDgN ks p)) h0) G s h0 0 0 4 #[.val (.ref a), .val (.int (i32 p)), .val (.int (i32 p))] [(.int (4 : Int32)), (.int (i32 p))] := (k.iloadN df_2 rfl).iconst (4) df_3 rfl
      have k : Wf l Z n0 (QB (i32 (skipDgN ks p)) h0) G s h0 0 0 24 #[.val (.ref a), .val (.int (i32 p)), .val (.int (i32 p))] [] := k.icT (pc' := 24) df_4 (XT.ii_ge_t (own_nlt (a := p) (b := 4) (by omega) (by omega) c1)) (by decide)
      rw [show dgN ks p = p from if_neg (fun z => c1 z.1)]; exact k
  have k : Wf l Z n0 (QB (i32 (skipDgN ks p)) h0) G s h0 0 0 46 #[.val (.ref a), .val (.int (i32 p)), .val (.int (i32 (dgN ks (dgN ks p))))] [] := by
    by_cases c1 : (dgN ks p) < 4
    · have hb1 : (dgN ks p) ≤ 4 := (own_dgle hp)
      have k : Wf l Z n0 (QB (i32 (skipDgN ks p)) h0) G s h0 0 0 26 #[.val (.ref a), .val (.int (i32 p)), .val (.int (i32 (dgN ks p)))] [(.int (4 : Int32)), (.int (i32 (dgN ks p)))] := (k.iloadN df_24 rfl).iconst (4) df_25 rfl
      have k : Wf l Z n0 (QB (i32 (skipDgN ks p)) h0) G s h0 0 0 29 #[.val (.ref a), .val (.int (i32 p)), .val (.int (i32 (dgN ks p)))] [] := k.icF df_26 (XT.ii_ge_f (own_lt (a := (dgN ks p)) (b := 4) (by omega) (by omega) c1))
      have k : Wf l Z n0 (QB (i32 (skipDgN ks p)) h0) G s h0 0 0 31 #[.val (.ref a), .val (.int (i32 p)), .val (.int (i32 (dgN ks p)))] [(.int (i32 (dgN ks p))), (.ref a)] := (k.aloadN df_29 rfl rfl).iloadN df_30 rfl
      have k : Wf l Z n0 (QB (i32 (skipDgN ks p)) h0) G s h0 0 0 32 #[.val (.ref a), .val (.int (i32 p)), .val (.int (i32 (dgN ks p)))] [(.int (i32 (gk ks (dgN ks p))))] := k.ldI A (own_nn (a := (dgN ks p)) (by omega)) (own_get hk hb1) df_31
      have k : Wf l Z n0 (QB (i32 (skipDgN ks p)) h0) G s h0 0 0 33 #[.val (.ref a), .val (.int (i32 p)), .val (.int (i32 (dgN ks p)))] [(.int (3 : Int32)), (.int (i32 (gk ks (dgN ks p))))] := k.iconst (3) df_32 rfl
      by_cases c2 : gk ks (dgN ks p) = 3
      · have k : Wf l Z n0 (QB (i32 (skipDgN ks p)) h0) G s h0 0 0 43 #[.val (.ref a), .val (.int (i32 p)), .val (.int (i32 (dgN ks p)))] [] := k.icT (pc' := 43) df_33 (XT.ii_eq_t (congrArg i32 c2)) (by decide)
        have k : Wf l Z n0 (QB (i32 (skipDgN ks p)) h0) G s h0 0 0 46 #[.val (.ref a), .val (.int (i32 p)), .val (.int ((i32 (dgN ks p)) + (1 : Int32)))] [] := k.iinc (Ls' := #[.val (.ref a), .val (.int (i32 p)), .val (.int ((i32 (dgN ks p)) + (1 : Int32)))]) (1) df_43 rfl rfl rfl
        rw [own_succ] at k
        rw [show dgN ks (dgN ks p) = (dgN ks p) + 1 from if_pos ⟨c1, Or.inl c2⟩]; exact k
      · have k : Wf l Z n0 (QB (i32 (skipDgN ks p)) h0) G s h0 0 0 36 #[.val (.ref a), .val (.int (i32 p)), .val (.int (i32 (dgN ks p)))] [] := k.icF df_33 (XT.ii_eq_f (own_ne (b := 3) (own_gle hs) (by omega) c2))
        have k : Wf l Z n0 (QB (i32 (skipDgN ks p)) h0) G s h0 0 0 38 #[.val (.ref a), .val (.int (i32 p)), .val (.int (i32 (dgN ks p)))] [(.int (i32 (dgN ks p))), (.ref a)] := (k.aloadN df_36 rfl rfl).iloadN df_37 rfl
        have k : Wf l Z n0 (QB (i32 (skipDgN ks p)) h0) G s h0 0 0 39 #[.val (.ref a), .val (.int (i32 p)), .val (.int (i32 (dgN ks p)))] [(.int (i32 (gk ks (dgN ks p))))] := k.ldI A (own_nn (a := (dgN ks p)) (by omega)) (own_get hk hb1) df_38
        have k : Wf l Z n0 (QB (i32 (skipDgN ks p)) h0) G s h0 0 0 40 #[.val (.ref a), .val (.int (i32 p)), .val (.int (i32 (dgN ks p)))] [(.int (4 : Int32)), (.int (i32 (gk ks (dgN ks p))))] := k.iconst (4) df_39 rfl
        by_cases c3 : gk ks (dgN ks p) = 4
        · have k : Wf l Z n0 (QB (i32 (skipDgN ks p)) h0) G s h0 0 0 43 #[.val (.ref a), .val (.int (i32 p)), .val (.int (i32 (dgN ks p)))] [] := k.icF df_40 (XT.ii_ne_f (congrArg i32 c3))
          have k : Wf l Z n0 (QB (i32 (skipDgN ks p)) h0) G s h0 0 0 46 #[.val (.ref a), .val (.int (i32 p)), .val (.int ((i32 (dgN ks p)) + (1 : Int32)))] [] := k.iinc (Ls' := #[.val (.ref a), .val (.int (i32 p)), .val (.int ((i32 (dgN ks p)) + (1 : Int32)))]) (1) df_43 rfl rfl rfl
          rw [own_succ] at k
          rw [show dgN ks (dgN ks p) = (dgN ks p) + 1 from if_pos ⟨c1, Or.inr c3⟩]; exact k
        · have k : Wf l Z n0 (QB (i32 (skipDgN ks p)) h0) G s h0 0 0 46 #[.val (.ref a), .val (.int (i32 p)), .val (.int (i32 (dgN ks p)))] [] := k.icT (pc' := 46) df_40 (XT.ii_ne_t (own_ne (b := 4) (own_gle hs) (by omega) c3)) (by decide)
          rw [show dgN ks (dgN ks p) = (dgN ks p) from if_neg (fun z => z.2.elim c2 c3)]; exact k
    · have hb1 : (dgN ks p) ≤ 4 := (own_dgle hp)
      have k : Wf l Z n0 (QB (i32 (skipDgN ks p)) h0) G s h0 0 0 26 #[.val (.ref a), .val (.int (i32 p)), .val (.int (i32 (dgN ks p)))] [(.int (4 : Int32)), (.int (i32 (dgN ks p)))] := (k.iloadN df_24 rfl).iconst (4) df_25 rfl
      have k : Wf l Z n0 (QB (i32 (skipDgN ks p)) h0) G s h0 0 0 46 #[.val (.ref a), .val (.int (i32 p)), .val (.int (i32 (dgN ks p)))] [] := k.icT (pc' := 46) df_26 (XT.ii_ge_t (own_nlt (a := (dgN ks p)) (b := 4) (by omega) (by omega) c1)) (by decide)
      rw [show dgN ks (dgN ks p) = (dgN ks p) from if_neg (fun z => c1 z.1)]; exact k
  have k : Wf l Z n0 (QB (i32 (skipDgN ks p)) h0) G s h0 0 0 68 #[.val (.ref a), .val (.int (i32 p)), .val (.int (i32 (dgN ks (dgN ks (dgN ks p)))))] [] := by
    by_cases c1 : (dgN ks (dgN ks p)) < 4
    · have hb1 : (dgN ks (dgN ks p)) ≤ 4 := (own_dgle (own_dgle hp))
      have k : Wf l Z n0 (QB (i32 (skipDgN ks p)) h0) G s h0 0 0 48 #[.val (.ref a), .val (.int (i32 p)), .val (.int (i32 (dgN ks (dgN ks p))))] [(.int (4 : Int32)), (.int (i32 (dgN ks (dgN ks p))))] := (k.iloadN df_46 rfl).iconst (4) df_47 rfl
      have k : Wf l Z n0 (QB (i32 (skipDgN ks p)) h0) G s h0 0 0 51 #[.val (.ref a), .val (.int (i32 p)), .val (.int (i32 (dgN ks (dgN ks p))))] [] := k.icF df_48 (XT.ii_ge_f (own_lt (a := (dgN ks (dgN ks p))) (b := 4) (by omega) (by omega) c1))
      have k : Wf l Z n0 (QB (i32 (skipDgN ks p)) h0) G s h0 0 0 53 #[.val (.ref a), .val (.int (i32 p)), .val (.int (i32 (dgN ks (dgN ks p))))] [(.int (i32 (dgN ks (dgN ks p)))), (.ref a)] := (k.aloadN df_51 rfl rfl).iloadN df_52 rfl
      have k : Wf l Z n0 (QB (i32 (skipDgN ks p)) h0) G s h0 0 0 54 #[.val (.ref a), .val (.int (i32 p)), .val (.int (i32 (dgN ks (dgN ks p))))] [(.int (i32 (gk ks (dgN ks (dgN ks p)))))] := k.ldI A (own_nn (a := (dgN ks (dgN ks p))) (by omega)) (own_get hk hb1) df_53
      have k : Wf l Z n0 (QB (i32 (skipDgN ks p)) h0) G s h0 0 0 55 #[.val (.ref a), .val (.int (i32 p)), .val (.int (i32 (dgN ks (dgN ks p))))] [(.int (3 : Int32)), (.int (i32 (gk ks (dgN ks (dgN ks p)))))] := k.iconst (3) df_54 rfl
      by_cases c2 : gk ks (dgN ks (dgN ks p)) = 3
      · have k : Wf l Z n0 (QB (i32 (skipDgN ks p)) h0) G s h0 0 0 65 #[.val (.ref a), .val (.int (i32 p)), .val (.int (i32 (dgN ks (dgN ks p))))] [] := k.icT (pc' := 65) df_55 (XT.ii_eq_t (congrArg i32 c2)) (by decide)
        have k : Wf l Z n0 (QB (i32 (skipDgN ks p)) h0) G s h0 0 0 68 #[.val (.ref a), .val (.int (i32 p)), .val (.int ((i32 (dgN ks (dgN ks p))) + (1 : Int32)))] [] := k.iinc (Ls' := #[.val (.ref a), .val (.int (i32 p)), .val (.int ((i32 (dgN ks (dgN ks p))) + (1 : Int32)))]) (1) df_65 rfl rfl rfl
        rw [own_succ] at k
        rw [show dgN ks (dgN ks (dgN ks p)) = (dgN ks (dgN ks p)) + 1 from if_pos ⟨c1, Or.inl c2⟩]; exact k
      · have k : Wf l Z n0 (QB (i32 (skipDgN ks p)) h0) G s h0 0 0 58 #[.val (.ref a), .val (.int (i32 p)), .val (.int (i32 (dgN ks (dgN ks p))))] [] := k.icF df_55 (XT.ii_eq_f (own_ne (b := 3) (own_gle hs) (by omega) c2))
        have k : Wf l Z n0 (QB (i32 (skipDgN ks p)) h0) G s h0 0 0 60 #[.val (.ref a), .val (.int (i32 p)), .val (.int (i32 (dgN ks (dgN ks p))))] [(.int (i32 (dgN ks (dgN ks p)))), (.ref a)] := (k.aloadN df_58 rfl rfl).iloadN df_59 rfl
        have k : Wf l Z n0 (QB (i32 (skipDgN ks p)) h0) G s h0 0 0 61 #[.val (.ref a), .val (.int (i32 p)), .val (.int (i32 (dgN ks (dgN ks p))))] [(.int (i32 (gk ks (dgN ks (dgN ks p)))))] := k.ldI A (own_nn (a := (dgN ks (dgN ks p))) (by omega)) (own_get hk hb1) df_60
        have k : Wf l Z n0 (QB (i32 (skipDgN ks p)) h0) G s h0 0 0 62 #[.val (.ref a), .val (.int (i32 p)), .val (.int (i32 (dgN ks (dgN ks p))))] [(.int (4 : Int32)), (.int (i32 (gk ks (dgN ks (dgN ks p)))))] := k.iconst (4) df_61 rfl
        by_cases c3 : gk ks (dgN ks (dgN ks p)) = 4
        · have k : Wf l Z n0 (QB (i32 (skipDgN ks p)) h0) G s h0 0 0 65 #[.val (.ref a), .val (.int (i32 p)), .val (.int (i32 (dgN ks (dgN ks p))))] [] := k.icF df_62 (XT.ii_ne_f (congrArg i32 c3))
          have k : Wf l Z n0 (QB (i32 (skipDgN ks p)) h0) G s h0 0 0 68 #[.val (.ref a), .val (.int (i32 p)), .val (.int ((i32 (dgN ks (dgN ks p))) + (1 : Int32)))] [] := k.iinc (Ls' := #[.val (.ref a), .val (.int (i32 p)), .val (.int ((i32 (dgN ks (dgN ks p))) + (1 : Int32)))]) (1) df_65 rfl rfl rfl
          rw [own_succ] at k
          rw [show dgN ks (dgN ks (dgN ks p)) = (dgN ks (dgN ks p)) + 1 from if_pos ⟨c1, Or.inr c3⟩]; exact k
        · have k : Wf l Z n0 (QB (i32 (skipDgN ks p)) h0) G s h0 0 0 68 #[.val (.ref a), .val (.int (i32 p)), .val (.int (i32 (dgN ks (dgN ks p))))] [] := k.icT (pc' := 68) df_62 (XT.ii_ne_t (own_ne (b := 4) (own_gle hs) (by omega) c3)) (by decide)
          rw [show dgN ks (dgN ks (dgN ks p)) = (dgN ks (dgN ks p)) from if_neg (fun z => z.2.elim c2 c3)]; exact k
    · have hb1 : (dgN ks (dgN ks p)) ≤ 4 := (own_dgle (own_dgle hp))
      have k : Wf l Z n0 (QB (i32 (skipDgN ks p)) h0) G s h0 0 0 48 #[.val (.ref a), .val (.int (i32 p)), .val (.int (i32 (dgN ks (dgN ks p))))] [(.int (4 : Int32)), (.int (i32 (dgN ks (dgN ks p))))] := (k.iloadN df_46 rfl).iconst (4) df_47 rfl
      have k : Wf l Z n0 (QB (i32 (skipDgN ks p)) h0) G s h0 0 0 68 #[.val (.ref a), .val (.int (i32 p)), .val (.int (i32 (dgN ks (dgN ks p))))] [] := k.icT (pc' := 68) df_48 (XT.ii_ge_t (own_nlt (a := (dgN ks (dgN ks p))) (b := 4) (by omega) (by omega) c1)) (by decide)
      rw [show dgN ks (dgN ks (dgN ks p)) = (dgN ks (dgN ks p)) from if_neg (fun z => c1 z.1)]; exact k
  have k : Wf l Z n0 (QB (i32 (skipDgN ks p)) h0) G s h0 0 0 90 #[.val (.ref a), .val (.int (i32 p)), .val (.int (i32 (dgN ks (dgN ks (dgN ks (dgN ks p))))))] [] := by
    by_cases c1 : (dgN ks (dgN ks (dgN ks p))) < 4
    · have hb1 : (dgN ks (dgN ks (dgN ks p))) ≤ 4 := (own_dgle (own_dgle (own_dgle hp)))
      have k : Wf l Z n0 (QB (i32 (skipDgN ks p)) h0) G s h0 0 0 70 #[.val (.ref a), .val (.int (i32 p)), .val (.int (i32 (dgN ks (dgN ks (dgN ks p)))))] [(.int (4 : Int32)), (.int (i32 (dgN ks (dgN ks (dgN ks p)))))] := (k.iloadN df_68 rfl).iconst (4) df_69 rfl
      have k : Wf l Z n0 (QB (i32 (skipDgN ks p)) h0) G s h0 0 0 73 #[.val (.ref a), .val (.int (i32 p)), .val (.int (i32 (dgN ks (dgN ks (dgN ks p)))))] [] := k.icF df_70 (XT.ii_ge_f (own_lt (a := (dgN ks (dgN ks (dgN ks p)))) (b := 4) (by omega) (by omega) c1))
      have k : Wf l Z n0 (QB (i32 (skipDgN ks p)) h0) G s h0 0 0 75 #[.val (.ref a), .val (.int (i32 p)), .val (.int (i32 (dgN ks (dgN ks (dgN ks p)))))] [(.int (i32 (dgN ks (dgN ks (dgN ks p))))), (.ref a)] := (k.aloadN df_73 rfl rfl).iloadN df_74 rfl
      have k : Wf l Z n0 (QB (i32 (skipDgN ks p)) h0) G s h0 0 0 76 #[.val (.ref a), .val (.int (i32 p)), .val (.int (i32 (dgN ks (dgN ks (dgN ks p)))))] [(.int (i32 (gk ks (dgN ks (dgN ks (dgN ks p))))))] := k.ldI A (own_nn (a := (dgN ks (dgN ks (dgN ks p)))) (by omega)) (own_get hk hb1) df_75
      have k : Wf l Z n0 (QB (i32 (skipDgN ks p)) h0) G s h0 0 0 77 #[.val (.ref a), .val (.int (i32 p)), .val (.int (i32 (dgN ks (dgN ks (dgN ks p)))))] [(.int (3 : Int32)), (.int (i32 (gk ks (dgN ks (dgN ks (dgN ks p))))))] := k.iconst (3) df_76 rfl
      by_cases c2 : gk ks (dgN ks (dgN ks (dgN ks p))) = 3
      · have k : Wf l Z n0 (QB (i32 (skipDgN ks p)) h0) G s h0 0 0 87 #[.val (.ref a), .val (.int (i32 p)), .val (.int (i32 (dgN ks (dgN ks (dgN ks p)))))] [] := k.icT (pc' := 87) df_77 (XT.ii_eq_t (congrArg i32 c2)) (by decide)
        have k : Wf l Z n0 (QB (i32 (skipDgN ks p)) h0) G s h0 0 0 90 #[.val (.ref a), .val (.int (i32 p)), .val (.int ((i32 (dgN ks (dgN ks (dgN ks p)))) + (1 : Int32)))] [] := k.iinc (Ls' := #[.val (.ref a), .val (.int (i32 p)), .val (.int ((i32 (dgN ks (dgN ks (dgN ks p)))) + (1 : Int32)))]) (1) df_87 rfl rfl rfl
        rw [own_succ] at k
        rw [show dgN ks (dgN ks (dgN ks (dgN ks p))) = (dgN ks (dgN ks (dgN ks p))) + 1 from if_pos ⟨c1, Or.inl c2⟩]; exact k
      · have k : Wf l Z n0 (QB (i32 (skipDgN ks p)) h0) G s h0 0 0 80 #[.val (.ref a), .val (.int (i32 p)), .val (.int (i32 (dgN ks (dgN ks (dgN ks p)))))] [] := k.icF df_77 (XT.ii_eq_f (own_ne (b := 3) (own_gle hs) (by omega) c2))
        have k : Wf l Z n0 (QB (i32 (skipDgN ks p)) h0) G s h0 0 0 82 #[.val (.ref a), .val (.int (i32 p)), .val (.int (i32 (dgN ks (dgN ks (dgN ks p)))))] [(.int (i32 (dgN ks (dgN ks (dgN ks p))))), (.ref a)] := (k.aloadN df_80 rfl rfl).iloadN df_81 rfl
        have k : Wf l Z n0 (QB (i32 (skipDgN ks p)) h0) G s h0 0 0 83 #[.val (.ref a), .val (.int (i32 p)), .val (.int (i32 (dgN ks (dgN ks (dgN ks p)))))] [(.int (i32 (gk ks (dgN ks (dgN ks (dgN ks p))))))] := k.ldI A (own_nn (a := (dgN ks (dgN ks (dgN ks p)))) (by omega)) (own_get hk hb1) df_82
        have k : Wf l Z n0 (QB (i32 (skipDgN ks p)) h0) G s h0 0 0 84 #[.val (.ref a), .val (.int (i32 p)), .val (.int (i32 (dgN ks (dgN ks (dgN ks p)))))] [(.int (4 : Int32)), (.int (i32 (gk ks (dgN ks (dgN ks (dgN ks p))))))] := k.iconst (4) df_83 rfl
        by_cases c3 : gk ks (dgN ks (dgN ks (dgN ks p))) = 4
        · have k : Wf l Z n0 (QB (i32 (skipDgN ks p)) h0) G s h0 0 0 87 #[.val (.ref a), .val (.int (i32 p)), .val (.int (i32 (dgN ks (dgN ks (dgN ks p)))))] [] := k.icF df_84 (XT.ii_ne_f (congrArg i32 c3))
          have k : Wf l Z n0 (QB (i32 (skipDgN ks p)) h0) G s h0 0 0 90 #[.val (.ref a), .val (.int (i32 p)), .val (.int ((i32 (dgN ks (dgN ks (dgN ks p)))) + (1 : Int32)))] [] := k.iinc (Ls' := #[.val (.ref a), .val (.int (i32 p)), .val (.int ((i32 (dgN ks (dgN ks (dgN ks p)))) + (1 : Int32)))]) (1) df_87 rfl rfl rfl
          rw [own_succ] at k
          rw [show dgN ks (dgN ks (dgN ks (dgN ks p))) = (dgN ks (dgN ks (dgN ks p))) + 1 from if_pos ⟨c1, Or.inr c3⟩]; exact k
        · have k : Wf l Z n0 (QB (i32 (skipDgN ks p)) h0) G s h0 0 0 90 #[.val (.ref a), .val (.int (i32 p)), .val (.int (i32 (dgN ks (dgN ks (dgN ks p)))))] [] := k.icT (pc' := 90) df_84 (XT.ii_ne_t (own_ne (b := 4) (own_gle hs) (by omega) c3)) (by decide)
          rw [show dgN ks (dgN ks (dgN ks (dgN ks p))) = (dgN ks (dgN ks (dgN ks p))) from if_neg (fun z => z.2.elim c2 c3)]; exact k
    · have hb1 : (dgN ks (dgN ks (dgN ks p))) ≤ 4 := (own_dgle (own_dgle (own_dgle hp)))
      have k : Wf l Z n0 (QB (i32 (skipDgN ks p)) h0) G s h0 0 0 70 #[.val (.ref a), .val (.int (i32 p)), .val (.int (i32 (dgN ks (dgN ks (dgN ks p)))))] [(.int (4 : Int32)), (.int (i32 (dgN ks (dgN ks (dgN ks p)))))] := (k.iloadN df_68 rfl).iconst (4) df_69 rfl
      have k : Wf l Z n0 (QB (i32 (skipDgN ks p)) h0) G s h0 0 0 90 #[.val (.ref a), .val (.int (i32 p)), .val (.int (i32 (dgN ks (dgN ks (dgN ks p)))))] [] := k.icT (pc' := 90) df_70 (XT.ii_ge_t (own_nlt (a := (dgN ks (dgN ks (dgN ks p)))) (b := 4) (by omega) (by omega) c1)) (by decide)
      rw [show dgN ks (dgN ks (dgN ks (dgN ks p))) = (dgN ks (dgN ks (dgN ks p))) from if_neg (fun z => c1 z.1)]; exact k
  have k : Wf l Z n0 (QB (i32 (skipDgN ks p)) h0) G s h0 0 0 91 #[.val (.ref a), .val (.int (i32 p)), .val (.int (i32 (dgN ks (dgN ks (dgN ks (dgN ks p))))))] [(.int (i32 (dgN ks (dgN ks (dgN ks (dgN ks p))))))] := k.iloadN df_90 rfl
  exact k.outI df_91 (by decide) (by decide) ⟨rfl, rfl⟩
theorem dg_0 : decode method_7_code 0 = .ok (.iconst 0, 1) := by decide +kernel
theorem dg_1 : decode method_7_code 1 = .ok (.iload_n 1, 1) := by decide +kernel
theorem dg_2 : decode method_7_code 2 = .ok (.if_icmp .lt 15, 3) := by decide +kernel
theorem dg_5 : decode method_7_code 5 = .ok (.iconst 0, 1) := by decide +kernel
theorem dg_6 : decode method_7_code 6 = .ok (.iload_n 2, 1) := by decide +kernel
theorem dg_7 : decode method_7_code 7 = .ok (.if_icmp .ge 10, 3) := by decide +kernel
theorem dg_10 : decode method_7_code 10 = .ok (.aload_n 0, 1) := by decide +kernel
theorem dg_11 : decode method_7_code 11 = .ok (.iconst 0, 1) := by decide +kernel
theorem dg_12 : decode method_7_code 12 = .ok (.iaload, 1) := by decide +kernel
theorem dg_13 : decode method_7_code 13 = .ok (.iconst 4, 1) := by decide +kernel
theorem dg_14 : decode method_7_code 14 = .ok (.if_icmp .eq 54, 3) := by decide +kernel
theorem dg_17 : decode method_7_code 17 = .ok (.iconst 1, 1) := by decide +kernel
theorem dg_18 : decode method_7_code 18 = .ok (.iload_n 1, 1) := by decide +kernel
theorem dg_19 : decode method_7_code 19 = .ok (.if_icmp .lt 15, 3) := by decide +kernel
theorem dg_22 : decode method_7_code 22 = .ok (.iconst 1, 1) := by decide +kernel
theorem dg_23 : decode method_7_code 23 = .ok (.iload_n 2, 1) := by decide +kernel
theorem dg_24 : decode method_7_code 24 = .ok (.if_icmp .ge 10, 3) := by decide +kernel
theorem dg_27 : decode method_7_code 27 = .ok (.aload_n 0, 1) := by decide +kernel
theorem dg_28 : decode method_7_code 28 = .ok (.iconst 1, 1) := by decide +kernel
theorem dg_29 : decode method_7_code 29 = .ok (.iaload, 1) := by decide +kernel
theorem dg_30 : decode method_7_code 30 = .ok (.iconst 4, 1) := by decide +kernel
theorem dg_31 : decode method_7_code 31 = .ok (.if_icmp .eq 37, 3) := by decide +kernel
theorem dg_34 : decode method_7_code 34 = .ok (.iconst 2, 1) := by decide +kernel
theorem dg_35 : decode method_7_code 35 = .ok (.iload_n 1, 1) := by decide +kernel
theorem dg_36 : decode method_7_code 36 = .ok (.if_icmp .lt 15, 3) := by decide +kernel
theorem dg_39 : decode method_7_code 39 = .ok (.iconst 2, 1) := by decide +kernel
theorem dg_40 : decode method_7_code 40 = .ok (.iload_n 2, 1) := by decide +kernel
theorem dg_41 : decode method_7_code 41 = .ok (.if_icmp .ge 10, 3) := by decide +kernel
theorem dg_44 : decode method_7_code 44 = .ok (.aload_n 0, 1) := by decide +kernel
theorem dg_45 : decode method_7_code 45 = .ok (.iconst 2, 1) := by decide +kernel
theorem dg_46 : decode method_7_code 46 = .ok (.iaload, 1) := by decide +kernel
theorem dg_47 : decode method_7_code 47 = .ok (.iconst 4, 1) := by decide +kernel
theorem dg_48 : decode method_7_code 48 = .ok (.if_icmp .eq 20, 3) := by decide +kernel
theorem dg_51 : decode method_7_code 51 = .ok (.iconst 3, 1) := by decide +kernel
theorem dg_52 : decode method_7_code 52 = .ok (.iload_n 1, 1) := by decide +kernel
theorem dg_53 : decode method_7_code 53 = .ok (.if_icmp .lt 19, 3) := by decide +kernel
theorem dg_56 : decode method_7_code 56 = .ok (.iconst 3, 1) := by decide +kernel
theorem dg_57 : decode method_7_code 57 = .ok (.iload_n 2, 1) := by decide +kernel
theorem dg_58 : decode method_7_code 58 = .ok (.if_icmp .ge 14, 3) := by decide +kernel
theorem dg_61 : decode method_7_code 61 = .ok (.aload_n 0, 1) := by decide +kernel
theorem dg_62 : decode method_7_code 62 = .ok (.iconst 3, 1) := by decide +kernel
theorem dg_63 : decode method_7_code 63 = .ok (.iaload, 1) := by decide +kernel
theorem dg_64 : decode method_7_code 64 = .ok (.iconst 4, 1) := by decide +kernel
theorem dg_65 : decode method_7_code 65 = .ok (.if_icmp .ne 7, 3) := by decide +kernel
theorem dg_68 : decode method_7_code 68 = .ok (.iconst 1, 1) := by decide +kernel
theorem dg_69 : decode method_7_code 69 = .ok (.goto 4, 3) := by decide +kernel
theorem dg_72 : decode method_7_code 72 = .ok (.iconst 0, 1) := by decide +kernel
theorem dg_73 : decode method_7_code 73 = .ok (.ireturn, 1) := by decide +kernel
theorem png : plainFor (⟨"com/example/caddisfly/caddisfly/NumeralSteadyInPinLaw", "anyNonZero", "([III)Z"⟩ : MethodName) = true := plainFor_of_name (show plainName "com/example/caddisfly/caddisfly/NumeralSteadyInPinLaw" = true by first | (simp [plainName, overriddenIn]; done) | decide +kernel)
theorem pdg : parseMethodDescriptor "([III)Z" = some ⟨[(.array .int), .int, .int], some .boolean⟩ := by decide +kernel
abbrev Wg (l : Launch) (Z : State) (n0 : Nat) (P : Option Value → Heap → Prop) (G : Prop) (s : State) := Wk l Z ({ frames := 0, cells := 0, slots := 0, locals := 0 } : Room) (⟨"com/example/caddisfly/caddisfly/NumeralSteadyInPinLaw", "anyNonZero", "([III)Z"⟩ : MethodName) method_7_code 3 (some .boolean) n0 (Ex s ({ frames := 0, cells := 0, slots := 0, locals := 0 } : Room) n0 P G) s
set_option maxRecDepth 65536 in
set_option maxHeartbeats 40000000 in
theorem cong (l : Launch) (Z : State) (a0 : Array Value) (hw : ∀ d ∈ tables_1, d.before a0 Z = true) (a : Nat) (ks : List Nat) (hk : ks.length = 5) (hs : ∀ d ∈ ks, d ≤ 6) (f t : Nat) (hf : f ≤ 4) (ht : t ≤ 4) (h0 : Heap) (n0 : Nat) (A : AV Z h0 a .int (vk ks)) : Con l Z (⟨"com/example/caddisfly/caddisfly/NumeralSteadyInPinLaw", "anyNonZero", "([III)Z"⟩ : MethodName) method_7_code 3 (some .boolean) ({ frames := 0, cells := 0, slots := 0, locals := 0 } : Room) #[.ref a, .int (i32 f), .int (i32 t)] h0 n0 (QB (i32 (anyN ks f t)) h0) := by
  refine Con.of png (Ls := #[.val (.ref a), .val (.int (i32 f)), .val (.int (i32 t))]) (fun m => by first | (simp [entryFrame, mkF, argsToLocals, Value.category]; done) | rfl) ?_
  intro G s k
  by_cases q0 : any1 ks f t 0
  · obtain ⟨r1, r2, r3⟩ := q0
    have k : Wg l Z n0 (QB (i32 (anyN ks f t)) h0) G s h0 0 0 2 #[.val (.ref a), .val (.int (i32 f)), .val (.int (i32 t))] [(.int (i32 f)), (.int (0 : Int32))] := (k.iconst (0) dg_0 rfl).iloadN dg_1 rfl
    have k : Wg l Z n0 (QB (i32 (anyN ks f t)) h0) G s h0 0 0 5 #[.val (.ref a), .val (.int (i32 f)), .val (.int (i32 t))] [] := k.icF dg_2 (XT.ii_lt_f (own_nlt (a := 0) (b := f) (by omega) (by omega) (by omega)))
    have k : Wg l Z n0 (QB (i32 (anyN ks f t)) h0) G s h0 0 0 7 #[.val (.ref a), .val (.int (i32 f)), .val (.int (i32 t))] [(.int (i32 t)), (.int (0 : Int32))] := (k.iconst (0) dg_5 rfl).iloadN dg_6 rfl
    have k : Wg l Z n0 (QB (i32 (anyN ks f t)) h0) G s h0 0 0 10 #[.val (.ref a), .val (.int (i32 f)), .val (.int (i32 t))] [] := k.icF dg_7 (XT.ii_ge_f (own_lt (a := 0) (b := t) (by omega) (by omega) (by omega)))
    have k : Wg l Z n0 (QB (i32 (anyN ks f t)) h0) G s h0 0 0 12 #[.val (.ref a), .val (.int (i32 f)), .val (.int (i32 t))] [(.int (0 : Int32)), (.ref a)] := (k.aloadN dg_10 rfl rfl).iconst (0) dg_11 rfl
    have k : Wg l Z n0 (QB (i32 (anyN ks f t)) h0) G s h0 0 0 13 #[.val (.ref a), .val (.int (i32 f)), .val (.int (i32 t))] [(.int (i32 (gk ks 0)))] := k.ldI A (by decide) (own_get (p := 0) hk (by omega)) dg_12
    have k : Wg l Z n0 (QB (i32 (anyN ks f t)) h0) G s h0 0 0 14 #[.val (.ref a), .val (.int (i32 f)), .val (.int (i32 t))] [(.int (4 : Int32)), (.int (i32 (gk ks 0)))] := k.iconst (4) dg_13 rfl
    have k : Wg l Z n0 (QB (i32 (anyN ks f t)) h0) G s h0 0 0 68 #[.val (.ref a), .val (.int (i32 f)), .val (.int (i32 t))] [] := k.icT (pc' := 68) dg_14 (XT.ii_eq_t (congrArg i32 r3)) (by decide)
    have k : Wg l Z n0 (QB (i32 (anyN ks f t)) h0) G s h0 0 0 73 #[.val (.ref a), .val (.int (i32 f)), .val (.int (i32 t))] [(.int (1 : Int32))] := (k.iconst (1) dg_68 rfl).goto (pc' := 73) dg_69 (by decide)
    exact k.outZ (Or.inr rfl) dg_73 (by decide) (by decide) ⟨rfl, own_ans (show anyN ks f t = 1 from by unfold anyN; simp only [ if_pos (show any1 ks f t 0 from ⟨r1, r2, r3⟩)])⟩
  · have k : Wg l Z n0 (QB (i32 (anyN ks f t)) h0) G s h0 0 0 17 #[.val (.ref a), .val (.int (i32 f)), .val (.int (i32 t))] [] := by
      by_cases r1 : f ≤ 0
      · have k : Wg l Z n0 (QB (i32 (anyN ks f t)) h0) G s h0 0 0 2 #[.val (.ref a), .val (.int (i32 f)), .val (.int (i32 t))] [(.int (i32 f)), (.int (0 : Int32))] := (k.iconst (0) dg_0 rfl).iloadN dg_1 rfl
        have k : Wg l Z n0 (QB (i32 (anyN ks f t)) h0) G s h0 0 0 5 #[.val (.ref a), .val (.int (i32 f)), .val (.int (i32 t))] [] := k.icF dg_2 (XT.ii_lt_f (own_nlt (a := 0) (b := f) (by omega) (by omega) (by omega)))
        by_cases r2 : 0 < t
        · have k : Wg l Z n0 (QB (i32 (anyN ks f t)) h0) G s h0 0 0 7 #[.val (.ref a), .val (.int (i32 f)), .val (.int (i32 t))] [(.int (i32 t)), (.int (0 : Int32))] := (k.iconst (0) dg_5 rfl).iloadN dg_6 rfl
          have k : Wg l Z n0 (QB (i32 (anyN ks f t)) h0) G s h0 0 0 10 #[.val (.ref a), .val (.int (i32 f)), .val (.int (i32 t))] [] := k.icF dg_7 (XT.ii_ge_f (own_lt (a := 0) (b := t) (by omega) (by omega) (by omega)))
          have k : Wg l Z n0 (QB (i32 (anyN ks f t)) h0) G s h0 0 0 12 #[.val (.ref a), .val (.int (i32 f)), .val (.int (i32 t))] [(.int (0 : Int32)), (.ref a)] := (k.aloadN dg_10 rfl rfl).iconst (0) dg_11 rfl
          have k : Wg l Z n0 (QB (i32 (anyN ks f t)) h0) G s h0 0 0 13 #[.val (.ref a), .val (.int (i32 f)), .val (.int (i32 t))] [(.int (i32 (gk ks 0)))] := k.ldI A (by decide) (own_get (p := 0) hk (by omega)) dg_12
          have k : Wg l Z n0 (QB (i32 (anyN ks f t)) h0) G s h0 0 0 14 #[.val (.ref a), .val (.int (i32 f)), .val (.int (i32 t))] [(.int (4 : Int32)), (.int (i32 (gk ks 0)))] := k.iconst (4) dg_13 rfl
          have k : Wg l Z n0 (QB (i32 (anyN ks f t)) h0) G s h0 0 0 17 #[.val (.ref a), .val (.int (i32 f)), .val (.int (i32 t))] [] := k.icF dg_14 (XT.ii_eq_f (own_ne (b := 4) (own_gle hs) (by omega) (fun z => q0 ⟨r1, r2, z⟩)))
          exact k
        · have k : Wg l Z n0 (QB (i32 (anyN ks f t)) h0) G s h0 0 0 7 #[.val (.ref a), .val (.int (i32 f)), .val (.int (i32 t))] [(.int (i32 t)), (.int (0 : Int32))] := (k.iconst (0) dg_5 rfl).iloadN dg_6 rfl
          have k : Wg l Z n0 (QB (i32 (anyN ks f t)) h0) G s h0 0 0 17 #[.val (.ref a), .val (.int (i32 f)), .val (.int (i32 t))] [] := k.icT (pc' := 17) dg_7 (XT.ii_ge_t (own_nlt (a := 0) (b := t) (by omega) (by omega) r2)) (by decide)
          exact k
      · have k : Wg l Z n0 (QB (i32 (anyN ks f t)) h0) G s h0 0 0 2 #[.val (.ref a), .val (.int (i32 f)), .val (.int (i32 t))] [(.int (i32 f)), (.int (0 : Int32))] := (k.iconst (0) dg_0 rfl).iloadN dg_1 rfl
        have k : Wg l Z n0 (QB (i32 (anyN ks f t)) h0) G s h0 0 0 17 #[.val (.ref a), .val (.int (i32 f)), .val (.int (i32 t))] [] := k.icT (pc' := 17) dg_2 (XT.ii_lt_t (own_lt (a := 0) (b := f) (by omega) (by omega) (by omega))) (by decide)
        exact k
    by_cases q1 : any1 ks f t 1
    · obtain ⟨r1, r2, r3⟩ := q1
      have k : Wg l Z n0 (QB (i32 (anyN ks f t)) h0) G s h0 0 0 19 #[.val (.ref a), .val (.int (i32 f)), .val (.int (i32 t))] [(.int (i32 f)), (.int (1 : Int32))] := (k.iconst (1) dg_17 rfl).iloadN dg_18 rfl
      have k : Wg l Z n0 (QB (i32 (anyN ks f t)) h0) G s h0 0 0 22 #[.val (.ref a), .val (.int (i32 f)), .val (.int (i32 t))] [] := k.icF dg_19 (XT.ii_lt_f (own_nlt (a := 1) (b := f) (by omega) (by omega) (by omega)))
      have k : Wg l Z n0 (QB (i32 (anyN ks f t)) h0) G s h0 0 0 24 #[.val (.ref a), .val (.int (i32 f)), .val (.int (i32 t))] [(.int (i32 t)), (.int (1 : Int32))] := (k.iconst (1) dg_22 rfl).iloadN dg_23 rfl
      have k : Wg l Z n0 (QB (i32 (anyN ks f t)) h0) G s h0 0 0 27 #[.val (.ref a), .val (.int (i32 f)), .val (.int (i32 t))] [] := k.icF dg_24 (XT.ii_ge_f (own_lt (a := 1) (b := t) (by omega) (by omega) (by omega)))
      have k : Wg l Z n0 (QB (i32 (anyN ks f t)) h0) G s h0 0 0 29 #[.val (.ref a), .val (.int (i32 f)), .val (.int (i32 t))] [(.int (1 : Int32)), (.ref a)] := (k.aloadN dg_27 rfl rfl).iconst (1) dg_28 rfl
      have k : Wg l Z n0 (QB (i32 (anyN ks f t)) h0) G s h0 0 0 30 #[.val (.ref a), .val (.int (i32 f)), .val (.int (i32 t))] [(.int (i32 (gk ks 1)))] := k.ldI A (by decide) (own_get (p := 1) hk (by omega)) dg_29
      have k : Wg l Z n0 (QB (i32 (anyN ks f t)) h0) G s h0 0 0 31 #[.val (.ref a), .val (.int (i32 f)), .val (.int (i32 t))] [(.int (4 : Int32)), (.int (i32 (gk ks 1)))] := k.iconst (4) dg_30 rfl
      have k : Wg l Z n0 (QB (i32 (anyN ks f t)) h0) G s h0 0 0 68 #[.val (.ref a), .val (.int (i32 f)), .val (.int (i32 t))] [] := k.icT (pc' := 68) dg_31 (XT.ii_eq_t (congrArg i32 r3)) (by decide)
      have k : Wg l Z n0 (QB (i32 (anyN ks f t)) h0) G s h0 0 0 73 #[.val (.ref a), .val (.int (i32 f)), .val (.int (i32 t))] [(.int (1 : Int32))] := (k.iconst (1) dg_68 rfl).goto (pc' := 73) dg_69 (by decide)
      exact k.outZ (Or.inr rfl) dg_73 (by decide) (by decide) ⟨rfl, own_ans (show anyN ks f t = 1 from by unfold anyN; simp only [if_neg q0,  if_pos (show any1 ks f t 1 from ⟨r1, r2, r3⟩)])⟩
    · have k : Wg l Z n0 (QB (i32 (anyN ks f t)) h0) G s h0 0 0 34 #[.val (.ref a), .val (.int (i32 f)), .val (.int (i32 t))] [] := by
        by_cases r1 : f ≤ 1
        · have k : Wg l Z n0 (QB (i32 (anyN ks f t)) h0) G s h0 0 0 19 #[.val (.ref a), .val (.int (i32 f)), .val (.int (i32 t))] [(.int (i32 f)), (.int (1 : Int32))] := (k.iconst (1) dg_17 rfl).iloadN dg_18 rfl
          have k : Wg l Z n0 (QB (i32 (anyN ks f t)) h0) G s h0 0 0 22 #[.val (.ref a), .val (.int (i32 f)), .val (.int (i32 t))] [] := k.icF dg_19 (XT.ii_lt_f (own_nlt (a := 1) (b := f) (by omega) (by omega) (by omega)))
          by_cases r2 : 1 < t
          · have k : Wg l Z n0 (QB (i32 (anyN ks f t)) h0) G s h0 0 0 24 #[.val (.ref a), .val (.int (i32 f)), .val (.int (i32 t))] [(.int (i32 t)), (.int (1 : Int32))] := (k.iconst (1) dg_22 rfl).iloadN dg_23 rfl
            have k : Wg l Z n0 (QB (i32 (anyN ks f t)) h0) G s h0 0 0 27 #[.val (.ref a), .val (.int (i32 f)), .val (.int (i32 t))] [] := k.icF dg_24 (XT.ii_ge_f (own_lt (a := 1) (b := t) (by omega) (by omega) (by omega)))
            have k : Wg l Z n0 (QB (i32 (anyN ks f t)) h0) G s h0 0 0 29 #[.val (.ref a), .val (.int (i32 f)), .val (.int (i32 t))] [(.int (1 : Int32)), (.ref a)] := (k.aloadN dg_27 rfl rfl).iconst (1) dg_28 rfl
            have k : Wg l Z n0 (QB (i32 (anyN ks f t)) h0) G s h0 0 0 30 #[.val (.ref a), .val (.int (i32 f)), .val (.int (i32 t))] [(.int (i32 (gk ks 1)))] := k.ldI A (by decide) (own_get (p := 1) hk (by omega)) dg_29
            have k : Wg l Z n0 (QB (i32 (anyN ks f t)) h0) G s h0 0 0 31 #[.val (.ref a), .val (.int (i32 f)), .val (.int (i32 t))] [(.int (4 : Int32)), (.int (i32 (gk ks 1)))] := k.iconst (4) dg_30 rfl
            have k : Wg l Z n0 (QB (i32 (anyN ks f t)) h0) G s h0 0 0 34 #[.val (.ref a), .val (.int (i32 f)), .val (.int (i32 t))] [] := k.icF dg_31 (XT.ii_eq_f (own_ne (b := 4) (own_gle hs) (by omega) (fun z => q1 ⟨r1, r2, z⟩)))
            exact k
          · have k : Wg l Z n0 (QB (i32 (anyN ks f t)) h0) G s h0 0 0 24 #[.val (.ref a), .val (.int (i32 f)), .val (.int (i32 t))] [(.int (i32 t)), (.int (1 : Int32))] := (k.iconst (1) dg_22 rfl).iloadN dg_23 rfl
            have k : Wg l Z n0 (QB (i32 (anyN ks f t)) h0) G s h0 0 0 34 #[.val (.ref a), .val (.int (i32 f)), .val (.int (i32 t))] [] := k.icT (pc' := 34) dg_24 (XT.ii_ge_t (own_nlt (a := 1) (b := t) (by omega) (by omega) r2)) (by decide)
            exact k
        · have k : Wg l Z n0 (QB (i32 (anyN ks f t)) h0) G s h0 0 0 19 #[.val (.ref a), .val (.int (i32 f)), .val (.int (i32 t))] [(.int (i32 f)), (.int (1 : Int32))] := (k.iconst (1) dg_17 rfl).iloadN dg_18 rfl
          have k : Wg l Z n0 (QB (i32 (anyN ks f t)) h0) G s h0 0 0 34 #[.val (.ref a), .val (.int (i32 f)), .val (.int (i32 t))] [] := k.icT (pc' := 34) dg_19 (XT.ii_lt_t (own_lt (a := 1) (b := f) (by omega) (by omega) (by omega))) (by decide)
          exact k
      by_cases q2 : any1 ks f t 2
      · obtain ⟨r1, r2, r3⟩ := q2
        have k : Wg l Z n0 (QB (i32 (anyN ks f t)) h0) G s h0 0 0 36 #[.val (.ref a), .val (.int (i32 f)), .val (.int (i32 t))] [(.int (i32 f)), (.int (2 : Int32))] := (k.iconst (2) dg_34 rfl).iloadN dg_35 rfl
        have k : Wg l Z n0 (QB (i32 (anyN ks f t)) h0) G s h0 0 0 39 #[.val (.ref a), .val (.int (i32 f)), .val (.int (i32 t))] [] := k.icF dg_36 (XT.ii_lt_f (own_nlt (a := 2) (b := f) (by omega) (by omega) (by omega)))
        have k : Wg l Z n0 (QB (i32 (anyN ks f t)) h0) G s h0 0 0 41 #[.val (.ref a), .val (.int (i32 f)), .val (.int (i32 t))] [(.int (i32 t)), (.int (2 : Int32))] := (k.iconst (2) dg_39 rfl).iloadN dg_40 rfl
        have k : Wg l Z n0 (QB (i32 (anyN ks f t)) h0) G s h0 0 0 44 #[.val (.ref a), .val (.int (i32 f)), .val (.int (i32 t))] [] := k.icF dg_41 (XT.ii_ge_f (own_lt (a := 2) (b := t) (by omega) (by omega) (by omega)))
        have k : Wg l Z n0 (QB (i32 (anyN ks f t)) h0) G s h0 0 0 46 #[.val (.ref a), .val (.int (i32 f)), .val (.int (i32 t))] [(.int (2 : Int32)), (.ref a)] := (k.aloadN dg_44 rfl rfl).iconst (2) dg_45 rfl
        have k : Wg l Z n0 (QB (i32 (anyN ks f t)) h0) G s h0 0 0 47 #[.val (.ref a), .val (.int (i32 f)), .val (.int (i32 t))] [(.int (i32 (gk ks 2)))] := k.ldI A (by decide) (own_get (p := 2) hk (by omega)) dg_46
        have k : Wg l Z n0 (QB (i32 (anyN ks f t)) h0) G s h0 0 0 48 #[.val (.ref a), .val (.int (i32 f)), .val (.int (i32 t))] [(.int (4 : Int32)), (.int (i32 (gk ks 2)))] := k.iconst (4) dg_47 rfl
        have k : Wg l Z n0 (QB (i32 (anyN ks f t)) h0) G s h0 0 0 68 #[.val (.ref a), .val (.int (i32 f)), .val (.int (i32 t))] [] := k.icT (pc' := 68) dg_48 (XT.ii_eq_t (congrArg i32 r3)) (by decide)
        have k : Wg l Z n0 (QB (i32 (anyN ks f t)) h0) G s h0 0 0 73 #[.val (.ref a), .val (.int (i32 f)), .val (.int (i32 t))] [(.int (1 : Int32))] := (k.iconst (1) dg_68 rfl).goto (pc' := 73) dg_69 (by decide)
        exact k.outZ (Or.inr rfl) dg_73 (by decide) (by decide) ⟨rfl, own_ans (show anyN ks f t = 1 from by unfold anyN; simp only [if_neg q0, if_neg q1,  if_pos (show any1 ks f t 2 from ⟨r1, r2, r3⟩)])⟩
      · have k : Wg l Z n0 (QB (i32 (anyN ks f t)) h0) G s h0 0 0 51 #[.val (.ref a), .val (.int (i32 f)), .val (.int (i32 t))] [] := by
          by_cases r1 : f ≤ 2
          · have k : Wg l Z n0 (QB (i32 (anyN ks f t)) h0) G s h0 0 0 36 #[.val (.ref a), .val (.int (i32 f)), .val (.int (i32 t))] [(.int (i32 f)), (.int (2 : Int32))] := (k.iconst (2) dg_34 rfl).iloadN dg_35 rfl
            have k : Wg l Z n0 (QB (i32 (anyN ks f t)) h0) G s h0 0 0 39 #[.val (.ref a), .val (.int (i32 f)), .val (.int (i32 t))] [] := k.icF dg_36 (XT.ii_lt_f (own_nlt (a := 2) (b := f) (by omega) (by omega) (by omega)))
            by_cases r2 : 2 < t
            · have k : Wg l Z n0 (QB (i32 (anyN ks f t)) h0) G s h0 0 0 41 #[.val (.ref a), .val (.int (i32 f)), .val (.int (i32 t))] [(.int (i32 t)), (.int (2 : Int32))] := (k.iconst (2) dg_39 rfl).iloadN dg_40 rfl
              have k : Wg l Z n0 (QB (i32 (anyN ks f t)) h0) G s h0 0 0 44 #[.val (.ref a), .val (.int (i32 f)), .val (.int (i32 t))] [] := k.icF dg_41 (XT.ii_ge_f (own_lt (a := 2) (b := t) (by omega) (by omega) (by omega)))
              have k : Wg l Z n0 (QB (i32 (anyN ks f t)) h0) G s h0 0 0 46 #[.val (.ref a), .val (.int (i32 f)), .val (.int (i32 t))] [(.int (2 : Int32)), (.ref a)] := (k.aloadN dg_44 rfl rfl).iconst (2) dg_45 rfl
              have k : Wg l Z n0 (QB (i32 (anyN ks f t)) h0) G s h0 0 0 47 #[.val (.ref a), .val (.int (i32 f)), .val (.int (i32 t))] [(.int (i32 (gk ks 2)))] := k.ldI A (by decide) (own_get (p := 2) hk (by omega)) dg_46
              have k : Wg l Z n0 (QB (i32 (anyN ks f t)) h0) G s h0 0 0 48 #[.val (.ref a), .val (.int (i32 f)), .val (.int (i32 t))] [(.int (4 : Int32)), (.int (i32 (gk ks 2)))] := k.iconst (4) dg_47 rfl
              have k : Wg l Z n0 (QB (i32 (anyN ks f t)) h0) G s h0 0 0 51 #[.val (.ref a), .val (.int (i32 f)), .val (.int (i32 t))] [] := k.icF dg_48 (XT.ii_eq_f (own_ne (b := 4) (own_gle hs) (by omega) (fun z => q2 ⟨r1, r2, z⟩)))
              exact k
            · have k : Wg l Z n0 (QB (i32 (anyN ks f t)) h0) G s h0 0 0 41 #[.val (.ref a), .val (.int (i32 f)), .val (.int (i32 t))] [(.int (i32 t)), (.int (2 : Int32))] := (k.iconst (2) dg_39 rfl).iloadN dg_40 rfl
              have k : Wg l Z n0 (QB (i32 (anyN ks f t)) h0) G s h0 0 0 51 #[.val (.ref a), .val (.int (i32 f)), .val (.int (i32 t))] [] := k.icT (pc' := 51) dg_41 (XT.ii_ge_t (own_nlt (a := 2) (b := t) (by omega) (by omega) r2)) (by decide)
              exact k
          · have k : Wg l Z n0 (QB (i32 (anyN ks f t)) h0) G s h0 0 0 36 #[.val (.ref a), .val (.int (i32 f)), .val (.int (i32 t))] [(.int (i32 f)), (.int (2 : Int32))] := (k.iconst (2) dg_34 rfl).iloadN dg_35 rfl
            have k : Wg l Z n0 (QB (i32 (anyN ks f t)) h0) G s h0 0 0 51 #[.val (.ref a), .val (.int (i32 f)), .val (.int (i32 t))] [] := k.icT (pc' := 51) dg_36 (XT.ii_lt_t (own_lt (a := 2) (b := f) (by omega) (by omega) (by omega))) (by decide)
            exact k
        by_cases q3 : any1 ks f t 3
        · obtain ⟨r1, r2, r3⟩ := q3
          have k : Wg l Z n0 (QB (i32 (anyN ks f t)) h0) G s h0 0 0 53 #[.val (.ref a), .val (.int (i32 f)), .val (.int (i32 t))] [(.int (i32 f)), (.int (3 : Int32))] := (k.iconst (3) dg_51 rfl).iloadN dg_52 rfl
          have k : Wg l Z n0 (QB (i32 (anyN ks f t)) h0) G s h0 0 0 56 #[.val (.ref a), .val (.int (i32 f)), .val (.int (i32 t))] [] := k.icF dg_53 (XT.ii_lt_f (own_nlt (a := 3) (b := f) (by omega) (by omega) (by omega)))
          have k : Wg l Z n0 (QB (i32 (anyN ks f t)) h0) G s h0 0 0 58 #[.val (.ref a), .val (.int (i32 f)), .val (.int (i32 t))] [(.int (i32 t)), (.int (3 : Int32))] := (k.iconst (3) dg_56 rfl).iloadN dg_57 rfl
          have k : Wg l Z n0 (QB (i32 (anyN ks f t)) h0) G s h0 0 0 61 #[.val (.ref a), .val (.int (i32 f)), .val (.int (i32 t))] [] := k.icF dg_58 (XT.ii_ge_f (own_lt (a := 3) (b := t) (by omega) (by omega) (by omega)))
          have k : Wg l Z n0 (QB (i32 (anyN ks f t)) h0) G s h0 0 0 63 #[.val (.ref a), .val (.int (i32 f)), .val (.int (i32 t))] [(.int (3 : Int32)), (.ref a)] := (k.aloadN dg_61 rfl rfl).iconst (3) dg_62 rfl
          have k : Wg l Z n0 (QB (i32 (anyN ks f t)) h0) G s h0 0 0 64 #[.val (.ref a), .val (.int (i32 f)), .val (.int (i32 t))] [(.int (i32 (gk ks 3)))] := k.ldI A (by decide) (own_get (p := 3) hk (by omega)) dg_63
          have k : Wg l Z n0 (QB (i32 (anyN ks f t)) h0) G s h0 0 0 65 #[.val (.ref a), .val (.int (i32 f)), .val (.int (i32 t))] [(.int (4 : Int32)), (.int (i32 (gk ks 3)))] := k.iconst (4) dg_64 rfl
          have k : Wg l Z n0 (QB (i32 (anyN ks f t)) h0) G s h0 0 0 68 #[.val (.ref a), .val (.int (i32 f)), .val (.int (i32 t))] [] := k.icF dg_65 (XT.ii_ne_f (congrArg i32 r3))
          have k : Wg l Z n0 (QB (i32 (anyN ks f t)) h0) G s h0 0 0 73 #[.val (.ref a), .val (.int (i32 f)), .val (.int (i32 t))] [(.int (1 : Int32))] := (k.iconst (1) dg_68 rfl).goto (pc' := 73) dg_69 (by decide)
          exact k.outZ (Or.inr rfl) dg_73 (by decide) (by decide) ⟨rfl, own_ans (show anyN ks f t = 1 from by unfold anyN; simp only [if_neg q0, if_neg q1, if_neg q2,  if_pos (show any1 ks f t 3 from ⟨r1, r2, r3⟩)])⟩
        · have k : Wg l Z n0 (QB (i32 (anyN ks f t)) h0) G s h0 0 0 72 #[.val (.ref a), .val (.int (i32 f)), .val (.int (i32 t))] [] := by
            by_cases r1 : f ≤ 3
            · have k : Wg l Z n0 (QB (i32 (anyN ks f t)) h0) G s h0 0 0 53 #[.val (.ref a), .val (.int (i32 f)), .val (.int (i32 t))] [(.int (i32 f)), (.int (3 : Int32))] := (k.iconst (3) dg_51 rfl).iloadN dg_52 rfl
              have k : Wg l Z n0 (QB (i32 (anyN ks f t)) h0) G s h0 0 0 56 #[.val (.ref a), .val (.int (i32 f)), .val (.int (i32 t))] [] := k.icF dg_53 (XT.ii_lt_f (own_nlt (a := 3) (b := f) (by omega) (by omega) (by omega)))
              by_cases r2 : 3 < t
              · have k : Wg l Z n0 (QB (i32 (anyN ks f t)) h0) G s h0 0 0 58 #[.val (.ref a), .val (.int (i32 f)), .val (.int (i32 t))] [(.int (i32 t)), (.int (3 : Int32))] := (k.iconst (3) dg_56 rfl).iloadN dg_57 rfl
                have k : Wg l Z n0 (QB (i32 (anyN ks f t)) h0) G s h0 0 0 61 #[.val (.ref a), .val (.int (i32 f)), .val (.int (i32 t))] [] := k.icF dg_58 (XT.ii_ge_f (own_lt (a := 3) (b := t) (by omega) (by omega) (by omega)))
                have k : Wg l Z n0 (QB (i32 (anyN ks f t)) h0) G s h0 0 0 63 #[.val (.ref a), .val (.int (i32 f)), .val (.int (i32 t))] [(.int (3 : Int32)), (.ref a)] := (k.aloadN dg_61 rfl rfl).iconst (3) dg_62 rfl
                have k : Wg l Z n0 (QB (i32 (anyN ks f t)) h0) G s h0 0 0 64 #[.val (.ref a), .val (.int (i32 f)), .val (.int (i32 t))] [(.int (i32 (gk ks 3)))] := k.ldI A (by decide) (own_get (p := 3) hk (by omega)) dg_63
                have k : Wg l Z n0 (QB (i32 (anyN ks f t)) h0) G s h0 0 0 65 #[.val (.ref a), .val (.int (i32 f)), .val (.int (i32 t))] [(.int (4 : Int32)), (.int (i32 (gk ks 3)))] := k.iconst (4) dg_64 rfl
                have k : Wg l Z n0 (QB (i32 (anyN ks f t)) h0) G s h0 0 0 72 #[.val (.ref a), .val (.int (i32 f)), .val (.int (i32 t))] [] := k.icT (pc' := 72) dg_65 (XT.ii_ne_t (own_ne (b := 4) (own_gle hs) (by omega) (fun z => q3 ⟨r1, r2, z⟩))) (by decide)
                exact k
              · have k : Wg l Z n0 (QB (i32 (anyN ks f t)) h0) G s h0 0 0 58 #[.val (.ref a), .val (.int (i32 f)), .val (.int (i32 t))] [(.int (i32 t)), (.int (3 : Int32))] := (k.iconst (3) dg_56 rfl).iloadN dg_57 rfl
                have k : Wg l Z n0 (QB (i32 (anyN ks f t)) h0) G s h0 0 0 72 #[.val (.ref a), .val (.int (i32 f)), .val (.int (i32 t))] [] := k.icT (pc' := 72) dg_58 (XT.ii_ge_t (own_nlt (a := 3) (b := t) (by omega) (by omega) r2)) (by decide)
                exact k
            · have k : Wg l Z n0 (QB (i32 (anyN ks f t)) h0) G s h0 0 0 53 #[.val (.ref a), .val (.int (i32 f)), .val (.int (i32 t))] [(.int (i32 f)), (.int (3 : Int32))] := (k.iconst (3) dg_51 rfl).iloadN dg_52 rfl
              have k : Wg l Z n0 (QB (i32 (anyN ks f t)) h0) G s h0 0 0 72 #[.val (.ref a), .val (.int (i32 f)), .val (.int (i32 t))] [] := k.icT (pc' := 72) dg_53 (XT.ii_lt_t (own_lt (a := 3) (b := f) (by omega) (by omega) (by omega))) (by decide)
              exact k
          have k : Wg l Z n0 (QB (i32 (anyN ks f t)) h0) G s h0 0 0 73 #[.val (.ref a), .val (.int (i32 f)), .val (.int (i32 t))] [(.int (0 : Int32))] := k.iconst (0) dg_72 rfl
          exact k.outZ (Or.inl rfl) dg_73 (by decide) (by decide) ⟨rfl, own_ans (show anyN ks f t = 0 from by unfold anyN; simp only [if_neg q0, if_neg q1, if_neg q2, if_neg q3])⟩
theorem dh_0 : decode method_8_code 0 = .ok (.aload_n 0, 1) := by decide +kernel
theorem dh_1 : decode method_8_code 1 = .ok (.iconst 0, 1) := by decide +kernel
theorem dh_2 : decode method_8_code 2 = .ok (.invokestatic 34, 3) := by decide +kernel
theorem dh_5 : decode method_8_code 5 = .ok (.istore_n 1, 1) := by decide +kernel
theorem dh_6 : decode method_8_code 6 = .ok (.aload_n 0, 1) := by decide +kernel
theorem dh_7 : decode method_8_code 7 = .ok (.iload_n 1, 1) := by decide +kernel
theorem dh_8 : decode method_8_code 8 = .ok (.iaload, 1) := by decide +kernel
theorem dh_9 : decode method_8_code 9 = .ok (.bipush 6, 2) := by decide +kernel
theorem dh_11 : decode method_8_code 11 = .ok (.if_icmp .ne 5, 3) := by decide +kernel
theorem dh_14 : decode method_8_code 14 = .ok (.iconst 1, 1) := by decide +kernel
theorem dh_15 : decode method_8_code 15 = .ok (.ireturn, 1) := by decide +kernel
theorem dh_16 : decode method_8_code 16 = .ok (.aload_n 0, 1) := by decide +kernel
theorem dh_17 : decode method_8_code 17 = .ok (.iload_n 1, 1) := by decide +kernel
theorem dh_18 : decode method_8_code 18 = .ok (.iaload, 1) := by decide +kernel
theorem dh_19 : decode method_8_code 19 = .ok (.iconst 1, 1) := by decide +kernel
theorem dh_20 : decode method_8_code 20 = .ok (.if_icmp .ne 9, 3) := by decide +kernel
theorem dh_23 : decode method_8_code 23 = .ok (.iload_n 1, 1) := by decide +kernel
theorem dh_24 : decode method_8_code 24 = .ok (.iconst 1, 1) := by decide +kernel
theorem dh_25 : decode method_8_code 25 = .ok (.iadd, 1) := by decide +kernel
theorem dh_26 : decode method_8_code 26 = .ok (.goto 4, 3) := by decide +kernel
theorem dh_29 : decode method_8_code 29 = .ok (.iload_n 1, 1) := by decide +kernel
theorem dh_30 : decode method_8_code 30 = .ok (.istore_n 2, 1) := by decide +kernel
theorem dh_31 : decode method_8_code 31 = .ok (.aload_n 0, 1) := by decide +kernel
theorem dh_32 : decode method_8_code 32 = .ok (.iload_n 2, 1) := by decide +kernel
theorem dh_33 : decode method_8_code 33 = .ok (.iaload, 1) := by decide +kernel
theorem dh_34 : decode method_8_code 34 = .ok (.istore_n 3, 1) := by decide +kernel
theorem dh_35 : decode method_8_code 35 = .ok (.iload_n 3, 1) := by decide +kernel
theorem dh_36 : decode method_8_code 36 = .ok (.iconst 2, 1) := by decide +kernel
theorem dh_37 : decode method_8_code 37 = .ok (.if_icmp .eq 15, 3) := by decide +kernel
theorem dh_40 : decode method_8_code 40 = .ok (.iload_n 3, 1) := by decide +kernel
theorem dh_41 : decode method_8_code 41 = .ok (.iconst 3, 1) := by decide +kernel
theorem dh_42 : decode method_8_code 42 = .ok (.if_icmp .eq 10, 3) := by decide +kernel
theorem dh_45 : decode method_8_code 45 = .ok (.iload_n 3, 1) := by decide +kernel
theorem dh_46 : decode method_8_code 46 = .ok (.iconst 4, 1) := by decide +kernel
theorem dh_47 : decode method_8_code 47 = .ok (.if_icmp .eq 5, 3) := by decide +kernel
theorem dh_50 : decode method_8_code 50 = .ok (.iconst 0, 1) := by decide +kernel
theorem dh_51 : decode method_8_code 51 = .ok (.ireturn, 1) := by decide +kernel
theorem dh_52 : decode method_8_code 52 = .ok (.aload_n 0, 1) := by decide +kernel
theorem dh_53 : decode method_8_code 53 = .ok (.iload_n 2, 1) := by decide +kernel
theorem dh_54 : decode method_8_code 54 = .ok (.invokestatic 38, 3) := by decide +kernel
theorem dh_57 : decode method_8_code 57 = .ok (.istore 4, 2) := by decide +kernel
theorem dh_59 : decode method_8_code 59 = .ok (.aload_n 0, 1) := by decide +kernel
theorem dh_60 : decode method_8_code 60 = .ok (.iload 4, 2) := by decide +kernel
theorem dh_62 : decode method_8_code 62 = .ok (.iaload, 1) := by decide +kernel
theorem dh_63 : decode method_8_code 63 = .ok (.iconst 2, 1) := by decide +kernel
theorem dh_64 : decode method_8_code 64 = .ok (.if_icmp .ne 14, 3) := by decide +kernel
theorem dh_67 : decode method_8_code 67 = .ok (.aload_n 0, 1) := by decide +kernel
theorem dh_68 : decode method_8_code 68 = .ok (.iload 4, 2) := by decide +kernel
theorem dh_70 : decode method_8_code 70 = .ok (.iconst 1, 1) := by decide +kernel
theorem dh_71 : decode method_8_code 71 = .ok (.iadd, 1) := by decide +kernel
theorem dh_72 : decode method_8_code 72 = .ok (.invokestatic 38, 3) := by decide +kernel
theorem dh_75 : decode method_8_code 75 = .ok (.goto 5, 3) := by decide +kernel
theorem dh_78 : decode method_8_code 78 = .ok (.iload 4, 2) := by decide +kernel
theorem dh_80 : decode method_8_code 80 = .ok (.istore 5, 2) := by decide +kernel
theorem dh_82 : decode method_8_code 82 = .ok (.aload_n 0, 1) := by decide +kernel
theorem dh_83 : decode method_8_code 83 = .ok (.iload 5, 2) := by decide +kernel
theorem dh_85 : decode method_8_code 85 = .ok (.iaload, 1) := by decide +kernel
theorem dh_86 : decode method_8_code 86 = .ok (.bipush 6, 2) := by decide +kernel
theorem dh_88 : decode method_8_code 88 = .ok (.if_icmp .ne 19, 3) := by decide +kernel
theorem dh_91 : decode method_8_code 91 = .ok (.aload_n 0, 1) := by decide +kernel
theorem dh_92 : decode method_8_code 92 = .ok (.iload_n 2, 1) := by decide +kernel
theorem dh_93 : decode method_8_code 93 = .ok (.iload 5, 2) := by decide +kernel
theorem dh_95 : decode method_8_code 95 = .ok (.invokestatic 41, 3) := by decide +kernel
theorem dh_98 : decode method_8_code 98 = .ok (.ifCond .eq 7, 3) := by decide +kernel
theorem dh_101 : decode method_8_code 101 = .ok (.iconst 0, 1) := by decide +kernel
theorem dh_102 : decode method_8_code 102 = .ok (.goto 4, 3) := by decide +kernel
theorem dh_105 : decode method_8_code 105 = .ok (.iconst 3, 1) := by decide +kernel
theorem dh_106 : decode method_8_code 106 = .ok (.ireturn, 1) := by decide +kernel
theorem dh_107 : decode method_8_code 107 = .ok (.aload_n 0, 1) := by decide +kernel
theorem dh_108 : decode method_8_code 108 = .ok (.iload 5, 2) := by decide +kernel
theorem dh_110 : decode method_8_code 110 = .ok (.iaload, 1) := by decide +kernel
theorem dh_111 : decode method_8_code 111 = .ok (.ifCond .ne 22, 3) := by decide +kernel
theorem dh_114 : decode method_8_code 114 = .ok (.aload_n 0, 1) := by decide +kernel
theorem dh_115 : decode method_8_code 115 = .ok (.aload_n 0, 1) := by decide +kernel
theorem dh_116 : decode method_8_code 116 = .ok (.iload 5, 2) := by decide +kernel
theorem dh_118 : decode method_8_code 118 = .ok (.invokestatic 34, 3) := by decide +kernel
theorem dh_121 : decode method_8_code 121 = .ok (.iaload, 1) := by decide +kernel
theorem dh_122 : decode method_8_code 122 = .ok (.bipush 6, 2) := by decide +kernel
theorem dh_124 : decode method_8_code 124 = .ok (.if_icmp .ne 7, 3) := by decide +kernel
theorem dh_127 : decode method_8_code 127 = .ok (.iconst 1, 1) := by decide +kernel
theorem dh_128 : decode method_8_code 128 = .ok (.goto 4, 3) := by decide +kernel
theorem dh_131 : decode method_8_code 131 = .ok (.iconst 0, 1) := by decide +kernel
theorem dh_132 : decode method_8_code 132 = .ok (.ireturn, 1) := by decide +kernel
theorem dh_133 : decode method_8_code 133 = .ok (.iconst 0, 1) := by decide +kernel
theorem dh_134 : decode method_8_code 134 = .ok (.ireturn, 1) := by decide +kernel
theorem pnh : plainFor (⟨"com/example/caddisfly/caddisfly/NumeralSteadyInPinLaw", "expected", "([I)I"⟩ : MethodName) = true := plainFor_of_name (show plainName "com/example/caddisfly/caddisfly/NumeralSteadyInPinLaw" = true by first | (simp [plainName, overriddenIn]; done) | decide +kernel)
theorem pdh : parseMethodDescriptor "([I)I" = some ⟨[(.array .int)], some .int⟩ := by decide +kernel
abbrev Wh (l : Launch) (Z : State) (n0 : Nat) (P : Option Value → Heap → Prop) (G : Prop) (s : State) := Wk l Z ({ frames := 1, cells := 0, slots := 0, locals := 20 } : Room) (⟨"com/example/caddisfly/caddisfly/NumeralSteadyInPinLaw", "expected", "([I)I"⟩ : MethodName) method_8_code 6 (some .int) n0 (Ex s ({ frames := 1, cells := 0, slots := 0, locals := 20 } : Room) n0 P G) s
set_option maxRecDepth 65536 in
set_option maxHeartbeats 40000000 in
theorem conh (l : Launch) (Z : State) (a0 : Array Value) (hw : ∀ d ∈ tables_1, d.before a0 Z = true) (a : Nat) (ks : List Nat) (hk : ks.length = 5) (hs : ∀ d ∈ ks, d ≤ 6) (h6 : gk ks 4 = 6) (h0 : Heap) (n0 : Nat) (A : AV Z h0 a .int (vk ks)) : Con l Z (⟨"com/example/caddisfly/caddisfly/NumeralSteadyInPinLaw", "expected", "([I)I"⟩ : MethodName) method_8_code 6 (some .int) ({ frames := 1, cells := 0, slots := 0, locals := 20 } : Room) #[.ref a] h0 n0 (QB (i32 (expN ks)) h0) := by
  refine Con.of pnh (Ls := #[.val (.ref a), .unset, .unset, .unset, .unset, .unset]) (fun m => by first | (simp [entryFrame, mkF, argsToLocals, Value.category]; done) | rfl) ?_
  intro G s k
  have bi : iN ks ≤ 4 := own_skw (by omega)
  have k : Wh l Z n0 (QB (i32 (expN ks)) h0) G s h0 0 0 2 #[.val (.ref a), .unset, .unset, .unset, .unset, .unset] [(.int (0 : Int32)), (.ref a)] := (k.aloadN dh_0 rfl rfl).iconst (0) dh_1 rfl
  obtain ⟨v23, h23, ⟨rfl, rfl⟩, k⟩ := k.callS (hw _ (List.mem_of_getElem? (i := 9) rfl)) (hw _ (List.mem_of_getElem? (i := 10) rfl)) (hw _ (List.mem_of_getElem? (i := 3) rfl)) (hw _ (List.mem_of_getElem? (i := 11) rfl)) (by decide) (cone l Z a0 hw a ks hk hs 0 (by omega) h0 n0 A) (argsL := [(.ref a), (.int (0 : Int32))]) (rest := []) (lenOf pde rfl) dh_2 rfl rfl 0 (Nat.le_of_eq rfl) (by decide) (by decide) (by decide) (by decide)
  have k : Wh l Z n0 (QB (i32 (expN ks)) h0) G s h0 0 0 5 #[.val (.ref a), .unset, .unset, .unset, .unset, .unset] [(.int (i32 (iN ks)))] := k
  have k : Wh l Z n0 (QB (i32 (expN ks)) h0) G s h0 0 0 8 #[.val (.ref a), .val (.int (i32 (iN ks))), .unset, .unset, .unset, .unset] [(.int (i32 (iN ks))), (.ref a)] := ((k.istoreN dh_5 (Ls' := #[.val (.ref a), .val (.int (i32 (iN ks))), .unset, .unset, .unset, .unset]) rfl).aloadN dh_6 rfl rfl).iloadN dh_7 rfl
  have k : Wh l Z n0 (QB (i32 (expN ks)) h0) G s h0 0 0 9 #[.val (.ref a), .val (.int (i32 (iN ks))), .unset, .unset, .unset, .unset] [(.int (i32 (gk ks (iN ks))))] := k.ldI A (own_nn (a := (iN ks)) (by omega)) (own_get hk bi) dh_8
  have k : Wh l Z n0 (QB (i32 (expN ks)) h0) G s h0 0 0 11 #[.val (.ref a), .val (.int (i32 (iN ks))), .unset, .unset, .unset, .unset] [(.int (6 : Int32)), (.int (i32 (gk ks (iN ks))))] := k.bipush (6) dh_9 rfl
  by_cases x1 : gk ks (iN ks) = 6
  · have k : Wh l Z n0 (QB (i32 (expN ks)) h0) G s h0 0 0 14 #[.val (.ref a), .val (.int (i32 (iN ks))), .unset, .unset, .unset, .unset] [] := k.icF dh_11 (XT.ii_ne_f (congrArg i32 x1))
    have k : Wh l Z n0 (QB (i32 (expN ks)) h0) G s h0 0 0 15 #[.val (.ref a), .val (.int (i32 (iN ks))), .unset, .unset, .unset, .unset] [(.int (1 : Int32))] := k.iconst (1) dh_14 rfl
    exact k.outI dh_15 (by decide) (by decide) ⟨rfl, own_ans (show expN ks = 1 from by unfold expN; rw [if_pos x1])⟩
  · have k : Wh l Z n0 (QB (i32 (expN ks)) h0) G s h0 0 0 16 #[.val (.ref a), .val (.int (i32 (iN ks))), .unset, .unset, .unset, .unset] [] := k.icT (pc' := 16) dh_11 (XT.ii_ne_t (own_ne (b := 6) (own_gle hs) (by omega) x1)) (by decide)
    have bi3 : iN ks ≤ 3 := by rcases Nat.lt_or_ge (iN ks) 4 with q | q; exact Nat.le_of_lt_succ q; exact absurd (by rw [show iN ks = 4 by omega]; exact h6) x1
    have bj : jN ks ≤ 4 := by unfold jN; split <;> omega
    have k : Wh l Z n0 (QB (i32 (expN ks)) h0) G s h0 0 0 18 #[.val (.ref a), .val (.int (i32 (iN ks))), .unset, .unset, .unset, .unset] [(.int (i32 (iN ks))), (.ref a)] := (k.aloadN dh_16 rfl rfl).iloadN dh_17 rfl
    have k : Wh l Z n0 (QB (i32 (expN ks)) h0) G s h0 0 0 19 #[.val (.ref a), .val (.int (i32 (iN ks))), .unset, .unset, .unset, .unset] [(.int (i32 (gk ks (iN ks))))] := k.ldI A (own_nn (a := (iN ks)) (by omega)) (own_get hk bi) dh_18
    have k : Wh l Z n0 (QB (i32 (expN ks)) h0) G s h0 0 0 20 #[.val (.ref a), .val (.int (i32 (iN ks))), .unset, .unset, .unset, .unset] [(.int (1 : Int32)), (.int (i32 (gk ks (iN ks))))] := k.iconst (1) dh_19 rfl
    have k : Wh l Z n0 (QB (i32 (expN ks)) h0) G s h0 0 0 30 #[.val (.ref a), .val (.int (i32 (iN ks))), .unset, .unset, .unset, .unset] [(.int (i32 (jN ks)))] := by
      by_cases x2 : gk ks (iN ks) = 1
      · have k : Wh l Z n0 (QB (i32 (expN ks)) h0) G s h0 0 0 23 #[.val (.ref a), .val (.int (i32 (iN ks))), .unset, .unset, .unset, .unset] [] := k.icF dh_20 (XT.ii_ne_f (congrArg i32 x2))
        have k : Wh l Z n0 (QB (i32 (expN ks)) h0) G s h0 0 0 30 #[.val (.ref a), .val (.int (i32 (iN ks))), .unset, .unset, .unset, .unset] [(.int ((i32 (iN ks)) + (1 : Int32)))] := (((k.iloadN dh_23 rfl).iconst (1) dh_24 rfl).iadd dh_25).goto (pc' := 30) dh_26 (by decide)
        rw [own_succ] at k; rw [show jN ks = iN ks + 1 from if_pos x2]; exact k
      · have k : Wh l Z n0 (QB (i32 (expN ks)) h0) G s h0 0 0 29 #[.val (.ref a), .val (.int (i32 (iN ks))), .unset, .unset, .unset, .unset] [] := k.icT (pc' := 29) dh_20 (XT.ii_ne_t (own_ne (b := 1) (own_gle hs) (by omega) x2)) (by decide)
        have k : Wh l Z n0 (QB (i32 (expN ks)) h0) G s h0 0 0 30 #[.val (.ref a), .val (.int (i32 (iN ks))), .unset, .unset, .unset, .unset] [(.int (i32 (iN ks)))] := k.iloadN dh_29 rfl
        rw [show jN ks = iN ks from if_neg x2]; exact k
    have k : Wh l Z n0 (QB (i32 (expN ks)) h0) G s h0 0 0 33 #[.val (.ref a), .val (.int (i32 (iN ks))), .val (.int (i32 (jN ks))), .unset, .unset, .unset] [(.int (i32 (jN ks))), (.ref a)] := ((k.istoreN dh_30 (Ls' := #[.val (.ref a), .val (.int (i32 (iN ks))), .val (.int (i32 (jN ks))), .unset, .unset, .unset]) rfl).aloadN dh_31 rfl rfl).iloadN dh_32 rfl
    have k : Wh l Z n0 (QB (i32 (expN ks)) h0) G s h0 0 0 34 #[.val (.ref a), .val (.int (i32 (iN ks))), .val (.int (i32 (jN ks))), .unset, .unset, .unset] [(.int (i32 (gk ks (jN ks))))] := k.ldI A (own_nn (a := (jN ks)) (by omega)) (own_get hk bj) dh_33
    have k : Wh l Z n0 (QB (i32 (expN ks)) h0) G s h0 0 0 37 #[.val (.ref a), .val (.int (i32 (iN ks))), .val (.int (i32 (jN ks))), .val (.int (i32 (gk ks (jN ks)))), .unset, .unset] [(.int (2 : Int32)), (.int (i32 (gk ks (jN ks))))] := ((k.istoreN dh_34 (Ls' := #[.val (.ref a), .val (.int (i32 (iN ks))), .val (.int (i32 (jN ks))), .val (.int (i32 (gk ks (jN ks)))), .unset, .unset]) rfl).iloadN dh_35 rfl).iconst (2) dh_36 rfl
    by_cases x3 : gk ks (jN ks) = 2 ∨ gk ks (jN ks) = 3 ∨ gk ks (jN ks) = 4
    · have bm : mN ks ≤ 4 := own_skd bj
      have k : Wh l Z n0 (QB (i32 (expN ks)) h0) G s h0 0 0 52 #[.val (.ref a), .val (.int (i32 (iN ks))), .val (.int (i32 (jN ks))), .val (.int (i32 (gk ks (jN ks)))), .unset, .unset] [] := by
        rcases x3 with q | q | q
        · have k : Wh l Z n0 (QB (i32 (expN ks)) h0) G s h0 0 0 52 #[.val (.ref a), .val (.int (i32 (iN ks))), .val (.int (i32 (jN ks))), .val (.int (i32 (gk ks (jN ks)))), .unset, .unset] [] := k.icT (pc' := 52) dh_37 (XT.ii_eq_t (congrArg i32 q)) (by decide)
          exact k
        · have k : Wh l Z n0 (QB (i32 (expN ks)) h0) G s h0 0 0 40 #[.val (.ref a), .val (.int (i32 (iN ks))), .val (.int (i32 (jN ks))), .val (.int (i32 (gk ks (jN ks)))), .unset, .unset] [] := k.icF dh_37 (XT.ii_eq_f (own_ne (b := 2) (own_gle hs) (by omega) (by omega)))
          have k : Wh l Z n0 (QB (i32 (expN ks)) h0) G s h0 0 0 42 #[.val (.ref a), .val (.int (i32 (iN ks))), .val (.int (i32 (jN ks))), .val (.int (i32 (gk ks (jN ks)))), .unset, .unset] [(.int (3 : Int32)), (.int (i32 (gk ks (jN ks))))] := (k.iloadN dh_40 rfl).iconst (3) dh_41 rfl
          have k : Wh l Z n0 (QB (i32 (expN ks)) h0) G s h0 0 0 52 #[.val (.ref a), .val (.int (i32 (iN ks))), .val (.int (i32 (jN ks))), .val (.int (i32 (gk ks (jN ks)))), .unset, .unset] [] := k.icT (pc' := 52) dh_42 (XT.ii_eq_t (congrArg i32 q)) (by decide)
          exact k
        · have k : Wh l Z n0 (QB (i32 (expN ks)) h0) G s h0 0 0 40 #[.val (.ref a), .val (.int (i32 (iN ks))), .val (.int (i32 (jN ks))), .val (.int (i32 (gk ks (jN ks)))), .unset, .unset] [] := k.icF dh_37 (XT.ii_eq_f (own_ne (b := 2) (own_gle hs) (by omega) (by omega)))
          have k : Wh l Z n0 (QB (i32 (expN ks)) h0) G s h0 0 0 42 #[.val (.ref a), .val (.int (i32 (iN ks))), .val (.int (i32 (jN ks))), .val (.int (i32 (gk ks (jN ks)))), .unset, .unset] [(.int (3 : Int32)), (.int (i32 (gk ks (jN ks))))] := (k.iloadN dh_40 rfl).iconst (3) dh_41 rfl
          have k : Wh l Z n0 (QB (i32 (expN ks)) h0) G s h0 0 0 45 #[.val (.ref a), .val (.int (i32 (iN ks))), .val (.int (i32 (jN ks))), .val (.int (i32 (gk ks (jN ks)))), .unset, .unset] [] := k.icF dh_42 (XT.ii_eq_f (own_ne (b := 3) (own_gle hs) (by omega) (by omega)))
          have k : Wh l Z n0 (QB (i32 (expN ks)) h0) G s h0 0 0 47 #[.val (.ref a), .val (.int (i32 (iN ks))), .val (.int (i32 (jN ks))), .val (.int (i32 (gk ks (jN ks)))), .unset, .unset] [(.int (4 : Int32)), (.int (i32 (gk ks (jN ks))))] := (k.iloadN dh_45 rfl).iconst (4) dh_46 rfl
          have k : Wh l Z n0 (QB (i32 (expN ks)) h0) G s h0 0 0 52 #[.val (.ref a), .val (.int (i32 (iN ks))), .val (.int (i32 (jN ks))), .val (.int (i32 (gk ks (jN ks)))), .unset, .unset] [] := k.icT (pc' := 52) dh_47 (XT.ii_eq_t (congrArg i32 q)) (by decide)
          exact k
      have k : Wh l Z n0 (QB (i32 (expN ks)) h0) G s h0 0 0 54 #[.val (.ref a), .val (.int (i32 (iN ks))), .val (.int (i32 (jN ks))), .val (.int (i32 (gk ks (jN ks)))), .unset, .unset] [(.int (i32 (jN ks))), (.ref a)] := (k.aloadN dh_52 rfl rfl).iloadN dh_53 rfl
      obtain ⟨v24, h24, ⟨rfl, rfl⟩, k⟩ := k.callS (hw _ (List.mem_of_getElem? (i := 32) rfl)) (hw _ (List.mem_of_getElem? (i := 33) rfl)) (hw _ (List.mem_of_getElem? (i := 3) rfl)) (hw _ (List.mem_of_getElem? (i := 34) rfl)) (by decide) (conf l Z a0 hw a ks hk hs (jN ks) bj h0 n0 A) (argsL := [(.ref a), (.int (i32 (jN ks)))]) (rest := []) (lenOf pdf rfl) dh_54 rfl rfl 0 (Nat.le_of_eq rfl) (by decide) (by decide) (by decide) (by decide)
      have k : Wh l Z n0 (QB (i32 (expN ks)) h0) G s h0 0 0 57 #[.val (.ref a), .val (.int (i32 (iN ks))), .val (.int (i32 (jN ks))), .val (.int (i32 (gk ks (jN ks)))), .unset, .unset] [(.int (i32 (mN ks)))] := k
      have k : Wh l Z n0 (QB (i32 (expN ks)) h0) G s h0 0 0 62 #[.val (.ref a), .val (.int (i32 (iN ks))), .val (.int (i32 (jN ks))), .val (.int (i32 (gk ks (jN ks)))), .val (.int (i32 (mN ks))), .unset] [(.int (i32 (mN ks))), (.ref a)] := ((k.istore dh_57 (Ls' := #[.val (.ref a), .val (.int (i32 (iN ks))), .val (.int (i32 (jN ks))), .val (.int (i32 (gk ks (jN ks)))), .val (.int (i32 (mN ks))), .unset]) rfl).aloadN dh_59 rfl rfl).iload dh_60 rfl
      have k : Wh l Z n0 (QB (i32 (expN ks)) h0) G s h0 0 0 63 #[.val (.ref a), .val (.int (i32 (iN ks))), .val (.int (i32 (jN ks))), .val (.int (i32 (gk ks (jN ks)))), .val (.int (i32 (mN ks))), .unset] [(.int (i32 (gk ks (mN ks))))] := k.ldI A (own_nn (a := (mN ks)) (by omega)) (own_get hk bm) dh_62
      have k : Wh l Z n0 (QB (i32 (expN ks)) h0) G s h0 0 0 64 #[.val (.ref a), .val (.int (i32 (iN ks))), .val (.int (i32 (jN ks))), .val (.int (i32 (gk ks (jN ks)))), .val (.int (i32 (mN ks))), .unset] [(.int (2 : Int32)), (.int (i32 (gk ks (mN ks))))] := k.iconst (2) dh_63 rfl
      have k : Wh l Z n0 (QB (i32 (expN ks)) h0) G s h0 0 0 80 #[.val (.ref a), .val (.int (i32 (iN ks))), .val (.int (i32 (jN ks))), .val (.int (i32 (gk ks (jN ks)))), .val (.int (i32 (mN ks))), .unset] [(.int (i32 (eN ks)))] := by
        by_cases x4 : gk ks (mN ks) = 2
        · have k : Wh l Z n0 (QB (i32 (expN ks)) h0) G s h0 0 0 67 #[.val (.ref a), .val (.int (i32 (iN ks))), .val (.int (i32 (jN ks))), .val (.int (i32 (gk ks (jN ks)))), .val (.int (i32 (mN ks))), .unset] [] := k.icF dh_64 (XT.ii_ne_f (congrArg i32 x4))
          have bm3 : mN ks ≤ 3 := by rcases Nat.lt_or_ge (mN ks) 4 with q | q; exact Nat.le_of_lt_succ q; exact absurd x4 (by rw [show mN ks = 4 by omega, h6]; decide)
          have k : Wh l Z n0 (QB (i32 (expN ks)) h0) G s h0 0 0 72 #[.val (.ref a), .val (.int (i32 (iN ks))), .val (.int (i32 (jN ks))), .val (.int (i32 (gk ks (jN ks)))), .val (.int (i32 (mN ks))), .unset] [(.int ((i32 (mN ks)) + (1 : Int32))), (.ref a)] := (((k.aloadN dh_67 rfl rfl).iload dh_68 rfl).iconst (1) dh_70 rfl).iadd dh_71
          rw [own_succ] at k
          obtain ⟨v25, h25, ⟨rfl, rfl⟩, k⟩ := k.callS (hw _ (List.mem_of_getElem? (i := 32) rfl)) (hw _ (List.mem_of_getElem? (i := 33) rfl)) (hw _ (List.mem_of_getElem? (i := 3) rfl)) (hw _ (List.mem_of_getElem? (i := 34) rfl)) (by decide) (conf l Z a0 hw a ks hk hs (mN ks + 1) (by omega) h0 n0 A) (argsL := [(.ref a), (.int (i32 (mN ks + 1)))]) (rest := []) (lenOf pdf rfl) dh_72 rfl rfl 0 (Nat.le_of_eq rfl) (by decide) (by decide) (by decide) (by decide)
          have k : Wh l Z n0 (QB (i32 (expN ks)) h0) G s h0 0 0 75 #[.val (.ref a), .val (.int (i32 (iN ks))), .val (.int (i32 (jN ks))), .val (.int (i32 (gk ks (jN ks)))), .val (.int (i32 (mN ks))), .unset] [(.int (i32 (skipDgN ks (mN ks + 1))))] := k
          have k : Wh l Z n0 (QB (i32 (expN ks)) h0) G s h0 0 0 80 #[.val (.ref a), .val (.int (i32 (iN ks))), .val (.int (i32 (jN ks))), .val (.int (i32 (gk ks (jN ks)))), .val (.int (i32 (mN ks))), .unset] [(.int (i32 (skipDgN ks (mN ks + 1))))] := k.goto (pc' := 80) dh_75 (by decide)
          rw [show eN ks = skipDgN ks (mN ks + 1) from if_pos x4]; exact k
        · have k : Wh l Z n0 (QB (i32 (expN ks)) h0) G s h0 0 0 78 #[.val (.ref a), .val (.int (i32 (iN ks))), .val (.int (i32 (jN ks))), .val (.int (i32 (gk ks (jN ks)))), .val (.int (i32 (mN ks))), .unset] [] := k.icT (pc' := 78) dh_64 (XT.ii_ne_t (own_ne (b := 2) (own_gle hs) (by omega) x4)) (by decide)
          have k : Wh l Z n0 (QB (i32 (expN ks)) h0) G s h0 0 0 80 #[.val (.ref a), .val (.int (i32 (iN ks))), .val (.int (i32 (jN ks))), .val (.int (i32 (gk ks (jN ks)))), .val (.int (i32 (mN ks))), .unset] [(.int (i32 (mN ks)))] := k.iload dh_78 rfl
          rw [show eN ks = mN ks from if_neg x4]; exact k
      have be : eN ks ≤ 4 := by
        unfold eN; split
        · rename_i q
          have : mN ks ≤ 3 := by rcases Nat.lt_or_ge (mN ks) 4 with u | u; exact Nat.le_of_lt_succ u; exact absurd q (by rw [show mN ks = 4 by omega, h6]; decide)
          exact own_skd (by omega)
        · exact bm
      have k : Wh l Z n0 (QB (i32 (expN ks)) h0) G s h0 0 0 85 #[.val (.ref a), .val (.int (i32 (iN ks))), .val (.int (i32 (jN ks))), .val (.int (i32 (gk ks (jN ks)))), .val (.int (i32 (mN ks))), .val (.int (i32 (eN ks)))] [(.int (i32 (eN ks))), (.ref a)] := ((k.istore dh_80 (Ls' := #[.val (.ref a), .val (.int (i32 (iN ks))), .val (.int (i32 (jN ks))), .val (.int (i32 (gk ks (jN ks)))), .val (.int (i32 (mN ks))), .val (.int (i32 (eN ks)))]) rfl).aloadN dh_82 rfl rfl).iload dh_83 rfl
      have k : Wh l Z n0 (QB (i32 (expN ks)) h0) G s h0 0 0 86 #[.val (.ref a), .val (.int (i32 (iN ks))), .val (.int (i32 (jN ks))), .val (.int (i32 (gk ks (jN ks)))), .val (.int (i32 (mN ks))), .val (.int (i32 (eN ks)))] [(.int (i32 (gk ks (eN ks))))] := k.ldI A (own_nn (a := (eN ks)) (by omega)) (own_get hk be) dh_85
      have k : Wh l Z n0 (QB (i32 (expN ks)) h0) G s h0 0 0 88 #[.val (.ref a), .val (.int (i32 (iN ks))), .val (.int (i32 (jN ks))), .val (.int (i32 (gk ks (jN ks)))), .val (.int (i32 (mN ks))), .val (.int (i32 (eN ks)))] [(.int (6 : Int32)), (.int (i32 (gk ks (eN ks))))] := k.bipush (6) dh_86 rfl
      by_cases x5 : gk ks (eN ks) = 6
      · have k : Wh l Z n0 (QB (i32 (expN ks)) h0) G s h0 0 0 91 #[.val (.ref a), .val (.int (i32 (iN ks))), .val (.int (i32 (jN ks))), .val (.int (i32 (gk ks (jN ks)))), .val (.int (i32 (mN ks))), .val (.int (i32 (eN ks)))] [] := k.icF dh_88 (XT.ii_ne_f (congrArg i32 x5))
        have k : Wh l Z n0 (QB (i32 (expN ks)) h0) G s h0 0 0 95 #[.val (.ref a), .val (.int (i32 (iN ks))), .val (.int (i32 (jN ks))), .val (.int (i32 (gk ks (jN ks)))), .val (.int (i32 (mN ks))), .val (.int (i32 (eN ks)))] [(.int (i32 (eN ks))), (.int (i32 (jN ks))), (.ref a)] := ((k.aloadN dh_91 rfl rfl).iloadN dh_92 rfl).iload dh_93 rfl
        obtain ⟨v26, h26, ⟨rfl, rfl⟩, k⟩ := k.callS (hw _ (List.mem_of_getElem? (i := 35) rfl)) (hw _ (List.mem_of_getElem? (i := 36) rfl)) (hw _ (List.mem_of_getElem? (i := 3) rfl)) (hw _ (List.mem_of_getElem? (i := 37) rfl)) (by decide) (cong l Z a0 hw a ks hk hs (jN ks) (eN ks) bj be h0 n0 A) (argsL := [(.ref a), (.int (i32 (jN ks))), (.int (i32 (eN ks)))]) (rest := []) (lenOf pdg rfl) dh_95 rfl rfl 0 (Nat.le_of_eq rfl) (by decide) (by decide) (by decide) (by decide)
        have k : Wh l Z n0 (QB (i32 (expN ks)) h0) G s h0 0 0 98 #[.val (.ref a), .val (.int (i32 (iN ks))), .val (.int (i32 (jN ks))), .val (.int (i32 (gk ks (jN ks)))), .val (.int (i32 (mN ks))), .val (.int (i32 (eN ks)))] [(.int (i32 (anyN ks (jN ks) (eN ks))))] := k
        by_cases x6 : anyN ks (jN ks) (eN ks) = 0
        · have k : Wh l Z n0 (QB (i32 (expN ks)) h0) G s h0 0 0 105 #[.val (.ref a), .val (.int (i32 (iN ks))), .val (.int (i32 (jN ks))), .val (.int (i32 (gk ks (jN ks)))), .val (.int (i32 (mN ks))), .val (.int (i32 (eN ks)))] [] := k.ifT (pc' := 105) dh_98 (XT.i0_eq_t (congrArg i32 x6)) (by decide)
          have k : Wh l Z n0 (QB (i32 (expN ks)) h0) G s h0 0 0 106 #[.val (.ref a), .val (.int (i32 (iN ks))), .val (.int (i32 (jN ks))), .val (.int (i32 (gk ks (jN ks)))), .val (.int (i32 (mN ks))), .val (.int (i32 (eN ks)))] [(.int (3 : Int32))] := k.iconst (3) dh_105 rfl
          exact k.outI dh_106 (by decide) (by decide) ⟨rfl, own_ans (show expN ks = 3 from by unfold expN; rw [if_neg x1, if_neg (fun z => z x3), if_pos x5, if_pos x6])⟩
        · have k : Wh l Z n0 (QB (i32 (expN ks)) h0) G s h0 0 0 101 #[.val (.ref a), .val (.int (i32 (iN ks))), .val (.int (i32 (jN ks))), .val (.int (i32 (gk ks (jN ks)))), .val (.int (i32 (mN ks))), .val (.int (i32 (eN ks)))] [] := k.ifF dh_98 (XT.i0_eq_f (own_ne (b := 0) own_any (by omega) x6))
          have k : Wh l Z n0 (QB (i32 (expN ks)) h0) G s h0 0 0 106 #[.val (.ref a), .val (.int (i32 (iN ks))), .val (.int (i32 (jN ks))), .val (.int (i32 (gk ks (jN ks)))), .val (.int (i32 (mN ks))), .val (.int (i32 (eN ks)))] [(.int (0 : Int32))] := (k.iconst (0) dh_101 rfl).goto (pc' := 106) dh_102 (by decide)
          exact k.outI dh_106 (by decide) (by decide) ⟨rfl, own_ans (show expN ks = 0 from by unfold expN; rw [if_neg x1, if_neg (fun z => z x3), if_pos x5, if_neg x6])⟩
      · have k : Wh l Z n0 (QB (i32 (expN ks)) h0) G s h0 0 0 107 #[.val (.ref a), .val (.int (i32 (iN ks))), .val (.int (i32 (jN ks))), .val (.int (i32 (gk ks (jN ks)))), .val (.int (i32 (mN ks))), .val (.int (i32 (eN ks)))] [] := k.icT (pc' := 107) dh_88 (XT.ii_ne_t (own_ne (b := 6) (own_gle hs) (by omega) x5)) (by decide)
        have k : Wh l Z n0 (QB (i32 (expN ks)) h0) G s h0 0 0 110 #[.val (.ref a), .val (.int (i32 (iN ks))), .val (.int (i32 (jN ks))), .val (.int (i32 (gk ks (jN ks)))), .val (.int (i32 (mN ks))), .val (.int (i32 (eN ks)))] [(.int (i32 (eN ks))), (.ref a)] := (k.aloadN dh_107 rfl rfl).iload dh_108 rfl
        have k : Wh l Z n0 (QB (i32 (expN ks)) h0) G s h0 0 0 111 #[.val (.ref a), .val (.int (i32 (iN ks))), .val (.int (i32 (jN ks))), .val (.int (i32 (gk ks (jN ks)))), .val (.int (i32 (mN ks))), .val (.int (i32 (eN ks)))] [(.int (i32 (gk ks (eN ks))))] := k.ldI A (own_nn (a := (eN ks)) (by omega)) (own_get hk be) dh_110
        by_cases x7 : gk ks (eN ks) = 0
        · have k : Wh l Z n0 (QB (i32 (expN ks)) h0) G s h0 0 0 114 #[.val (.ref a), .val (.int (i32 (iN ks))), .val (.int (i32 (jN ks))), .val (.int (i32 (gk ks (jN ks)))), .val (.int (i32 (mN ks))), .val (.int (i32 (eN ks)))] [] := k.ifF dh_111 (XT.i0_ne_f (congrArg i32 x7))
          have k : Wh l Z n0 (QB (i32 (expN ks)) h0) G s h0 0 0 118 #[.val (.ref a), .val (.int (i32 (iN ks))), .val (.int (i32 (jN ks))), .val (.int (i32 (gk ks (jN ks)))), .val (.int (i32 (mN ks))), .val (.int (i32 (eN ks)))] [(.int (i32 (eN ks))), (.ref a), (.ref a)] := ((k.aloadN dh_114 rfl rfl).aloadN dh_115 rfl rfl).iload dh_116 rfl
          have bs : skipWsN ks (eN ks) ≤ 4 := own_skw be
          obtain ⟨v27, h27, ⟨rfl, rfl⟩, k⟩ := k.callS (hw _ (List.mem_of_getElem? (i := 9) rfl)) (hw _ (List.mem_of_getElem? (i := 10) rfl)) (hw _ (List.mem_of_getElem? (i := 3) rfl)) (hw _ (List.mem_of_getElem? (i := 11) rfl)) (by decide) (cone l Z a0 hw a ks hk hs (eN ks) be h0 n0 A) (argsL := [(.ref a), (.int (i32 (eN ks)))]) (rest := [(.ref a)]) (lenOf pde rfl) dh_118 rfl rfl 1 (Nat.le_of_eq rfl) (by decide) (by decide) (by decide) (by decide)
          have k : Wh l Z n0 (QB (i32 (expN ks)) h0) G s h0 0 0 121 #[.val (.ref a), .val (.int (i32 (iN ks))), .val (.int (i32 (jN ks))), .val (.int (i32 (gk ks (jN ks)))), .val (.int (i32 (mN ks))), .val (.int (i32 (eN ks)))] [(.int (i32 (skipWsN ks (eN ks)))), (.ref a)] := k
          have k : Wh l Z n0 (QB (i32 (expN ks)) h0) G s h0 0 0 122 #[.val (.ref a), .val (.int (i32 (iN ks))), .val (.int (i32 (jN ks))), .val (.int (i32 (gk ks (jN ks)))), .val (.int (i32 (mN ks))), .val (.int (i32 (eN ks)))] [(.int (i32 (gk ks (skipWsN ks (eN ks)))))] := k.ldI A (own_nn (a := (skipWsN ks (eN ks))) (by omega)) (own_get hk bs) dh_121
          have k : Wh l Z n0 (QB (i32 (expN ks)) h0) G s h0 0 0 124 #[.val (.ref a), .val (.int (i32 (iN ks))), .val (.int (i32 (jN ks))), .val (.int (i32 (gk ks (jN ks)))), .val (.int (i32 (mN ks))), .val (.int (i32 (eN ks)))] [(.int (6 : Int32)), (.int (i32 (gk ks (skipWsN ks (eN ks)))))] := k.bipush (6) dh_122 rfl
          by_cases x8 : gk ks (skipWsN ks (eN ks)) = 6
          · have k : Wh l Z n0 (QB (i32 (expN ks)) h0) G s h0 0 0 127 #[.val (.ref a), .val (.int (i32 (iN ks))), .val (.int (i32 (jN ks))), .val (.int (i32 (gk ks (jN ks)))), .val (.int (i32 (mN ks))), .val (.int (i32 (eN ks)))] [] := k.icF dh_124 (XT.ii_ne_f (congrArg i32 x8))
            have k : Wh l Z n0 (QB (i32 (expN ks)) h0) G s h0 0 0 132 #[.val (.ref a), .val (.int (i32 (iN ks))), .val (.int (i32 (jN ks))), .val (.int (i32 (gk ks (jN ks)))), .val (.int (i32 (mN ks))), .val (.int (i32 (eN ks)))] [(.int (1 : Int32))] := (k.iconst (1) dh_127 rfl).goto (pc' := 132) dh_128 (by decide)
            exact k.outI dh_132 (by decide) (by decide) ⟨rfl, own_ans (show expN ks = 1 from by unfold expN; rw [if_neg x1, if_neg (fun z => z x3), if_neg x5, if_pos x7, if_pos x8])⟩
          · have k : Wh l Z n0 (QB (i32 (expN ks)) h0) G s h0 0 0 131 #[.val (.ref a), .val (.int (i32 (iN ks))), .val (.int (i32 (jN ks))), .val (.int (i32 (gk ks (jN ks)))), .val (.int (i32 (mN ks))), .val (.int (i32 (eN ks)))] [] := k.icT (pc' := 131) dh_124 (XT.ii_ne_t (own_ne (b := 6) (own_gle hs) (by omega) x8)) (by decide)
            have k : Wh l Z n0 (QB (i32 (expN ks)) h0) G s h0 0 0 132 #[.val (.ref a), .val (.int (i32 (iN ks))), .val (.int (i32 (jN ks))), .val (.int (i32 (gk ks (jN ks)))), .val (.int (i32 (mN ks))), .val (.int (i32 (eN ks)))] [(.int (0 : Int32))] := k.iconst (0) dh_131 rfl
            exact k.outI dh_132 (by decide) (by decide) ⟨rfl, own_ans (show expN ks = 0 from by unfold expN; rw [if_neg x1, if_neg (fun z => z x3), if_neg x5, if_pos x7, if_neg x8])⟩
        · have k : Wh l Z n0 (QB (i32 (expN ks)) h0) G s h0 0 0 133 #[.val (.ref a), .val (.int (i32 (iN ks))), .val (.int (i32 (jN ks))), .val (.int (i32 (gk ks (jN ks)))), .val (.int (i32 (mN ks))), .val (.int (i32 (eN ks)))] [] := k.ifT (pc' := 133) dh_111 (XT.i0_ne_t (own_ne (b := 0) (own_gle hs) (by omega) x7)) (by decide)
          have k : Wh l Z n0 (QB (i32 (expN ks)) h0) G s h0 0 0 134 #[.val (.ref a), .val (.int (i32 (iN ks))), .val (.int (i32 (jN ks))), .val (.int (i32 (gk ks (jN ks)))), .val (.int (i32 (mN ks))), .val (.int (i32 (eN ks)))] [(.int (0 : Int32))] := k.iconst (0) dh_133 rfl
          exact k.outI dh_134 (by decide) (by decide) ⟨rfl, own_ans (show expN ks = 0 from by unfold expN; rw [if_neg x1, if_neg (fun z => z x3), if_neg x5, if_neg x7])⟩
    · have k : Wh l Z n0 (QB (i32 (expN ks)) h0) G s h0 0 0 40 #[.val (.ref a), .val (.int (i32 (iN ks))), .val (.int (i32 (jN ks))), .val (.int (i32 (gk ks (jN ks)))), .unset, .unset] [] := k.icF dh_37 (XT.ii_eq_f (own_ne (b := 2) (own_gle hs) (by omega) (fun q => x3 (Or.inl q))))
      have k : Wh l Z n0 (QB (i32 (expN ks)) h0) G s h0 0 0 42 #[.val (.ref a), .val (.int (i32 (iN ks))), .val (.int (i32 (jN ks))), .val (.int (i32 (gk ks (jN ks)))), .unset, .unset] [(.int (3 : Int32)), (.int (i32 (gk ks (jN ks))))] := (k.iloadN dh_40 rfl).iconst (3) dh_41 rfl
      have k : Wh l Z n0 (QB (i32 (expN ks)) h0) G s h0 0 0 45 #[.val (.ref a), .val (.int (i32 (iN ks))), .val (.int (i32 (jN ks))), .val (.int (i32 (gk ks (jN ks)))), .unset, .unset] [] := k.icF dh_42 (XT.ii_eq_f (own_ne (b := 3) (own_gle hs) (by omega) (fun q => x3 (Or.inr (Or.inl q)))))
      have k : Wh l Z n0 (QB (i32 (expN ks)) h0) G s h0 0 0 47 #[.val (.ref a), .val (.int (i32 (iN ks))), .val (.int (i32 (jN ks))), .val (.int (i32 (gk ks (jN ks)))), .unset, .unset] [(.int (4 : Int32)), (.int (i32 (gk ks (jN ks))))] := (k.iloadN dh_45 rfl).iconst (4) dh_46 rfl
      have k : Wh l Z n0 (QB (i32 (expN ks)) h0) G s h0 0 0 50 #[.val (.ref a), .val (.int (i32 (iN ks))), .val (.int (i32 (jN ks))), .val (.int (i32 (gk ks (jN ks)))), .unset, .unset] [] := k.icF dh_47 (XT.ii_eq_f (own_ne (b := 4) (own_gle hs) (by omega) (fun q => x3 (Or.inr (Or.inr q)))))
      have k : Wh l Z n0 (QB (i32 (expN ks)) h0) G s h0 0 0 51 #[.val (.ref a), .val (.int (i32 (iN ks))), .val (.int (i32 (jN ks))), .val (.int (i32 (gk ks (jN ks)))), .unset, .unset] [(.int (0 : Int32))] := k.iconst (0) dh_50 rfl
      exact k.outI dh_51 (by decide) (by decide) ⟨rfl, own_ans (show expN ks = 0 from by unfold expN; rw [if_neg x1, if_pos x3])⟩
def NS (Z : State) (h : Heap) (p : Nat) (st sg : Nat) : Prop := Exa Z h p "com/example/caddisfly/caddisfly/XpathNumbers$Numeral" ∧ Fld Z h p "com/example/caddisfly/caddisfly/XpathNumbers$Numeral" "stage" "I" (.int (i32 st)) ∧ Fld Z h p "com/example/caddisfly/caddisfly/XpathNumbers$Numeral" "significant" "I" (.int (i32 sg)) ∧ (∃ v, Fld Z h p "com/example/caddisfly/caddisfly/XpathNumbers$Numeral" "exponent" "J" (.long v)) ∧ (∃ v, Fld Z h p "com/example/caddisfly/caddisfly/XpathNumbers$Numeral" "leading" "J" (.long v)) ∧ (∃ v, Fld Z h p "com/example/caddisfly/caddisfly/XpathNumbers$Numeral" "anyDigit" "Z" (.int v)) ∧ ∃ v, Fld Z h p "com/example/caddisfly/caddisfly/XpathNumbers$Numeral" "negative" "Z" (.int v)
abbrev QN (Z : State) (p : Nat) (st sg : Nat) (h0 : Heap) : Option Value → Heap → Prop := fun v h => v = none ∧ Keep h0 h [p] ∧ NS Z h p st sg
theorem di_0 : decode prog_160_method_1_code 0 = .ok (.aload_n 0, 1) := by decide +kernel
theorem di_1 : decode prog_160_method_1_code 1 = .ok (.invokespecial 3, 3) := by decide +kernel
theorem di_4 : decode prog_160_method_1_code 4 = .ok (.aload_n 0, 1) := by decide +kernel
theorem di_5 : decode prog_160_method_1_code 5 = .ok (.iconst 0, 1) := by decide +kernel
theorem di_6 : decode prog_160_method_1_code 6 = .ok (.putfield 11, 3) := by decide +kernel
theorem di_9 : decode prog_160_method_1_code 9 = .ok (.return_, 1) := by decide +kernel
theorem pni : plainFor (⟨"com/example/caddisfly/caddisfly/XpathNumbers$Numeral", "<init>", "()V"⟩ : MethodName) = true := plainFor_of_name (show plainName "com/example/caddisfly/caddisfly/XpathNumbers$Numeral" = true by first | (simp [plainName, overriddenIn]; done) | decide +kernel)
theorem pdi : parseMethodDescriptor "()V" = some ⟨[], none⟩ := by decide +kernel
abbrev Wi (l : Launch) (Z : State) (n0 : Nat) (P : Option Value → Heap → Prop) (G : Prop) (s : State) := Wk l Z ({ frames := 1, cells := 0, slots := 0, locals := 12 } : Room) (⟨"com/example/caddisfly/caddisfly/XpathNumbers$Numeral", "<init>", "()V"⟩ : MethodName) prog_160_method_1_code 1 none n0 (Ex s ({ frames := 1, cells := 0, slots := 0, locals := 12 } : Room) n0 P G) s
set_option maxRecDepth 65536 in
set_option maxHeartbeats 40000000 in
theorem coni (l : Launch) (Z : State) (a0 : Array Value) (hw : ∀ d ∈ tables_1, d.before a0 Z = true) (p : Nat) (h0 : Heap) (n0 : Nat) (s_h0 : n0 ≤ h0.size) (n_p : n0 ≤ p) (N : NS Z h0 p 0 0) : Con l Z (⟨"com/example/caddisfly/caddisfly/XpathNumbers$Numeral", "<init>", "()V"⟩ : MethodName) prog_160_method_1_code 1 none ({ frames := 1, cells := 0, slots := 0, locals := 12 } : Room) #[.ref p] h0 n0 (QN Z p 0 0 h0) := by
  refine Con.of pni (Ls := #[.val (.ref p)]) (fun m => by first | (simp [entryFrame, mkF, argsToLocals, Value.category]; done) | rfl) ?_
  intro G s k
  obtain ⟨E, F1, F2, ⟨ex, F3⟩, ⟨ld, F4⟩, ⟨ad, F5⟩, ⟨ng, F6⟩⟩ := N
  have KK : Keep h0 h0 [p] := Keep.refl _ _
  have sk := KK.1
  have k : Wi l Z n0 (QN Z p 0 0 h0) G s h0 0 0 1 #[.val (.ref p)] [(.ref p)] := k.aloadN di_0 rfl rfl
  have k : Wi l Z n0 (QN Z p 0 0 h0) G s h0 0 0 4 #[.val (.ref p)] [] := k.initO (hw _ (List.mem_of_getElem? (i := 18) rfl)) (hw _ (List.mem_of_getElem? (i := 19) rfl)) (hw _ (List.mem_of_getElem? (i := 20) rfl)) di_1 rfl (by decide) 0 (Nat.le_of_eq rfl) (by decide)
  have k : Wi l Z n0 (QN Z p 0 0 h0) G s h0 0 0 6 #[.val (.ref p)] [(.int (0 : Int32)), (.ref p)] := (k.aloadN di_4 rfl rfl).iconst (0) di_5 rfl
  obtain ⟨h28, W28, K28, F1', E', k⟩ := k.putF (ty := .int) (hw _ (List.mem_of_getElem? (i := 21) rfl)) F1 E (Or.inl (hw _ (List.mem_of_getElem? (i := 22) rfl))) (hw _ (List.mem_of_getElem? (i := 13) rfl)) (by decide) rfl rfl n_p di_6
  have F2 := Fld.other W28 F2 (Or.inr (slot_ne (C := "com/example/caddisfly/caddisfly/XpathNumbers$Numeral") (Or.inl (hw _ (List.mem_of_getElem? (i := 61) rfl))) (Or.inl (hw _ (List.mem_of_getElem? (i := 22) rfl))) (by decide) (t := .int) (t' := .int) (by decide) (by decide)))
  have F3 := Fld.other W28 F3 (Or.inr (slot_ne (C := "com/example/caddisfly/caddisfly/XpathNumbers$Numeral") (Or.inl (hw _ (List.mem_of_getElem? (i := 63) rfl))) (Or.inl (hw _ (List.mem_of_getElem? (i := 22) rfl))) (by decide) (t := .long) (t' := .int) (by decide) (by decide)))
  have F4 := Fld.other W28 F4 (Or.inr (slot_ne (C := "com/example/caddisfly/caddisfly/XpathNumbers$Numeral") (Or.inl (hw _ (List.mem_of_getElem? (i := 65) rfl))) (Or.inl (hw _ (List.mem_of_getElem? (i := 22) rfl))) (by decide) (t := .long) (t' := .int) (by decide) (by decide)))
  have F5 := Fld.other W28 F5 (Or.inr (slot_ne (C := "com/example/caddisfly/caddisfly/XpathNumbers$Numeral") (Or.inl (hw _ (List.mem_of_getElem? (i := 59) rfl))) (Or.inl (hw _ (List.mem_of_getElem? (i := 22) rfl))) (by decide) (t := .boolean) (t' := .int) (by decide) (by decide)))
  have F6 := Fld.other W28 F6 (Or.inr (slot_ne (C := "com/example/caddisfly/caddisfly/XpathNumbers$Numeral") (Or.inl (hw _ (List.mem_of_getElem? (i := 68) rfl))) (Or.inl (hw _ (List.mem_of_getElem? (i := 22) rfl))) (by decide) (t := .boolean) (t' := .int) (by decide) (by decide)))
  have KK : Keep h0 _ [p] := KK.trans K28 (allS (Or.inl (by simp)) all0)
  have sk := KK.1
  have F1 := F1'
  have E := E'
  have s_h28 : n0 ≤ h28.size := Nat.le_trans (by omega) K28.1
  have k : Wi l Z n0 (QN Z p 0 0 h0) G s h28 0 0 9 #[.val (.ref p)] [] := k
  exact k.outN di_9 (by decide) (by decide) ⟨rfl, KK, ⟨E, F1, F2, ⟨_, F3⟩, ⟨_, F4⟩, ⟨_, F5⟩, ⟨_, F6⟩⟩⟩
theorem dj_0 : decode prog_160_method_5_code 0 = .ok (.aload_n 0, 1) := by decide +kernel
theorem dj_1 : decode prog_160_method_5_code 1 = .ok (.iconst 1, 1) := by decide +kernel
theorem dj_2 : decode prog_160_method_5_code 2 = .ok (.putfield 19, 3) := by decide +kernel
theorem dj_5 : decode prog_160_method_5_code 5 = .ok (.aload_n 0, 1) := by decide +kernel
theorem dj_6 : decode prog_160_method_5_code 6 = .ok (.getfield 22, 3) := by decide +kernel
theorem dj_9 : decode prog_160_method_5_code 9 = .ok (.ifCond .ne 30, 3) := by decide +kernel
theorem dj_12 : decode prog_160_method_5_code 12 = .ok (.iload_n 1, 1) := by decide +kernel
theorem dj_13 : decode prog_160_method_5_code 13 = .ok (.bipush 48, 2) := by decide +kernel
theorem dj_15 : decode prog_160_method_5_code 15 = .ok (.if_icmp .ne 24, 3) := by decide +kernel
theorem dj_18 : decode prog_160_method_5_code 18 = .ok (.aload_n 0, 1) := by decide +kernel
theorem dj_19 : decode prog_160_method_5_code 19 = .ok (.dup, 1) := by decide +kernel
theorem dj_20 : decode prog_160_method_5_code 20 = .ok (.getfield 39, 3) := by decide +kernel
theorem dj_23 : decode prog_160_method_5_code 23 = .ok (.iload_n 2, 1) := by decide +kernel
theorem dj_24 : decode prog_160_method_5_code 24 = .ok (.ifCond .eq 7, 3) := by decide +kernel
theorem dj_27 : decode prog_160_method_5_code 27 = .ok (.lconst 1, 1) := by decide +kernel
theorem dj_28 : decode prog_160_method_5_code 28 = .ok (.goto 4, 3) := by decide +kernel
theorem dj_31 : decode prog_160_method_5_code 31 = .ok (.lconst 0, 1) := by decide +kernel
theorem dj_32 : decode prog_160_method_5_code 32 = .ok (.lsub, 1) := by decide +kernel
theorem dj_33 : decode prog_160_method_5_code 33 = .ok (.putfield 39, 3) := by decide +kernel
theorem dj_36 : decode prog_160_method_5_code 36 = .ok (.goto 139, 3) := by decide +kernel
theorem dj_39 : decode prog_160_method_5_code 39 = .ok (.aload_n 0, 1) := by decide +kernel
theorem dj_40 : decode prog_160_method_5_code 40 = .ok (.getfield 22, 3) := by decide +kernel
theorem dj_43 : decode prog_160_method_5_code 43 = .ok (.sipush 800, 3) := by decide +kernel
theorem dj_46 : decode prog_160_method_5_code 46 = .ok (.if_icmp .ge 91, 3) := by decide +kernel
theorem dj_49 : decode prog_160_method_5_code 49 = .ok (.aload_n 0, 1) := by decide +kernel
theorem dj_50 : decode prog_160_method_5_code 50 = .ok (.getfield 22, 3) := by decide +kernel
theorem dj_53 : decode prog_160_method_5_code 53 = .ok (.bipush 18, 2) := by decide +kernel
theorem dj_55 : decode prog_160_method_5_code 55 = .ok (.if_icmp .ge 24, 3) := by decide +kernel
theorem dj_58 : decode prog_160_method_5_code 58 = .ok (.aload_n 0, 1) := by decide +kernel
theorem dj_59 : decode prog_160_method_5_code 59 = .ok (.aload_n 0, 1) := by decide +kernel
theorem dj_60 : decode prog_160_method_5_code 60 = .ok (.getfield 25, 3) := by decide +kernel
theorem dj_63 : decode prog_160_method_5_code 63 = .ok (.ldc2_w 60, 3) := by decide +kernel
theorem dj_66 : decode prog_160_method_5_code 66 = .ok (.lmul, 1) := by decide +kernel
theorem dj_67 : decode prog_160_method_5_code 67 = .ok (.iload_n 1, 1) := by decide +kernel
theorem dj_68 : decode prog_160_method_5_code 68 = .ok (.bipush 48, 2) := by decide +kernel
theorem dj_70 : decode prog_160_method_5_code 70 = .ok (.isub, 1) := by decide +kernel
theorem dj_71 : decode prog_160_method_5_code 71 = .ok (.i2l, 1) := by decide +kernel
theorem dj_72 : decode prog_160_method_5_code 72 = .ok (.ladd, 1) := by decide +kernel
theorem dj_73 : decode prog_160_method_5_code 73 = .ok (.putfield 25, 3) := by decide +kernel
theorem dj_76 : decode prog_160_method_5_code 76 = .ok (.goto 30, 3) := by decide +kernel
theorem dj_106 : decode prog_160_method_5_code 106 = .ok (.aload_n 0, 1) := by decide +kernel
theorem dj_107 : decode prog_160_method_5_code 107 = .ok (.dup, 1) := by decide +kernel
theorem dj_108 : decode prog_160_method_5_code 108 = .ok (.getfield 22, 3) := by decide +kernel
theorem dj_111 : decode prog_160_method_5_code 111 = .ok (.iconst 1, 1) := by decide +kernel
theorem dj_112 : decode prog_160_method_5_code 112 = .ok (.iadd, 1) := by decide +kernel
theorem dj_113 : decode prog_160_method_5_code 113 = .ok (.putfield 22, 3) := by decide +kernel
theorem dj_116 : decode prog_160_method_5_code 116 = .ok (.aload_n 0, 1) := by decide +kernel
theorem dj_117 : decode prog_160_method_5_code 117 = .ok (.dup, 1) := by decide +kernel
theorem dj_118 : decode prog_160_method_5_code 118 = .ok (.getfield 39, 3) := by decide +kernel
theorem dj_121 : decode prog_160_method_5_code 121 = .ok (.iload_n 2, 1) := by decide +kernel
theorem dj_122 : decode prog_160_method_5_code 122 = .ok (.ifCond .eq 7, 3) := by decide +kernel
theorem dj_125 : decode prog_160_method_5_code 125 = .ok (.lconst 1, 1) := by decide +kernel
theorem dj_126 : decode prog_160_method_5_code 126 = .ok (.goto 4, 3) := by decide +kernel
theorem dj_129 : decode prog_160_method_5_code 129 = .ok (.lconst 0, 1) := by decide +kernel
theorem dj_130 : decode prog_160_method_5_code 130 = .ok (.lsub, 1) := by decide +kernel
theorem dj_131 : decode prog_160_method_5_code 131 = .ok (.putfield 39, 3) := by decide +kernel
theorem dj_134 : decode prog_160_method_5_code 134 = .ok (.goto 41, 3) := by decide +kernel
theorem dj_175 : decode prog_160_method_5_code 175 = .ok (.return_, 1) := by decide +kernel
theorem pnj : plainFor (⟨"com/example/caddisfly/caddisfly/XpathNumbers$Numeral", "addDigit", "(CZ)V"⟩ : MethodName) = true := plainFor_of_name (show plainName "com/example/caddisfly/caddisfly/XpathNumbers$Numeral" = true by first | (simp [plainName, overriddenIn]; done) | decide +kernel)
theorem pdj : parseMethodDescriptor "(CZ)V" = some ⟨[.char, .boolean], none⟩ := by decide +kernel
abbrev Wj (l : Launch) (Z : State) (n0 : Nat) (P : Option Value → Heap → Prop) (G : Prop) (s : State) := Wk l Z ({ frames := 0, cells := 0, slots := 0, locals := 0 } : Room) (⟨"com/example/caddisfly/caddisfly/XpathNumbers$Numeral", "addDigit", "(CZ)V"⟩ : MethodName) prog_160_method_5_code 3 none n0 (Ex s ({ frames := 0, cells := 0, slots := 0, locals := 0 } : Room) n0 P G) s
set_option maxRecDepth 65536 in
set_option maxHeartbeats 40000000 in
theorem conjA0 (l : Launch) (Z : State) (a0 : Array Value) (hw : ∀ d ∈ tables_1, d.before a0 Z = true) (p : Nat) (st : Nat) (h0 : Heap) (n0 : Nat) (s_h0 : n0 ≤ h0.size) (n_p : n0 ≤ p) (N : NS Z h0 p st 0) : Con l Z (⟨"com/example/caddisfly/caddisfly/XpathNumbers$Numeral", "addDigit", "(CZ)V"⟩ : MethodName) prog_160_method_5_code 3 none ({ frames := 0, cells := 0, slots := 0, locals := 0 } : Room) #[.ref p, .int (48 : Int32), .int (0 : Int32)] h0 n0 (QN Z p st 0 h0) := by
  refine Con.of pnj (Ls := #[.val (.ref p), .val (.int (48 : Int32)), .val (.int (0 : Int32))]) (fun m => by first | (simp [entryFrame, mkF, argsToLocals, Value.category]; done) | rfl) ?_
  intro G s k
  obtain ⟨E, F1, F2, ⟨ex, F3⟩, ⟨ld, F4⟩, ⟨ad, F5⟩, ⟨ng, F6⟩⟩ := N
  have KK : Keep h0 h0 [p] := Keep.refl _ _
  have sk := KK.1
  have k : Wj l Z n0 (QN Z p st 0 h0) G s h0 0 0 2 #[.val (.ref p), .val (.int (48 : Int32)), .val (.int (0 : Int32))] [(.int (1 : Int32)), (.ref p)] := (k.aloadN dj_0 rfl rfl).iconst (1) dj_1 rfl
  obtain ⟨h29, W29, K29, F5', E', k⟩ := k.putF (ty := .boolean) (hw _ (List.mem_of_getElem? (i := 58) rfl)) F5 E (Or.inl (hw _ (List.mem_of_getElem? (i := 59) rfl))) (hw _ (List.mem_of_getElem? (i := 13) rfl)) (by decide) rfl rfl n_p dj_2
  have F1 := Fld.other W29 F1 (Or.inr (slot_ne (C := "com/example/caddisfly/caddisfly/XpathNumbers$Numeral") (Or.inl (hw _ (List.mem_of_getElem? (i := 22) rfl))) (Or.inl (hw _ (List.mem_of_getElem? (i := 59) rfl))) (by decide) (t := .int) (t' := .boolean) (by decide) (by decide)))
  have F2 := Fld.other W29 F2 (Or.inr (slot_ne (C := "com/example/caddisfly/caddisfly/XpathNumbers$Numeral") (Or.inl (hw _ (List.mem_of_getElem? (i := 61) rfl))) (Or.inl (hw _ (List.mem_of_getElem? (i := 59) rfl))) (by decide) (t := .int) (t' := .boolean) (by decide) (by decide)))
  have F3 := Fld.other W29 F3 (Or.inr (slot_ne (C := "com/example/caddisfly/caddisfly/XpathNumbers$Numeral") (Or.inl (hw _ (List.mem_of_getElem? (i := 63) rfl))) (Or.inl (hw _ (List.mem_of_getElem? (i := 59) rfl))) (by decide) (t := .long) (t' := .boolean) (by decide) (by decide)))
  have F4 := Fld.other W29 F4 (Or.inr (slot_ne (C := "com/example/caddisfly/caddisfly/XpathNumbers$Numeral") (Or.inl (hw _ (List.mem_of_getElem? (i := 65) rfl))) (Or.inl (hw _ (List.mem_of_getElem? (i := 59) rfl))) (by decide) (t := .long) (t' := .boolean) (by decide) (by decide)))
  have F6 := Fld.other W29 F6 (Or.inr (slot_ne (C := "com/example/caddisfly/caddisfly/XpathNumbers$Numeral") (Or.inl (hw _ (List.mem_of_getElem? (i := 68) rfl))) (Or.inl (hw _ (List.mem_of_getElem? (i := 59) rfl))) (by decide) (t := .boolean) (t' := .boolean) (by decide) (by decide)))
  have KK : Keep h0 _ [p] := KK.trans K29 (allS (Or.inl (by simp)) all0)
  have sk := KK.1
  have F5 := F5'
  have E := E'
  have s_h29 : n0 ≤ h29.size := Nat.le_trans (by omega) K29.1
  have k : Wj l Z n0 (QN Z p st 0 h0) G s h29 0 0 5 #[.val (.ref p), .val (.int (48 : Int32)), .val (.int (0 : Int32))] [] := k
  have k : Wj l Z n0 (QN Z p st 0 h0) G s h29 0 0 12 #[.val (.ref p), .val (.int (48 : Int32)), .val (.int (0 : Int32))] [] := ((k.aloadN dj_5 rfl rfl).getF (hw _ (List.mem_of_getElem? (i := 60) rfl)) F2 dj_6).ifF dj_9 (XT.i0_ne_f (by decide))
  have k : Wj l Z n0 (QN Z p st 0 h0) G s h29 0 0 18 #[.val (.ref p), .val (.int (48 : Int32)), .val (.int (0 : Int32))] [] := ((k.iloadN dj_12 rfl).bipush (48) dj_13 rfl).icF dj_15 (XT.ii_ne_f (by decide))
  have k : Wj l Z n0 (QN Z p st 0 h0) G s h29 0 0 31 #[.val (.ref p), .val (.int (48 : Int32)), .val (.int (0 : Int32))] [(.long ex), (.ref p)] := ((((k.aloadN dj_18 rfl rfl).dup dj_19 rfl).getF (hw _ (List.mem_of_getElem? (i := 62) rfl)) F3 dj_20).iloadN dj_23 rfl).ifT (pc' := 31) dj_24 (XT.i0_eq_t (by decide)) (by decide)
  have k : Wj l Z n0 (QN Z p st 0 h0) G s h29 0 0 33 #[.val (.ref p), .val (.int (48 : Int32)), .val (.int (0 : Int32))] [(.long (ex - (0 : Int64))), (.ref p)] := (k.lconst (0) dj_31 rfl).lsub dj_32
  obtain ⟨h30, W30, K30, F3', E', k⟩ := k.putF (ty := .long) (hw _ (List.mem_of_getElem? (i := 62) rfl)) F3 E (Or.inl (hw _ (List.mem_of_getElem? (i := 63) rfl))) (hw _ (List.mem_of_getElem? (i := 13) rfl)) (by decide) rfl rfl n_p dj_33
  have F1 := Fld.other W30 F1 (Or.inr (slot_ne (C := "com/example/caddisfly/caddisfly/XpathNumbers$Numeral") (Or.inl (hw _ (List.mem_of_getElem? (i := 22) rfl))) (Or.inl (hw _ (List.mem_of_getElem? (i := 63) rfl))) (by decide) (t := .int) (t' := .long) (by decide) (by decide)))
  have F2 := Fld.other W30 F2 (Or.inr (slot_ne (C := "com/example/caddisfly/caddisfly/XpathNumbers$Numeral") (Or.inl (hw _ (List.mem_of_getElem? (i := 61) rfl))) (Or.inl (hw _ (List.mem_of_getElem? (i := 63) rfl))) (by decide) (t := .int) (t' := .long) (by decide) (by decide)))
  have F4 := Fld.other W30 F4 (Or.inr (slot_ne (C := "com/example/caddisfly/caddisfly/XpathNumbers$Numeral") (Or.inl (hw _ (List.mem_of_getElem? (i := 65) rfl))) (Or.inl (hw _ (List.mem_of_getElem? (i := 63) rfl))) (by decide) (t := .long) (t' := .long) (by decide) (by decide)))
  have F5 := Fld.other W30 F5 (Or.inr (slot_ne (C := "com/example/caddisfly/caddisfly/XpathNumbers$Numeral") (Or.inl (hw _ (List.mem_of_getElem? (i := 59) rfl))) (Or.inl (hw _ (List.mem_of_getElem? (i := 63) rfl))) (by decide) (t := .boolean) (t' := .long) (by decide) (by decide)))
  have F6 := Fld.other W30 F6 (Or.inr (slot_ne (C := "com/example/caddisfly/caddisfly/XpathNumbers$Numeral") (Or.inl (hw _ (List.mem_of_getElem? (i := 68) rfl))) (Or.inl (hw _ (List.mem_of_getElem? (i := 63) rfl))) (by decide) (t := .boolean) (t' := .long) (by decide) (by decide)))
  have KK : Keep h0 _ [p] := KK.trans K30 (allS (Or.inl (by simp)) all0)
  have sk := KK.1
  have F3 := F3'
  have E := E'
  have s_h30 : n0 ≤ h30.size := Nat.le_trans (by omega) K30.1
  have k : Wj l Z n0 (QN Z p st 0 h0) G s h30 0 0 36 #[.val (.ref p), .val (.int (48 : Int32)), .val (.int (0 : Int32))] [] := k
  have k : Wj l Z n0 (QN Z p st 0 h0) G s h30 0 0 175 #[.val (.ref p), .val (.int (48 : Int32)), .val (.int (0 : Int32))] [] := k.goto (pc' := 175) dj_36 (by decide)
  exact k.outN dj_175 (by decide) (by decide) ⟨rfl, KK, ⟨E, F1, F2, ⟨_, F3⟩, ⟨_, F4⟩, ⟨_, F5⟩, ⟨_, F6⟩⟩⟩
set_option maxRecDepth 65536 in
set_option maxHeartbeats 40000000 in
theorem conjB0 (l : Launch) (Z : State) (a0 : Array Value) (hw : ∀ d ∈ tables_1, d.before a0 Z = true) (p : Nat) (c : Int32) (st sg : Nat) (hsg : sg < 18) (hne : ¬ (sg = 0 ∧ c = (48 : Int32))) (h0 : Heap) (n0 : Nat) (s_h0 : n0 ≤ h0.size) (n_p : n0 ≤ p) (N : NS Z h0 p st sg) : Con l Z (⟨"com/example/caddisfly/caddisfly/XpathNumbers$Numeral", "addDigit", "(CZ)V"⟩ : MethodName) prog_160_method_5_code 3 none ({ frames := 0, cells := 0, slots := 0, locals := 0 } : Room) #[.ref p, .int c, .int (0 : Int32)] h0 n0 (QN Z p st (sg + 1) h0) := by
  refine Con.of pnj (Ls := #[.val (.ref p), .val (.int c), .val (.int (0 : Int32))]) (fun m => by first | (simp [entryFrame, mkF, argsToLocals, Value.category]; done) | rfl) ?_
  intro G s k
  obtain ⟨E, F1, F2, ⟨ex, F3⟩, ⟨ld, F4⟩, ⟨ad, F5⟩, ⟨ng, F6⟩⟩ := N
  have KK : Keep h0 h0 [p] := Keep.refl _ _
  have sk := KK.1
  have k : Wj l Z n0 (QN Z p st (sg + 1) h0) G s h0 0 0 2 #[.val (.ref p), .val (.int c), .val (.int (0 : Int32))] [(.int (1 : Int32)), (.ref p)] := (k.aloadN dj_0 rfl rfl).iconst (1) dj_1 rfl
  obtain ⟨h31, W31, K31, F5', E', k⟩ := k.putF (ty := .boolean) (hw _ (List.mem_of_getElem? (i := 58) rfl)) F5 E (Or.inl (hw _ (List.mem_of_getElem? (i := 59) rfl))) (hw _ (List.mem_of_getElem? (i := 13) rfl)) (by decide) rfl rfl n_p dj_2
  have F1 := Fld.other W31 F1 (Or.inr (slot_ne (C := "com/example/caddisfly/caddisfly/XpathNumbers$Numeral") (Or.inl (hw _ (List.mem_of_getElem? (i := 22) rfl))) (Or.inl (hw _ (List.mem_of_getElem? (i := 59) rfl))) (by decide) (t := .int) (t' := .boolean) (by decide) (by decide)))
  have F2 := Fld.other W31 F2 (Or.inr (slot_ne (C := "com/example/caddisfly/caddisfly/XpathNumbers$Numeral") (Or.inl (hw _ (List.mem_of_getElem? (i := 61) rfl))) (Or.inl (hw _ (List.mem_of_getElem? (i := 59) rfl))) (by decide) (t := .int) (t' := .boolean) (by decide) (by decide)))
  have F3 := Fld.other W31 F3 (Or.inr (slot_ne (C := "com/example/caddisfly/caddisfly/XpathNumbers$Numeral") (Or.inl (hw _ (List.mem_of_getElem? (i := 63) rfl))) (Or.inl (hw _ (List.mem_of_getElem? (i := 59) rfl))) (by decide) (t := .long) (t' := .boolean) (by decide) (by decide)))
  have F4 := Fld.other W31 F4 (Or.inr (slot_ne (C := "com/example/caddisfly/caddisfly/XpathNumbers$Numeral") (Or.inl (hw _ (List.mem_of_getElem? (i := 65) rfl))) (Or.inl (hw _ (List.mem_of_getElem? (i := 59) rfl))) (by decide) (t := .long) (t' := .boolean) (by decide) (by decide)))
  have F6 := Fld.other W31 F6 (Or.inr (slot_ne (C := "com/example/caddisfly/caddisfly/XpathNumbers$Numeral") (Or.inl (hw _ (List.mem_of_getElem? (i := 68) rfl))) (Or.inl (hw _ (List.mem_of_getElem? (i := 59) rfl))) (by decide) (t := .boolean) (t' := .boolean) (by decide) (by decide)))
  have KK : Keep h0 _ [p] := KK.trans K31 (allS (Or.inl (by simp)) all0)
  have sk := KK.1
  have F5 := F5'
  have E := E'
  have s_h31 : n0 ≤ h31.size := Nat.le_trans (by omega) K31.1
  have k : Wj l Z n0 (QN Z p st (sg + 1) h0) G s h31 0 0 5 #[.val (.ref p), .val (.int c), .val (.int (0 : Int32))] [] := k
  have k : Wj l Z n0 (QN Z p st (sg + 1) h0) G s h31 0 0 9 #[.val (.ref p), .val (.int c), .val (.int (0 : Int32))] [(.int (i32 sg))] := (k.aloadN dj_5 rfl rfl).getF (hw _ (List.mem_of_getElem? (i := 60) rfl)) F2 dj_6
  have k : Wj l Z n0 (QN Z p st (sg + 1) h0) G s h31 0 0 39 #[.val (.ref p), .val (.int c), .val (.int (0 : Int32))] [] := by
    by_cases z : sg = 0
    · have k : Wj l Z n0 (QN Z p st (sg + 1) h0) G s h31 0 0 12 #[.val (.ref p), .val (.int c), .val (.int (0 : Int32))] [] := k.ifF dj_9 (XT.i0_ne_f (congrArg i32 z))
      have k : Wj l Z n0 (QN Z p st (sg + 1) h0) G s h31 0 0 15 #[.val (.ref p), .val (.int c), .val (.int (0 : Int32))] [(.int (48 : Int32)), (.int c)] := (k.iloadN dj_12 rfl).bipush (48) dj_13 rfl
      have k : Wj l Z n0 (QN Z p st (sg + 1) h0) G s h31 0 0 39 #[.val (.ref p), .val (.int c), .val (.int (0 : Int32))] [] := k.icT (pc' := 39) dj_15 (XT.ii_ne_t (fun q => hne ⟨z, q⟩)) (by decide)
      exact k
    · have k : Wj l Z n0 (QN Z p st (sg + 1) h0) G s h31 0 0 39 #[.val (.ref p), .val (.int c), .val (.int (0 : Int32))] [] := k.ifT (pc' := 39) dj_9 (XT.i0_ne_t (own_ne (b := 0) (by omega) (by omega) z)) (by decide)
      exact k
  have k : Wj l Z n0 (QN Z p st (sg + 1) h0) G s h31 0 0 46 #[.val (.ref p), .val (.int c), .val (.int (0 : Int32))] [(.int (800 : Int32)), (.int (i32 sg))] := ((k.aloadN dj_39 rfl rfl).getF (hw _ (List.mem_of_getElem? (i := 60) rfl)) F2 dj_40).sipush (800) dj_43 rfl
  have k : Wj l Z n0 (QN Z p st (sg + 1) h0) G s h31 0 0 49 #[.val (.ref p), .val (.int c), .val (.int (0 : Int32))] [] := k.icF dj_46 (XT.ii_ge_f (own_lt (b := 800) (by omega) (by omega) (by omega)))
  have k : Wj l Z n0 (QN Z p st (sg + 1) h0) G s h31 0 0 55 #[.val (.ref p), .val (.int c), .val (.int (0 : Int32))] [(.int (18 : Int32)), (.int (i32 sg))] := ((k.aloadN dj_49 rfl rfl).getF (hw _ (List.mem_of_getElem? (i := 60) rfl)) F2 dj_50).bipush (18) dj_53 rfl
  have k : Wj l Z n0 (QN Z p st (sg + 1) h0) G s h31 0 0 58 #[.val (.ref p), .val (.int c), .val (.int (0 : Int32))] [] := k.icF dj_55 (XT.ii_ge_f (own_lt (b := 18) (by omega) (by omega) (by omega)))
  have k : Wj l Z n0 (QN Z p st (sg + 1) h0) G s h31 0 0 68 #[.val (.ref p), .val (.int c), .val (.int (0 : Int32))] [(.int c), (.long (ld * (10 : Int64))), (.ref p)] := (((((k.aloadN dj_58 rfl rfl).aloadN dj_59 rfl rfl).getF (hw _ (List.mem_of_getElem? (i := 64) rfl)) F4 dj_60).ldc2 (hw _ (List.mem_of_getElem? (i := 66) rfl)) dj_63).lmul dj_66).iloadN dj_67 rfl
  have k : Wj l Z n0 (QN Z p st (sg + 1) h0) G s h31 0 0 73 #[.val (.ref p), .val (.int c), .val (.int (0 : Int32))] [(.long ((ld * (10 : Int64)) + ((c - (48 : Int32)).toInt64))), (.ref p)] := (((k.bipush (48) dj_68 rfl).isub dj_70).i2l dj_71).ladd dj_72
  obtain ⟨h32, W32, K32, F4', E', k⟩ := k.putF (ty := .long) (hw _ (List.mem_of_getElem? (i := 64) rfl)) F4 E (Or.inl (hw _ (List.mem_of_getElem? (i := 65) rfl))) (hw _ (List.mem_of_getElem? (i := 13) rfl)) (by decide) rfl rfl n_p dj_73
  have F1 := Fld.other W32 F1 (Or.inr (slot_ne (C := "com/example/caddisfly/caddisfly/XpathNumbers$Numeral") (Or.inl (hw _ (List.mem_of_getElem? (i := 22) rfl))) (Or.inl (hw _ (List.mem_of_getElem? (i := 65) rfl))) (by decide) (t := .int) (t' := .long) (by decide) (by decide)))
  have F2 := Fld.other W32 F2 (Or.inr (slot_ne (C := "com/example/caddisfly/caddisfly/XpathNumbers$Numeral") (Or.inl (hw _ (List.mem_of_getElem? (i := 61) rfl))) (Or.inl (hw _ (List.mem_of_getElem? (i := 65) rfl))) (by decide) (t := .int) (t' := .long) (by decide) (by decide)))
  have F3 := Fld.other W32 F3 (Or.inr (slot_ne (C := "com/example/caddisfly/caddisfly/XpathNumbers$Numeral") (Or.inl (hw _ (List.mem_of_getElem? (i := 63) rfl))) (Or.inl (hw _ (List.mem_of_getElem? (i := 65) rfl))) (by decide) (t := .long) (t' := .long) (by decide) (by decide)))
  have F5 := Fld.other W32 F5 (Or.inr (slot_ne (C := "com/example/caddisfly/caddisfly/XpathNumbers$Numeral") (Or.inl (hw _ (List.mem_of_getElem? (i := 59) rfl))) (Or.inl (hw _ (List.mem_of_getElem? (i := 65) rfl))) (by decide) (t := .boolean) (t' := .long) (by decide) (by decide)))
  have F6 := Fld.other W32 F6 (Or.inr (slot_ne (C := "com/example/caddisfly/caddisfly/XpathNumbers$Numeral") (Or.inl (hw _ (List.mem_of_getElem? (i := 68) rfl))) (Or.inl (hw _ (List.mem_of_getElem? (i := 65) rfl))) (by decide) (t := .boolean) (t' := .long) (by decide) (by decide)))
  have KK : Keep h0 _ [p] := KK.trans K32 (allS (Or.inl (by simp)) all0)
  have sk := KK.1
  have F4 := F4'
  have E := E'
  have s_h32 : n0 ≤ h32.size := Nat.le_trans (by omega) K32.1
  have k : Wj l Z n0 (QN Z p st (sg + 1) h0) G s h32 0 0 76 #[.val (.ref p), .val (.int c), .val (.int (0 : Int32))] [] := k
  have k : Wj l Z n0 (QN Z p st (sg + 1) h0) G s h32 0 0 106 #[.val (.ref p), .val (.int c), .val (.int (0 : Int32))] [] := k.goto (pc' := 106) dj_76 (by decide)
  have k : Wj l Z n0 (QN Z p st (sg + 1) h0) G s h32 0 0 113 #[.val (.ref p), .val (.int c), .val (.int (0 : Int32))] [(.int ((i32 sg) + (1 : Int32))), (.ref p)] := ((((k.aloadN dj_106 rfl rfl).dup dj_107 rfl).getF (hw _ (List.mem_of_getElem? (i := 60) rfl)) F2 dj_108).iconst (1) dj_111 rfl).iadd dj_112
  rw [own_succ] at k
  obtain ⟨h33, W33, K33, F2', E', k⟩ := k.putF (ty := .int) (hw _ (List.mem_of_getElem? (i := 60) rfl)) F2 E (Or.inl (hw _ (List.mem_of_getElem? (i := 61) rfl))) (hw _ (List.mem_of_getElem? (i := 13) rfl)) (by decide) rfl rfl n_p dj_113
  have F1 := Fld.other W33 F1 (Or.inr (slot_ne (C := "com/example/caddisfly/caddisfly/XpathNumbers$Numeral") (Or.inl (hw _ (List.mem_of_getElem? (i := 22) rfl))) (Or.inl (hw _ (List.mem_of_getElem? (i := 61) rfl))) (by decide) (t := .int) (t' := .int) (by decide) (by decide)))
  have F3 := Fld.other W33 F3 (Or.inr (slot_ne (C := "com/example/caddisfly/caddisfly/XpathNumbers$Numeral") (Or.inl (hw _ (List.mem_of_getElem? (i := 63) rfl))) (Or.inl (hw _ (List.mem_of_getElem? (i := 61) rfl))) (by decide) (t := .long) (t' := .int) (by decide) (by decide)))
  have F4 := Fld.other W33 F4 (Or.inr (slot_ne (C := "com/example/caddisfly/caddisfly/XpathNumbers$Numeral") (Or.inl (hw _ (List.mem_of_getElem? (i := 65) rfl))) (Or.inl (hw _ (List.mem_of_getElem? (i := 61) rfl))) (by decide) (t := .long) (t' := .int) (by decide) (by decide)))
  have F5 := Fld.other W33 F5 (Or.inr (slot_ne (C := "com/example/caddisfly/caddisfly/XpathNumbers$Numeral") (Or.inl (hw _ (List.mem_of_getElem? (i := 59) rfl))) (Or.inl (hw _ (List.mem_of_getElem? (i := 61) rfl))) (by decide) (t := .boolean) (t' := .int) (by decide) (by decide)))
  have F6 := Fld.other W33 F6 (Or.inr (slot_ne (C := "com/example/caddisfly/caddisfly/XpathNumbers$Numeral") (Or.inl (hw _ (List.mem_of_getElem? (i := 68) rfl))) (Or.inl (hw _ (List.mem_of_getElem? (i := 61) rfl))) (by decide) (t := .boolean) (t' := .int) (by decide) (by decide)))
  have KK : Keep h0 _ [p] := KK.trans K33 (allS (Or.inl (by simp)) all0)
  have sk := KK.1
  have F2 := F2'
  have E := E'
  have s_h33 : n0 ≤ h33.size := Nat.le_trans (by omega) K33.1
  have k : Wj l Z n0 (QN Z p st (sg + 1) h0) G s h33 0 0 116 #[.val (.ref p), .val (.int c), .val (.int (0 : Int32))] [] := k
  have k : Wj l Z n0 (QN Z p st (sg + 1) h0) G s h33 0 0 129 #[.val (.ref p), .val (.int c), .val (.int (0 : Int32))] [(.long ex), (.ref p)] := ((((k.aloadN dj_116 rfl rfl).dup dj_117 rfl).getF (hw _ (List.mem_of_getElem? (i := 62) rfl)) F3 dj_118).iloadN dj_121 rfl).ifT (pc' := 129) dj_122 (XT.i0_eq_t (by decide)) (by decide)
  have k : Wj l Z n0 (QN Z p st (sg + 1) h0) G s h33 0 0 131 #[.val (.ref p), .val (.int c), .val (.int (0 : Int32))] [(.long (ex - (0 : Int64))), (.ref p)] := (k.lconst (0) dj_129 rfl).lsub dj_130
  obtain ⟨h34, W34, K34, F3', E', k⟩ := k.putF (ty := .long) (hw _ (List.mem_of_getElem? (i := 62) rfl)) F3 E (Or.inl (hw _ (List.mem_of_getElem? (i := 63) rfl))) (hw _ (List.mem_of_getElem? (i := 13) rfl)) (by decide) rfl rfl n_p dj_131
  have F1 := Fld.other W34 F1 (Or.inr (slot_ne (C := "com/example/caddisfly/caddisfly/XpathNumbers$Numeral") (Or.inl (hw _ (List.mem_of_getElem? (i := 22) rfl))) (Or.inl (hw _ (List.mem_of_getElem? (i := 63) rfl))) (by decide) (t := .int) (t' := .long) (by decide) (by decide)))
  have F2 := Fld.other W34 F2 (Or.inr (slot_ne (C := "com/example/caddisfly/caddisfly/XpathNumbers$Numeral") (Or.inl (hw _ (List.mem_of_getElem? (i := 61) rfl))) (Or.inl (hw _ (List.mem_of_getElem? (i := 63) rfl))) (by decide) (t := .int) (t' := .long) (by decide) (by decide)))
  have F4 := Fld.other W34 F4 (Or.inr (slot_ne (C := "com/example/caddisfly/caddisfly/XpathNumbers$Numeral") (Or.inl (hw _ (List.mem_of_getElem? (i := 65) rfl))) (Or.inl (hw _ (List.mem_of_getElem? (i := 63) rfl))) (by decide) (t := .long) (t' := .long) (by decide) (by decide)))
  have F5 := Fld.other W34 F5 (Or.inr (slot_ne (C := "com/example/caddisfly/caddisfly/XpathNumbers$Numeral") (Or.inl (hw _ (List.mem_of_getElem? (i := 59) rfl))) (Or.inl (hw _ (List.mem_of_getElem? (i := 63) rfl))) (by decide) (t := .boolean) (t' := .long) (by decide) (by decide)))
  have F6 := Fld.other W34 F6 (Or.inr (slot_ne (C := "com/example/caddisfly/caddisfly/XpathNumbers$Numeral") (Or.inl (hw _ (List.mem_of_getElem? (i := 68) rfl))) (Or.inl (hw _ (List.mem_of_getElem? (i := 63) rfl))) (by decide) (t := .boolean) (t' := .long) (by decide) (by decide)))
  have KK : Keep h0 _ [p] := KK.trans K34 (allS (Or.inl (by simp)) all0)
  have sk := KK.1
  have F3 := F3'
  have E := E'
  have s_h34 : n0 ≤ h34.size := Nat.le_trans (by omega) K34.1
  have k : Wj l Z n0 (QN Z p st (sg + 1) h0) G s h34 0 0 134 #[.val (.ref p), .val (.int c), .val (.int (0 : Int32))] [] := k
  have k : Wj l Z n0 (QN Z p st (sg + 1) h0) G s h34 0 0 175 #[.val (.ref p), .val (.int c), .val (.int (0 : Int32))] [] := k.goto (pc' := 175) dj_134 (by decide)
  exact k.outN dj_175 (by decide) (by decide) ⟨rfl, KK, ⟨E, F1, F2, ⟨_, F3⟩, ⟨_, F4⟩, ⟨_, F5⟩, ⟨_, F6⟩⟩⟩
theorem conj0 (l : Launch) (Z : State) (a0 : Array Value) (hw : ∀ d ∈ tables_1, d.before a0 Z = true) (p : Nat) (c : Int32) (st sg d : Nat) (hc : Cl c d) (hd : d = 3 ∨ d = 4) (hsg : sg < 18) (h0 : Heap) (n0 : Nat) (s_h0 : n0 ≤ h0.size) (n_p : n0 ≤ p) (N : NS Z h0 p st sg) : Con l Z (⟨"com/example/caddisfly/caddisfly/XpathNumbers$Numeral", "addDigit", "(CZ)V"⟩ : MethodName) prog_160_method_5_code 3 none ({ frames := 0, cells := 0, slots := 0, locals := 0 } : Room) #[.ref p, .int c, .int (0 : Int32)] h0 n0 (QN Z p st (incN sg d) h0) := by
  by_cases z : sg = 0 ∧ d = 3
  · obtain ⟨rfl, rfl⟩ := z
    have hc : c = (48 : Int32) := hc
    subst hc
    exact conjA0 l Z a0 hw p st h0 n0 s_h0 n_p N
  · rw [show incN sg d = sg + 1 from if_neg z]
    refine conjB0 l Z a0 hw p c st sg hsg (fun q => ?_) h0 n0 s_h0 n_p N
    rcases hd with rfl | rfl
    · exact z ⟨q.1, rfl⟩
    · exact own_n48 hc q.2
set_option maxRecDepth 65536 in
set_option maxHeartbeats 40000000 in
theorem conjA1 (l : Launch) (Z : State) (a0 : Array Value) (hw : ∀ d ∈ tables_1, d.before a0 Z = true) (p : Nat) (st : Nat) (h0 : Heap) (n0 : Nat) (s_h0 : n0 ≤ h0.size) (n_p : n0 ≤ p) (N : NS Z h0 p st 0) : Con l Z (⟨"com/example/caddisfly/caddisfly/XpathNumbers$Numeral", "addDigit", "(CZ)V"⟩ : MethodName) prog_160_method_5_code 3 none ({ frames := 0, cells := 0, slots := 0, locals := 0 } : Room) #[.ref p, .int (48 : Int32), .int (1 : Int32)] h0 n0 (QN Z p st 0 h0) := by
  refine Con.of pnj (Ls := #[.val (.ref p), .val (.int (48 : Int32)), .val (.int (1 : Int32))]) (fun m => by first | (simp [entryFrame, mkF, argsToLocals, Value.category]; done) | rfl) ?_
  intro G s k
  obtain ⟨E, F1, F2, ⟨ex, F3⟩, ⟨ld, F4⟩, ⟨ad, F5⟩, ⟨ng, F6⟩⟩ := N
  have KK : Keep h0 h0 [p] := Keep.refl _ _
  have sk := KK.1
  have k : Wj l Z n0 (QN Z p st 0 h0) G s h0 0 0 2 #[.val (.ref p), .val (.int (48 : Int32)), .val (.int (1 : Int32))] [(.int (1 : Int32)), (.ref p)] := (k.aloadN dj_0 rfl rfl).iconst (1) dj_1 rfl
  obtain ⟨h35, W35, K35, F5', E', k⟩ := k.putF (ty := .boolean) (hw _ (List.mem_of_getElem? (i := 58) rfl)) F5 E (Or.inl (hw _ (List.mem_of_getElem? (i := 59) rfl))) (hw _ (List.mem_of_getElem? (i := 13) rfl)) (by decide) rfl rfl n_p dj_2
  have F1 := Fld.other W35 F1 (Or.inr (slot_ne (C := "com/example/caddisfly/caddisfly/XpathNumbers$Numeral") (Or.inl (hw _ (List.mem_of_getElem? (i := 22) rfl))) (Or.inl (hw _ (List.mem_of_getElem? (i := 59) rfl))) (by decide) (t := .int) (t' := .boolean) (by decide) (by decide)))
  have F2 := Fld.other W35 F2 (Or.inr (slot_ne (C := "com/example/caddisfly/caddisfly/XpathNumbers$Numeral") (Or.inl (hw _ (List.mem_of_getElem? (i := 61) rfl))) (Or.inl (hw _ (List.mem_of_getElem? (i := 59) rfl))) (by decide) (t := .int) (t' := .boolean) (by decide) (by decide)))
  have F3 := Fld.other W35 F3 (Or.inr (slot_ne (C := "com/example/caddisfly/caddisfly/XpathNumbers$Numeral") (Or.inl (hw _ (List.mem_of_getElem? (i := 63) rfl))) (Or.inl (hw _ (List.mem_of_getElem? (i := 59) rfl))) (by decide) (t := .long) (t' := .boolean) (by decide) (by decide)))
  have F4 := Fld.other W35 F4 (Or.inr (slot_ne (C := "com/example/caddisfly/caddisfly/XpathNumbers$Numeral") (Or.inl (hw _ (List.mem_of_getElem? (i := 65) rfl))) (Or.inl (hw _ (List.mem_of_getElem? (i := 59) rfl))) (by decide) (t := .long) (t' := .boolean) (by decide) (by decide)))
  have F6 := Fld.other W35 F6 (Or.inr (slot_ne (C := "com/example/caddisfly/caddisfly/XpathNumbers$Numeral") (Or.inl (hw _ (List.mem_of_getElem? (i := 68) rfl))) (Or.inl (hw _ (List.mem_of_getElem? (i := 59) rfl))) (by decide) (t := .boolean) (t' := .boolean) (by decide) (by decide)))
  have KK : Keep h0 _ [p] := KK.trans K35 (allS (Or.inl (by simp)) all0)
  have sk := KK.1
  have F5 := F5'
  have E := E'
  have s_h35 : n0 ≤ h35.size := Nat.le_trans (by omega) K35.1
  have k : Wj l Z n0 (QN Z p st 0 h0) G s h35 0 0 5 #[.val (.ref p), .val (.int (48 : Int32)), .val (.int (1 : Int32))] [] := k
  have k : Wj l Z n0 (QN Z p st 0 h0) G s h35 0 0 12 #[.val (.ref p), .val (.int (48 : Int32)), .val (.int (1 : Int32))] [] := ((k.aloadN dj_5 rfl rfl).getF (hw _ (List.mem_of_getElem? (i := 60) rfl)) F2 dj_6).ifF dj_9 (XT.i0_ne_f (by decide))
  have k : Wj l Z n0 (QN Z p st 0 h0) G s h35 0 0 18 #[.val (.ref p), .val (.int (48 : Int32)), .val (.int (1 : Int32))] [] := ((k.iloadN dj_12 rfl).bipush (48) dj_13 rfl).icF dj_15 (XT.ii_ne_f (by decide))
  have k : Wj l Z n0 (QN Z p st 0 h0) G s h35 0 0 27 #[.val (.ref p), .val (.int (48 : Int32)), .val (.int (1 : Int32))] [(.long ex), (.ref p)] := ((((k.aloadN dj_18 rfl rfl).dup dj_19 rfl).getF (hw _ (List.mem_of_getElem? (i := 62) rfl)) F3 dj_20).iloadN dj_23 rfl).ifF dj_24 (XT.i0_eq_f (by decide))
  have k : Wj l Z n0 (QN Z p st 0 h0) G s h35 0 0 32 #[.val (.ref p), .val (.int (48 : Int32)), .val (.int (1 : Int32))] [(.long (1 : Int64)), (.long ex), (.ref p)] := (k.lconst (1) dj_27 rfl).goto (pc' := 32) dj_28 (by decide)
  have k : Wj l Z n0 (QN Z p st 0 h0) G s h35 0 0 33 #[.val (.ref p), .val (.int (48 : Int32)), .val (.int (1 : Int32))] [(.long (ex - (1 : Int64))), (.ref p)] := k.lsub dj_32
  obtain ⟨h36, W36, K36, F3', E', k⟩ := k.putF (ty := .long) (hw _ (List.mem_of_getElem? (i := 62) rfl)) F3 E (Or.inl (hw _ (List.mem_of_getElem? (i := 63) rfl))) (hw _ (List.mem_of_getElem? (i := 13) rfl)) (by decide) rfl rfl n_p dj_33
  have F1 := Fld.other W36 F1 (Or.inr (slot_ne (C := "com/example/caddisfly/caddisfly/XpathNumbers$Numeral") (Or.inl (hw _ (List.mem_of_getElem? (i := 22) rfl))) (Or.inl (hw _ (List.mem_of_getElem? (i := 63) rfl))) (by decide) (t := .int) (t' := .long) (by decide) (by decide)))
  have F2 := Fld.other W36 F2 (Or.inr (slot_ne (C := "com/example/caddisfly/caddisfly/XpathNumbers$Numeral") (Or.inl (hw _ (List.mem_of_getElem? (i := 61) rfl))) (Or.inl (hw _ (List.mem_of_getElem? (i := 63) rfl))) (by decide) (t := .int) (t' := .long) (by decide) (by decide)))
  have F4 := Fld.other W36 F4 (Or.inr (slot_ne (C := "com/example/caddisfly/caddisfly/XpathNumbers$Numeral") (Or.inl (hw _ (List.mem_of_getElem? (i := 65) rfl))) (Or.inl (hw _ (List.mem_of_getElem? (i := 63) rfl))) (by decide) (t := .long) (t' := .long) (by decide) (by decide)))
  have F5 := Fld.other W36 F5 (Or.inr (slot_ne (C := "com/example/caddisfly/caddisfly/XpathNumbers$Numeral") (Or.inl (hw _ (List.mem_of_getElem? (i := 59) rfl))) (Or.inl (hw _ (List.mem_of_getElem? (i := 63) rfl))) (by decide) (t := .boolean) (t' := .long) (by decide) (by decide)))
  have F6 := Fld.other W36 F6 (Or.inr (slot_ne (C := "com/example/caddisfly/caddisfly/XpathNumbers$Numeral") (Or.inl (hw _ (List.mem_of_getElem? (i := 68) rfl))) (Or.inl (hw _ (List.mem_of_getElem? (i := 63) rfl))) (by decide) (t := .boolean) (t' := .long) (by decide) (by decide)))
  have KK : Keep h0 _ [p] := KK.trans K36 (allS (Or.inl (by simp)) all0)
  have sk := KK.1
  have F3 := F3'
  have E := E'
  have s_h36 : n0 ≤ h36.size := Nat.le_trans (by omega) K36.1
  have k : Wj l Z n0 (QN Z p st 0 h0) G s h36 0 0 36 #[.val (.ref p), .val (.int (48 : Int32)), .val (.int (1 : Int32))] [] := k
  have k : Wj l Z n0 (QN Z p st 0 h0) G s h36 0 0 175 #[.val (.ref p), .val (.int (48 : Int32)), .val (.int (1 : Int32))] [] := k.goto (pc' := 175) dj_36 (by decide)
  exact k.outN dj_175 (by decide) (by decide) ⟨rfl, KK, ⟨E, F1, F2, ⟨_, F3⟩, ⟨_, F4⟩, ⟨_, F5⟩, ⟨_, F6⟩⟩⟩
set_option maxRecDepth 65536 in
set_option maxHeartbeats 40000000 in
theorem conjB1 (l : Launch) (Z : State) (a0 : Array Value) (hw : ∀ d ∈ tables_1, d.before a0 Z = true) (p : Nat) (c : Int32) (st sg : Nat) (hsg : sg < 18) (hne : ¬ (sg = 0 ∧ c = (48 : Int32))) (h0 : Heap) (n0 : Nat) (s_h0 : n0 ≤ h0.size) (n_p : n0 ≤ p) (N : NS Z h0 p st sg) : Con l Z (⟨"com/example/caddisfly/caddisfly/XpathNumbers$Numeral", "addDigit", "(CZ)V"⟩ : MethodName) prog_160_method_5_code 3 none ({ frames := 0, cells := 0, slots := 0, locals := 0 } : Room) #[.ref p, .int c, .int (1 : Int32)] h0 n0 (QN Z p st (sg + 1) h0) := by
  refine Con.of pnj (Ls := #[.val (.ref p), .val (.int c), .val (.int (1 : Int32))]) (fun m => by first | (simp [entryFrame, mkF, argsToLocals, Value.category]; done) | rfl) ?_
  intro G s k
  obtain ⟨E, F1, F2, ⟨ex, F3⟩, ⟨ld, F4⟩, ⟨ad, F5⟩, ⟨ng, F6⟩⟩ := N
  have KK : Keep h0 h0 [p] := Keep.refl _ _
  have sk := KK.1
  have k : Wj l Z n0 (QN Z p st (sg + 1) h0) G s h0 0 0 2 #[.val (.ref p), .val (.int c), .val (.int (1 : Int32))] [(.int (1 : Int32)), (.ref p)] := (k.aloadN dj_0 rfl rfl).iconst (1) dj_1 rfl
  obtain ⟨h37, W37, K37, F5', E', k⟩ := k.putF (ty := .boolean) (hw _ (List.mem_of_getElem? (i := 58) rfl)) F5 E (Or.inl (hw _ (List.mem_of_getElem? (i := 59) rfl))) (hw _ (List.mem_of_getElem? (i := 13) rfl)) (by decide) rfl rfl n_p dj_2
  have F1 := Fld.other W37 F1 (Or.inr (slot_ne (C := "com/example/caddisfly/caddisfly/XpathNumbers$Numeral") (Or.inl (hw _ (List.mem_of_getElem? (i := 22) rfl))) (Or.inl (hw _ (List.mem_of_getElem? (i := 59) rfl))) (by decide) (t := .int) (t' := .boolean) (by decide) (by decide)))
  have F2 := Fld.other W37 F2 (Or.inr (slot_ne (C := "com/example/caddisfly/caddisfly/XpathNumbers$Numeral") (Or.inl (hw _ (List.mem_of_getElem? (i := 61) rfl))) (Or.inl (hw _ (List.mem_of_getElem? (i := 59) rfl))) (by decide) (t := .int) (t' := .boolean) (by decide) (by decide)))
  have F3 := Fld.other W37 F3 (Or.inr (slot_ne (C := "com/example/caddisfly/caddisfly/XpathNumbers$Numeral") (Or.inl (hw _ (List.mem_of_getElem? (i := 63) rfl))) (Or.inl (hw _ (List.mem_of_getElem? (i := 59) rfl))) (by decide) (t := .long) (t' := .boolean) (by decide) (by decide)))
  have F4 := Fld.other W37 F4 (Or.inr (slot_ne (C := "com/example/caddisfly/caddisfly/XpathNumbers$Numeral") (Or.inl (hw _ (List.mem_of_getElem? (i := 65) rfl))) (Or.inl (hw _ (List.mem_of_getElem? (i := 59) rfl))) (by decide) (t := .long) (t' := .boolean) (by decide) (by decide)))
  have F6 := Fld.other W37 F6 (Or.inr (slot_ne (C := "com/example/caddisfly/caddisfly/XpathNumbers$Numeral") (Or.inl (hw _ (List.mem_of_getElem? (i := 68) rfl))) (Or.inl (hw _ (List.mem_of_getElem? (i := 59) rfl))) (by decide) (t := .boolean) (t' := .boolean) (by decide) (by decide)))
  have KK : Keep h0 _ [p] := KK.trans K37 (allS (Or.inl (by simp)) all0)
  have sk := KK.1
  have F5 := F5'
  have E := E'
  have s_h37 : n0 ≤ h37.size := Nat.le_trans (by omega) K37.1
  have k : Wj l Z n0 (QN Z p st (sg + 1) h0) G s h37 0 0 5 #[.val (.ref p), .val (.int c), .val (.int (1 : Int32))] [] := k
  have k : Wj l Z n0 (QN Z p st (sg + 1) h0) G s h37 0 0 9 #[.val (.ref p), .val (.int c), .val (.int (1 : Int32))] [(.int (i32 sg))] := (k.aloadN dj_5 rfl rfl).getF (hw _ (List.mem_of_getElem? (i := 60) rfl)) F2 dj_6
  have k : Wj l Z n0 (QN Z p st (sg + 1) h0) G s h37 0 0 39 #[.val (.ref p), .val (.int c), .val (.int (1 : Int32))] [] := by
    by_cases z : sg = 0
    · have k : Wj l Z n0 (QN Z p st (sg + 1) h0) G s h37 0 0 12 #[.val (.ref p), .val (.int c), .val (.int (1 : Int32))] [] := k.ifF dj_9 (XT.i0_ne_f (congrArg i32 z))
      have k : Wj l Z n0 (QN Z p st (sg + 1) h0) G s h37 0 0 15 #[.val (.ref p), .val (.int c), .val (.int (1 : Int32))] [(.int (48 : Int32)), (.int c)] := (k.iloadN dj_12 rfl).bipush (48) dj_13 rfl
      have k : Wj l Z n0 (QN Z p st (sg + 1) h0) G s h37 0 0 39 #[.val (.ref p), .val (.int c), .val (.int (1 : Int32))] [] := k.icT (pc' := 39) dj_15 (XT.ii_ne_t (fun q => hne ⟨z, q⟩)) (by decide)
      exact k
    · have k : Wj l Z n0 (QN Z p st (sg + 1) h0) G s h37 0 0 39 #[.val (.ref p), .val (.int c), .val (.int (1 : Int32))] [] := k.ifT (pc' := 39) dj_9 (XT.i0_ne_t (own_ne (b := 0) (by omega) (by omega) z)) (by decide)
      exact k
  have k : Wj l Z n0 (QN Z p st (sg + 1) h0) G s h37 0 0 46 #[.val (.ref p), .val (.int c), .val (.int (1 : Int32))] [(.int (800 : Int32)), (.int (i32 sg))] := ((k.aloadN dj_39 rfl rfl).getF (hw _ (List.mem_of_getElem? (i := 60) rfl)) F2 dj_40).sipush (800) dj_43 rfl
  have k : Wj l Z n0 (QN Z p st (sg + 1) h0) G s h37 0 0 49 #[.val (.ref p), .val (.int c), .val (.int (1 : Int32))] [] := k.icF dj_46 (XT.ii_ge_f (own_lt (b := 800) (by omega) (by omega) (by omega)))
  have k : Wj l Z n0 (QN Z p st (sg + 1) h0) G s h37 0 0 55 #[.val (.ref p), .val (.int c), .val (.int (1 : Int32))] [(.int (18 : Int32)), (.int (i32 sg))] := ((k.aloadN dj_49 rfl rfl).getF (hw _ (List.mem_of_getElem? (i := 60) rfl)) F2 dj_50).bipush (18) dj_53 rfl
  have k : Wj l Z n0 (QN Z p st (sg + 1) h0) G s h37 0 0 58 #[.val (.ref p), .val (.int c), .val (.int (1 : Int32))] [] := k.icF dj_55 (XT.ii_ge_f (own_lt (b := 18) (by omega) (by omega) (by omega)))
  have k : Wj l Z n0 (QN Z p st (sg + 1) h0) G s h37 0 0 68 #[.val (.ref p), .val (.int c), .val (.int (1 : Int32))] [(.int c), (.long (ld * (10 : Int64))), (.ref p)] := (((((k.aloadN dj_58 rfl rfl).aloadN dj_59 rfl rfl).getF (hw _ (List.mem_of_getElem? (i := 64) rfl)) F4 dj_60).ldc2 (hw _ (List.mem_of_getElem? (i := 66) rfl)) dj_63).lmul dj_66).iloadN dj_67 rfl
  have k : Wj l Z n0 (QN Z p st (sg + 1) h0) G s h37 0 0 73 #[.val (.ref p), .val (.int c), .val (.int (1 : Int32))] [(.long ((ld * (10 : Int64)) + ((c - (48 : Int32)).toInt64))), (.ref p)] := (((k.bipush (48) dj_68 rfl).isub dj_70).i2l dj_71).ladd dj_72
  obtain ⟨h38, W38, K38, F4', E', k⟩ := k.putF (ty := .long) (hw _ (List.mem_of_getElem? (i := 64) rfl)) F4 E (Or.inl (hw _ (List.mem_of_getElem? (i := 65) rfl))) (hw _ (List.mem_of_getElem? (i := 13) rfl)) (by decide) rfl rfl n_p dj_73
  have F1 := Fld.other W38 F1 (Or.inr (slot_ne (C := "com/example/caddisfly/caddisfly/XpathNumbers$Numeral") (Or.inl (hw _ (List.mem_of_getElem? (i := 22) rfl))) (Or.inl (hw _ (List.mem_of_getElem? (i := 65) rfl))) (by decide) (t := .int) (t' := .long) (by decide) (by decide)))
  have F2 := Fld.other W38 F2 (Or.inr (slot_ne (C := "com/example/caddisfly/caddisfly/XpathNumbers$Numeral") (Or.inl (hw _ (List.mem_of_getElem? (i := 61) rfl))) (Or.inl (hw _ (List.mem_of_getElem? (i := 65) rfl))) (by decide) (t := .int) (t' := .long) (by decide) (by decide)))
  have F3 := Fld.other W38 F3 (Or.inr (slot_ne (C := "com/example/caddisfly/caddisfly/XpathNumbers$Numeral") (Or.inl (hw _ (List.mem_of_getElem? (i := 63) rfl))) (Or.inl (hw _ (List.mem_of_getElem? (i := 65) rfl))) (by decide) (t := .long) (t' := .long) (by decide) (by decide)))
  have F5 := Fld.other W38 F5 (Or.inr (slot_ne (C := "com/example/caddisfly/caddisfly/XpathNumbers$Numeral") (Or.inl (hw _ (List.mem_of_getElem? (i := 59) rfl))) (Or.inl (hw _ (List.mem_of_getElem? (i := 65) rfl))) (by decide) (t := .boolean) (t' := .long) (by decide) (by decide)))
  have F6 := Fld.other W38 F6 (Or.inr (slot_ne (C := "com/example/caddisfly/caddisfly/XpathNumbers$Numeral") (Or.inl (hw _ (List.mem_of_getElem? (i := 68) rfl))) (Or.inl (hw _ (List.mem_of_getElem? (i := 65) rfl))) (by decide) (t := .boolean) (t' := .long) (by decide) (by decide)))
  have KK : Keep h0 _ [p] := KK.trans K38 (allS (Or.inl (by simp)) all0)
  have sk := KK.1
  have F4 := F4'
  have E := E'
  have s_h38 : n0 ≤ h38.size := Nat.le_trans (by omega) K38.1
  have k : Wj l Z n0 (QN Z p st (sg + 1) h0) G s h38 0 0 76 #[.val (.ref p), .val (.int c), .val (.int (1 : Int32))] [] := k
  have k : Wj l Z n0 (QN Z p st (sg + 1) h0) G s h38 0 0 106 #[.val (.ref p), .val (.int c), .val (.int (1 : Int32))] [] := k.goto (pc' := 106) dj_76 (by decide)
  have k : Wj l Z n0 (QN Z p st (sg + 1) h0) G s h38 0 0 113 #[.val (.ref p), .val (.int c), .val (.int (1 : Int32))] [(.int ((i32 sg) + (1 : Int32))), (.ref p)] := ((((k.aloadN dj_106 rfl rfl).dup dj_107 rfl).getF (hw _ (List.mem_of_getElem? (i := 60) rfl)) F2 dj_108).iconst (1) dj_111 rfl).iadd dj_112
  rw [own_succ] at k
  obtain ⟨h39, W39, K39, F2', E', k⟩ := k.putF (ty := .int) (hw _ (List.mem_of_getElem? (i := 60) rfl)) F2 E (Or.inl (hw _ (List.mem_of_getElem? (i := 61) rfl))) (hw _ (List.mem_of_getElem? (i := 13) rfl)) (by decide) rfl rfl n_p dj_113
  have F1 := Fld.other W39 F1 (Or.inr (slot_ne (C := "com/example/caddisfly/caddisfly/XpathNumbers$Numeral") (Or.inl (hw _ (List.mem_of_getElem? (i := 22) rfl))) (Or.inl (hw _ (List.mem_of_getElem? (i := 61) rfl))) (by decide) (t := .int) (t' := .int) (by decide) (by decide)))
  have F3 := Fld.other W39 F3 (Or.inr (slot_ne (C := "com/example/caddisfly/caddisfly/XpathNumbers$Numeral") (Or.inl (hw _ (List.mem_of_getElem? (i := 63) rfl))) (Or.inl (hw _ (List.mem_of_getElem? (i := 61) rfl))) (by decide) (t := .long) (t' := .int) (by decide) (by decide)))
  have F4 := Fld.other W39 F4 (Or.inr (slot_ne (C := "com/example/caddisfly/caddisfly/XpathNumbers$Numeral") (Or.inl (hw _ (List.mem_of_getElem? (i := 65) rfl))) (Or.inl (hw _ (List.mem_of_getElem? (i := 61) rfl))) (by decide) (t := .long) (t' := .int) (by decide) (by decide)))
  have F5 := Fld.other W39 F5 (Or.inr (slot_ne (C := "com/example/caddisfly/caddisfly/XpathNumbers$Numeral") (Or.inl (hw _ (List.mem_of_getElem? (i := 59) rfl))) (Or.inl (hw _ (List.mem_of_getElem? (i := 61) rfl))) (by decide) (t := .boolean) (t' := .int) (by decide) (by decide)))
  have F6 := Fld.other W39 F6 (Or.inr (slot_ne (C := "com/example/caddisfly/caddisfly/XpathNumbers$Numeral") (Or.inl (hw _ (List.mem_of_getElem? (i := 68) rfl))) (Or.inl (hw _ (List.mem_of_getElem? (i := 61) rfl))) (by decide) (t := .boolean) (t' := .int) (by decide) (by decide)))
  have KK : Keep h0 _ [p] := KK.trans K39 (allS (Or.inl (by simp)) all0)
  have sk := KK.1
  have F2 := F2'
  have E := E'
  have s_h39 : n0 ≤ h39.size := Nat.le_trans (by omega) K39.1
  have k : Wj l Z n0 (QN Z p st (sg + 1) h0) G s h39 0 0 116 #[.val (.ref p), .val (.int c), .val (.int (1 : Int32))] [] := k
  have k : Wj l Z n0 (QN Z p st (sg + 1) h0) G s h39 0 0 125 #[.val (.ref p), .val (.int c), .val (.int (1 : Int32))] [(.long ex), (.ref p)] := ((((k.aloadN dj_116 rfl rfl).dup dj_117 rfl).getF (hw _ (List.mem_of_getElem? (i := 62) rfl)) F3 dj_118).iloadN dj_121 rfl).ifF dj_122 (XT.i0_eq_f (by decide))
  have k : Wj l Z n0 (QN Z p st (sg + 1) h0) G s h39 0 0 130 #[.val (.ref p), .val (.int c), .val (.int (1 : Int32))] [(.long (1 : Int64)), (.long ex), (.ref p)] := (k.lconst (1) dj_125 rfl).goto (pc' := 130) dj_126 (by decide)
  have k : Wj l Z n0 (QN Z p st (sg + 1) h0) G s h39 0 0 131 #[.val (.ref p), .val (.int c), .val (.int (1 : Int32))] [(.long (ex - (1 : Int64))), (.ref p)] := k.lsub dj_130
  obtain ⟨h40, W40, K40, F3', E', k⟩ := k.putF (ty := .long) (hw _ (List.mem_of_getElem? (i := 62) rfl)) F3 E (Or.inl (hw _ (List.mem_of_getElem? (i := 63) rfl))) (hw _ (List.mem_of_getElem? (i := 13) rfl)) (by decide) rfl rfl n_p dj_131
  have F1 := Fld.other W40 F1 (Or.inr (slot_ne (C := "com/example/caddisfly/caddisfly/XpathNumbers$Numeral") (Or.inl (hw _ (List.mem_of_getElem? (i := 22) rfl))) (Or.inl (hw _ (List.mem_of_getElem? (i := 63) rfl))) (by decide) (t := .int) (t' := .long) (by decide) (by decide)))
  have F2 := Fld.other W40 F2 (Or.inr (slot_ne (C := "com/example/caddisfly/caddisfly/XpathNumbers$Numeral") (Or.inl (hw _ (List.mem_of_getElem? (i := 61) rfl))) (Or.inl (hw _ (List.mem_of_getElem? (i := 63) rfl))) (by decide) (t := .int) (t' := .long) (by decide) (by decide)))
  have F4 := Fld.other W40 F4 (Or.inr (slot_ne (C := "com/example/caddisfly/caddisfly/XpathNumbers$Numeral") (Or.inl (hw _ (List.mem_of_getElem? (i := 65) rfl))) (Or.inl (hw _ (List.mem_of_getElem? (i := 63) rfl))) (by decide) (t := .long) (t' := .long) (by decide) (by decide)))
  have F5 := Fld.other W40 F5 (Or.inr (slot_ne (C := "com/example/caddisfly/caddisfly/XpathNumbers$Numeral") (Or.inl (hw _ (List.mem_of_getElem? (i := 59) rfl))) (Or.inl (hw _ (List.mem_of_getElem? (i := 63) rfl))) (by decide) (t := .boolean) (t' := .long) (by decide) (by decide)))
  have F6 := Fld.other W40 F6 (Or.inr (slot_ne (C := "com/example/caddisfly/caddisfly/XpathNumbers$Numeral") (Or.inl (hw _ (List.mem_of_getElem? (i := 68) rfl))) (Or.inl (hw _ (List.mem_of_getElem? (i := 63) rfl))) (by decide) (t := .boolean) (t' := .long) (by decide) (by decide)))
  have KK : Keep h0 _ [p] := KK.trans K40 (allS (Or.inl (by simp)) all0)
  have sk := KK.1
  have F3 := F3'
  have E := E'
  have s_h40 : n0 ≤ h40.size := Nat.le_trans (by omega) K40.1
  have k : Wj l Z n0 (QN Z p st (sg + 1) h0) G s h40 0 0 134 #[.val (.ref p), .val (.int c), .val (.int (1 : Int32))] [] := k
  have k : Wj l Z n0 (QN Z p st (sg + 1) h0) G s h40 0 0 175 #[.val (.ref p), .val (.int c), .val (.int (1 : Int32))] [] := k.goto (pc' := 175) dj_134 (by decide)
  exact k.outN dj_175 (by decide) (by decide) ⟨rfl, KK, ⟨E, F1, F2, ⟨_, F3⟩, ⟨_, F4⟩, ⟨_, F5⟩, ⟨_, F6⟩⟩⟩
theorem conj1 (l : Launch) (Z : State) (a0 : Array Value) (hw : ∀ d ∈ tables_1, d.before a0 Z = true) (p : Nat) (c : Int32) (st sg d : Nat) (hc : Cl c d) (hd : d = 3 ∨ d = 4) (hsg : sg < 18) (h0 : Heap) (n0 : Nat) (s_h0 : n0 ≤ h0.size) (n_p : n0 ≤ p) (N : NS Z h0 p st sg) : Con l Z (⟨"com/example/caddisfly/caddisfly/XpathNumbers$Numeral", "addDigit", "(CZ)V"⟩ : MethodName) prog_160_method_5_code 3 none ({ frames := 0, cells := 0, slots := 0, locals := 0 } : Room) #[.ref p, .int c, .int (1 : Int32)] h0 n0 (QN Z p st (incN sg d) h0) := by
  by_cases z : sg = 0 ∧ d = 3
  · obtain ⟨rfl, rfl⟩ := z
    have hc : c = (48 : Int32) := hc
    subst hc
    exact conjA1 l Z a0 hw p st h0 n0 s_h0 n_p N
  · rw [show incN sg d = sg + 1 from if_neg z]
    refine conjB1 l Z a0 hw p c st sg hsg (fun q => ?_) h0 n0 s_h0 n_p N
    rcases hd with rfl | rfl
    · exact z ⟨q.1, rfl⟩
    · exact own_n48 hc q.2
theorem dm_0 : decode prog_160_method_4_code 0 = .ok (.iload_n 1, 1) := by decide +kernel
theorem dm_1 : decode prog_160_method_4_code 1 = .ok (.invokestatic 53, 3) := by decide +kernel
theorem dm_4 : decode prog_160_method_4_code 4 = .ok (.ifCond .eq 17, 3) := by decide +kernel
theorem dm_7 : decode prog_160_method_4_code 7 = .ok (.aload_n 0, 1) := by decide +kernel
theorem dm_8 : decode prog_160_method_4_code 8 = .ok (.iconst 2, 1) := by decide +kernel
theorem dm_9 : decode prog_160_method_4_code 9 = .ok (.putfield 11, 3) := by decide +kernel
theorem dm_12 : decode prog_160_method_4_code 12 = .ok (.aload_n 0, 1) := by decide +kernel
theorem dm_13 : decode prog_160_method_4_code 13 = .ok (.iload_n 1, 1) := by decide +kernel
theorem dm_14 : decode prog_160_method_4_code 14 = .ok (.iconst 0, 1) := by decide +kernel
theorem dm_15 : decode prog_160_method_4_code 15 = .ok (.invokevirtual 56, 3) := by decide +kernel
theorem dm_18 : decode prog_160_method_4_code 18 = .ok (.goto 18, 3) := by decide +kernel
theorem dm_21 : decode prog_160_method_4_code 21 = .ok (.aload_n 0, 1) := by decide +kernel
theorem dm_22 : decode prog_160_method_4_code 22 = .ok (.iload_n 1, 1) := by decide +kernel
theorem dm_23 : decode prog_160_method_4_code 23 = .ok (.bipush 46, 2) := by decide +kernel
theorem dm_25 : decode prog_160_method_4_code 25 = .ok (.if_icmp .ne 7, 3) := by decide +kernel
theorem dm_28 : decode prog_160_method_4_code 28 = .ok (.iconst 3, 1) := by decide +kernel
theorem dm_29 : decode prog_160_method_4_code 29 = .ok (.goto 4, 3) := by decide +kernel
theorem dm_32 : decode prog_160_method_4_code 32 = .ok (.iconst 5, 1) := by decide +kernel
theorem dm_33 : decode prog_160_method_4_code 33 = .ok (.putfield 11, 3) := by decide +kernel
theorem dm_36 : decode prog_160_method_4_code 36 = .ok (.return_, 1) := by decide +kernel
theorem pnm : plainFor (⟨"com/example/caddisfly/caddisfly/XpathNumbers$Numeral", "startNumeral", "(C)V"⟩ : MethodName) = true := plainFor_of_name (show plainName "com/example/caddisfly/caddisfly/XpathNumbers$Numeral" = true by first | (simp [plainName, overriddenIn]; done) | decide +kernel)
theorem pdm : parseMethodDescriptor "(C)V" = some ⟨[.char], none⟩ := by decide +kernel
abbrev Wm (l : Launch) (Z : State) (n0 : Nat) (P : Option Value → Heap → Prop) (G : Prop) (s : State) := Wk l Z ({ frames := 1, cells := 0, slots := 0, locals := 20 } : Room) (⟨"com/example/caddisfly/caddisfly/XpathNumbers$Numeral", "startNumeral", "(C)V"⟩ : MethodName) prog_160_method_4_code 2 none n0 (Ex s ({ frames := 1, cells := 0, slots := 0, locals := 20 } : Room) n0 P G) s
set_option maxRecDepth 65536 in
set_option maxHeartbeats 40000000 in
theorem conm0 (l : Launch) (Z : State) (a0 : Array Value) (hw : ∀ d ∈ tables_1, d.before a0 Z = true) (p : Nat) (c : Int32) (st sg : Nat) (hc : Cl c 0) (hsg : sg < 18) (h0 : Heap) (n0 : Nat) (s_h0 : n0 ≤ h0.size) (n_p : n0 ≤ p) (N : NS Z h0 p st sg) : Con l Z (⟨"com/example/caddisfly/caddisfly/XpathNumbers$Numeral", "startNumeral", "(C)V"⟩ : MethodName) prog_160_method_4_code 2 none ({ frames := 1, cells := 0, slots := 0, locals := 20 } : Room) #[.ref p, .int c] h0 n0 (QN Z p 5 sg h0) := by
  refine Con.of pnm (Ls := #[.val (.ref p), .val (.int c)]) (fun m => by first | (simp [entryFrame, mkF, argsToLocals, Value.category]; done) | rfl) ?_
  intro G s k
  obtain ⟨E, F1, F2, ⟨ex, F3⟩, ⟨ld, F4⟩, ⟨ad, F5⟩, ⟨ng, F6⟩⟩ := N
  have KK : Keep h0 h0 [p] := Keep.refl _ _
  have sk := KK.1
  have k : Wm l Z n0 (QN Z p 5 sg h0) G s h0 0 0 1 #[.val (.ref p), .val (.int c)] [(.int c)] := k.iloadN dm_0 rfl
  obtain ⟨v41, h41, ⟨rfl, rfl⟩, k⟩ := k.callSN (hw _ (List.mem_of_getElem? (i := 51) rfl)) (hw _ (List.mem_of_getElem? (i := 52) rfl)) (hw _ (List.mem_of_getElem? (i := 45) rfl)) (hw _ (List.mem_of_getElem? (i := 53) rfl)) (by decide) (conb0 l Z a0 hw c h0 n0 (own_dg0 hc (by decide))) (argsL := [(.int c)]) (rest := []) (lenOf pdb rfl) dm_1 rfl rfl 0 (Nat.le_of_eq rfl) (by decide) (by decide) (by decide) (by decide)
  have k : Wm l Z n0 (QN Z p 5 sg h0) G s h0 0 0 4 #[.val (.ref p), .val (.int c)] [(.int (0 : Int32))] := k
  have k : Wm l Z n0 (QN Z p 5 sg h0) G s h0 0 0 21 #[.val (.ref p), .val (.int c)] [] := k.ifT (pc' := 21) dm_4 (XT.i0_eq_t (by decide)) (by decide)
  have k : Wm l Z n0 (QN Z p 5 sg h0) G s h0 0 0 25 #[.val (.ref p), .val (.int c)] [(.int (46 : Int32)), (.int c), (.ref p)] := ((k.aloadN dm_21 rfl rfl).iloadN dm_22 rfl).bipush (46) dm_23 rfl
  have k : Wm l Z n0 (QN Z p 5 sg h0) G s h0 0 0 32 #[.val (.ref p), .val (.int c)] [(.ref p)] := k.icT (pc' := 32) dm_25 (XT.ii_ne_t (own_n46 hc (by decide))) (by decide)
  have k : Wm l Z n0 (QN Z p 5 sg h0) G s h0 0 0 33 #[.val (.ref p), .val (.int c)] [(.int (5 : Int32)), (.ref p)] := k.iconst (5) dm_32 rfl
  obtain ⟨h42, W42, K42, F1', E', k⟩ := k.putF (ty := .int) (hw _ (List.mem_of_getElem? (i := 21) rfl)) F1 E (Or.inl (hw _ (List.mem_of_getElem? (i := 22) rfl))) (hw _ (List.mem_of_getElem? (i := 13) rfl)) (by decide) rfl rfl n_p dm_33
  have F2 := Fld.other W42 F2 (Or.inr (slot_ne (C := "com/example/caddisfly/caddisfly/XpathNumbers$Numeral") (Or.inl (hw _ (List.mem_of_getElem? (i := 61) rfl))) (Or.inl (hw _ (List.mem_of_getElem? (i := 22) rfl))) (by decide) (t := .int) (t' := .int) (by decide) (by decide)))
  have F3 := Fld.other W42 F3 (Or.inr (slot_ne (C := "com/example/caddisfly/caddisfly/XpathNumbers$Numeral") (Or.inl (hw _ (List.mem_of_getElem? (i := 63) rfl))) (Or.inl (hw _ (List.mem_of_getElem? (i := 22) rfl))) (by decide) (t := .long) (t' := .int) (by decide) (by decide)))
  have F4 := Fld.other W42 F4 (Or.inr (slot_ne (C := "com/example/caddisfly/caddisfly/XpathNumbers$Numeral") (Or.inl (hw _ (List.mem_of_getElem? (i := 65) rfl))) (Or.inl (hw _ (List.mem_of_getElem? (i := 22) rfl))) (by decide) (t := .long) (t' := .int) (by decide) (by decide)))
  have F5 := Fld.other W42 F5 (Or.inr (slot_ne (C := "com/example/caddisfly/caddisfly/XpathNumbers$Numeral") (Or.inl (hw _ (List.mem_of_getElem? (i := 59) rfl))) (Or.inl (hw _ (List.mem_of_getElem? (i := 22) rfl))) (by decide) (t := .boolean) (t' := .int) (by decide) (by decide)))
  have F6 := Fld.other W42 F6 (Or.inr (slot_ne (C := "com/example/caddisfly/caddisfly/XpathNumbers$Numeral") (Or.inl (hw _ (List.mem_of_getElem? (i := 68) rfl))) (Or.inl (hw _ (List.mem_of_getElem? (i := 22) rfl))) (by decide) (t := .boolean) (t' := .int) (by decide) (by decide)))
  have KK : Keep h0 _ [p] := KK.trans K42 (allS (Or.inl (by simp)) all0)
  have sk := KK.1
  have F1 := F1'
  have E := E'
  have s_h42 : n0 ≤ h42.size := Nat.le_trans (by omega) K42.1
  have k : Wm l Z n0 (QN Z p 5 sg h0) G s h42 0 0 36 #[.val (.ref p), .val (.int c)] [] := k
  exact k.outN dm_36 (by decide) (by decide) ⟨rfl, KK, ⟨E, F1, F2, ⟨_, F3⟩, ⟨_, F4⟩, ⟨_, F5⟩, ⟨_, F6⟩⟩⟩
set_option maxRecDepth 65536 in
set_option maxHeartbeats 40000000 in
theorem conm1 (l : Launch) (Z : State) (a0 : Array Value) (hw : ∀ d ∈ tables_1, d.before a0 Z = true) (p : Nat) (c : Int32) (st sg : Nat) (hc : Cl c 1) (hsg : sg < 18) (h0 : Heap) (n0 : Nat) (s_h0 : n0 ≤ h0.size) (n_p : n0 ≤ p) (N : NS Z h0 p st sg) : Con l Z (⟨"com/example/caddisfly/caddisfly/XpathNumbers$Numeral", "startNumeral", "(C)V"⟩ : MethodName) prog_160_method_4_code 2 none ({ frames := 1, cells := 0, slots := 0, locals := 20 } : Room) #[.ref p, .int c] h0 n0 (QN Z p 5 sg h0) := by
  refine Con.of pnm (Ls := #[.val (.ref p), .val (.int c)]) (fun m => by first | (simp [entryFrame, mkF, argsToLocals, Value.category]; done) | rfl) ?_
  intro G s k
  obtain ⟨E, F1, F2, ⟨ex, F3⟩, ⟨ld, F4⟩, ⟨ad, F5⟩, ⟨ng, F6⟩⟩ := N
  have KK : Keep h0 h0 [p] := Keep.refl _ _
  have sk := KK.1
  have k : Wm l Z n0 (QN Z p 5 sg h0) G s h0 0 0 1 #[.val (.ref p), .val (.int c)] [(.int c)] := k.iloadN dm_0 rfl
  obtain ⟨v43, h43, ⟨rfl, rfl⟩, k⟩ := k.callSN (hw _ (List.mem_of_getElem? (i := 51) rfl)) (hw _ (List.mem_of_getElem? (i := 52) rfl)) (hw _ (List.mem_of_getElem? (i := 45) rfl)) (hw _ (List.mem_of_getElem? (i := 53) rfl)) (by decide) (conb0 l Z a0 hw c h0 n0 (own_dg0 hc (by decide))) (argsL := [(.int c)]) (rest := []) (lenOf pdb rfl) dm_1 rfl rfl 0 (Nat.le_of_eq rfl) (by decide) (by decide) (by decide) (by decide)
  have k : Wm l Z n0 (QN Z p 5 sg h0) G s h0 0 0 4 #[.val (.ref p), .val (.int c)] [(.int (0 : Int32))] := k
  have k : Wm l Z n0 (QN Z p 5 sg h0) G s h0 0 0 21 #[.val (.ref p), .val (.int c)] [] := k.ifT (pc' := 21) dm_4 (XT.i0_eq_t (by decide)) (by decide)
  have k : Wm l Z n0 (QN Z p 5 sg h0) G s h0 0 0 25 #[.val (.ref p), .val (.int c)] [(.int (46 : Int32)), (.int c), (.ref p)] := ((k.aloadN dm_21 rfl rfl).iloadN dm_22 rfl).bipush (46) dm_23 rfl
  have k : Wm l Z n0 (QN Z p 5 sg h0) G s h0 0 0 32 #[.val (.ref p), .val (.int c)] [(.ref p)] := k.icT (pc' := 32) dm_25 (XT.ii_ne_t (own_n46 hc (by decide))) (by decide)
  have k : Wm l Z n0 (QN Z p 5 sg h0) G s h0 0 0 33 #[.val (.ref p), .val (.int c)] [(.int (5 : Int32)), (.ref p)] := k.iconst (5) dm_32 rfl
  obtain ⟨h44, W44, K44, F1', E', k⟩ := k.putF (ty := .int) (hw _ (List.mem_of_getElem? (i := 21) rfl)) F1 E (Or.inl (hw _ (List.mem_of_getElem? (i := 22) rfl))) (hw _ (List.mem_of_getElem? (i := 13) rfl)) (by decide) rfl rfl n_p dm_33
  have F2 := Fld.other W44 F2 (Or.inr (slot_ne (C := "com/example/caddisfly/caddisfly/XpathNumbers$Numeral") (Or.inl (hw _ (List.mem_of_getElem? (i := 61) rfl))) (Or.inl (hw _ (List.mem_of_getElem? (i := 22) rfl))) (by decide) (t := .int) (t' := .int) (by decide) (by decide)))
  have F3 := Fld.other W44 F3 (Or.inr (slot_ne (C := "com/example/caddisfly/caddisfly/XpathNumbers$Numeral") (Or.inl (hw _ (List.mem_of_getElem? (i := 63) rfl))) (Or.inl (hw _ (List.mem_of_getElem? (i := 22) rfl))) (by decide) (t := .long) (t' := .int) (by decide) (by decide)))
  have F4 := Fld.other W44 F4 (Or.inr (slot_ne (C := "com/example/caddisfly/caddisfly/XpathNumbers$Numeral") (Or.inl (hw _ (List.mem_of_getElem? (i := 65) rfl))) (Or.inl (hw _ (List.mem_of_getElem? (i := 22) rfl))) (by decide) (t := .long) (t' := .int) (by decide) (by decide)))
  have F5 := Fld.other W44 F5 (Or.inr (slot_ne (C := "com/example/caddisfly/caddisfly/XpathNumbers$Numeral") (Or.inl (hw _ (List.mem_of_getElem? (i := 59) rfl))) (Or.inl (hw _ (List.mem_of_getElem? (i := 22) rfl))) (by decide) (t := .boolean) (t' := .int) (by decide) (by decide)))
  have F6 := Fld.other W44 F6 (Or.inr (slot_ne (C := "com/example/caddisfly/caddisfly/XpathNumbers$Numeral") (Or.inl (hw _ (List.mem_of_getElem? (i := 68) rfl))) (Or.inl (hw _ (List.mem_of_getElem? (i := 22) rfl))) (by decide) (t := .boolean) (t' := .int) (by decide) (by decide)))
  have KK : Keep h0 _ [p] := KK.trans K44 (allS (Or.inl (by simp)) all0)
  have sk := KK.1
  have F1 := F1'
  have E := E'
  have s_h44 : n0 ≤ h44.size := Nat.le_trans (by omega) K44.1
  have k : Wm l Z n0 (QN Z p 5 sg h0) G s h44 0 0 36 #[.val (.ref p), .val (.int c)] [] := k
  exact k.outN dm_36 (by decide) (by decide) ⟨rfl, KK, ⟨E, F1, F2, ⟨_, F3⟩, ⟨_, F4⟩, ⟨_, F5⟩, ⟨_, F6⟩⟩⟩
set_option maxRecDepth 65536 in
set_option maxHeartbeats 40000000 in
theorem conm2 (l : Launch) (Z : State) (a0 : Array Value) (hw : ∀ d ∈ tables_1, d.before a0 Z = true) (p : Nat) (c : Int32) (st sg : Nat) (hc : Cl c 2) (hsg : sg < 18) (h0 : Heap) (n0 : Nat) (s_h0 : n0 ≤ h0.size) (n_p : n0 ≤ p) (N : NS Z h0 p st sg) : Con l Z (⟨"com/example/caddisfly/caddisfly/XpathNumbers$Numeral", "startNumeral", "(C)V"⟩ : MethodName) prog_160_method_4_code 2 none ({ frames := 1, cells := 0, slots := 0, locals := 20 } : Room) #[.ref p, .int c] h0 n0 (QN Z p 3 sg h0) := by
  refine Con.of pnm (Ls := #[.val (.ref p), .val (.int c)]) (fun m => by first | (simp [entryFrame, mkF, argsToLocals, Value.category]; done) | rfl) ?_
  intro G s k
  obtain ⟨E, F1, F2, ⟨ex, F3⟩, ⟨ld, F4⟩, ⟨ad, F5⟩, ⟨ng, F6⟩⟩ := N
  have KK : Keep h0 h0 [p] := Keep.refl _ _
  have sk := KK.1
  have k : Wm l Z n0 (QN Z p 3 sg h0) G s h0 0 0 1 #[.val (.ref p), .val (.int c)] [(.int c)] := k.iloadN dm_0 rfl
  obtain ⟨v45, h45, ⟨rfl, rfl⟩, k⟩ := k.callSN (hw _ (List.mem_of_getElem? (i := 51) rfl)) (hw _ (List.mem_of_getElem? (i := 52) rfl)) (hw _ (List.mem_of_getElem? (i := 45) rfl)) (hw _ (List.mem_of_getElem? (i := 53) rfl)) (by decide) (conb0 l Z a0 hw c h0 n0 (own_dg0 hc (by decide))) (argsL := [(.int c)]) (rest := []) (lenOf pdb rfl) dm_1 rfl rfl 0 (Nat.le_of_eq rfl) (by decide) (by decide) (by decide) (by decide)
  have k : Wm l Z n0 (QN Z p 3 sg h0) G s h0 0 0 4 #[.val (.ref p), .val (.int c)] [(.int (0 : Int32))] := k
  have k : Wm l Z n0 (QN Z p 3 sg h0) G s h0 0 0 21 #[.val (.ref p), .val (.int c)] [] := k.ifT (pc' := 21) dm_4 (XT.i0_eq_t (by decide)) (by decide)
  have k : Wm l Z n0 (QN Z p 3 sg h0) G s h0 0 0 25 #[.val (.ref p), .val (.int c)] [(.int (46 : Int32)), (.int c), (.ref p)] := ((k.aloadN dm_21 rfl rfl).iloadN dm_22 rfl).bipush (46) dm_23 rfl
  have k : Wm l Z n0 (QN Z p 3 sg h0) G s h0 0 0 28 #[.val (.ref p), .val (.int c)] [(.ref p)] := k.icF dm_25 (XT.ii_ne_f (show c = (46 : Int32) from hc))
  have k : Wm l Z n0 (QN Z p 3 sg h0) G s h0 0 0 33 #[.val (.ref p), .val (.int c)] [(.int (3 : Int32)), (.ref p)] := (k.iconst (3) dm_28 rfl).goto (pc' := 33) dm_29 (by decide)
  obtain ⟨h46, W46, K46, F1', E', k⟩ := k.putF (ty := .int) (hw _ (List.mem_of_getElem? (i := 21) rfl)) F1 E (Or.inl (hw _ (List.mem_of_getElem? (i := 22) rfl))) (hw _ (List.mem_of_getElem? (i := 13) rfl)) (by decide) rfl rfl n_p dm_33
  have F2 := Fld.other W46 F2 (Or.inr (slot_ne (C := "com/example/caddisfly/caddisfly/XpathNumbers$Numeral") (Or.inl (hw _ (List.mem_of_getElem? (i := 61) rfl))) (Or.inl (hw _ (List.mem_of_getElem? (i := 22) rfl))) (by decide) (t := .int) (t' := .int) (by decide) (by decide)))
  have F3 := Fld.other W46 F3 (Or.inr (slot_ne (C := "com/example/caddisfly/caddisfly/XpathNumbers$Numeral") (Or.inl (hw _ (List.mem_of_getElem? (i := 63) rfl))) (Or.inl (hw _ (List.mem_of_getElem? (i := 22) rfl))) (by decide) (t := .long) (t' := .int) (by decide) (by decide)))
  have F4 := Fld.other W46 F4 (Or.inr (slot_ne (C := "com/example/caddisfly/caddisfly/XpathNumbers$Numeral") (Or.inl (hw _ (List.mem_of_getElem? (i := 65) rfl))) (Or.inl (hw _ (List.mem_of_getElem? (i := 22) rfl))) (by decide) (t := .long) (t' := .int) (by decide) (by decide)))
  have F5 := Fld.other W46 F5 (Or.inr (slot_ne (C := "com/example/caddisfly/caddisfly/XpathNumbers$Numeral") (Or.inl (hw _ (List.mem_of_getElem? (i := 59) rfl))) (Or.inl (hw _ (List.mem_of_getElem? (i := 22) rfl))) (by decide) (t := .boolean) (t' := .int) (by decide) (by decide)))
  have F6 := Fld.other W46 F6 (Or.inr (slot_ne (C := "com/example/caddisfly/caddisfly/XpathNumbers$Numeral") (Or.inl (hw _ (List.mem_of_getElem? (i := 68) rfl))) (Or.inl (hw _ (List.mem_of_getElem? (i := 22) rfl))) (by decide) (t := .boolean) (t' := .int) (by decide) (by decide)))
  have KK : Keep h0 _ [p] := KK.trans K46 (allS (Or.inl (by simp)) all0)
  have sk := KK.1
  have F1 := F1'
  have E := E'
  have s_h46 : n0 ≤ h46.size := Nat.le_trans (by omega) K46.1
  have k : Wm l Z n0 (QN Z p 3 sg h0) G s h46 0 0 36 #[.val (.ref p), .val (.int c)] [] := k
  exact k.outN dm_36 (by decide) (by decide) ⟨rfl, KK, ⟨E, F1, F2, ⟨_, F3⟩, ⟨_, F4⟩, ⟨_, F5⟩, ⟨_, F6⟩⟩⟩
set_option maxRecDepth 65536 in
set_option maxHeartbeats 40000000 in
theorem conm3 (l : Launch) (Z : State) (a0 : Array Value) (hw : ∀ d ∈ tables_1, d.before a0 Z = true) (p : Nat) (c : Int32) (st sg : Nat) (hc : Cl c 3) (hsg : sg < 18) (h0 : Heap) (n0 : Nat) (s_h0 : n0 ≤ h0.size) (n_p : n0 ≤ p) (N : NS Z h0 p st sg) : Con l Z (⟨"com/example/caddisfly/caddisfly/XpathNumbers$Numeral", "startNumeral", "(C)V"⟩ : MethodName) prog_160_method_4_code 2 none ({ frames := 1, cells := 0, slots := 0, locals := 20 } : Room) #[.ref p, .int c] h0 n0 (QN Z p 2 (incN sg 3) h0) := by
  refine Con.of pnm (Ls := #[.val (.ref p), .val (.int c)]) (fun m => by first | (simp [entryFrame, mkF, argsToLocals, Value.category]; done) | rfl) ?_
  intro G s k
  obtain ⟨E, F1, F2, ⟨ex, F3⟩, ⟨ld, F4⟩, ⟨ad, F5⟩, ⟨ng, F6⟩⟩ := N
  have KK : Keep h0 h0 [p] := Keep.refl _ _
  have sk := KK.1
  have k : Wm l Z n0 (QN Z p 2 (incN sg 3) h0) G s h0 0 0 1 #[.val (.ref p), .val (.int c)] [(.int c)] := k.iloadN dm_0 rfl
  obtain ⟨v47, h47, ⟨rfl, rfl⟩, k⟩ := k.callSN (hw _ (List.mem_of_getElem? (i := 51) rfl)) (hw _ (List.mem_of_getElem? (i := 52) rfl)) (hw _ (List.mem_of_getElem? (i := 45) rfl)) (hw _ (List.mem_of_getElem? (i := 53) rfl)) (by decide) (conb1 l Z a0 hw c h0 n0 (own_dg1 hc (Or.inl rfl))) (argsL := [(.int c)]) (rest := []) (lenOf pdb rfl) dm_1 rfl rfl 0 (Nat.le_of_eq rfl) (by decide) (by decide) (by decide) (by decide)
  have k : Wm l Z n0 (QN Z p 2 (incN sg 3) h0) G s h0 0 0 4 #[.val (.ref p), .val (.int c)] [(.int (1 : Int32))] := k
  have k : Wm l Z n0 (QN Z p 2 (incN sg 3) h0) G s h0 0 0 7 #[.val (.ref p), .val (.int c)] [] := k.ifF dm_4 (XT.i0_eq_f (by decide))
  have k : Wm l Z n0 (QN Z p 2 (incN sg 3) h0) G s h0 0 0 9 #[.val (.ref p), .val (.int c)] [(.int (2 : Int32)), (.ref p)] := (k.aloadN dm_7 rfl rfl).iconst (2) dm_8 rfl
  obtain ⟨h48, W48, K48, F1', E', k⟩ := k.putF (ty := .int) (hw _ (List.mem_of_getElem? (i := 21) rfl)) F1 E (Or.inl (hw _ (List.mem_of_getElem? (i := 22) rfl))) (hw _ (List.mem_of_getElem? (i := 13) rfl)) (by decide) rfl rfl n_p dm_9
  have F2 := Fld.other W48 F2 (Or.inr (slot_ne (C := "com/example/caddisfly/caddisfly/XpathNumbers$Numeral") (Or.inl (hw _ (List.mem_of_getElem? (i := 61) rfl))) (Or.inl (hw _ (List.mem_of_getElem? (i := 22) rfl))) (by decide) (t := .int) (t' := .int) (by decide) (by decide)))
  have F3 := Fld.other W48 F3 (Or.inr (slot_ne (C := "com/example/caddisfly/caddisfly/XpathNumbers$Numeral") (Or.inl (hw _ (List.mem_of_getElem? (i := 63) rfl))) (Or.inl (hw _ (List.mem_of_getElem? (i := 22) rfl))) (by decide) (t := .long) (t' := .int) (by decide) (by decide)))
  have F4 := Fld.other W48 F4 (Or.inr (slot_ne (C := "com/example/caddisfly/caddisfly/XpathNumbers$Numeral") (Or.inl (hw _ (List.mem_of_getElem? (i := 65) rfl))) (Or.inl (hw _ (List.mem_of_getElem? (i := 22) rfl))) (by decide) (t := .long) (t' := .int) (by decide) (by decide)))
  have F5 := Fld.other W48 F5 (Or.inr (slot_ne (C := "com/example/caddisfly/caddisfly/XpathNumbers$Numeral") (Or.inl (hw _ (List.mem_of_getElem? (i := 59) rfl))) (Or.inl (hw _ (List.mem_of_getElem? (i := 22) rfl))) (by decide) (t := .boolean) (t' := .int) (by decide) (by decide)))
  have F6 := Fld.other W48 F6 (Or.inr (slot_ne (C := "com/example/caddisfly/caddisfly/XpathNumbers$Numeral") (Or.inl (hw _ (List.mem_of_getElem? (i := 68) rfl))) (Or.inl (hw _ (List.mem_of_getElem? (i := 22) rfl))) (by decide) (t := .boolean) (t' := .int) (by decide) (by decide)))
  have KK : Keep h0 _ [p] := KK.trans K48 (allS (Or.inl (by simp)) all0)
  have sk := KK.1
  have F1 := F1'
  have E := E'
  have s_h48 : n0 ≤ h48.size := Nat.le_trans (by omega) K48.1
  have k : Wm l Z n0 (QN Z p 2 (incN sg 3) h0) G s h48 0 0 12 #[.val (.ref p), .val (.int c)] [] := k
  have k : Wm l Z n0 (QN Z p 2 (incN sg 3) h0) G s h48 0 0 15 #[.val (.ref p), .val (.int c)] [(.int (0 : Int32)), (.int c), (.ref p)] := ((k.aloadN dm_12 rfl rfl).iloadN dm_13 rfl).iconst (0) dm_14 rfl
  have N0 : NS Z h48 p 2 sg := ⟨E, F1, F2, ⟨_, F3⟩, ⟨_, F4⟩, ⟨_, F5⟩, ⟨_, F6⟩⟩
  obtain ⟨v49, h49, ⟨rfl, K49, N49⟩, k⟩ := k.callP (hw _ (List.mem_of_getElem? (i := 54) rfl)) (hw _ (List.mem_of_getElem? (i := 55) rfl)) (hw _ (List.mem_of_getElem? (i := 56) rfl)) (hw _ (List.mem_of_getElem? (i := 26) rfl)) rfl (hw _ (List.mem_of_getElem? (i := 14) rfl)) (hw _ (List.mem_of_getElem? (i := 57) rfl)) (by decide) E (conj0 l Z a0 hw p c 2 sg 3 hc (Or.inl rfl) hsg h48 n0 (by omega) n_p N0) (argsL := [(.int c), (.int (0 : Int32))]) (rest := []) (lenOf pdj rfl) dm_15 rfl rfl 0 (Nat.le_of_eq rfl) (by decide) (by decide) (by decide) (by decide)
  have k : Wm l Z n0 (QN Z p 2 (incN sg 3) h0) G s h49 0 0 18 #[.val (.ref p), .val (.int c)] [] := k
  have KK : Keep h0 _ [p] := KK.trans K49 (allS (Or.inl (by simp)) all0)
  have k : Wm l Z n0 (QN Z p 2 (incN sg 3) h0) G s h49 0 0 36 #[.val (.ref p), .val (.int c)] [] := k.goto (pc' := 36) dm_18 (by decide)
  exact k.outN dm_36 (by decide) (by decide) ⟨rfl, KK, N49⟩
set_option maxRecDepth 65536 in
set_option maxHeartbeats 40000000 in
theorem conm4 (l : Launch) (Z : State) (a0 : Array Value) (hw : ∀ d ∈ tables_1, d.before a0 Z = true) (p : Nat) (c : Int32) (st sg : Nat) (hc : Cl c 4) (hsg : sg < 18) (h0 : Heap) (n0 : Nat) (s_h0 : n0 ≤ h0.size) (n_p : n0 ≤ p) (N : NS Z h0 p st sg) : Con l Z (⟨"com/example/caddisfly/caddisfly/XpathNumbers$Numeral", "startNumeral", "(C)V"⟩ : MethodName) prog_160_method_4_code 2 none ({ frames := 1, cells := 0, slots := 0, locals := 20 } : Room) #[.ref p, .int c] h0 n0 (QN Z p 2 (incN sg 4) h0) := by
  refine Con.of pnm (Ls := #[.val (.ref p), .val (.int c)]) (fun m => by first | (simp [entryFrame, mkF, argsToLocals, Value.category]; done) | rfl) ?_
  intro G s k
  obtain ⟨E, F1, F2, ⟨ex, F3⟩, ⟨ld, F4⟩, ⟨ad, F5⟩, ⟨ng, F6⟩⟩ := N
  have KK : Keep h0 h0 [p] := Keep.refl _ _
  have sk := KK.1
  have k : Wm l Z n0 (QN Z p 2 (incN sg 4) h0) G s h0 0 0 1 #[.val (.ref p), .val (.int c)] [(.int c)] := k.iloadN dm_0 rfl
  obtain ⟨v50, h50, ⟨rfl, rfl⟩, k⟩ := k.callSN (hw _ (List.mem_of_getElem? (i := 51) rfl)) (hw _ (List.mem_of_getElem? (i := 52) rfl)) (hw _ (List.mem_of_getElem? (i := 45) rfl)) (hw _ (List.mem_of_getElem? (i := 53) rfl)) (by decide) (conb1 l Z a0 hw c h0 n0 (own_dg1 hc (Or.inr rfl))) (argsL := [(.int c)]) (rest := []) (lenOf pdb rfl) dm_1 rfl rfl 0 (Nat.le_of_eq rfl) (by decide) (by decide) (by decide) (by decide)
  have k : Wm l Z n0 (QN Z p 2 (incN sg 4) h0) G s h0 0 0 4 #[.val (.ref p), .val (.int c)] [(.int (1 : Int32))] := k
  have k : Wm l Z n0 (QN Z p 2 (incN sg 4) h0) G s h0 0 0 7 #[.val (.ref p), .val (.int c)] [] := k.ifF dm_4 (XT.i0_eq_f (by decide))
  have k : Wm l Z n0 (QN Z p 2 (incN sg 4) h0) G s h0 0 0 9 #[.val (.ref p), .val (.int c)] [(.int (2 : Int32)), (.ref p)] := (k.aloadN dm_7 rfl rfl).iconst (2) dm_8 rfl
  obtain ⟨h51, W51, K51, F1', E', k⟩ := k.putF (ty := .int) (hw _ (List.mem_of_getElem? (i := 21) rfl)) F1 E (Or.inl (hw _ (List.mem_of_getElem? (i := 22) rfl))) (hw _ (List.mem_of_getElem? (i := 13) rfl)) (by decide) rfl rfl n_p dm_9
  have F2 := Fld.other W51 F2 (Or.inr (slot_ne (C := "com/example/caddisfly/caddisfly/XpathNumbers$Numeral") (Or.inl (hw _ (List.mem_of_getElem? (i := 61) rfl))) (Or.inl (hw _ (List.mem_of_getElem? (i := 22) rfl))) (by decide) (t := .int) (t' := .int) (by decide) (by decide)))
  have F3 := Fld.other W51 F3 (Or.inr (slot_ne (C := "com/example/caddisfly/caddisfly/XpathNumbers$Numeral") (Or.inl (hw _ (List.mem_of_getElem? (i := 63) rfl))) (Or.inl (hw _ (List.mem_of_getElem? (i := 22) rfl))) (by decide) (t := .long) (t' := .int) (by decide) (by decide)))
  have F4 := Fld.other W51 F4 (Or.inr (slot_ne (C := "com/example/caddisfly/caddisfly/XpathNumbers$Numeral") (Or.inl (hw _ (List.mem_of_getElem? (i := 65) rfl))) (Or.inl (hw _ (List.mem_of_getElem? (i := 22) rfl))) (by decide) (t := .long) (t' := .int) (by decide) (by decide)))
  have F5 := Fld.other W51 F5 (Or.inr (slot_ne (C := "com/example/caddisfly/caddisfly/XpathNumbers$Numeral") (Or.inl (hw _ (List.mem_of_getElem? (i := 59) rfl))) (Or.inl (hw _ (List.mem_of_getElem? (i := 22) rfl))) (by decide) (t := .boolean) (t' := .int) (by decide) (by decide)))
  have F6 := Fld.other W51 F6 (Or.inr (slot_ne (C := "com/example/caddisfly/caddisfly/XpathNumbers$Numeral") (Or.inl (hw _ (List.mem_of_getElem? (i := 68) rfl))) (Or.inl (hw _ (List.mem_of_getElem? (i := 22) rfl))) (by decide) (t := .boolean) (t' := .int) (by decide) (by decide)))
  have KK : Keep h0 _ [p] := KK.trans K51 (allS (Or.inl (by simp)) all0)
  have sk := KK.1
  have F1 := F1'
  have E := E'
  have s_h51 : n0 ≤ h51.size := Nat.le_trans (by omega) K51.1
  have k : Wm l Z n0 (QN Z p 2 (incN sg 4) h0) G s h51 0 0 12 #[.val (.ref p), .val (.int c)] [] := k
  have k : Wm l Z n0 (QN Z p 2 (incN sg 4) h0) G s h51 0 0 15 #[.val (.ref p), .val (.int c)] [(.int (0 : Int32)), (.int c), (.ref p)] := ((k.aloadN dm_12 rfl rfl).iloadN dm_13 rfl).iconst (0) dm_14 rfl
  have N0 : NS Z h51 p 2 sg := ⟨E, F1, F2, ⟨_, F3⟩, ⟨_, F4⟩, ⟨_, F5⟩, ⟨_, F6⟩⟩
  obtain ⟨v52, h52, ⟨rfl, K52, N52⟩, k⟩ := k.callP (hw _ (List.mem_of_getElem? (i := 54) rfl)) (hw _ (List.mem_of_getElem? (i := 55) rfl)) (hw _ (List.mem_of_getElem? (i := 56) rfl)) (hw _ (List.mem_of_getElem? (i := 26) rfl)) rfl (hw _ (List.mem_of_getElem? (i := 14) rfl)) (hw _ (List.mem_of_getElem? (i := 57) rfl)) (by decide) E (conj0 l Z a0 hw p c 2 sg 4 hc (Or.inr rfl) hsg h51 n0 (by omega) n_p N0) (argsL := [(.int c), (.int (0 : Int32))]) (rest := []) (lenOf pdj rfl) dm_15 rfl rfl 0 (Nat.le_of_eq rfl) (by decide) (by decide) (by decide) (by decide)
  have k : Wm l Z n0 (QN Z p 2 (incN sg 4) h0) G s h52 0 0 18 #[.val (.ref p), .val (.int c)] [] := k
  have KK : Keep h0 _ [p] := KK.trans K52 (allS (Or.inl (by simp)) all0)
  have k : Wm l Z n0 (QN Z p 2 (incN sg 4) h0) G s h52 0 0 36 #[.val (.ref p), .val (.int c)] [] := k.goto (pc' := 36) dm_18 (by decide)
  exact k.outN dm_36 (by decide) (by decide) ⟨rfl, KK, N52⟩
set_option maxRecDepth 65536 in
set_option maxHeartbeats 40000000 in
theorem conm5 (l : Launch) (Z : State) (a0 : Array Value) (hw : ∀ d ∈ tables_1, d.before a0 Z = true) (p : Nat) (c : Int32) (st sg : Nat) (hc : Cl c 5) (hsg : sg < 18) (h0 : Heap) (n0 : Nat) (s_h0 : n0 ≤ h0.size) (n_p : n0 ≤ p) (N : NS Z h0 p st sg) : Con l Z (⟨"com/example/caddisfly/caddisfly/XpathNumbers$Numeral", "startNumeral", "(C)V"⟩ : MethodName) prog_160_method_4_code 2 none ({ frames := 1, cells := 0, slots := 0, locals := 20 } : Room) #[.ref p, .int c] h0 n0 (QN Z p 5 sg h0) := by
  refine Con.of pnm (Ls := #[.val (.ref p), .val (.int c)]) (fun m => by first | (simp [entryFrame, mkF, argsToLocals, Value.category]; done) | rfl) ?_
  intro G s k
  obtain ⟨E, F1, F2, ⟨ex, F3⟩, ⟨ld, F4⟩, ⟨ad, F5⟩, ⟨ng, F6⟩⟩ := N
  have KK : Keep h0 h0 [p] := Keep.refl _ _
  have sk := KK.1
  have k : Wm l Z n0 (QN Z p 5 sg h0) G s h0 0 0 1 #[.val (.ref p), .val (.int c)] [(.int c)] := k.iloadN dm_0 rfl
  obtain ⟨v53, h53, ⟨rfl, rfl⟩, k⟩ := k.callSN (hw _ (List.mem_of_getElem? (i := 51) rfl)) (hw _ (List.mem_of_getElem? (i := 52) rfl)) (hw _ (List.mem_of_getElem? (i := 45) rfl)) (hw _ (List.mem_of_getElem? (i := 53) rfl)) (by decide) (conb0 l Z a0 hw c h0 n0 (own_dg0 hc (by decide))) (argsL := [(.int c)]) (rest := []) (lenOf pdb rfl) dm_1 rfl rfl 0 (Nat.le_of_eq rfl) (by decide) (by decide) (by decide) (by decide)
  have k : Wm l Z n0 (QN Z p 5 sg h0) G s h0 0 0 4 #[.val (.ref p), .val (.int c)] [(.int (0 : Int32))] := k
  have k : Wm l Z n0 (QN Z p 5 sg h0) G s h0 0 0 21 #[.val (.ref p), .val (.int c)] [] := k.ifT (pc' := 21) dm_4 (XT.i0_eq_t (by decide)) (by decide)
  have k : Wm l Z n0 (QN Z p 5 sg h0) G s h0 0 0 25 #[.val (.ref p), .val (.int c)] [(.int (46 : Int32)), (.int c), (.ref p)] := ((k.aloadN dm_21 rfl rfl).iloadN dm_22 rfl).bipush (46) dm_23 rfl
  have k : Wm l Z n0 (QN Z p 5 sg h0) G s h0 0 0 32 #[.val (.ref p), .val (.int c)] [(.ref p)] := k.icT (pc' := 32) dm_25 (XT.ii_ne_t (own_n46 hc (by decide))) (by decide)
  have k : Wm l Z n0 (QN Z p 5 sg h0) G s h0 0 0 33 #[.val (.ref p), .val (.int c)] [(.int (5 : Int32)), (.ref p)] := k.iconst (5) dm_32 rfl
  obtain ⟨h54, W54, K54, F1', E', k⟩ := k.putF (ty := .int) (hw _ (List.mem_of_getElem? (i := 21) rfl)) F1 E (Or.inl (hw _ (List.mem_of_getElem? (i := 22) rfl))) (hw _ (List.mem_of_getElem? (i := 13) rfl)) (by decide) rfl rfl n_p dm_33
  have F2 := Fld.other W54 F2 (Or.inr (slot_ne (C := "com/example/caddisfly/caddisfly/XpathNumbers$Numeral") (Or.inl (hw _ (List.mem_of_getElem? (i := 61) rfl))) (Or.inl (hw _ (List.mem_of_getElem? (i := 22) rfl))) (by decide) (t := .int) (t' := .int) (by decide) (by decide)))
  have F3 := Fld.other W54 F3 (Or.inr (slot_ne (C := "com/example/caddisfly/caddisfly/XpathNumbers$Numeral") (Or.inl (hw _ (List.mem_of_getElem? (i := 63) rfl))) (Or.inl (hw _ (List.mem_of_getElem? (i := 22) rfl))) (by decide) (t := .long) (t' := .int) (by decide) (by decide)))
  have F4 := Fld.other W54 F4 (Or.inr (slot_ne (C := "com/example/caddisfly/caddisfly/XpathNumbers$Numeral") (Or.inl (hw _ (List.mem_of_getElem? (i := 65) rfl))) (Or.inl (hw _ (List.mem_of_getElem? (i := 22) rfl))) (by decide) (t := .long) (t' := .int) (by decide) (by decide)))
  have F5 := Fld.other W54 F5 (Or.inr (slot_ne (C := "com/example/caddisfly/caddisfly/XpathNumbers$Numeral") (Or.inl (hw _ (List.mem_of_getElem? (i := 59) rfl))) (Or.inl (hw _ (List.mem_of_getElem? (i := 22) rfl))) (by decide) (t := .boolean) (t' := .int) (by decide) (by decide)))
  have F6 := Fld.other W54 F6 (Or.inr (slot_ne (C := "com/example/caddisfly/caddisfly/XpathNumbers$Numeral") (Or.inl (hw _ (List.mem_of_getElem? (i := 68) rfl))) (Or.inl (hw _ (List.mem_of_getElem? (i := 22) rfl))) (by decide) (t := .boolean) (t' := .int) (by decide) (by decide)))
  have KK : Keep h0 _ [p] := KK.trans K54 (allS (Or.inl (by simp)) all0)
  have sk := KK.1
  have F1 := F1'
  have E := E'
  have s_h54 : n0 ≤ h54.size := Nat.le_trans (by omega) K54.1
  have k : Wm l Z n0 (QN Z p 5 sg h0) G s h54 0 0 36 #[.val (.ref p), .val (.int c)] [] := k
  exact k.outN dm_36 (by decide) (by decide) ⟨rfl, KK, ⟨E, F1, F2, ⟨_, F3⟩, ⟨_, F4⟩, ⟨_, F5⟩, ⟨_, F6⟩⟩⟩
theorem dn_0 : decode prog_160_method_3_code 0 = .ok (.aload_n 0, 1) := by decide +kernel
theorem dn_1 : decode prog_160_method_3_code 1 = .ok (.getfield 11, 3) := by decide +kernel
theorem dn_4 : decode prog_160_method_3_code 4 = .ok (.tableswitch 181 0 4 #[36, 70, 78, 127, 162], 36) := by decide +kernel
theorem dn_40 : decode prog_160_method_3_code 40 = .ok (.iload_n 1, 1) := by decide +kernel
theorem dn_41 : decode prog_160_method_3_code 41 = .ok (.bipush 45, 2) := by decide +kernel
theorem dn_43 : decode prog_160_method_3_code 43 = .ok (.if_icmp .ne 16, 3) := by decide +kernel
theorem dn_46 : decode prog_160_method_3_code 46 = .ok (.aload_n 0, 1) := by decide +kernel
theorem dn_47 : decode prog_160_method_3_code 47 = .ok (.iconst 1, 1) := by decide +kernel
theorem dn_48 : decode prog_160_method_3_code 48 = .ok (.putfield 15, 3) := by decide +kernel
theorem dn_51 : decode prog_160_method_3_code 51 = .ok (.aload_n 0, 1) := by decide +kernel
theorem dn_52 : decode prog_160_method_3_code 52 = .ok (.iconst 1, 1) := by decide +kernel
theorem dn_53 : decode prog_160_method_3_code 53 = .ok (.putfield 11, 3) := by decide +kernel
theorem dn_56 : decode prog_160_method_3_code 56 = .ok (.goto 129, 3) := by decide +kernel
theorem dn_59 : decode prog_160_method_3_code 59 = .ok (.iload_n 1, 1) := by decide +kernel
theorem dn_60 : decode prog_160_method_3_code 60 = .ok (.invokestatic 45, 3) := by decide +kernel
theorem dn_63 : decode prog_160_method_3_code 63 = .ok (.ifCond .ne 122, 3) := by decide +kernel
theorem dn_66 : decode prog_160_method_3_code 66 = .ok (.aload_n 0, 1) := by decide +kernel
theorem dn_67 : decode prog_160_method_3_code 67 = .ok (.iload_n 1, 1) := by decide +kernel
theorem dn_68 : decode prog_160_method_3_code 68 = .ok (.invokevirtual 49, 3) := by decide +kernel
theorem dn_71 : decode prog_160_method_3_code 71 = .ok (.goto 114, 3) := by decide +kernel
theorem dn_74 : decode prog_160_method_3_code 74 = .ok (.aload_n 0, 1) := by decide +kernel
theorem dn_75 : decode prog_160_method_3_code 75 = .ok (.iload_n 1, 1) := by decide +kernel
theorem dn_76 : decode prog_160_method_3_code 76 = .ok (.invokevirtual 49, 3) := by decide +kernel
theorem dn_79 : decode prog_160_method_3_code 79 = .ok (.goto 106, 3) := by decide +kernel
theorem dn_82 : decode prog_160_method_3_code 82 = .ok (.iload_n 1, 1) := by decide +kernel
theorem dn_83 : decode prog_160_method_3_code 83 = .ok (.invokestatic 53, 3) := by decide +kernel
theorem dn_86 : decode prog_160_method_3_code 86 = .ok (.ifCond .eq 12, 3) := by decide +kernel
theorem dn_89 : decode prog_160_method_3_code 89 = .ok (.aload_n 0, 1) := by decide +kernel
theorem dn_90 : decode prog_160_method_3_code 90 = .ok (.iload_n 1, 1) := by decide +kernel
theorem dn_91 : decode prog_160_method_3_code 91 = .ok (.iconst 0, 1) := by decide +kernel
theorem dn_92 : decode prog_160_method_3_code 92 = .ok (.invokevirtual 56, 3) := by decide +kernel
theorem dn_95 : decode prog_160_method_3_code 95 = .ok (.goto 90, 3) := by decide +kernel
theorem dn_98 : decode prog_160_method_3_code 98 = .ok (.iload_n 1, 1) := by decide +kernel
theorem dn_99 : decode prog_160_method_3_code 99 = .ok (.bipush 46, 2) := by decide +kernel
theorem dn_101 : decode prog_160_method_3_code 101 = .ok (.if_icmp .ne 11, 3) := by decide +kernel
theorem dn_104 : decode prog_160_method_3_code 104 = .ok (.aload_n 0, 1) := by decide +kernel
theorem dn_105 : decode prog_160_method_3_code 105 = .ok (.iconst 3, 1) := by decide +kernel
theorem dn_106 : decode prog_160_method_3_code 106 = .ok (.putfield 11, 3) := by decide +kernel
theorem dn_109 : decode prog_160_method_3_code 109 = .ok (.goto 76, 3) := by decide +kernel
theorem dn_112 : decode prog_160_method_3_code 112 = .ok (.aload_n 0, 1) := by decide +kernel
theorem dn_113 : decode prog_160_method_3_code 113 = .ok (.iload_n 1, 1) := by decide +kernel
theorem dn_114 : decode prog_160_method_3_code 114 = .ok (.invokestatic 45, 3) := by decide +kernel
theorem dn_117 : decode prog_160_method_3_code 117 = .ok (.ifCond .eq 7, 3) := by decide +kernel
theorem dn_120 : decode prog_160_method_3_code 120 = .ok (.iconst 4, 1) := by decide +kernel
theorem dn_121 : decode prog_160_method_3_code 121 = .ok (.goto 4, 3) := by decide +kernel
theorem dn_124 : decode prog_160_method_3_code 124 = .ok (.iconst 5, 1) := by decide +kernel
theorem dn_125 : decode prog_160_method_3_code 125 = .ok (.putfield 11, 3) := by decide +kernel
theorem dn_128 : decode prog_160_method_3_code 128 = .ok (.goto 57, 3) := by decide +kernel
theorem dn_131 : decode prog_160_method_3_code 131 = .ok (.iload_n 1, 1) := by decide +kernel
theorem dn_132 : decode prog_160_method_3_code 132 = .ok (.invokestatic 53, 3) := by decide +kernel
theorem dn_135 : decode prog_160_method_3_code 135 = .ok (.ifCond .eq 12, 3) := by decide +kernel
theorem dn_138 : decode prog_160_method_3_code 138 = .ok (.aload_n 0, 1) := by decide +kernel
theorem dn_139 : decode prog_160_method_3_code 139 = .ok (.iload_n 1, 1) := by decide +kernel
theorem dn_140 : decode prog_160_method_3_code 140 = .ok (.iconst 1, 1) := by decide +kernel
theorem dn_141 : decode prog_160_method_3_code 141 = .ok (.invokevirtual 56, 3) := by decide +kernel
theorem dn_144 : decode prog_160_method_3_code 144 = .ok (.goto 41, 3) := by decide +kernel
theorem dn_147 : decode prog_160_method_3_code 147 = .ok (.aload_n 0, 1) := by decide +kernel
theorem dn_148 : decode prog_160_method_3_code 148 = .ok (.iload_n 1, 1) := by decide +kernel
theorem dn_149 : decode prog_160_method_3_code 149 = .ok (.invokestatic 45, 3) := by decide +kernel
theorem dn_152 : decode prog_160_method_3_code 152 = .ok (.ifCond .eq 7, 3) := by decide +kernel
theorem dn_155 : decode prog_160_method_3_code 155 = .ok (.iconst 4, 1) := by decide +kernel
theorem dn_156 : decode prog_160_method_3_code 156 = .ok (.goto 4, 3) := by decide +kernel
theorem dn_159 : decode prog_160_method_3_code 159 = .ok (.iconst 5, 1) := by decide +kernel
theorem dn_160 : decode prog_160_method_3_code 160 = .ok (.putfield 11, 3) := by decide +kernel
theorem dn_163 : decode prog_160_method_3_code 163 = .ok (.goto 22, 3) := by decide +kernel
theorem dn_166 : decode prog_160_method_3_code 166 = .ok (.aload_n 0, 1) := by decide +kernel
theorem dn_167 : decode prog_160_method_3_code 167 = .ok (.iload_n 1, 1) := by decide +kernel
theorem dn_168 : decode prog_160_method_3_code 168 = .ok (.invokestatic 45, 3) := by decide +kernel
theorem dn_171 : decode prog_160_method_3_code 171 = .ok (.ifCond .eq 7, 3) := by decide +kernel
theorem dn_174 : decode prog_160_method_3_code 174 = .ok (.iconst 4, 1) := by decide +kernel
theorem dn_175 : decode prog_160_method_3_code 175 = .ok (.goto 4, 3) := by decide +kernel
theorem dn_178 : decode prog_160_method_3_code 178 = .ok (.iconst 5, 1) := by decide +kernel
theorem dn_179 : decode prog_160_method_3_code 179 = .ok (.putfield 11, 3) := by decide +kernel
theorem dn_182 : decode prog_160_method_3_code 182 = .ok (.goto 3, 3) := by decide +kernel
theorem dn_185 : decode prog_160_method_3_code 185 = .ok (.return_, 1) := by decide +kernel
theorem pnn : plainFor (⟨"com/example/caddisfly/caddisfly/XpathNumbers$Numeral", "add", "(C)V"⟩ : MethodName) = true := plainFor_of_name (show plainName "com/example/caddisfly/caddisfly/XpathNumbers$Numeral" = true by first | (simp [plainName, overriddenIn]; done) | decide +kernel)
theorem pdn : parseMethodDescriptor "(C)V" = some ⟨[.char], none⟩ := by decide +kernel
abbrev Wn (l : Launch) (Z : State) (n0 : Nat) (P : Option Value → Heap → Prop) (G : Prop) (s : State) := Wk l Z ({ frames := 2, cells := 0, slots := 0, locals := 40 } : Room) (⟨"com/example/caddisfly/caddisfly/XpathNumbers$Numeral", "add", "(C)V"⟩ : MethodName) prog_160_method_3_code 2 none n0 (Ex s ({ frames := 2, cells := 0, slots := 0, locals := 40 } : Room) n0 P G) s
set_option maxRecDepth 65536 in
set_option maxHeartbeats 40000000 in
theorem conn00 (l : Launch) (Z : State) (a0 : Array Value) (hw : ∀ d ∈ tables_1, d.before a0 Z = true) (p : Nat) (c : Int32) (sg : Nat) (hc : Cl c 0) (hsg : sg < 18) (h0 : Heap) (n0 : Nat) (s_h0 : n0 ≤ h0.size) (n_p : n0 ≤ p) (N : NS Z h0 p 0 sg) : Con l Z (⟨"com/example/caddisfly/caddisfly/XpathNumbers$Numeral", "add", "(C)V"⟩ : MethodName) prog_160_method_3_code 2 none ({ frames := 2, cells := 0, slots := 0, locals := 40 } : Room) #[.ref p, .int c] h0 n0 (QN Z p 0 sg h0) := by
  refine Con.of pnn (Ls := #[.val (.ref p), .val (.int c)]) (fun m => by first | (simp [entryFrame, mkF, argsToLocals, Value.category]; done) | rfl) ?_
  intro G s k
  obtain ⟨E, F1, F2, ⟨ex, F3⟩, ⟨ld, F4⟩, ⟨ad, F5⟩, ⟨ng, F6⟩⟩ := N
  have KK : Keep h0 h0 [p] := Keep.refl _ _
  have sk := KK.1
  have F1 : Fld Z h0 p "com/example/caddisfly/caddisfly/XpathNumbers$Numeral" "stage" "I" (.int (0 : Int32)) := F1
  have k : Wn l Z n0 (QN Z p 0 sg h0) G s h0 0 0 4 #[.val (.ref p), .val (.int c)] [(.int (0 : Int32))] := (k.aloadN dn_0 rfl rfl).getF (hw _ (List.mem_of_getElem? (i := 21) rfl)) F1 dn_1
  have k : Wn l Z n0 (QN Z p 0 sg h0) G s h0 0 0 40 #[.val (.ref p), .val (.int c)] [] := k.tswIn (pc' := 40) dn_4 (by decide) rfl (by decide)
  have k : Wn l Z n0 (QN Z p 0 sg h0) G s h0 0 0 43 #[.val (.ref p), .val (.int c)] [(.int (45 : Int32)), (.int c)] := (k.iloadN dn_40 rfl).bipush (45) dn_41 rfl
  have k : Wn l Z n0 (QN Z p 0 sg h0) G s h0 0 0 59 #[.val (.ref p), .val (.int c)] [] := k.icT (pc' := 59) dn_43 (XT.ii_ne_t (own_n45 hc (by decide))) (by decide)
  have k : Wn l Z n0 (QN Z p 0 sg h0) G s h0 0 0 60 #[.val (.ref p), .val (.int c)] [(.int c)] := k.iloadN dn_59 rfl
  obtain ⟨v55, h55, ⟨rfl, rfl⟩, k⟩ := k.callSN (hw _ (List.mem_of_getElem? (i := 43) rfl)) (hw _ (List.mem_of_getElem? (i := 44) rfl)) (hw _ (List.mem_of_getElem? (i := 45) rfl)) (hw _ (List.mem_of_getElem? (i := 46) rfl)) (by decide) (cona1 l Z a0 hw c h0 n0 (own_ws1 hc)) (argsL := [(.int c)]) (rest := []) (lenOf pda rfl) dn_60 rfl rfl 0 (Nat.le_of_eq rfl) (by decide) (by decide) (by decide) (by decide)
  have k : Wn l Z n0 (QN Z p 0 sg h0) G s h0 0 0 63 #[.val (.ref p), .val (.int c)] [(.int (1 : Int32))] := k
  have k : Wn l Z n0 (QN Z p 0 sg h0) G s h0 0 0 185 #[.val (.ref p), .val (.int c)] [] := k.ifT (pc' := 185) dn_63 (XT.i0_ne_t (by decide)) (by decide)
  exact k.outN dn_185 (by decide) (by decide) ⟨rfl, KK, ⟨E, F1, F2, ⟨_, F3⟩, ⟨_, F4⟩, ⟨_, F5⟩, ⟨_, F6⟩⟩⟩
set_option maxRecDepth 65536 in
set_option maxHeartbeats 40000000 in
theorem conn01 (l : Launch) (Z : State) (a0 : Array Value) (hw : ∀ d ∈ tables_1, d.before a0 Z = true) (p : Nat) (c : Int32) (sg : Nat) (hc : Cl c 1) (hsg : sg < 18) (h0 : Heap) (n0 : Nat) (s_h0 : n0 ≤ h0.size) (n_p : n0 ≤ p) (N : NS Z h0 p 0 sg) : Con l Z (⟨"com/example/caddisfly/caddisfly/XpathNumbers$Numeral", "add", "(C)V"⟩ : MethodName) prog_160_method_3_code 2 none ({ frames := 2, cells := 0, slots := 0, locals := 40 } : Room) #[.ref p, .int c] h0 n0 (QN Z p 1 sg h0) := by
  refine Con.of pnn (Ls := #[.val (.ref p), .val (.int c)]) (fun m => by first | (simp [entryFrame, mkF, argsToLocals, Value.category]; done) | rfl) ?_
  intro G s k
  obtain ⟨E, F1, F2, ⟨ex, F3⟩, ⟨ld, F4⟩, ⟨ad, F5⟩, ⟨ng, F6⟩⟩ := N
  have KK : Keep h0 h0 [p] := Keep.refl _ _
  have sk := KK.1
  have F1 : Fld Z h0 p "com/example/caddisfly/caddisfly/XpathNumbers$Numeral" "stage" "I" (.int (0 : Int32)) := F1
  have k : Wn l Z n0 (QN Z p 1 sg h0) G s h0 0 0 4 #[.val (.ref p), .val (.int c)] [(.int (0 : Int32))] := (k.aloadN dn_0 rfl rfl).getF (hw _ (List.mem_of_getElem? (i := 21) rfl)) F1 dn_1
  have k : Wn l Z n0 (QN Z p 1 sg h0) G s h0 0 0 40 #[.val (.ref p), .val (.int c)] [] := k.tswIn (pc' := 40) dn_4 (by decide) rfl (by decide)
  have k : Wn l Z n0 (QN Z p 1 sg h0) G s h0 0 0 43 #[.val (.ref p), .val (.int c)] [(.int (45 : Int32)), (.int c)] := (k.iloadN dn_40 rfl).bipush (45) dn_41 rfl
  have k : Wn l Z n0 (QN Z p 1 sg h0) G s h0 0 0 46 #[.val (.ref p), .val (.int c)] [] := k.icF dn_43 (XT.ii_ne_f (show c = (45 : Int32) from hc))
  have k : Wn l Z n0 (QN Z p 1 sg h0) G s h0 0 0 48 #[.val (.ref p), .val (.int c)] [(.int (1 : Int32)), (.ref p)] := (k.aloadN dn_46 rfl rfl).iconst (1) dn_47 rfl
  obtain ⟨h56, W56, K56, F6', E', k⟩ := k.putF (ty := .boolean) (hw _ (List.mem_of_getElem? (i := 67) rfl)) F6 E (Or.inl (hw _ (List.mem_of_getElem? (i := 68) rfl))) (hw _ (List.mem_of_getElem? (i := 13) rfl)) (by decide) rfl rfl n_p dn_48
  have F1 := Fld.other W56 F1 (Or.inr (slot_ne (C := "com/example/caddisfly/caddisfly/XpathNumbers$Numeral") (Or.inl (hw _ (List.mem_of_getElem? (i := 22) rfl))) (Or.inl (hw _ (List.mem_of_getElem? (i := 68) rfl))) (by decide) (t := .int) (t' := .boolean) (by decide) (by decide)))
  have F2 := Fld.other W56 F2 (Or.inr (slot_ne (C := "com/example/caddisfly/caddisfly/XpathNumbers$Numeral") (Or.inl (hw _ (List.mem_of_getElem? (i := 61) rfl))) (Or.inl (hw _ (List.mem_of_getElem? (i := 68) rfl))) (by decide) (t := .int) (t' := .boolean) (by decide) (by decide)))
  have F3 := Fld.other W56 F3 (Or.inr (slot_ne (C := "com/example/caddisfly/caddisfly/XpathNumbers$Numeral") (Or.inl (hw _ (List.mem_of_getElem? (i := 63) rfl))) (Or.inl (hw _ (List.mem_of_getElem? (i := 68) rfl))) (by decide) (t := .long) (t' := .boolean) (by decide) (by decide)))
  have F4 := Fld.other W56 F4 (Or.inr (slot_ne (C := "com/example/caddisfly/caddisfly/XpathNumbers$Numeral") (Or.inl (hw _ (List.mem_of_getElem? (i := 65) rfl))) (Or.inl (hw _ (List.mem_of_getElem? (i := 68) rfl))) (by decide) (t := .long) (t' := .boolean) (by decide) (by decide)))
  have F5 := Fld.other W56 F5 (Or.inr (slot_ne (C := "com/example/caddisfly/caddisfly/XpathNumbers$Numeral") (Or.inl (hw _ (List.mem_of_getElem? (i := 59) rfl))) (Or.inl (hw _ (List.mem_of_getElem? (i := 68) rfl))) (by decide) (t := .boolean) (t' := .boolean) (by decide) (by decide)))
  have KK : Keep h0 _ [p] := KK.trans K56 (allS (Or.inl (by simp)) all0)
  have sk := KK.1
  have F6 := F6'
  have E := E'
  have s_h56 : n0 ≤ h56.size := Nat.le_trans (by omega) K56.1
  have k : Wn l Z n0 (QN Z p 1 sg h0) G s h56 0 0 51 #[.val (.ref p), .val (.int c)] [] := k
  have k : Wn l Z n0 (QN Z p 1 sg h0) G s h56 0 0 53 #[.val (.ref p), .val (.int c)] [(.int (1 : Int32)), (.ref p)] := (k.aloadN dn_51 rfl rfl).iconst (1) dn_52 rfl
  obtain ⟨h57, W57, K57, F1', E', k⟩ := k.putF (ty := .int) (hw _ (List.mem_of_getElem? (i := 21) rfl)) F1 E (Or.inl (hw _ (List.mem_of_getElem? (i := 22) rfl))) (hw _ (List.mem_of_getElem? (i := 13) rfl)) (by decide) rfl rfl n_p dn_53
  have F2 := Fld.other W57 F2 (Or.inr (slot_ne (C := "com/example/caddisfly/caddisfly/XpathNumbers$Numeral") (Or.inl (hw _ (List.mem_of_getElem? (i := 61) rfl))) (Or.inl (hw _ (List.mem_of_getElem? (i := 22) rfl))) (by decide) (t := .int) (t' := .int) (by decide) (by decide)))
  have F3 := Fld.other W57 F3 (Or.inr (slot_ne (C := "com/example/caddisfly/caddisfly/XpathNumbers$Numeral") (Or.inl (hw _ (List.mem_of_getElem? (i := 63) rfl))) (Or.inl (hw _ (List.mem_of_getElem? (i := 22) rfl))) (by decide) (t := .long) (t' := .int) (by decide) (by decide)))
  have F4 := Fld.other W57 F4 (Or.inr (slot_ne (C := "com/example/caddisfly/caddisfly/XpathNumbers$Numeral") (Or.inl (hw _ (List.mem_of_getElem? (i := 65) rfl))) (Or.inl (hw _ (List.mem_of_getElem? (i := 22) rfl))) (by decide) (t := .long) (t' := .int) (by decide) (by decide)))
  have F5 := Fld.other W57 F5 (Or.inr (slot_ne (C := "com/example/caddisfly/caddisfly/XpathNumbers$Numeral") (Or.inl (hw _ (List.mem_of_getElem? (i := 59) rfl))) (Or.inl (hw _ (List.mem_of_getElem? (i := 22) rfl))) (by decide) (t := .boolean) (t' := .int) (by decide) (by decide)))
  have F6 := Fld.other W57 F6 (Or.inr (slot_ne (C := "com/example/caddisfly/caddisfly/XpathNumbers$Numeral") (Or.inl (hw _ (List.mem_of_getElem? (i := 68) rfl))) (Or.inl (hw _ (List.mem_of_getElem? (i := 22) rfl))) (by decide) (t := .boolean) (t' := .int) (by decide) (by decide)))
  have KK : Keep h0 _ [p] := KK.trans K57 (allS (Or.inl (by simp)) all0)
  have sk := KK.1
  have F1 := F1'
  have E := E'
  have s_h57 : n0 ≤ h57.size := Nat.le_trans (by omega) K57.1
  have k : Wn l Z n0 (QN Z p 1 sg h0) G s h57 0 0 56 #[.val (.ref p), .val (.int c)] [] := k
  have k : Wn l Z n0 (QN Z p 1 sg h0) G s h57 0 0 185 #[.val (.ref p), .val (.int c)] [] := k.goto (pc' := 185) dn_56 (by decide)
  exact k.outN dn_185 (by decide) (by decide) ⟨rfl, KK, ⟨E, F1, F2, ⟨_, F3⟩, ⟨_, F4⟩, ⟨_, F5⟩, ⟨_, F6⟩⟩⟩
set_option maxRecDepth 65536 in
set_option maxHeartbeats 40000000 in
theorem conn02 (l : Launch) (Z : State) (a0 : Array Value) (hw : ∀ d ∈ tables_1, d.before a0 Z = true) (p : Nat) (c : Int32) (sg : Nat) (hc : Cl c 2) (hsg : sg < 18) (h0 : Heap) (n0 : Nat) (s_h0 : n0 ≤ h0.size) (n_p : n0 ≤ p) (N : NS Z h0 p 0 sg) : Con l Z (⟨"com/example/caddisfly/caddisfly/XpathNumbers$Numeral", "add", "(C)V"⟩ : MethodName) prog_160_method_3_code 2 none ({ frames := 2, cells := 0, slots := 0, locals := 40 } : Room) #[.ref p, .int c] h0 n0 (QN Z p 3 sg h0) := by
  refine Con.of pnn (Ls := #[.val (.ref p), .val (.int c)]) (fun m => by first | (simp [entryFrame, mkF, argsToLocals, Value.category]; done) | rfl) ?_
  intro G s k
  obtain ⟨E, F1, F2, ⟨ex, F3⟩, ⟨ld, F4⟩, ⟨ad, F5⟩, ⟨ng, F6⟩⟩ := N
  have KK : Keep h0 h0 [p] := Keep.refl _ _
  have sk := KK.1
  have F1 : Fld Z h0 p "com/example/caddisfly/caddisfly/XpathNumbers$Numeral" "stage" "I" (.int (0 : Int32)) := F1
  have k : Wn l Z n0 (QN Z p 3 sg h0) G s h0 0 0 4 #[.val (.ref p), .val (.int c)] [(.int (0 : Int32))] := (k.aloadN dn_0 rfl rfl).getF (hw _ (List.mem_of_getElem? (i := 21) rfl)) F1 dn_1
  have k : Wn l Z n0 (QN Z p 3 sg h0) G s h0 0 0 40 #[.val (.ref p), .val (.int c)] [] := k.tswIn (pc' := 40) dn_4 (by decide) rfl (by decide)
  have k : Wn l Z n0 (QN Z p 3 sg h0) G s h0 0 0 43 #[.val (.ref p), .val (.int c)] [(.int (45 : Int32)), (.int c)] := (k.iloadN dn_40 rfl).bipush (45) dn_41 rfl
  have k : Wn l Z n0 (QN Z p 3 sg h0) G s h0 0 0 59 #[.val (.ref p), .val (.int c)] [] := k.icT (pc' := 59) dn_43 (XT.ii_ne_t (own_n45 hc (by decide))) (by decide)
  have k : Wn l Z n0 (QN Z p 3 sg h0) G s h0 0 0 60 #[.val (.ref p), .val (.int c)] [(.int c)] := k.iloadN dn_59 rfl
  obtain ⟨v58, h58, ⟨rfl, rfl⟩, k⟩ := k.callSN (hw _ (List.mem_of_getElem? (i := 43) rfl)) (hw _ (List.mem_of_getElem? (i := 44) rfl)) (hw _ (List.mem_of_getElem? (i := 45) rfl)) (hw _ (List.mem_of_getElem? (i := 46) rfl)) (by decide) (cona0 l Z a0 hw c h0 n0 (own_ws0 hc (by decide))) (argsL := [(.int c)]) (rest := []) (lenOf pda rfl) dn_60 rfl rfl 0 (Nat.le_of_eq rfl) (by decide) (by decide) (by decide) (by decide)
  have k : Wn l Z n0 (QN Z p 3 sg h0) G s h0 0 0 63 #[.val (.ref p), .val (.int c)] [(.int (0 : Int32))] := k
  have k : Wn l Z n0 (QN Z p 3 sg h0) G s h0 0 0 66 #[.val (.ref p), .val (.int c)] [] := k.ifF dn_63 (XT.i0_ne_f (by decide))
  have k : Wn l Z n0 (QN Z p 3 sg h0) G s h0 0 0 68 #[.val (.ref p), .val (.int c)] [(.int c), (.ref p)] := (k.aloadN dn_66 rfl rfl).iloadN dn_67 rfl
  have N0 : NS Z h0 p 0 sg := ⟨E, F1, F2, ⟨_, F3⟩, ⟨_, F4⟩, ⟨_, F5⟩, ⟨_, F6⟩⟩
  obtain ⟨v59, h59, ⟨rfl, K59, N59⟩, k⟩ := k.callP (hw _ (List.mem_of_getElem? (i := 47) rfl)) (hw _ (List.mem_of_getElem? (i := 48) rfl)) (hw _ (List.mem_of_getElem? (i := 49) rfl)) (hw _ (List.mem_of_getElem? (i := 26) rfl)) rfl (hw _ (List.mem_of_getElem? (i := 14) rfl)) (hw _ (List.mem_of_getElem? (i := 50) rfl)) (by decide) E (conm2 l Z a0 hw p c 0 sg hc hsg h0 n0 (by omega) n_p N0) (argsL := [(.int c)]) (rest := []) (lenOf pdm rfl) dn_68 rfl rfl 0 (Nat.le_of_eq rfl) (by decide) (by decide) (by decide) (by decide)
  have k : Wn l Z n0 (QN Z p 3 sg h0) G s h59 0 0 71 #[.val (.ref p), .val (.int c)] [] := k
  have KK : Keep h0 _ [p] := KK.trans K59 (allS (Or.inl (by simp)) all0)
  have k : Wn l Z n0 (QN Z p 3 sg h0) G s h59 0 0 185 #[.val (.ref p), .val (.int c)] [] := k.goto (pc' := 185) dn_71 (by decide)
  exact k.outN dn_185 (by decide) (by decide) ⟨rfl, KK, N59⟩
set_option maxRecDepth 65536 in
set_option maxHeartbeats 40000000 in
theorem conn03 (l : Launch) (Z : State) (a0 : Array Value) (hw : ∀ d ∈ tables_1, d.before a0 Z = true) (p : Nat) (c : Int32) (sg : Nat) (hc : Cl c 3) (hsg : sg < 18) (h0 : Heap) (n0 : Nat) (s_h0 : n0 ≤ h0.size) (n_p : n0 ≤ p) (N : NS Z h0 p 0 sg) : Con l Z (⟨"com/example/caddisfly/caddisfly/XpathNumbers$Numeral", "add", "(C)V"⟩ : MethodName) prog_160_method_3_code 2 none ({ frames := 2, cells := 0, slots := 0, locals := 40 } : Room) #[.ref p, .int c] h0 n0 (QN Z p 2 (incN sg 3) h0) := by
  refine Con.of pnn (Ls := #[.val (.ref p), .val (.int c)]) (fun m => by first | (simp [entryFrame, mkF, argsToLocals, Value.category]; done) | rfl) ?_
  intro G s k
  obtain ⟨E, F1, F2, ⟨ex, F3⟩, ⟨ld, F4⟩, ⟨ad, F5⟩, ⟨ng, F6⟩⟩ := N
  have KK : Keep h0 h0 [p] := Keep.refl _ _
  have sk := KK.1
  have F1 : Fld Z h0 p "com/example/caddisfly/caddisfly/XpathNumbers$Numeral" "stage" "I" (.int (0 : Int32)) := F1
  have k : Wn l Z n0 (QN Z p 2 (incN sg 3) h0) G s h0 0 0 4 #[.val (.ref p), .val (.int c)] [(.int (0 : Int32))] := (k.aloadN dn_0 rfl rfl).getF (hw _ (List.mem_of_getElem? (i := 21) rfl)) F1 dn_1
  have k : Wn l Z n0 (QN Z p 2 (incN sg 3) h0) G s h0 0 0 40 #[.val (.ref p), .val (.int c)] [] := k.tswIn (pc' := 40) dn_4 (by decide) rfl (by decide)
  have k : Wn l Z n0 (QN Z p 2 (incN sg 3) h0) G s h0 0 0 43 #[.val (.ref p), .val (.int c)] [(.int (45 : Int32)), (.int c)] := (k.iloadN dn_40 rfl).bipush (45) dn_41 rfl
  have k : Wn l Z n0 (QN Z p 2 (incN sg 3) h0) G s h0 0 0 59 #[.val (.ref p), .val (.int c)] [] := k.icT (pc' := 59) dn_43 (XT.ii_ne_t (own_n45 hc (by decide))) (by decide)
  have k : Wn l Z n0 (QN Z p 2 (incN sg 3) h0) G s h0 0 0 60 #[.val (.ref p), .val (.int c)] [(.int c)] := k.iloadN dn_59 rfl
  obtain ⟨v60, h60, ⟨rfl, rfl⟩, k⟩ := k.callSN (hw _ (List.mem_of_getElem? (i := 43) rfl)) (hw _ (List.mem_of_getElem? (i := 44) rfl)) (hw _ (List.mem_of_getElem? (i := 45) rfl)) (hw _ (List.mem_of_getElem? (i := 46) rfl)) (by decide) (cona0 l Z a0 hw c h0 n0 (own_ws0 hc (by decide))) (argsL := [(.int c)]) (rest := []) (lenOf pda rfl) dn_60 rfl rfl 0 (Nat.le_of_eq rfl) (by decide) (by decide) (by decide) (by decide)
  have k : Wn l Z n0 (QN Z p 2 (incN sg 3) h0) G s h0 0 0 63 #[.val (.ref p), .val (.int c)] [(.int (0 : Int32))] := k
  have k : Wn l Z n0 (QN Z p 2 (incN sg 3) h0) G s h0 0 0 66 #[.val (.ref p), .val (.int c)] [] := k.ifF dn_63 (XT.i0_ne_f (by decide))
  have k : Wn l Z n0 (QN Z p 2 (incN sg 3) h0) G s h0 0 0 68 #[.val (.ref p), .val (.int c)] [(.int c), (.ref p)] := (k.aloadN dn_66 rfl rfl).iloadN dn_67 rfl
  have N0 : NS Z h0 p 0 sg := ⟨E, F1, F2, ⟨_, F3⟩, ⟨_, F4⟩, ⟨_, F5⟩, ⟨_, F6⟩⟩
  obtain ⟨v61, h61, ⟨rfl, K61, N61⟩, k⟩ := k.callP (hw _ (List.mem_of_getElem? (i := 47) rfl)) (hw _ (List.mem_of_getElem? (i := 48) rfl)) (hw _ (List.mem_of_getElem? (i := 49) rfl)) (hw _ (List.mem_of_getElem? (i := 26) rfl)) rfl (hw _ (List.mem_of_getElem? (i := 14) rfl)) (hw _ (List.mem_of_getElem? (i := 50) rfl)) (by decide) E (conm3 l Z a0 hw p c 0 sg hc hsg h0 n0 (by omega) n_p N0) (argsL := [(.int c)]) (rest := []) (lenOf pdm rfl) dn_68 rfl rfl 0 (Nat.le_of_eq rfl) (by decide) (by decide) (by decide) (by decide)
  have k : Wn l Z n0 (QN Z p 2 (incN sg 3) h0) G s h61 0 0 71 #[.val (.ref p), .val (.int c)] [] := k
  have KK : Keep h0 _ [p] := KK.trans K61 (allS (Or.inl (by simp)) all0)
  have k : Wn l Z n0 (QN Z p 2 (incN sg 3) h0) G s h61 0 0 185 #[.val (.ref p), .val (.int c)] [] := k.goto (pc' := 185) dn_71 (by decide)
  exact k.outN dn_185 (by decide) (by decide) ⟨rfl, KK, N61⟩
set_option maxRecDepth 65536 in
set_option maxHeartbeats 40000000 in
theorem conn04 (l : Launch) (Z : State) (a0 : Array Value) (hw : ∀ d ∈ tables_1, d.before a0 Z = true) (p : Nat) (c : Int32) (sg : Nat) (hc : Cl c 4) (hsg : sg < 18) (h0 : Heap) (n0 : Nat) (s_h0 : n0 ≤ h0.size) (n_p : n0 ≤ p) (N : NS Z h0 p 0 sg) : Con l Z (⟨"com/example/caddisfly/caddisfly/XpathNumbers$Numeral", "add", "(C)V"⟩ : MethodName) prog_160_method_3_code 2 none ({ frames := 2, cells := 0, slots := 0, locals := 40 } : Room) #[.ref p, .int c] h0 n0 (QN Z p 2 (incN sg 4) h0) := by
  refine Con.of pnn (Ls := #[.val (.ref p), .val (.int c)]) (fun m => by first | (simp [entryFrame, mkF, argsToLocals, Value.category]; done) | rfl) ?_
  intro G s k
  obtain ⟨E, F1, F2, ⟨ex, F3⟩, ⟨ld, F4⟩, ⟨ad, F5⟩, ⟨ng, F6⟩⟩ := N
  have KK : Keep h0 h0 [p] := Keep.refl _ _
  have sk := KK.1
  have F1 : Fld Z h0 p "com/example/caddisfly/caddisfly/XpathNumbers$Numeral" "stage" "I" (.int (0 : Int32)) := F1
  have k : Wn l Z n0 (QN Z p 2 (incN sg 4) h0) G s h0 0 0 4 #[.val (.ref p), .val (.int c)] [(.int (0 : Int32))] := (k.aloadN dn_0 rfl rfl).getF (hw _ (List.mem_of_getElem? (i := 21) rfl)) F1 dn_1
  have k : Wn l Z n0 (QN Z p 2 (incN sg 4) h0) G s h0 0 0 40 #[.val (.ref p), .val (.int c)] [] := k.tswIn (pc' := 40) dn_4 (by decide) rfl (by decide)
  have k : Wn l Z n0 (QN Z p 2 (incN sg 4) h0) G s h0 0 0 43 #[.val (.ref p), .val (.int c)] [(.int (45 : Int32)), (.int c)] := (k.iloadN dn_40 rfl).bipush (45) dn_41 rfl
  have k : Wn l Z n0 (QN Z p 2 (incN sg 4) h0) G s h0 0 0 59 #[.val (.ref p), .val (.int c)] [] := k.icT (pc' := 59) dn_43 (XT.ii_ne_t (own_n45 hc (by decide))) (by decide)
  have k : Wn l Z n0 (QN Z p 2 (incN sg 4) h0) G s h0 0 0 60 #[.val (.ref p), .val (.int c)] [(.int c)] := k.iloadN dn_59 rfl
  obtain ⟨v62, h62, ⟨rfl, rfl⟩, k⟩ := k.callSN (hw _ (List.mem_of_getElem? (i := 43) rfl)) (hw _ (List.mem_of_getElem? (i := 44) rfl)) (hw _ (List.mem_of_getElem? (i := 45) rfl)) (hw _ (List.mem_of_getElem? (i := 46) rfl)) (by decide) (cona0 l Z a0 hw c h0 n0 (own_ws0 hc (by decide))) (argsL := [(.int c)]) (rest := []) (lenOf pda rfl) dn_60 rfl rfl 0 (Nat.le_of_eq rfl) (by decide) (by decide) (by decide) (by decide)
  have k : Wn l Z n0 (QN Z p 2 (incN sg 4) h0) G s h0 0 0 63 #[.val (.ref p), .val (.int c)] [(.int (0 : Int32))] := k
  have k : Wn l Z n0 (QN Z p 2 (incN sg 4) h0) G s h0 0 0 66 #[.val (.ref p), .val (.int c)] [] := k.ifF dn_63 (XT.i0_ne_f (by decide))
  have k : Wn l Z n0 (QN Z p 2 (incN sg 4) h0) G s h0 0 0 68 #[.val (.ref p), .val (.int c)] [(.int c), (.ref p)] := (k.aloadN dn_66 rfl rfl).iloadN dn_67 rfl
  have N0 : NS Z h0 p 0 sg := ⟨E, F1, F2, ⟨_, F3⟩, ⟨_, F4⟩, ⟨_, F5⟩, ⟨_, F6⟩⟩
  obtain ⟨v63, h63, ⟨rfl, K63, N63⟩, k⟩ := k.callP (hw _ (List.mem_of_getElem? (i := 47) rfl)) (hw _ (List.mem_of_getElem? (i := 48) rfl)) (hw _ (List.mem_of_getElem? (i := 49) rfl)) (hw _ (List.mem_of_getElem? (i := 26) rfl)) rfl (hw _ (List.mem_of_getElem? (i := 14) rfl)) (hw _ (List.mem_of_getElem? (i := 50) rfl)) (by decide) E (conm4 l Z a0 hw p c 0 sg hc hsg h0 n0 (by omega) n_p N0) (argsL := [(.int c)]) (rest := []) (lenOf pdm rfl) dn_68 rfl rfl 0 (Nat.le_of_eq rfl) (by decide) (by decide) (by decide) (by decide)
  have k : Wn l Z n0 (QN Z p 2 (incN sg 4) h0) G s h63 0 0 71 #[.val (.ref p), .val (.int c)] [] := k
  have KK : Keep h0 _ [p] := KK.trans K63 (allS (Or.inl (by simp)) all0)
  have k : Wn l Z n0 (QN Z p 2 (incN sg 4) h0) G s h63 0 0 185 #[.val (.ref p), .val (.int c)] [] := k.goto (pc' := 185) dn_71 (by decide)
  exact k.outN dn_185 (by decide) (by decide) ⟨rfl, KK, N63⟩
set_option maxRecDepth 65536 in
set_option maxHeartbeats 40000000 in
theorem conn05 (l : Launch) (Z : State) (a0 : Array Value) (hw : ∀ d ∈ tables_1, d.before a0 Z = true) (p : Nat) (c : Int32) (sg : Nat) (hc : Cl c 5) (hsg : sg < 18) (h0 : Heap) (n0 : Nat) (s_h0 : n0 ≤ h0.size) (n_p : n0 ≤ p) (N : NS Z h0 p 0 sg) : Con l Z (⟨"com/example/caddisfly/caddisfly/XpathNumbers$Numeral", "add", "(C)V"⟩ : MethodName) prog_160_method_3_code 2 none ({ frames := 2, cells := 0, slots := 0, locals := 40 } : Room) #[.ref p, .int c] h0 n0 (QN Z p 5 sg h0) := by
  refine Con.of pnn (Ls := #[.val (.ref p), .val (.int c)]) (fun m => by first | (simp [entryFrame, mkF, argsToLocals, Value.category]; done) | rfl) ?_
  intro G s k
  obtain ⟨E, F1, F2, ⟨ex, F3⟩, ⟨ld, F4⟩, ⟨ad, F5⟩, ⟨ng, F6⟩⟩ := N
  have KK : Keep h0 h0 [p] := Keep.refl _ _
  have sk := KK.1
  have F1 : Fld Z h0 p "com/example/caddisfly/caddisfly/XpathNumbers$Numeral" "stage" "I" (.int (0 : Int32)) := F1
  have k : Wn l Z n0 (QN Z p 5 sg h0) G s h0 0 0 4 #[.val (.ref p), .val (.int c)] [(.int (0 : Int32))] := (k.aloadN dn_0 rfl rfl).getF (hw _ (List.mem_of_getElem? (i := 21) rfl)) F1 dn_1
  have k : Wn l Z n0 (QN Z p 5 sg h0) G s h0 0 0 40 #[.val (.ref p), .val (.int c)] [] := k.tswIn (pc' := 40) dn_4 (by decide) rfl (by decide)
  have k : Wn l Z n0 (QN Z p 5 sg h0) G s h0 0 0 43 #[.val (.ref p), .val (.int c)] [(.int (45 : Int32)), (.int c)] := (k.iloadN dn_40 rfl).bipush (45) dn_41 rfl
  have k : Wn l Z n0 (QN Z p 5 sg h0) G s h0 0 0 59 #[.val (.ref p), .val (.int c)] [] := k.icT (pc' := 59) dn_43 (XT.ii_ne_t (own_n45 hc (by decide))) (by decide)
  have k : Wn l Z n0 (QN Z p 5 sg h0) G s h0 0 0 60 #[.val (.ref p), .val (.int c)] [(.int c)] := k.iloadN dn_59 rfl
  obtain ⟨v64, h64, ⟨rfl, rfl⟩, k⟩ := k.callSN (hw _ (List.mem_of_getElem? (i := 43) rfl)) (hw _ (List.mem_of_getElem? (i := 44) rfl)) (hw _ (List.mem_of_getElem? (i := 45) rfl)) (hw _ (List.mem_of_getElem? (i := 46) rfl)) (by decide) (cona0 l Z a0 hw c h0 n0 (own_ws0 hc (by decide))) (argsL := [(.int c)]) (rest := []) (lenOf pda rfl) dn_60 rfl rfl 0 (Nat.le_of_eq rfl) (by decide) (by decide) (by decide) (by decide)
  have k : Wn l Z n0 (QN Z p 5 sg h0) G s h0 0 0 63 #[.val (.ref p), .val (.int c)] [(.int (0 : Int32))] := k
  have k : Wn l Z n0 (QN Z p 5 sg h0) G s h0 0 0 66 #[.val (.ref p), .val (.int c)] [] := k.ifF dn_63 (XT.i0_ne_f (by decide))
  have k : Wn l Z n0 (QN Z p 5 sg h0) G s h0 0 0 68 #[.val (.ref p), .val (.int c)] [(.int c), (.ref p)] := (k.aloadN dn_66 rfl rfl).iloadN dn_67 rfl
  have N0 : NS Z h0 p 0 sg := ⟨E, F1, F2, ⟨_, F3⟩, ⟨_, F4⟩, ⟨_, F5⟩, ⟨_, F6⟩⟩
  obtain ⟨v65, h65, ⟨rfl, K65, N65⟩, k⟩ := k.callP (hw _ (List.mem_of_getElem? (i := 47) rfl)) (hw _ (List.mem_of_getElem? (i := 48) rfl)) (hw _ (List.mem_of_getElem? (i := 49) rfl)) (hw _ (List.mem_of_getElem? (i := 26) rfl)) rfl (hw _ (List.mem_of_getElem? (i := 14) rfl)) (hw _ (List.mem_of_getElem? (i := 50) rfl)) (by decide) E (conm5 l Z a0 hw p c 0 sg hc hsg h0 n0 (by omega) n_p N0) (argsL := [(.int c)]) (rest := []) (lenOf pdm rfl) dn_68 rfl rfl 0 (Nat.le_of_eq rfl) (by decide) (by decide) (by decide) (by decide)
  have k : Wn l Z n0 (QN Z p 5 sg h0) G s h65 0 0 71 #[.val (.ref p), .val (.int c)] [] := k
  have KK : Keep h0 _ [p] := KK.trans K65 (allS (Or.inl (by simp)) all0)
  have k : Wn l Z n0 (QN Z p 5 sg h0) G s h65 0 0 185 #[.val (.ref p), .val (.int c)] [] := k.goto (pc' := 185) dn_71 (by decide)
  exact k.outN dn_185 (by decide) (by decide) ⟨rfl, KK, N65⟩
set_option maxRecDepth 65536 in
set_option maxHeartbeats 40000000 in
theorem conn10 (l : Launch) (Z : State) (a0 : Array Value) (hw : ∀ d ∈ tables_1, d.before a0 Z = true) (p : Nat) (c : Int32) (sg : Nat) (hc : Cl c 0) (hsg : sg < 18) (h0 : Heap) (n0 : Nat) (s_h0 : n0 ≤ h0.size) (n_p : n0 ≤ p) (N : NS Z h0 p 1 sg) : Con l Z (⟨"com/example/caddisfly/caddisfly/XpathNumbers$Numeral", "add", "(C)V"⟩ : MethodName) prog_160_method_3_code 2 none ({ frames := 2, cells := 0, slots := 0, locals := 40 } : Room) #[.ref p, .int c] h0 n0 (QN Z p 5 sg h0) := by
  refine Con.of pnn (Ls := #[.val (.ref p), .val (.int c)]) (fun m => by first | (simp [entryFrame, mkF, argsToLocals, Value.category]; done) | rfl) ?_
  intro G s k
  obtain ⟨E, F1, F2, ⟨ex, F3⟩, ⟨ld, F4⟩, ⟨ad, F5⟩, ⟨ng, F6⟩⟩ := N
  have KK : Keep h0 h0 [p] := Keep.refl _ _
  have sk := KK.1
  have F1 : Fld Z h0 p "com/example/caddisfly/caddisfly/XpathNumbers$Numeral" "stage" "I" (.int (1 : Int32)) := F1
  have k : Wn l Z n0 (QN Z p 5 sg h0) G s h0 0 0 4 #[.val (.ref p), .val (.int c)] [(.int (1 : Int32))] := (k.aloadN dn_0 rfl rfl).getF (hw _ (List.mem_of_getElem? (i := 21) rfl)) F1 dn_1
  have k : Wn l Z n0 (QN Z p 5 sg h0) G s h0 0 0 74 #[.val (.ref p), .val (.int c)] [] := k.tswIn (pc' := 74) dn_4 (by decide) rfl (by decide)
  have k : Wn l Z n0 (QN Z p 5 sg h0) G s h0 0 0 76 #[.val (.ref p), .val (.int c)] [(.int c), (.ref p)] := (k.aloadN dn_74 rfl rfl).iloadN dn_75 rfl
  have N0 : NS Z h0 p 1 sg := ⟨E, F1, F2, ⟨_, F3⟩, ⟨_, F4⟩, ⟨_, F5⟩, ⟨_, F6⟩⟩
  obtain ⟨v66, h66, ⟨rfl, K66, N66⟩, k⟩ := k.callP (hw _ (List.mem_of_getElem? (i := 47) rfl)) (hw _ (List.mem_of_getElem? (i := 48) rfl)) (hw _ (List.mem_of_getElem? (i := 49) rfl)) (hw _ (List.mem_of_getElem? (i := 26) rfl)) rfl (hw _ (List.mem_of_getElem? (i := 14) rfl)) (hw _ (List.mem_of_getElem? (i := 50) rfl)) (by decide) E (conm0 l Z a0 hw p c 1 sg hc hsg h0 n0 (by omega) n_p N0) (argsL := [(.int c)]) (rest := []) (lenOf pdm rfl) dn_76 rfl rfl 0 (Nat.le_of_eq rfl) (by decide) (by decide) (by decide) (by decide)
  have k : Wn l Z n0 (QN Z p 5 sg h0) G s h66 0 0 79 #[.val (.ref p), .val (.int c)] [] := k
  have KK : Keep h0 _ [p] := KK.trans K66 (allS (Or.inl (by simp)) all0)
  have k : Wn l Z n0 (QN Z p 5 sg h0) G s h66 0 0 185 #[.val (.ref p), .val (.int c)] [] := k.goto (pc' := 185) dn_79 (by decide)
  exact k.outN dn_185 (by decide) (by decide) ⟨rfl, KK, N66⟩
set_option maxRecDepth 65536 in
set_option maxHeartbeats 40000000 in
theorem conn11 (l : Launch) (Z : State) (a0 : Array Value) (hw : ∀ d ∈ tables_1, d.before a0 Z = true) (p : Nat) (c : Int32) (sg : Nat) (hc : Cl c 1) (hsg : sg < 18) (h0 : Heap) (n0 : Nat) (s_h0 : n0 ≤ h0.size) (n_p : n0 ≤ p) (N : NS Z h0 p 1 sg) : Con l Z (⟨"com/example/caddisfly/caddisfly/XpathNumbers$Numeral", "add", "(C)V"⟩ : MethodName) prog_160_method_3_code 2 none ({ frames := 2, cells := 0, slots := 0, locals := 40 } : Room) #[.ref p, .int c] h0 n0 (QN Z p 5 sg h0) := by
  refine Con.of pnn (Ls := #[.val (.ref p), .val (.int c)]) (fun m => by first | (simp [entryFrame, mkF, argsToLocals, Value.category]; done) | rfl) ?_
  intro G s k
  obtain ⟨E, F1, F2, ⟨ex, F3⟩, ⟨ld, F4⟩, ⟨ad, F5⟩, ⟨ng, F6⟩⟩ := N
  have KK : Keep h0 h0 [p] := Keep.refl _ _
  have sk := KK.1
  have F1 : Fld Z h0 p "com/example/caddisfly/caddisfly/XpathNumbers$Numeral" "stage" "I" (.int (1 : Int32)) := F1
  have k : Wn l Z n0 (QN Z p 5 sg h0) G s h0 0 0 4 #[.val (.ref p), .val (.int c)] [(.int (1 : Int32))] := (k.aloadN dn_0 rfl rfl).getF (hw _ (List.mem_of_getElem? (i := 21) rfl)) F1 dn_1
  have k : Wn l Z n0 (QN Z p 5 sg h0) G s h0 0 0 74 #[.val (.ref p), .val (.int c)] [] := k.tswIn (pc' := 74) dn_4 (by decide) rfl (by decide)
  have k : Wn l Z n0 (QN Z p 5 sg h0) G s h0 0 0 76 #[.val (.ref p), .val (.int c)] [(.int c), (.ref p)] := (k.aloadN dn_74 rfl rfl).iloadN dn_75 rfl
  have N0 : NS Z h0 p 1 sg := ⟨E, F1, F2, ⟨_, F3⟩, ⟨_, F4⟩, ⟨_, F5⟩, ⟨_, F6⟩⟩
  obtain ⟨v67, h67, ⟨rfl, K67, N67⟩, k⟩ := k.callP (hw _ (List.mem_of_getElem? (i := 47) rfl)) (hw _ (List.mem_of_getElem? (i := 48) rfl)) (hw _ (List.mem_of_getElem? (i := 49) rfl)) (hw _ (List.mem_of_getElem? (i := 26) rfl)) rfl (hw _ (List.mem_of_getElem? (i := 14) rfl)) (hw _ (List.mem_of_getElem? (i := 50) rfl)) (by decide) E (conm1 l Z a0 hw p c 1 sg hc hsg h0 n0 (by omega) n_p N0) (argsL := [(.int c)]) (rest := []) (lenOf pdm rfl) dn_76 rfl rfl 0 (Nat.le_of_eq rfl) (by decide) (by decide) (by decide) (by decide)
  have k : Wn l Z n0 (QN Z p 5 sg h0) G s h67 0 0 79 #[.val (.ref p), .val (.int c)] [] := k
  have KK : Keep h0 _ [p] := KK.trans K67 (allS (Or.inl (by simp)) all0)
  have k : Wn l Z n0 (QN Z p 5 sg h0) G s h67 0 0 185 #[.val (.ref p), .val (.int c)] [] := k.goto (pc' := 185) dn_79 (by decide)
  exact k.outN dn_185 (by decide) (by decide) ⟨rfl, KK, N67⟩
set_option maxRecDepth 65536 in
set_option maxHeartbeats 40000000 in
theorem conn12 (l : Launch) (Z : State) (a0 : Array Value) (hw : ∀ d ∈ tables_1, d.before a0 Z = true) (p : Nat) (c : Int32) (sg : Nat) (hc : Cl c 2) (hsg : sg < 18) (h0 : Heap) (n0 : Nat) (s_h0 : n0 ≤ h0.size) (n_p : n0 ≤ p) (N : NS Z h0 p 1 sg) : Con l Z (⟨"com/example/caddisfly/caddisfly/XpathNumbers$Numeral", "add", "(C)V"⟩ : MethodName) prog_160_method_3_code 2 none ({ frames := 2, cells := 0, slots := 0, locals := 40 } : Room) #[.ref p, .int c] h0 n0 (QN Z p 3 sg h0) := by
  refine Con.of pnn (Ls := #[.val (.ref p), .val (.int c)]) (fun m => by first | (simp [entryFrame, mkF, argsToLocals, Value.category]; done) | rfl) ?_
  intro G s k
  obtain ⟨E, F1, F2, ⟨ex, F3⟩, ⟨ld, F4⟩, ⟨ad, F5⟩, ⟨ng, F6⟩⟩ := N
  have KK : Keep h0 h0 [p] := Keep.refl _ _
  have sk := KK.1
  have F1 : Fld Z h0 p "com/example/caddisfly/caddisfly/XpathNumbers$Numeral" "stage" "I" (.int (1 : Int32)) := F1
  have k : Wn l Z n0 (QN Z p 3 sg h0) G s h0 0 0 4 #[.val (.ref p), .val (.int c)] [(.int (1 : Int32))] := (k.aloadN dn_0 rfl rfl).getF (hw _ (List.mem_of_getElem? (i := 21) rfl)) F1 dn_1
  have k : Wn l Z n0 (QN Z p 3 sg h0) G s h0 0 0 74 #[.val (.ref p), .val (.int c)] [] := k.tswIn (pc' := 74) dn_4 (by decide) rfl (by decide)
  have k : Wn l Z n0 (QN Z p 3 sg h0) G s h0 0 0 76 #[.val (.ref p), .val (.int c)] [(.int c), (.ref p)] := (k.aloadN dn_74 rfl rfl).iloadN dn_75 rfl
  have N0 : NS Z h0 p 1 sg := ⟨E, F1, F2, ⟨_, F3⟩, ⟨_, F4⟩, ⟨_, F5⟩, ⟨_, F6⟩⟩
  obtain ⟨v68, h68, ⟨rfl, K68, N68⟩, k⟩ := k.callP (hw _ (List.mem_of_getElem? (i := 47) rfl)) (hw _ (List.mem_of_getElem? (i := 48) rfl)) (hw _ (List.mem_of_getElem? (i := 49) rfl)) (hw _ (List.mem_of_getElem? (i := 26) rfl)) rfl (hw _ (List.mem_of_getElem? (i := 14) rfl)) (hw _ (List.mem_of_getElem? (i := 50) rfl)) (by decide) E (conm2 l Z a0 hw p c 1 sg hc hsg h0 n0 (by omega) n_p N0) (argsL := [(.int c)]) (rest := []) (lenOf pdm rfl) dn_76 rfl rfl 0 (Nat.le_of_eq rfl) (by decide) (by decide) (by decide) (by decide)
  have k : Wn l Z n0 (QN Z p 3 sg h0) G s h68 0 0 79 #[.val (.ref p), .val (.int c)] [] := k
  have KK : Keep h0 _ [p] := KK.trans K68 (allS (Or.inl (by simp)) all0)
  have k : Wn l Z n0 (QN Z p 3 sg h0) G s h68 0 0 185 #[.val (.ref p), .val (.int c)] [] := k.goto (pc' := 185) dn_79 (by decide)
  exact k.outN dn_185 (by decide) (by decide) ⟨rfl, KK, N68⟩
set_option maxRecDepth 65536 in
set_option maxHeartbeats 40000000 in
theorem conn13 (l : Launch) (Z : State) (a0 : Array Value) (hw : ∀ d ∈ tables_1, d.before a0 Z = true) (p : Nat) (c : Int32) (sg : Nat) (hc : Cl c 3) (hsg : sg < 18) (h0 : Heap) (n0 : Nat) (s_h0 : n0 ≤ h0.size) (n_p : n0 ≤ p) (N : NS Z h0 p 1 sg) : Con l Z (⟨"com/example/caddisfly/caddisfly/XpathNumbers$Numeral", "add", "(C)V"⟩ : MethodName) prog_160_method_3_code 2 none ({ frames := 2, cells := 0, slots := 0, locals := 40 } : Room) #[.ref p, .int c] h0 n0 (QN Z p 2 (incN sg 3) h0) := by
  refine Con.of pnn (Ls := #[.val (.ref p), .val (.int c)]) (fun m => by first | (simp [entryFrame, mkF, argsToLocals, Value.category]; done) | rfl) ?_
  intro G s k
  obtain ⟨E, F1, F2, ⟨ex, F3⟩, ⟨ld, F4⟩, ⟨ad, F5⟩, ⟨ng, F6⟩⟩ := N
  have KK : Keep h0 h0 [p] := Keep.refl _ _
  have sk := KK.1
  have F1 : Fld Z h0 p "com/example/caddisfly/caddisfly/XpathNumbers$Numeral" "stage" "I" (.int (1 : Int32)) := F1
  have k : Wn l Z n0 (QN Z p 2 (incN sg 3) h0) G s h0 0 0 4 #[.val (.ref p), .val (.int c)] [(.int (1 : Int32))] := (k.aloadN dn_0 rfl rfl).getF (hw _ (List.mem_of_getElem? (i := 21) rfl)) F1 dn_1
  have k : Wn l Z n0 (QN Z p 2 (incN sg 3) h0) G s h0 0 0 74 #[.val (.ref p), .val (.int c)] [] := k.tswIn (pc' := 74) dn_4 (by decide) rfl (by decide)
  have k : Wn l Z n0 (QN Z p 2 (incN sg 3) h0) G s h0 0 0 76 #[.val (.ref p), .val (.int c)] [(.int c), (.ref p)] := (k.aloadN dn_74 rfl rfl).iloadN dn_75 rfl
  have N0 : NS Z h0 p 1 sg := ⟨E, F1, F2, ⟨_, F3⟩, ⟨_, F4⟩, ⟨_, F5⟩, ⟨_, F6⟩⟩
  obtain ⟨v69, h69, ⟨rfl, K69, N69⟩, k⟩ := k.callP (hw _ (List.mem_of_getElem? (i := 47) rfl)) (hw _ (List.mem_of_getElem? (i := 48) rfl)) (hw _ (List.mem_of_getElem? (i := 49) rfl)) (hw _ (List.mem_of_getElem? (i := 26) rfl)) rfl (hw _ (List.mem_of_getElem? (i := 14) rfl)) (hw _ (List.mem_of_getElem? (i := 50) rfl)) (by decide) E (conm3 l Z a0 hw p c 1 sg hc hsg h0 n0 (by omega) n_p N0) (argsL := [(.int c)]) (rest := []) (lenOf pdm rfl) dn_76 rfl rfl 0 (Nat.le_of_eq rfl) (by decide) (by decide) (by decide) (by decide)
  have k : Wn l Z n0 (QN Z p 2 (incN sg 3) h0) G s h69 0 0 79 #[.val (.ref p), .val (.int c)] [] := k
  have KK : Keep h0 _ [p] := KK.trans K69 (allS (Or.inl (by simp)) all0)
  have k : Wn l Z n0 (QN Z p 2 (incN sg 3) h0) G s h69 0 0 185 #[.val (.ref p), .val (.int c)] [] := k.goto (pc' := 185) dn_79 (by decide)
  exact k.outN dn_185 (by decide) (by decide) ⟨rfl, KK, N69⟩
set_option maxRecDepth 65536 in
set_option maxHeartbeats 40000000 in
theorem conn14 (l : Launch) (Z : State) (a0 : Array Value) (hw : ∀ d ∈ tables_1, d.before a0 Z = true) (p : Nat) (c : Int32) (sg : Nat) (hc : Cl c 4) (hsg : sg < 18) (h0 : Heap) (n0 : Nat) (s_h0 : n0 ≤ h0.size) (n_p : n0 ≤ p) (N : NS Z h0 p 1 sg) : Con l Z (⟨"com/example/caddisfly/caddisfly/XpathNumbers$Numeral", "add", "(C)V"⟩ : MethodName) prog_160_method_3_code 2 none ({ frames := 2, cells := 0, slots := 0, locals := 40 } : Room) #[.ref p, .int c] h0 n0 (QN Z p 2 (incN sg 4) h0) := by
  refine Con.of pnn (Ls := #[.val (.ref p), .val (.int c)]) (fun m => by first | (simp [entryFrame, mkF, argsToLocals, Value.category]; done) | rfl) ?_
  intro G s k
  obtain ⟨E, F1, F2, ⟨ex, F3⟩, ⟨ld, F4⟩, ⟨ad, F5⟩, ⟨ng, F6⟩⟩ := N
  have KK : Keep h0 h0 [p] := Keep.refl _ _
  have sk := KK.1
  have F1 : Fld Z h0 p "com/example/caddisfly/caddisfly/XpathNumbers$Numeral" "stage" "I" (.int (1 : Int32)) := F1
  have k : Wn l Z n0 (QN Z p 2 (incN sg 4) h0) G s h0 0 0 4 #[.val (.ref p), .val (.int c)] [(.int (1 : Int32))] := (k.aloadN dn_0 rfl rfl).getF (hw _ (List.mem_of_getElem? (i := 21) rfl)) F1 dn_1
  have k : Wn l Z n0 (QN Z p 2 (incN sg 4) h0) G s h0 0 0 74 #[.val (.ref p), .val (.int c)] [] := k.tswIn (pc' := 74) dn_4 (by decide) rfl (by decide)
  have k : Wn l Z n0 (QN Z p 2 (incN sg 4) h0) G s h0 0 0 76 #[.val (.ref p), .val (.int c)] [(.int c), (.ref p)] := (k.aloadN dn_74 rfl rfl).iloadN dn_75 rfl
  have N0 : NS Z h0 p 1 sg := ⟨E, F1, F2, ⟨_, F3⟩, ⟨_, F4⟩, ⟨_, F5⟩, ⟨_, F6⟩⟩
  obtain ⟨v70, h70, ⟨rfl, K70, N70⟩, k⟩ := k.callP (hw _ (List.mem_of_getElem? (i := 47) rfl)) (hw _ (List.mem_of_getElem? (i := 48) rfl)) (hw _ (List.mem_of_getElem? (i := 49) rfl)) (hw _ (List.mem_of_getElem? (i := 26) rfl)) rfl (hw _ (List.mem_of_getElem? (i := 14) rfl)) (hw _ (List.mem_of_getElem? (i := 50) rfl)) (by decide) E (conm4 l Z a0 hw p c 1 sg hc hsg h0 n0 (by omega) n_p N0) (argsL := [(.int c)]) (rest := []) (lenOf pdm rfl) dn_76 rfl rfl 0 (Nat.le_of_eq rfl) (by decide) (by decide) (by decide) (by decide)
  have k : Wn l Z n0 (QN Z p 2 (incN sg 4) h0) G s h70 0 0 79 #[.val (.ref p), .val (.int c)] [] := k
  have KK : Keep h0 _ [p] := KK.trans K70 (allS (Or.inl (by simp)) all0)
  have k : Wn l Z n0 (QN Z p 2 (incN sg 4) h0) G s h70 0 0 185 #[.val (.ref p), .val (.int c)] [] := k.goto (pc' := 185) dn_79 (by decide)
  exact k.outN dn_185 (by decide) (by decide) ⟨rfl, KK, N70⟩
set_option maxRecDepth 65536 in
set_option maxHeartbeats 40000000 in
theorem conn15 (l : Launch) (Z : State) (a0 : Array Value) (hw : ∀ d ∈ tables_1, d.before a0 Z = true) (p : Nat) (c : Int32) (sg : Nat) (hc : Cl c 5) (hsg : sg < 18) (h0 : Heap) (n0 : Nat) (s_h0 : n0 ≤ h0.size) (n_p : n0 ≤ p) (N : NS Z h0 p 1 sg) : Con l Z (⟨"com/example/caddisfly/caddisfly/XpathNumbers$Numeral", "add", "(C)V"⟩ : MethodName) prog_160_method_3_code 2 none ({ frames := 2, cells := 0, slots := 0, locals := 40 } : Room) #[.ref p, .int c] h0 n0 (QN Z p 5 sg h0) := by
  refine Con.of pnn (Ls := #[.val (.ref p), .val (.int c)]) (fun m => by first | (simp [entryFrame, mkF, argsToLocals, Value.category]; done) | rfl) ?_
  intro G s k
  obtain ⟨E, F1, F2, ⟨ex, F3⟩, ⟨ld, F4⟩, ⟨ad, F5⟩, ⟨ng, F6⟩⟩ := N
  have KK : Keep h0 h0 [p] := Keep.refl _ _
  have sk := KK.1
  have F1 : Fld Z h0 p "com/example/caddisfly/caddisfly/XpathNumbers$Numeral" "stage" "I" (.int (1 : Int32)) := F1
  have k : Wn l Z n0 (QN Z p 5 sg h0) G s h0 0 0 4 #[.val (.ref p), .val (.int c)] [(.int (1 : Int32))] := (k.aloadN dn_0 rfl rfl).getF (hw _ (List.mem_of_getElem? (i := 21) rfl)) F1 dn_1
  have k : Wn l Z n0 (QN Z p 5 sg h0) G s h0 0 0 74 #[.val (.ref p), .val (.int c)] [] := k.tswIn (pc' := 74) dn_4 (by decide) rfl (by decide)
  have k : Wn l Z n0 (QN Z p 5 sg h0) G s h0 0 0 76 #[.val (.ref p), .val (.int c)] [(.int c), (.ref p)] := (k.aloadN dn_74 rfl rfl).iloadN dn_75 rfl
  have N0 : NS Z h0 p 1 sg := ⟨E, F1, F2, ⟨_, F3⟩, ⟨_, F4⟩, ⟨_, F5⟩, ⟨_, F6⟩⟩
  obtain ⟨v71, h71, ⟨rfl, K71, N71⟩, k⟩ := k.callP (hw _ (List.mem_of_getElem? (i := 47) rfl)) (hw _ (List.mem_of_getElem? (i := 48) rfl)) (hw _ (List.mem_of_getElem? (i := 49) rfl)) (hw _ (List.mem_of_getElem? (i := 26) rfl)) rfl (hw _ (List.mem_of_getElem? (i := 14) rfl)) (hw _ (List.mem_of_getElem? (i := 50) rfl)) (by decide) E (conm5 l Z a0 hw p c 1 sg hc hsg h0 n0 (by omega) n_p N0) (argsL := [(.int c)]) (rest := []) (lenOf pdm rfl) dn_76 rfl rfl 0 (Nat.le_of_eq rfl) (by decide) (by decide) (by decide) (by decide)
  have k : Wn l Z n0 (QN Z p 5 sg h0) G s h71 0 0 79 #[.val (.ref p), .val (.int c)] [] := k
  have KK : Keep h0 _ [p] := KK.trans K71 (allS (Or.inl (by simp)) all0)
  have k : Wn l Z n0 (QN Z p 5 sg h0) G s h71 0 0 185 #[.val (.ref p), .val (.int c)] [] := k.goto (pc' := 185) dn_79 (by decide)
  exact k.outN dn_185 (by decide) (by decide) ⟨rfl, KK, N71⟩
set_option maxRecDepth 65536 in
set_option maxHeartbeats 40000000 in
theorem conn20 (l : Launch) (Z : State) (a0 : Array Value) (hw : ∀ d ∈ tables_1, d.before a0 Z = true) (p : Nat) (c : Int32) (sg : Nat) (hc : Cl c 0) (hsg : sg < 18) (h0 : Heap) (n0 : Nat) (s_h0 : n0 ≤ h0.size) (n_p : n0 ≤ p) (N : NS Z h0 p 2 sg) : Con l Z (⟨"com/example/caddisfly/caddisfly/XpathNumbers$Numeral", "add", "(C)V"⟩ : MethodName) prog_160_method_3_code 2 none ({ frames := 2, cells := 0, slots := 0, locals := 40 } : Room) #[.ref p, .int c] h0 n0 (QN Z p 4 sg h0) := by
  refine Con.of pnn (Ls := #[.val (.ref p), .val (.int c)]) (fun m => by first | (simp [entryFrame, mkF, argsToLocals, Value.category]; done) | rfl) ?_
  intro G s k
  obtain ⟨E, F1, F2, ⟨ex, F3⟩, ⟨ld, F4⟩, ⟨ad, F5⟩, ⟨ng, F6⟩⟩ := N
  have KK : Keep h0 h0 [p] := Keep.refl _ _
  have sk := KK.1
  have F1 : Fld Z h0 p "com/example/caddisfly/caddisfly/XpathNumbers$Numeral" "stage" "I" (.int (2 : Int32)) := F1
  have k : Wn l Z n0 (QN Z p 4 sg h0) G s h0 0 0 4 #[.val (.ref p), .val (.int c)] [(.int (2 : Int32))] := (k.aloadN dn_0 rfl rfl).getF (hw _ (List.mem_of_getElem? (i := 21) rfl)) F1 dn_1
  have k : Wn l Z n0 (QN Z p 4 sg h0) G s h0 0 0 82 #[.val (.ref p), .val (.int c)] [] := k.tswIn (pc' := 82) dn_4 (by decide) rfl (by decide)
  have k : Wn l Z n0 (QN Z p 4 sg h0) G s h0 0 0 83 #[.val (.ref p), .val (.int c)] [(.int c)] := k.iloadN dn_82 rfl
  obtain ⟨v72, h72, ⟨rfl, rfl⟩, k⟩ := k.callSN (hw _ (List.mem_of_getElem? (i := 51) rfl)) (hw _ (List.mem_of_getElem? (i := 52) rfl)) (hw _ (List.mem_of_getElem? (i := 45) rfl)) (hw _ (List.mem_of_getElem? (i := 53) rfl)) (by decide) (conb0 l Z a0 hw c h0 n0 (own_dg0 hc (by decide))) (argsL := [(.int c)]) (rest := []) (lenOf pdb rfl) dn_83 rfl rfl 0 (Nat.le_of_eq rfl) (by decide) (by decide) (by decide) (by decide)
  have k : Wn l Z n0 (QN Z p 4 sg h0) G s h0 0 0 86 #[.val (.ref p), .val (.int c)] [(.int (0 : Int32))] := k
  have k : Wn l Z n0 (QN Z p 4 sg h0) G s h0 0 0 98 #[.val (.ref p), .val (.int c)] [] := k.ifT (pc' := 98) dn_86 (XT.i0_eq_t (by decide)) (by decide)
  have k : Wn l Z n0 (QN Z p 4 sg h0) G s h0 0 0 101 #[.val (.ref p), .val (.int c)] [(.int (46 : Int32)), (.int c)] := (k.iloadN dn_98 rfl).bipush (46) dn_99 rfl
  have k : Wn l Z n0 (QN Z p 4 sg h0) G s h0 0 0 112 #[.val (.ref p), .val (.int c)] [] := k.icT (pc' := 112) dn_101 (XT.ii_ne_t (own_n46 hc (by decide))) (by decide)
  have k : Wn l Z n0 (QN Z p 4 sg h0) G s h0 0 0 114 #[.val (.ref p), .val (.int c)] [(.int c), (.ref p)] := (k.aloadN dn_112 rfl rfl).iloadN dn_113 rfl
  obtain ⟨v73, h73, ⟨rfl, rfl⟩, k⟩ := k.callSN (hw _ (List.mem_of_getElem? (i := 43) rfl)) (hw _ (List.mem_of_getElem? (i := 44) rfl)) (hw _ (List.mem_of_getElem? (i := 45) rfl)) (hw _ (List.mem_of_getElem? (i := 46) rfl)) (by decide) (cona1 l Z a0 hw c h0 n0 (own_ws1 hc)) (argsL := [(.int c)]) (rest := [(.ref p)]) (lenOf pda rfl) dn_114 rfl rfl 1 (Nat.le_of_eq rfl) (by decide) (by decide) (by decide) (by decide)
  have k : Wn l Z n0 (QN Z p 4 sg h0) G s h0 0 0 117 #[.val (.ref p), .val (.int c)] [(.int (1 : Int32)), (.ref p)] := k
  have k : Wn l Z n0 (QN Z p 4 sg h0) G s h0 0 0 120 #[.val (.ref p), .val (.int c)] [(.ref p)] := k.ifF dn_117 (XT.i0_eq_f (by decide))
  have k : Wn l Z n0 (QN Z p 4 sg h0) G s h0 0 0 125 #[.val (.ref p), .val (.int c)] [(.int (4 : Int32)), (.ref p)] := (k.iconst (4) dn_120 rfl).goto (pc' := 125) dn_121 (by decide)
  obtain ⟨h74, W74, K74, F1', E', k⟩ := k.putF (ty := .int) (hw _ (List.mem_of_getElem? (i := 21) rfl)) F1 E (Or.inl (hw _ (List.mem_of_getElem? (i := 22) rfl))) (hw _ (List.mem_of_getElem? (i := 13) rfl)) (by decide) rfl rfl n_p dn_125
  have F2 := Fld.other W74 F2 (Or.inr (slot_ne (C := "com/example/caddisfly/caddisfly/XpathNumbers$Numeral") (Or.inl (hw _ (List.mem_of_getElem? (i := 61) rfl))) (Or.inl (hw _ (List.mem_of_getElem? (i := 22) rfl))) (by decide) (t := .int) (t' := .int) (by decide) (by decide)))
  have F3 := Fld.other W74 F3 (Or.inr (slot_ne (C := "com/example/caddisfly/caddisfly/XpathNumbers$Numeral") (Or.inl (hw _ (List.mem_of_getElem? (i := 63) rfl))) (Or.inl (hw _ (List.mem_of_getElem? (i := 22) rfl))) (by decide) (t := .long) (t' := .int) (by decide) (by decide)))
  have F4 := Fld.other W74 F4 (Or.inr (slot_ne (C := "com/example/caddisfly/caddisfly/XpathNumbers$Numeral") (Or.inl (hw _ (List.mem_of_getElem? (i := 65) rfl))) (Or.inl (hw _ (List.mem_of_getElem? (i := 22) rfl))) (by decide) (t := .long) (t' := .int) (by decide) (by decide)))
  have F5 := Fld.other W74 F5 (Or.inr (slot_ne (C := "com/example/caddisfly/caddisfly/XpathNumbers$Numeral") (Or.inl (hw _ (List.mem_of_getElem? (i := 59) rfl))) (Or.inl (hw _ (List.mem_of_getElem? (i := 22) rfl))) (by decide) (t := .boolean) (t' := .int) (by decide) (by decide)))
  have F6 := Fld.other W74 F6 (Or.inr (slot_ne (C := "com/example/caddisfly/caddisfly/XpathNumbers$Numeral") (Or.inl (hw _ (List.mem_of_getElem? (i := 68) rfl))) (Or.inl (hw _ (List.mem_of_getElem? (i := 22) rfl))) (by decide) (t := .boolean) (t' := .int) (by decide) (by decide)))
  have KK : Keep h0 _ [p] := KK.trans K74 (allS (Or.inl (by simp)) all0)
  have sk := KK.1
  have F1 := F1'
  have E := E'
  have s_h74 : n0 ≤ h74.size := Nat.le_trans (by omega) K74.1
  have k : Wn l Z n0 (QN Z p 4 sg h0) G s h74 0 0 128 #[.val (.ref p), .val (.int c)] [] := k
  have k : Wn l Z n0 (QN Z p 4 sg h0) G s h74 0 0 185 #[.val (.ref p), .val (.int c)] [] := k.goto (pc' := 185) dn_128 (by decide)
  exact k.outN dn_185 (by decide) (by decide) ⟨rfl, KK, ⟨E, F1, F2, ⟨_, F3⟩, ⟨_, F4⟩, ⟨_, F5⟩, ⟨_, F6⟩⟩⟩
set_option maxRecDepth 65536 in
set_option maxHeartbeats 40000000 in
theorem conn21 (l : Launch) (Z : State) (a0 : Array Value) (hw : ∀ d ∈ tables_1, d.before a0 Z = true) (p : Nat) (c : Int32) (sg : Nat) (hc : Cl c 1) (hsg : sg < 18) (h0 : Heap) (n0 : Nat) (s_h0 : n0 ≤ h0.size) (n_p : n0 ≤ p) (N : NS Z h0 p 2 sg) : Con l Z (⟨"com/example/caddisfly/caddisfly/XpathNumbers$Numeral", "add", "(C)V"⟩ : MethodName) prog_160_method_3_code 2 none ({ frames := 2, cells := 0, slots := 0, locals := 40 } : Room) #[.ref p, .int c] h0 n0 (QN Z p 5 sg h0) := by
  refine Con.of pnn (Ls := #[.val (.ref p), .val (.int c)]) (fun m => by first | (simp [entryFrame, mkF, argsToLocals, Value.category]; done) | rfl) ?_
  intro G s k
  obtain ⟨E, F1, F2, ⟨ex, F3⟩, ⟨ld, F4⟩, ⟨ad, F5⟩, ⟨ng, F6⟩⟩ := N
  have KK : Keep h0 h0 [p] := Keep.refl _ _
  have sk := KK.1
  have F1 : Fld Z h0 p "com/example/caddisfly/caddisfly/XpathNumbers$Numeral" "stage" "I" (.int (2 : Int32)) := F1
  have k : Wn l Z n0 (QN Z p 5 sg h0) G s h0 0 0 4 #[.val (.ref p), .val (.int c)] [(.int (2 : Int32))] := (k.aloadN dn_0 rfl rfl).getF (hw _ (List.mem_of_getElem? (i := 21) rfl)) F1 dn_1
  have k : Wn l Z n0 (QN Z p 5 sg h0) G s h0 0 0 82 #[.val (.ref p), .val (.int c)] [] := k.tswIn (pc' := 82) dn_4 (by decide) rfl (by decide)
  have k : Wn l Z n0 (QN Z p 5 sg h0) G s h0 0 0 83 #[.val (.ref p), .val (.int c)] [(.int c)] := k.iloadN dn_82 rfl
  obtain ⟨v75, h75, ⟨rfl, rfl⟩, k⟩ := k.callSN (hw _ (List.mem_of_getElem? (i := 51) rfl)) (hw _ (List.mem_of_getElem? (i := 52) rfl)) (hw _ (List.mem_of_getElem? (i := 45) rfl)) (hw _ (List.mem_of_getElem? (i := 53) rfl)) (by decide) (conb0 l Z a0 hw c h0 n0 (own_dg0 hc (by decide))) (argsL := [(.int c)]) (rest := []) (lenOf pdb rfl) dn_83 rfl rfl 0 (Nat.le_of_eq rfl) (by decide) (by decide) (by decide) (by decide)
  have k : Wn l Z n0 (QN Z p 5 sg h0) G s h0 0 0 86 #[.val (.ref p), .val (.int c)] [(.int (0 : Int32))] := k
  have k : Wn l Z n0 (QN Z p 5 sg h0) G s h0 0 0 98 #[.val (.ref p), .val (.int c)] [] := k.ifT (pc' := 98) dn_86 (XT.i0_eq_t (by decide)) (by decide)
  have k : Wn l Z n0 (QN Z p 5 sg h0) G s h0 0 0 101 #[.val (.ref p), .val (.int c)] [(.int (46 : Int32)), (.int c)] := (k.iloadN dn_98 rfl).bipush (46) dn_99 rfl
  have k : Wn l Z n0 (QN Z p 5 sg h0) G s h0 0 0 112 #[.val (.ref p), .val (.int c)] [] := k.icT (pc' := 112) dn_101 (XT.ii_ne_t (own_n46 hc (by decide))) (by decide)
  have k : Wn l Z n0 (QN Z p 5 sg h0) G s h0 0 0 114 #[.val (.ref p), .val (.int c)] [(.int c), (.ref p)] := (k.aloadN dn_112 rfl rfl).iloadN dn_113 rfl
  obtain ⟨v76, h76, ⟨rfl, rfl⟩, k⟩ := k.callSN (hw _ (List.mem_of_getElem? (i := 43) rfl)) (hw _ (List.mem_of_getElem? (i := 44) rfl)) (hw _ (List.mem_of_getElem? (i := 45) rfl)) (hw _ (List.mem_of_getElem? (i := 46) rfl)) (by decide) (cona0 l Z a0 hw c h0 n0 (own_ws0 hc (by decide))) (argsL := [(.int c)]) (rest := [(.ref p)]) (lenOf pda rfl) dn_114 rfl rfl 1 (Nat.le_of_eq rfl) (by decide) (by decide) (by decide) (by decide)
  have k : Wn l Z n0 (QN Z p 5 sg h0) G s h0 0 0 117 #[.val (.ref p), .val (.int c)] [(.int (0 : Int32)), (.ref p)] := k
  have k : Wn l Z n0 (QN Z p 5 sg h0) G s h0 0 0 124 #[.val (.ref p), .val (.int c)] [(.ref p)] := k.ifT (pc' := 124) dn_117 (XT.i0_eq_t (by decide)) (by decide)
  have k : Wn l Z n0 (QN Z p 5 sg h0) G s h0 0 0 125 #[.val (.ref p), .val (.int c)] [(.int (5 : Int32)), (.ref p)] := k.iconst (5) dn_124 rfl
  obtain ⟨h77, W77, K77, F1', E', k⟩ := k.putF (ty := .int) (hw _ (List.mem_of_getElem? (i := 21) rfl)) F1 E (Or.inl (hw _ (List.mem_of_getElem? (i := 22) rfl))) (hw _ (List.mem_of_getElem? (i := 13) rfl)) (by decide) rfl rfl n_p dn_125
  have F2 := Fld.other W77 F2 (Or.inr (slot_ne (C := "com/example/caddisfly/caddisfly/XpathNumbers$Numeral") (Or.inl (hw _ (List.mem_of_getElem? (i := 61) rfl))) (Or.inl (hw _ (List.mem_of_getElem? (i := 22) rfl))) (by decide) (t := .int) (t' := .int) (by decide) (by decide)))
  have F3 := Fld.other W77 F3 (Or.inr (slot_ne (C := "com/example/caddisfly/caddisfly/XpathNumbers$Numeral") (Or.inl (hw _ (List.mem_of_getElem? (i := 63) rfl))) (Or.inl (hw _ (List.mem_of_getElem? (i := 22) rfl))) (by decide) (t := .long) (t' := .int) (by decide) (by decide)))
  have F4 := Fld.other W77 F4 (Or.inr (slot_ne (C := "com/example/caddisfly/caddisfly/XpathNumbers$Numeral") (Or.inl (hw _ (List.mem_of_getElem? (i := 65) rfl))) (Or.inl (hw _ (List.mem_of_getElem? (i := 22) rfl))) (by decide) (t := .long) (t' := .int) (by decide) (by decide)))
  have F5 := Fld.other W77 F5 (Or.inr (slot_ne (C := "com/example/caddisfly/caddisfly/XpathNumbers$Numeral") (Or.inl (hw _ (List.mem_of_getElem? (i := 59) rfl))) (Or.inl (hw _ (List.mem_of_getElem? (i := 22) rfl))) (by decide) (t := .boolean) (t' := .int) (by decide) (by decide)))
  have F6 := Fld.other W77 F6 (Or.inr (slot_ne (C := "com/example/caddisfly/caddisfly/XpathNumbers$Numeral") (Or.inl (hw _ (List.mem_of_getElem? (i := 68) rfl))) (Or.inl (hw _ (List.mem_of_getElem? (i := 22) rfl))) (by decide) (t := .boolean) (t' := .int) (by decide) (by decide)))
  have KK : Keep h0 _ [p] := KK.trans K77 (allS (Or.inl (by simp)) all0)
  have sk := KK.1
  have F1 := F1'
  have E := E'
  have s_h77 : n0 ≤ h77.size := Nat.le_trans (by omega) K77.1
  have k : Wn l Z n0 (QN Z p 5 sg h0) G s h77 0 0 128 #[.val (.ref p), .val (.int c)] [] := k
  have k : Wn l Z n0 (QN Z p 5 sg h0) G s h77 0 0 185 #[.val (.ref p), .val (.int c)] [] := k.goto (pc' := 185) dn_128 (by decide)
  exact k.outN dn_185 (by decide) (by decide) ⟨rfl, KK, ⟨E, F1, F2, ⟨_, F3⟩, ⟨_, F4⟩, ⟨_, F5⟩, ⟨_, F6⟩⟩⟩
set_option maxRecDepth 65536 in
set_option maxHeartbeats 40000000 in
theorem conn22 (l : Launch) (Z : State) (a0 : Array Value) (hw : ∀ d ∈ tables_1, d.before a0 Z = true) (p : Nat) (c : Int32) (sg : Nat) (hc : Cl c 2) (hsg : sg < 18) (h0 : Heap) (n0 : Nat) (s_h0 : n0 ≤ h0.size) (n_p : n0 ≤ p) (N : NS Z h0 p 2 sg) : Con l Z (⟨"com/example/caddisfly/caddisfly/XpathNumbers$Numeral", "add", "(C)V"⟩ : MethodName) prog_160_method_3_code 2 none ({ frames := 2, cells := 0, slots := 0, locals := 40 } : Room) #[.ref p, .int c] h0 n0 (QN Z p 3 sg h0) := by
  refine Con.of pnn (Ls := #[.val (.ref p), .val (.int c)]) (fun m => by first | (simp [entryFrame, mkF, argsToLocals, Value.category]; done) | rfl) ?_
  intro G s k
  obtain ⟨E, F1, F2, ⟨ex, F3⟩, ⟨ld, F4⟩, ⟨ad, F5⟩, ⟨ng, F6⟩⟩ := N
  have KK : Keep h0 h0 [p] := Keep.refl _ _
  have sk := KK.1
  have F1 : Fld Z h0 p "com/example/caddisfly/caddisfly/XpathNumbers$Numeral" "stage" "I" (.int (2 : Int32)) := F1
  have k : Wn l Z n0 (QN Z p 3 sg h0) G s h0 0 0 4 #[.val (.ref p), .val (.int c)] [(.int (2 : Int32))] := (k.aloadN dn_0 rfl rfl).getF (hw _ (List.mem_of_getElem? (i := 21) rfl)) F1 dn_1
  have k : Wn l Z n0 (QN Z p 3 sg h0) G s h0 0 0 82 #[.val (.ref p), .val (.int c)] [] := k.tswIn (pc' := 82) dn_4 (by decide) rfl (by decide)
  have k : Wn l Z n0 (QN Z p 3 sg h0) G s h0 0 0 83 #[.val (.ref p), .val (.int c)] [(.int c)] := k.iloadN dn_82 rfl
  obtain ⟨v78, h78, ⟨rfl, rfl⟩, k⟩ := k.callSN (hw _ (List.mem_of_getElem? (i := 51) rfl)) (hw _ (List.mem_of_getElem? (i := 52) rfl)) (hw _ (List.mem_of_getElem? (i := 45) rfl)) (hw _ (List.mem_of_getElem? (i := 53) rfl)) (by decide) (conb0 l Z a0 hw c h0 n0 (own_dg0 hc (by decide))) (argsL := [(.int c)]) (rest := []) (lenOf pdb rfl) dn_83 rfl rfl 0 (Nat.le_of_eq rfl) (by decide) (by decide) (by decide) (by decide)
  have k : Wn l Z n0 (QN Z p 3 sg h0) G s h0 0 0 86 #[.val (.ref p), .val (.int c)] [(.int (0 : Int32))] := k
  have k : Wn l Z n0 (QN Z p 3 sg h0) G s h0 0 0 98 #[.val (.ref p), .val (.int c)] [] := k.ifT (pc' := 98) dn_86 (XT.i0_eq_t (by decide)) (by decide)
  have k : Wn l Z n0 (QN Z p 3 sg h0) G s h0 0 0 101 #[.val (.ref p), .val (.int c)] [(.int (46 : Int32)), (.int c)] := (k.iloadN dn_98 rfl).bipush (46) dn_99 rfl
  have k : Wn l Z n0 (QN Z p 3 sg h0) G s h0 0 0 104 #[.val (.ref p), .val (.int c)] [] := k.icF dn_101 (XT.ii_ne_f (show c = (46 : Int32) from hc))
  have k : Wn l Z n0 (QN Z p 3 sg h0) G s h0 0 0 106 #[.val (.ref p), .val (.int c)] [(.int (3 : Int32)), (.ref p)] := (k.aloadN dn_104 rfl rfl).iconst (3) dn_105 rfl
  obtain ⟨h79, W79, K79, F1', E', k⟩ := k.putF (ty := .int) (hw _ (List.mem_of_getElem? (i := 21) rfl)) F1 E (Or.inl (hw _ (List.mem_of_getElem? (i := 22) rfl))) (hw _ (List.mem_of_getElem? (i := 13) rfl)) (by decide) rfl rfl n_p dn_106
  have F2 := Fld.other W79 F2 (Or.inr (slot_ne (C := "com/example/caddisfly/caddisfly/XpathNumbers$Numeral") (Or.inl (hw _ (List.mem_of_getElem? (i := 61) rfl))) (Or.inl (hw _ (List.mem_of_getElem? (i := 22) rfl))) (by decide) (t := .int) (t' := .int) (by decide) (by decide)))
  have F3 := Fld.other W79 F3 (Or.inr (slot_ne (C := "com/example/caddisfly/caddisfly/XpathNumbers$Numeral") (Or.inl (hw _ (List.mem_of_getElem? (i := 63) rfl))) (Or.inl (hw _ (List.mem_of_getElem? (i := 22) rfl))) (by decide) (t := .long) (t' := .int) (by decide) (by decide)))
  have F4 := Fld.other W79 F4 (Or.inr (slot_ne (C := "com/example/caddisfly/caddisfly/XpathNumbers$Numeral") (Or.inl (hw _ (List.mem_of_getElem? (i := 65) rfl))) (Or.inl (hw _ (List.mem_of_getElem? (i := 22) rfl))) (by decide) (t := .long) (t' := .int) (by decide) (by decide)))
  have F5 := Fld.other W79 F5 (Or.inr (slot_ne (C := "com/example/caddisfly/caddisfly/XpathNumbers$Numeral") (Or.inl (hw _ (List.mem_of_getElem? (i := 59) rfl))) (Or.inl (hw _ (List.mem_of_getElem? (i := 22) rfl))) (by decide) (t := .boolean) (t' := .int) (by decide) (by decide)))
  have F6 := Fld.other W79 F6 (Or.inr (slot_ne (C := "com/example/caddisfly/caddisfly/XpathNumbers$Numeral") (Or.inl (hw _ (List.mem_of_getElem? (i := 68) rfl))) (Or.inl (hw _ (List.mem_of_getElem? (i := 22) rfl))) (by decide) (t := .boolean) (t' := .int) (by decide) (by decide)))
  have KK : Keep h0 _ [p] := KK.trans K79 (allS (Or.inl (by simp)) all0)
  have sk := KK.1
  have F1 := F1'
  have E := E'
  have s_h79 : n0 ≤ h79.size := Nat.le_trans (by omega) K79.1
  have k : Wn l Z n0 (QN Z p 3 sg h0) G s h79 0 0 109 #[.val (.ref p), .val (.int c)] [] := k
  have k : Wn l Z n0 (QN Z p 3 sg h0) G s h79 0 0 185 #[.val (.ref p), .val (.int c)] [] := k.goto (pc' := 185) dn_109 (by decide)
  exact k.outN dn_185 (by decide) (by decide) ⟨rfl, KK, ⟨E, F1, F2, ⟨_, F3⟩, ⟨_, F4⟩, ⟨_, F5⟩, ⟨_, F6⟩⟩⟩
set_option maxRecDepth 65536 in
set_option maxHeartbeats 40000000 in
theorem conn23 (l : Launch) (Z : State) (a0 : Array Value) (hw : ∀ d ∈ tables_1, d.before a0 Z = true) (p : Nat) (c : Int32) (sg : Nat) (hc : Cl c 3) (hsg : sg < 18) (h0 : Heap) (n0 : Nat) (s_h0 : n0 ≤ h0.size) (n_p : n0 ≤ p) (N : NS Z h0 p 2 sg) : Con l Z (⟨"com/example/caddisfly/caddisfly/XpathNumbers$Numeral", "add", "(C)V"⟩ : MethodName) prog_160_method_3_code 2 none ({ frames := 2, cells := 0, slots := 0, locals := 40 } : Room) #[.ref p, .int c] h0 n0 (QN Z p 2 (incN sg 3) h0) := by
  refine Con.of pnn (Ls := #[.val (.ref p), .val (.int c)]) (fun m => by first | (simp [entryFrame, mkF, argsToLocals, Value.category]; done) | rfl) ?_
  intro G s k
  obtain ⟨E, F1, F2, ⟨ex, F3⟩, ⟨ld, F4⟩, ⟨ad, F5⟩, ⟨ng, F6⟩⟩ := N
  have KK : Keep h0 h0 [p] := Keep.refl _ _
  have sk := KK.1
  have F1 : Fld Z h0 p "com/example/caddisfly/caddisfly/XpathNumbers$Numeral" "stage" "I" (.int (2 : Int32)) := F1
  have k : Wn l Z n0 (QN Z p 2 (incN sg 3) h0) G s h0 0 0 4 #[.val (.ref p), .val (.int c)] [(.int (2 : Int32))] := (k.aloadN dn_0 rfl rfl).getF (hw _ (List.mem_of_getElem? (i := 21) rfl)) F1 dn_1
  have k : Wn l Z n0 (QN Z p 2 (incN sg 3) h0) G s h0 0 0 82 #[.val (.ref p), .val (.int c)] [] := k.tswIn (pc' := 82) dn_4 (by decide) rfl (by decide)
  have k : Wn l Z n0 (QN Z p 2 (incN sg 3) h0) G s h0 0 0 83 #[.val (.ref p), .val (.int c)] [(.int c)] := k.iloadN dn_82 rfl
  obtain ⟨v80, h80, ⟨rfl, rfl⟩, k⟩ := k.callSN (hw _ (List.mem_of_getElem? (i := 51) rfl)) (hw _ (List.mem_of_getElem? (i := 52) rfl)) (hw _ (List.mem_of_getElem? (i := 45) rfl)) (hw _ (List.mem_of_getElem? (i := 53) rfl)) (by decide) (conb1 l Z a0 hw c h0 n0 (own_dg1 hc (Or.inl rfl))) (argsL := [(.int c)]) (rest := []) (lenOf pdb rfl) dn_83 rfl rfl 0 (Nat.le_of_eq rfl) (by decide) (by decide) (by decide) (by decide)
  have k : Wn l Z n0 (QN Z p 2 (incN sg 3) h0) G s h0 0 0 86 #[.val (.ref p), .val (.int c)] [(.int (1 : Int32))] := k
  have k : Wn l Z n0 (QN Z p 2 (incN sg 3) h0) G s h0 0 0 89 #[.val (.ref p), .val (.int c)] [] := k.ifF dn_86 (XT.i0_eq_f (by decide))
  have k : Wn l Z n0 (QN Z p 2 (incN sg 3) h0) G s h0 0 0 92 #[.val (.ref p), .val (.int c)] [(.int (0 : Int32)), (.int c), (.ref p)] := ((k.aloadN dn_89 rfl rfl).iloadN dn_90 rfl).iconst (0) dn_91 rfl
  have N0 : NS Z h0 p 2 sg := ⟨E, F1, F2, ⟨_, F3⟩, ⟨_, F4⟩, ⟨_, F5⟩, ⟨_, F6⟩⟩
  obtain ⟨v81, h81, ⟨rfl, K81, N81⟩, k⟩ := k.callP (hw _ (List.mem_of_getElem? (i := 54) rfl)) (hw _ (List.mem_of_getElem? (i := 55) rfl)) (hw _ (List.mem_of_getElem? (i := 56) rfl)) (hw _ (List.mem_of_getElem? (i := 26) rfl)) rfl (hw _ (List.mem_of_getElem? (i := 14) rfl)) (hw _ (List.mem_of_getElem? (i := 57) rfl)) (by decide) E (conj0 l Z a0 hw p c 2 sg 3 hc (Or.inl rfl) hsg h0 n0 (by omega) n_p N0) (argsL := [(.int c), (.int (0 : Int32))]) (rest := []) (lenOf pdj rfl) dn_92 rfl rfl 0 (Nat.le_of_eq rfl) (by decide) (by decide) (by decide) (by decide)
  have k : Wn l Z n0 (QN Z p 2 (incN sg 3) h0) G s h81 0 0 95 #[.val (.ref p), .val (.int c)] [] := k
  have KK : Keep h0 _ [p] := KK.trans K81 (allS (Or.inl (by simp)) all0)
  have k : Wn l Z n0 (QN Z p 2 (incN sg 3) h0) G s h81 0 0 185 #[.val (.ref p), .val (.int c)] [] := k.goto (pc' := 185) dn_95 (by decide)
  exact k.outN dn_185 (by decide) (by decide) ⟨rfl, KK, N81⟩
set_option maxRecDepth 65536 in
set_option maxHeartbeats 40000000 in
theorem conn24 (l : Launch) (Z : State) (a0 : Array Value) (hw : ∀ d ∈ tables_1, d.before a0 Z = true) (p : Nat) (c : Int32) (sg : Nat) (hc : Cl c 4) (hsg : sg < 18) (h0 : Heap) (n0 : Nat) (s_h0 : n0 ≤ h0.size) (n_p : n0 ≤ p) (N : NS Z h0 p 2 sg) : Con l Z (⟨"com/example/caddisfly/caddisfly/XpathNumbers$Numeral", "add", "(C)V"⟩ : MethodName) prog_160_method_3_code 2 none ({ frames := 2, cells := 0, slots := 0, locals := 40 } : Room) #[.ref p, .int c] h0 n0 (QN Z p 2 (incN sg 4) h0) := by
  refine Con.of pnn (Ls := #[.val (.ref p), .val (.int c)]) (fun m => by first | (simp [entryFrame, mkF, argsToLocals, Value.category]; done) | rfl) ?_
  intro G s k
  obtain ⟨E, F1, F2, ⟨ex, F3⟩, ⟨ld, F4⟩, ⟨ad, F5⟩, ⟨ng, F6⟩⟩ := N
  have KK : Keep h0 h0 [p] := Keep.refl _ _
  have sk := KK.1
  have F1 : Fld Z h0 p "com/example/caddisfly/caddisfly/XpathNumbers$Numeral" "stage" "I" (.int (2 : Int32)) := F1
  have k : Wn l Z n0 (QN Z p 2 (incN sg 4) h0) G s h0 0 0 4 #[.val (.ref p), .val (.int c)] [(.int (2 : Int32))] := (k.aloadN dn_0 rfl rfl).getF (hw _ (List.mem_of_getElem? (i := 21) rfl)) F1 dn_1
  have k : Wn l Z n0 (QN Z p 2 (incN sg 4) h0) G s h0 0 0 82 #[.val (.ref p), .val (.int c)] [] := k.tswIn (pc' := 82) dn_4 (by decide) rfl (by decide)
  have k : Wn l Z n0 (QN Z p 2 (incN sg 4) h0) G s h0 0 0 83 #[.val (.ref p), .val (.int c)] [(.int c)] := k.iloadN dn_82 rfl
  obtain ⟨v82, h82, ⟨rfl, rfl⟩, k⟩ := k.callSN (hw _ (List.mem_of_getElem? (i := 51) rfl)) (hw _ (List.mem_of_getElem? (i := 52) rfl)) (hw _ (List.mem_of_getElem? (i := 45) rfl)) (hw _ (List.mem_of_getElem? (i := 53) rfl)) (by decide) (conb1 l Z a0 hw c h0 n0 (own_dg1 hc (Or.inr rfl))) (argsL := [(.int c)]) (rest := []) (lenOf pdb rfl) dn_83 rfl rfl 0 (Nat.le_of_eq rfl) (by decide) (by decide) (by decide) (by decide)
  have k : Wn l Z n0 (QN Z p 2 (incN sg 4) h0) G s h0 0 0 86 #[.val (.ref p), .val (.int c)] [(.int (1 : Int32))] := k
  have k : Wn l Z n0 (QN Z p 2 (incN sg 4) h0) G s h0 0 0 89 #[.val (.ref p), .val (.int c)] [] := k.ifF dn_86 (XT.i0_eq_f (by decide))
  have k : Wn l Z n0 (QN Z p 2 (incN sg 4) h0) G s h0 0 0 92 #[.val (.ref p), .val (.int c)] [(.int (0 : Int32)), (.int c), (.ref p)] := ((k.aloadN dn_89 rfl rfl).iloadN dn_90 rfl).iconst (0) dn_91 rfl
  have N0 : NS Z h0 p 2 sg := ⟨E, F1, F2, ⟨_, F3⟩, ⟨_, F4⟩, ⟨_, F5⟩, ⟨_, F6⟩⟩
  obtain ⟨v83, h83, ⟨rfl, K83, N83⟩, k⟩ := k.callP (hw _ (List.mem_of_getElem? (i := 54) rfl)) (hw _ (List.mem_of_getElem? (i := 55) rfl)) (hw _ (List.mem_of_getElem? (i := 56) rfl)) (hw _ (List.mem_of_getElem? (i := 26) rfl)) rfl (hw _ (List.mem_of_getElem? (i := 14) rfl)) (hw _ (List.mem_of_getElem? (i := 57) rfl)) (by decide) E (conj0 l Z a0 hw p c 2 sg 4 hc (Or.inr rfl) hsg h0 n0 (by omega) n_p N0) (argsL := [(.int c), (.int (0 : Int32))]) (rest := []) (lenOf pdj rfl) dn_92 rfl rfl 0 (Nat.le_of_eq rfl) (by decide) (by decide) (by decide) (by decide)
  have k : Wn l Z n0 (QN Z p 2 (incN sg 4) h0) G s h83 0 0 95 #[.val (.ref p), .val (.int c)] [] := k
  have KK : Keep h0 _ [p] := KK.trans K83 (allS (Or.inl (by simp)) all0)
  have k : Wn l Z n0 (QN Z p 2 (incN sg 4) h0) G s h83 0 0 185 #[.val (.ref p), .val (.int c)] [] := k.goto (pc' := 185) dn_95 (by decide)
  exact k.outN dn_185 (by decide) (by decide) ⟨rfl, KK, N83⟩
set_option maxRecDepth 65536 in
set_option maxHeartbeats 40000000 in
theorem conn25 (l : Launch) (Z : State) (a0 : Array Value) (hw : ∀ d ∈ tables_1, d.before a0 Z = true) (p : Nat) (c : Int32) (sg : Nat) (hc : Cl c 5) (hsg : sg < 18) (h0 : Heap) (n0 : Nat) (s_h0 : n0 ≤ h0.size) (n_p : n0 ≤ p) (N : NS Z h0 p 2 sg) : Con l Z (⟨"com/example/caddisfly/caddisfly/XpathNumbers$Numeral", "add", "(C)V"⟩ : MethodName) prog_160_method_3_code 2 none ({ frames := 2, cells := 0, slots := 0, locals := 40 } : Room) #[.ref p, .int c] h0 n0 (QN Z p 5 sg h0) := by
  refine Con.of pnn (Ls := #[.val (.ref p), .val (.int c)]) (fun m => by first | (simp [entryFrame, mkF, argsToLocals, Value.category]; done) | rfl) ?_
  intro G s k
  obtain ⟨E, F1, F2, ⟨ex, F3⟩, ⟨ld, F4⟩, ⟨ad, F5⟩, ⟨ng, F6⟩⟩ := N
  have KK : Keep h0 h0 [p] := Keep.refl _ _
  have sk := KK.1
  have F1 : Fld Z h0 p "com/example/caddisfly/caddisfly/XpathNumbers$Numeral" "stage" "I" (.int (2 : Int32)) := F1
  have k : Wn l Z n0 (QN Z p 5 sg h0) G s h0 0 0 4 #[.val (.ref p), .val (.int c)] [(.int (2 : Int32))] := (k.aloadN dn_0 rfl rfl).getF (hw _ (List.mem_of_getElem? (i := 21) rfl)) F1 dn_1
  have k : Wn l Z n0 (QN Z p 5 sg h0) G s h0 0 0 82 #[.val (.ref p), .val (.int c)] [] := k.tswIn (pc' := 82) dn_4 (by decide) rfl (by decide)
  have k : Wn l Z n0 (QN Z p 5 sg h0) G s h0 0 0 83 #[.val (.ref p), .val (.int c)] [(.int c)] := k.iloadN dn_82 rfl
  obtain ⟨v84, h84, ⟨rfl, rfl⟩, k⟩ := k.callSN (hw _ (List.mem_of_getElem? (i := 51) rfl)) (hw _ (List.mem_of_getElem? (i := 52) rfl)) (hw _ (List.mem_of_getElem? (i := 45) rfl)) (hw _ (List.mem_of_getElem? (i := 53) rfl)) (by decide) (conb0 l Z a0 hw c h0 n0 (own_dg0 hc (by decide))) (argsL := [(.int c)]) (rest := []) (lenOf pdb rfl) dn_83 rfl rfl 0 (Nat.le_of_eq rfl) (by decide) (by decide) (by decide) (by decide)
  have k : Wn l Z n0 (QN Z p 5 sg h0) G s h0 0 0 86 #[.val (.ref p), .val (.int c)] [(.int (0 : Int32))] := k
  have k : Wn l Z n0 (QN Z p 5 sg h0) G s h0 0 0 98 #[.val (.ref p), .val (.int c)] [] := k.ifT (pc' := 98) dn_86 (XT.i0_eq_t (by decide)) (by decide)
  have k : Wn l Z n0 (QN Z p 5 sg h0) G s h0 0 0 101 #[.val (.ref p), .val (.int c)] [(.int (46 : Int32)), (.int c)] := (k.iloadN dn_98 rfl).bipush (46) dn_99 rfl
  have k : Wn l Z n0 (QN Z p 5 sg h0) G s h0 0 0 112 #[.val (.ref p), .val (.int c)] [] := k.icT (pc' := 112) dn_101 (XT.ii_ne_t (own_n46 hc (by decide))) (by decide)
  have k : Wn l Z n0 (QN Z p 5 sg h0) G s h0 0 0 114 #[.val (.ref p), .val (.int c)] [(.int c), (.ref p)] := (k.aloadN dn_112 rfl rfl).iloadN dn_113 rfl
  obtain ⟨v85, h85, ⟨rfl, rfl⟩, k⟩ := k.callSN (hw _ (List.mem_of_getElem? (i := 43) rfl)) (hw _ (List.mem_of_getElem? (i := 44) rfl)) (hw _ (List.mem_of_getElem? (i := 45) rfl)) (hw _ (List.mem_of_getElem? (i := 46) rfl)) (by decide) (cona0 l Z a0 hw c h0 n0 (own_ws0 hc (by decide))) (argsL := [(.int c)]) (rest := [(.ref p)]) (lenOf pda rfl) dn_114 rfl rfl 1 (Nat.le_of_eq rfl) (by decide) (by decide) (by decide) (by decide)
  have k : Wn l Z n0 (QN Z p 5 sg h0) G s h0 0 0 117 #[.val (.ref p), .val (.int c)] [(.int (0 : Int32)), (.ref p)] := k
  have k : Wn l Z n0 (QN Z p 5 sg h0) G s h0 0 0 124 #[.val (.ref p), .val (.int c)] [(.ref p)] := k.ifT (pc' := 124) dn_117 (XT.i0_eq_t (by decide)) (by decide)
  have k : Wn l Z n0 (QN Z p 5 sg h0) G s h0 0 0 125 #[.val (.ref p), .val (.int c)] [(.int (5 : Int32)), (.ref p)] := k.iconst (5) dn_124 rfl
  obtain ⟨h86, W86, K86, F1', E', k⟩ := k.putF (ty := .int) (hw _ (List.mem_of_getElem? (i := 21) rfl)) F1 E (Or.inl (hw _ (List.mem_of_getElem? (i := 22) rfl))) (hw _ (List.mem_of_getElem? (i := 13) rfl)) (by decide) rfl rfl n_p dn_125
  have F2 := Fld.other W86 F2 (Or.inr (slot_ne (C := "com/example/caddisfly/caddisfly/XpathNumbers$Numeral") (Or.inl (hw _ (List.mem_of_getElem? (i := 61) rfl))) (Or.inl (hw _ (List.mem_of_getElem? (i := 22) rfl))) (by decide) (t := .int) (t' := .int) (by decide) (by decide)))
  have F3 := Fld.other W86 F3 (Or.inr (slot_ne (C := "com/example/caddisfly/caddisfly/XpathNumbers$Numeral") (Or.inl (hw _ (List.mem_of_getElem? (i := 63) rfl))) (Or.inl (hw _ (List.mem_of_getElem? (i := 22) rfl))) (by decide) (t := .long) (t' := .int) (by decide) (by decide)))
  have F4 := Fld.other W86 F4 (Or.inr (slot_ne (C := "com/example/caddisfly/caddisfly/XpathNumbers$Numeral") (Or.inl (hw _ (List.mem_of_getElem? (i := 65) rfl))) (Or.inl (hw _ (List.mem_of_getElem? (i := 22) rfl))) (by decide) (t := .long) (t' := .int) (by decide) (by decide)))
  have F5 := Fld.other W86 F5 (Or.inr (slot_ne (C := "com/example/caddisfly/caddisfly/XpathNumbers$Numeral") (Or.inl (hw _ (List.mem_of_getElem? (i := 59) rfl))) (Or.inl (hw _ (List.mem_of_getElem? (i := 22) rfl))) (by decide) (t := .boolean) (t' := .int) (by decide) (by decide)))
  have F6 := Fld.other W86 F6 (Or.inr (slot_ne (C := "com/example/caddisfly/caddisfly/XpathNumbers$Numeral") (Or.inl (hw _ (List.mem_of_getElem? (i := 68) rfl))) (Or.inl (hw _ (List.mem_of_getElem? (i := 22) rfl))) (by decide) (t := .boolean) (t' := .int) (by decide) (by decide)))
  have KK : Keep h0 _ [p] := KK.trans K86 (allS (Or.inl (by simp)) all0)
  have sk := KK.1
  have F1 := F1'
  have E := E'
  have s_h86 : n0 ≤ h86.size := Nat.le_trans (by omega) K86.1
  have k : Wn l Z n0 (QN Z p 5 sg h0) G s h86 0 0 128 #[.val (.ref p), .val (.int c)] [] := k
  have k : Wn l Z n0 (QN Z p 5 sg h0) G s h86 0 0 185 #[.val (.ref p), .val (.int c)] [] := k.goto (pc' := 185) dn_128 (by decide)
  exact k.outN dn_185 (by decide) (by decide) ⟨rfl, KK, ⟨E, F1, F2, ⟨_, F3⟩, ⟨_, F4⟩, ⟨_, F5⟩, ⟨_, F6⟩⟩⟩
set_option maxRecDepth 65536 in
set_option maxHeartbeats 40000000 in
theorem conn30 (l : Launch) (Z : State) (a0 : Array Value) (hw : ∀ d ∈ tables_1, d.before a0 Z = true) (p : Nat) (c : Int32) (sg : Nat) (hc : Cl c 0) (hsg : sg < 18) (h0 : Heap) (n0 : Nat) (s_h0 : n0 ≤ h0.size) (n_p : n0 ≤ p) (N : NS Z h0 p 3 sg) : Con l Z (⟨"com/example/caddisfly/caddisfly/XpathNumbers$Numeral", "add", "(C)V"⟩ : MethodName) prog_160_method_3_code 2 none ({ frames := 2, cells := 0, slots := 0, locals := 40 } : Room) #[.ref p, .int c] h0 n0 (QN Z p 4 sg h0) := by
  refine Con.of pnn (Ls := #[.val (.ref p), .val (.int c)]) (fun m => by first | (simp [entryFrame, mkF, argsToLocals, Value.category]; done) | rfl) ?_
  intro G s k
  obtain ⟨E, F1, F2, ⟨ex, F3⟩, ⟨ld, F4⟩, ⟨ad, F5⟩, ⟨ng, F6⟩⟩ := N
  have KK : Keep h0 h0 [p] := Keep.refl _ _
  have sk := KK.1
  have F1 : Fld Z h0 p "com/example/caddisfly/caddisfly/XpathNumbers$Numeral" "stage" "I" (.int (3 : Int32)) := F1
  have k : Wn l Z n0 (QN Z p 4 sg h0) G s h0 0 0 4 #[.val (.ref p), .val (.int c)] [(.int (3 : Int32))] := (k.aloadN dn_0 rfl rfl).getF (hw _ (List.mem_of_getElem? (i := 21) rfl)) F1 dn_1
  have k : Wn l Z n0 (QN Z p 4 sg h0) G s h0 0 0 131 #[.val (.ref p), .val (.int c)] [] := k.tswIn (pc' := 131) dn_4 (by decide) rfl (by decide)
  have k : Wn l Z n0 (QN Z p 4 sg h0) G s h0 0 0 132 #[.val (.ref p), .val (.int c)] [(.int c)] := k.iloadN dn_131 rfl
  obtain ⟨v87, h87, ⟨rfl, rfl⟩, k⟩ := k.callSN (hw _ (List.mem_of_getElem? (i := 51) rfl)) (hw _ (List.mem_of_getElem? (i := 52) rfl)) (hw _ (List.mem_of_getElem? (i := 45) rfl)) (hw _ (List.mem_of_getElem? (i := 53) rfl)) (by decide) (conb0 l Z a0 hw c h0 n0 (own_dg0 hc (by decide))) (argsL := [(.int c)]) (rest := []) (lenOf pdb rfl) dn_132 rfl rfl 0 (Nat.le_of_eq rfl) (by decide) (by decide) (by decide) (by decide)
  have k : Wn l Z n0 (QN Z p 4 sg h0) G s h0 0 0 135 #[.val (.ref p), .val (.int c)] [(.int (0 : Int32))] := k
  have k : Wn l Z n0 (QN Z p 4 sg h0) G s h0 0 0 147 #[.val (.ref p), .val (.int c)] [] := k.ifT (pc' := 147) dn_135 (XT.i0_eq_t (by decide)) (by decide)
  have k : Wn l Z n0 (QN Z p 4 sg h0) G s h0 0 0 149 #[.val (.ref p), .val (.int c)] [(.int c), (.ref p)] := (k.aloadN dn_147 rfl rfl).iloadN dn_148 rfl
  obtain ⟨v88, h88, ⟨rfl, rfl⟩, k⟩ := k.callSN (hw _ (List.mem_of_getElem? (i := 43) rfl)) (hw _ (List.mem_of_getElem? (i := 44) rfl)) (hw _ (List.mem_of_getElem? (i := 45) rfl)) (hw _ (List.mem_of_getElem? (i := 46) rfl)) (by decide) (cona1 l Z a0 hw c h0 n0 (own_ws1 hc)) (argsL := [(.int c)]) (rest := [(.ref p)]) (lenOf pda rfl) dn_149 rfl rfl 1 (Nat.le_of_eq rfl) (by decide) (by decide) (by decide) (by decide)
  have k : Wn l Z n0 (QN Z p 4 sg h0) G s h0 0 0 152 #[.val (.ref p), .val (.int c)] [(.int (1 : Int32)), (.ref p)] := k
  have k : Wn l Z n0 (QN Z p 4 sg h0) G s h0 0 0 155 #[.val (.ref p), .val (.int c)] [(.ref p)] := k.ifF dn_152 (XT.i0_eq_f (by decide))
  have k : Wn l Z n0 (QN Z p 4 sg h0) G s h0 0 0 160 #[.val (.ref p), .val (.int c)] [(.int (4 : Int32)), (.ref p)] := (k.iconst (4) dn_155 rfl).goto (pc' := 160) dn_156 (by decide)
  obtain ⟨h89, W89, K89, F1', E', k⟩ := k.putF (ty := .int) (hw _ (List.mem_of_getElem? (i := 21) rfl)) F1 E (Or.inl (hw _ (List.mem_of_getElem? (i := 22) rfl))) (hw _ (List.mem_of_getElem? (i := 13) rfl)) (by decide) rfl rfl n_p dn_160
  have F2 := Fld.other W89 F2 (Or.inr (slot_ne (C := "com/example/caddisfly/caddisfly/XpathNumbers$Numeral") (Or.inl (hw _ (List.mem_of_getElem? (i := 61) rfl))) (Or.inl (hw _ (List.mem_of_getElem? (i := 22) rfl))) (by decide) (t := .int) (t' := .int) (by decide) (by decide)))
  have F3 := Fld.other W89 F3 (Or.inr (slot_ne (C := "com/example/caddisfly/caddisfly/XpathNumbers$Numeral") (Or.inl (hw _ (List.mem_of_getElem? (i := 63) rfl))) (Or.inl (hw _ (List.mem_of_getElem? (i := 22) rfl))) (by decide) (t := .long) (t' := .int) (by decide) (by decide)))
  have F4 := Fld.other W89 F4 (Or.inr (slot_ne (C := "com/example/caddisfly/caddisfly/XpathNumbers$Numeral") (Or.inl (hw _ (List.mem_of_getElem? (i := 65) rfl))) (Or.inl (hw _ (List.mem_of_getElem? (i := 22) rfl))) (by decide) (t := .long) (t' := .int) (by decide) (by decide)))
  have F5 := Fld.other W89 F5 (Or.inr (slot_ne (C := "com/example/caddisfly/caddisfly/XpathNumbers$Numeral") (Or.inl (hw _ (List.mem_of_getElem? (i := 59) rfl))) (Or.inl (hw _ (List.mem_of_getElem? (i := 22) rfl))) (by decide) (t := .boolean) (t' := .int) (by decide) (by decide)))
  have F6 := Fld.other W89 F6 (Or.inr (slot_ne (C := "com/example/caddisfly/caddisfly/XpathNumbers$Numeral") (Or.inl (hw _ (List.mem_of_getElem? (i := 68) rfl))) (Or.inl (hw _ (List.mem_of_getElem? (i := 22) rfl))) (by decide) (t := .boolean) (t' := .int) (by decide) (by decide)))
  have KK : Keep h0 _ [p] := KK.trans K89 (allS (Or.inl (by simp)) all0)
  have sk := KK.1
  have F1 := F1'
  have E := E'
  have s_h89 : n0 ≤ h89.size := Nat.le_trans (by omega) K89.1
  have k : Wn l Z n0 (QN Z p 4 sg h0) G s h89 0 0 163 #[.val (.ref p), .val (.int c)] [] := k
  have k : Wn l Z n0 (QN Z p 4 sg h0) G s h89 0 0 185 #[.val (.ref p), .val (.int c)] [] := k.goto (pc' := 185) dn_163 (by decide)
  exact k.outN dn_185 (by decide) (by decide) ⟨rfl, KK, ⟨E, F1, F2, ⟨_, F3⟩, ⟨_, F4⟩, ⟨_, F5⟩, ⟨_, F6⟩⟩⟩
set_option maxRecDepth 65536 in
set_option maxHeartbeats 40000000 in
theorem conn31 (l : Launch) (Z : State) (a0 : Array Value) (hw : ∀ d ∈ tables_1, d.before a0 Z = true) (p : Nat) (c : Int32) (sg : Nat) (hc : Cl c 1) (hsg : sg < 18) (h0 : Heap) (n0 : Nat) (s_h0 : n0 ≤ h0.size) (n_p : n0 ≤ p) (N : NS Z h0 p 3 sg) : Con l Z (⟨"com/example/caddisfly/caddisfly/XpathNumbers$Numeral", "add", "(C)V"⟩ : MethodName) prog_160_method_3_code 2 none ({ frames := 2, cells := 0, slots := 0, locals := 40 } : Room) #[.ref p, .int c] h0 n0 (QN Z p 5 sg h0) := by
  refine Con.of pnn (Ls := #[.val (.ref p), .val (.int c)]) (fun m => by first | (simp [entryFrame, mkF, argsToLocals, Value.category]; done) | rfl) ?_
  intro G s k
  obtain ⟨E, F1, F2, ⟨ex, F3⟩, ⟨ld, F4⟩, ⟨ad, F5⟩, ⟨ng, F6⟩⟩ := N
  have KK : Keep h0 h0 [p] := Keep.refl _ _
  have sk := KK.1
  have F1 : Fld Z h0 p "com/example/caddisfly/caddisfly/XpathNumbers$Numeral" "stage" "I" (.int (3 : Int32)) := F1
  have k : Wn l Z n0 (QN Z p 5 sg h0) G s h0 0 0 4 #[.val (.ref p), .val (.int c)] [(.int (3 : Int32))] := (k.aloadN dn_0 rfl rfl).getF (hw _ (List.mem_of_getElem? (i := 21) rfl)) F1 dn_1
  have k : Wn l Z n0 (QN Z p 5 sg h0) G s h0 0 0 131 #[.val (.ref p), .val (.int c)] [] := k.tswIn (pc' := 131) dn_4 (by decide) rfl (by decide)
  have k : Wn l Z n0 (QN Z p 5 sg h0) G s h0 0 0 132 #[.val (.ref p), .val (.int c)] [(.int c)] := k.iloadN dn_131 rfl
  obtain ⟨v90, h90, ⟨rfl, rfl⟩, k⟩ := k.callSN (hw _ (List.mem_of_getElem? (i := 51) rfl)) (hw _ (List.mem_of_getElem? (i := 52) rfl)) (hw _ (List.mem_of_getElem? (i := 45) rfl)) (hw _ (List.mem_of_getElem? (i := 53) rfl)) (by decide) (conb0 l Z a0 hw c h0 n0 (own_dg0 hc (by decide))) (argsL := [(.int c)]) (rest := []) (lenOf pdb rfl) dn_132 rfl rfl 0 (Nat.le_of_eq rfl) (by decide) (by decide) (by decide) (by decide)
  have k : Wn l Z n0 (QN Z p 5 sg h0) G s h0 0 0 135 #[.val (.ref p), .val (.int c)] [(.int (0 : Int32))] := k
  have k : Wn l Z n0 (QN Z p 5 sg h0) G s h0 0 0 147 #[.val (.ref p), .val (.int c)] [] := k.ifT (pc' := 147) dn_135 (XT.i0_eq_t (by decide)) (by decide)
  have k : Wn l Z n0 (QN Z p 5 sg h0) G s h0 0 0 149 #[.val (.ref p), .val (.int c)] [(.int c), (.ref p)] := (k.aloadN dn_147 rfl rfl).iloadN dn_148 rfl
  obtain ⟨v91, h91, ⟨rfl, rfl⟩, k⟩ := k.callSN (hw _ (List.mem_of_getElem? (i := 43) rfl)) (hw _ (List.mem_of_getElem? (i := 44) rfl)) (hw _ (List.mem_of_getElem? (i := 45) rfl)) (hw _ (List.mem_of_getElem? (i := 46) rfl)) (by decide) (cona0 l Z a0 hw c h0 n0 (own_ws0 hc (by decide))) (argsL := [(.int c)]) (rest := [(.ref p)]) (lenOf pda rfl) dn_149 rfl rfl 1 (Nat.le_of_eq rfl) (by decide) (by decide) (by decide) (by decide)
  have k : Wn l Z n0 (QN Z p 5 sg h0) G s h0 0 0 152 #[.val (.ref p), .val (.int c)] [(.int (0 : Int32)), (.ref p)] := k
  have k : Wn l Z n0 (QN Z p 5 sg h0) G s h0 0 0 159 #[.val (.ref p), .val (.int c)] [(.ref p)] := k.ifT (pc' := 159) dn_152 (XT.i0_eq_t (by decide)) (by decide)
  have k : Wn l Z n0 (QN Z p 5 sg h0) G s h0 0 0 160 #[.val (.ref p), .val (.int c)] [(.int (5 : Int32)), (.ref p)] := k.iconst (5) dn_159 rfl
  obtain ⟨h92, W92, K92, F1', E', k⟩ := k.putF (ty := .int) (hw _ (List.mem_of_getElem? (i := 21) rfl)) F1 E (Or.inl (hw _ (List.mem_of_getElem? (i := 22) rfl))) (hw _ (List.mem_of_getElem? (i := 13) rfl)) (by decide) rfl rfl n_p dn_160
  have F2 := Fld.other W92 F2 (Or.inr (slot_ne (C := "com/example/caddisfly/caddisfly/XpathNumbers$Numeral") (Or.inl (hw _ (List.mem_of_getElem? (i := 61) rfl))) (Or.inl (hw _ (List.mem_of_getElem? (i := 22) rfl))) (by decide) (t := .int) (t' := .int) (by decide) (by decide)))
  have F3 := Fld.other W92 F3 (Or.inr (slot_ne (C := "com/example/caddisfly/caddisfly/XpathNumbers$Numeral") (Or.inl (hw _ (List.mem_of_getElem? (i := 63) rfl))) (Or.inl (hw _ (List.mem_of_getElem? (i := 22) rfl))) (by decide) (t := .long) (t' := .int) (by decide) (by decide)))
  have F4 := Fld.other W92 F4 (Or.inr (slot_ne (C := "com/example/caddisfly/caddisfly/XpathNumbers$Numeral") (Or.inl (hw _ (List.mem_of_getElem? (i := 65) rfl))) (Or.inl (hw _ (List.mem_of_getElem? (i := 22) rfl))) (by decide) (t := .long) (t' := .int) (by decide) (by decide)))
  have F5 := Fld.other W92 F5 (Or.inr (slot_ne (C := "com/example/caddisfly/caddisfly/XpathNumbers$Numeral") (Or.inl (hw _ (List.mem_of_getElem? (i := 59) rfl))) (Or.inl (hw _ (List.mem_of_getElem? (i := 22) rfl))) (by decide) (t := .boolean) (t' := .int) (by decide) (by decide)))
  have F6 := Fld.other W92 F6 (Or.inr (slot_ne (C := "com/example/caddisfly/caddisfly/XpathNumbers$Numeral") (Or.inl (hw _ (List.mem_of_getElem? (i := 68) rfl))) (Or.inl (hw _ (List.mem_of_getElem? (i := 22) rfl))) (by decide) (t := .boolean) (t' := .int) (by decide) (by decide)))
  have KK : Keep h0 _ [p] := KK.trans K92 (allS (Or.inl (by simp)) all0)
  have sk := KK.1
  have F1 := F1'
  have E := E'
  have s_h92 : n0 ≤ h92.size := Nat.le_trans (by omega) K92.1
  have k : Wn l Z n0 (QN Z p 5 sg h0) G s h92 0 0 163 #[.val (.ref p), .val (.int c)] [] := k
  have k : Wn l Z n0 (QN Z p 5 sg h0) G s h92 0 0 185 #[.val (.ref p), .val (.int c)] [] := k.goto (pc' := 185) dn_163 (by decide)
  exact k.outN dn_185 (by decide) (by decide) ⟨rfl, KK, ⟨E, F1, F2, ⟨_, F3⟩, ⟨_, F4⟩, ⟨_, F5⟩, ⟨_, F6⟩⟩⟩
set_option maxRecDepth 65536 in
set_option maxHeartbeats 40000000 in
theorem conn32 (l : Launch) (Z : State) (a0 : Array Value) (hw : ∀ d ∈ tables_1, d.before a0 Z = true) (p : Nat) (c : Int32) (sg : Nat) (hc : Cl c 2) (hsg : sg < 18) (h0 : Heap) (n0 : Nat) (s_h0 : n0 ≤ h0.size) (n_p : n0 ≤ p) (N : NS Z h0 p 3 sg) : Con l Z (⟨"com/example/caddisfly/caddisfly/XpathNumbers$Numeral", "add", "(C)V"⟩ : MethodName) prog_160_method_3_code 2 none ({ frames := 2, cells := 0, slots := 0, locals := 40 } : Room) #[.ref p, .int c] h0 n0 (QN Z p 5 sg h0) := by
  refine Con.of pnn (Ls := #[.val (.ref p), .val (.int c)]) (fun m => by first | (simp [entryFrame, mkF, argsToLocals, Value.category]; done) | rfl) ?_
  intro G s k
  obtain ⟨E, F1, F2, ⟨ex, F3⟩, ⟨ld, F4⟩, ⟨ad, F5⟩, ⟨ng, F6⟩⟩ := N
  have KK : Keep h0 h0 [p] := Keep.refl _ _
  have sk := KK.1
  have F1 : Fld Z h0 p "com/example/caddisfly/caddisfly/XpathNumbers$Numeral" "stage" "I" (.int (3 : Int32)) := F1
  have k : Wn l Z n0 (QN Z p 5 sg h0) G s h0 0 0 4 #[.val (.ref p), .val (.int c)] [(.int (3 : Int32))] := (k.aloadN dn_0 rfl rfl).getF (hw _ (List.mem_of_getElem? (i := 21) rfl)) F1 dn_1
  have k : Wn l Z n0 (QN Z p 5 sg h0) G s h0 0 0 131 #[.val (.ref p), .val (.int c)] [] := k.tswIn (pc' := 131) dn_4 (by decide) rfl (by decide)
  have k : Wn l Z n0 (QN Z p 5 sg h0) G s h0 0 0 132 #[.val (.ref p), .val (.int c)] [(.int c)] := k.iloadN dn_131 rfl
  obtain ⟨v93, h93, ⟨rfl, rfl⟩, k⟩ := k.callSN (hw _ (List.mem_of_getElem? (i := 51) rfl)) (hw _ (List.mem_of_getElem? (i := 52) rfl)) (hw _ (List.mem_of_getElem? (i := 45) rfl)) (hw _ (List.mem_of_getElem? (i := 53) rfl)) (by decide) (conb0 l Z a0 hw c h0 n0 (own_dg0 hc (by decide))) (argsL := [(.int c)]) (rest := []) (lenOf pdb rfl) dn_132 rfl rfl 0 (Nat.le_of_eq rfl) (by decide) (by decide) (by decide) (by decide)
  have k : Wn l Z n0 (QN Z p 5 sg h0) G s h0 0 0 135 #[.val (.ref p), .val (.int c)] [(.int (0 : Int32))] := k
  have k : Wn l Z n0 (QN Z p 5 sg h0) G s h0 0 0 147 #[.val (.ref p), .val (.int c)] [] := k.ifT (pc' := 147) dn_135 (XT.i0_eq_t (by decide)) (by decide)
  have k : Wn l Z n0 (QN Z p 5 sg h0) G s h0 0 0 149 #[.val (.ref p), .val (.int c)] [(.int c), (.ref p)] := (k.aloadN dn_147 rfl rfl).iloadN dn_148 rfl
  obtain ⟨v94, h94, ⟨rfl, rfl⟩, k⟩ := k.callSN (hw _ (List.mem_of_getElem? (i := 43) rfl)) (hw _ (List.mem_of_getElem? (i := 44) rfl)) (hw _ (List.mem_of_getElem? (i := 45) rfl)) (hw _ (List.mem_of_getElem? (i := 46) rfl)) (by decide) (cona0 l Z a0 hw c h0 n0 (own_ws0 hc (by decide))) (argsL := [(.int c)]) (rest := [(.ref p)]) (lenOf pda rfl) dn_149 rfl rfl 1 (Nat.le_of_eq rfl) (by decide) (by decide) (by decide) (by decide)
  have k : Wn l Z n0 (QN Z p 5 sg h0) G s h0 0 0 152 #[.val (.ref p), .val (.int c)] [(.int (0 : Int32)), (.ref p)] := k
  have k : Wn l Z n0 (QN Z p 5 sg h0) G s h0 0 0 159 #[.val (.ref p), .val (.int c)] [(.ref p)] := k.ifT (pc' := 159) dn_152 (XT.i0_eq_t (by decide)) (by decide)
  have k : Wn l Z n0 (QN Z p 5 sg h0) G s h0 0 0 160 #[.val (.ref p), .val (.int c)] [(.int (5 : Int32)), (.ref p)] := k.iconst (5) dn_159 rfl
  obtain ⟨h95, W95, K95, F1', E', k⟩ := k.putF (ty := .int) (hw _ (List.mem_of_getElem? (i := 21) rfl)) F1 E (Or.inl (hw _ (List.mem_of_getElem? (i := 22) rfl))) (hw _ (List.mem_of_getElem? (i := 13) rfl)) (by decide) rfl rfl n_p dn_160
  have F2 := Fld.other W95 F2 (Or.inr (slot_ne (C := "com/example/caddisfly/caddisfly/XpathNumbers$Numeral") (Or.inl (hw _ (List.mem_of_getElem? (i := 61) rfl))) (Or.inl (hw _ (List.mem_of_getElem? (i := 22) rfl))) (by decide) (t := .int) (t' := .int) (by decide) (by decide)))
  have F3 := Fld.other W95 F3 (Or.inr (slot_ne (C := "com/example/caddisfly/caddisfly/XpathNumbers$Numeral") (Or.inl (hw _ (List.mem_of_getElem? (i := 63) rfl))) (Or.inl (hw _ (List.mem_of_getElem? (i := 22) rfl))) (by decide) (t := .long) (t' := .int) (by decide) (by decide)))
  have F4 := Fld.other W95 F4 (Or.inr (slot_ne (C := "com/example/caddisfly/caddisfly/XpathNumbers$Numeral") (Or.inl (hw _ (List.mem_of_getElem? (i := 65) rfl))) (Or.inl (hw _ (List.mem_of_getElem? (i := 22) rfl))) (by decide) (t := .long) (t' := .int) (by decide) (by decide)))
  have F5 := Fld.other W95 F5 (Or.inr (slot_ne (C := "com/example/caddisfly/caddisfly/XpathNumbers$Numeral") (Or.inl (hw _ (List.mem_of_getElem? (i := 59) rfl))) (Or.inl (hw _ (List.mem_of_getElem? (i := 22) rfl))) (by decide) (t := .boolean) (t' := .int) (by decide) (by decide)))
  have F6 := Fld.other W95 F6 (Or.inr (slot_ne (C := "com/example/caddisfly/caddisfly/XpathNumbers$Numeral") (Or.inl (hw _ (List.mem_of_getElem? (i := 68) rfl))) (Or.inl (hw _ (List.mem_of_getElem? (i := 22) rfl))) (by decide) (t := .boolean) (t' := .int) (by decide) (by decide)))
  have KK : Keep h0 _ [p] := KK.trans K95 (allS (Or.inl (by simp)) all0)
  have sk := KK.1
  have F1 := F1'
  have E := E'
  have s_h95 : n0 ≤ h95.size := Nat.le_trans (by omega) K95.1
  have k : Wn l Z n0 (QN Z p 5 sg h0) G s h95 0 0 163 #[.val (.ref p), .val (.int c)] [] := k
  have k : Wn l Z n0 (QN Z p 5 sg h0) G s h95 0 0 185 #[.val (.ref p), .val (.int c)] [] := k.goto (pc' := 185) dn_163 (by decide)
  exact k.outN dn_185 (by decide) (by decide) ⟨rfl, KK, ⟨E, F1, F2, ⟨_, F3⟩, ⟨_, F4⟩, ⟨_, F5⟩, ⟨_, F6⟩⟩⟩
set_option maxRecDepth 65536 in
set_option maxHeartbeats 40000000 in
theorem conn33 (l : Launch) (Z : State) (a0 : Array Value) (hw : ∀ d ∈ tables_1, d.before a0 Z = true) (p : Nat) (c : Int32) (sg : Nat) (hc : Cl c 3) (hsg : sg < 18) (h0 : Heap) (n0 : Nat) (s_h0 : n0 ≤ h0.size) (n_p : n0 ≤ p) (N : NS Z h0 p 3 sg) : Con l Z (⟨"com/example/caddisfly/caddisfly/XpathNumbers$Numeral", "add", "(C)V"⟩ : MethodName) prog_160_method_3_code 2 none ({ frames := 2, cells := 0, slots := 0, locals := 40 } : Room) #[.ref p, .int c] h0 n0 (QN Z p 3 (incN sg 3) h0) := by
  refine Con.of pnn (Ls := #[.val (.ref p), .val (.int c)]) (fun m => by first | (simp [entryFrame, mkF, argsToLocals, Value.category]; done) | rfl) ?_
  intro G s k
  obtain ⟨E, F1, F2, ⟨ex, F3⟩, ⟨ld, F4⟩, ⟨ad, F5⟩, ⟨ng, F6⟩⟩ := N
  have KK : Keep h0 h0 [p] := Keep.refl _ _
  have sk := KK.1
  have F1 : Fld Z h0 p "com/example/caddisfly/caddisfly/XpathNumbers$Numeral" "stage" "I" (.int (3 : Int32)) := F1
  have k : Wn l Z n0 (QN Z p 3 (incN sg 3) h0) G s h0 0 0 4 #[.val (.ref p), .val (.int c)] [(.int (3 : Int32))] := (k.aloadN dn_0 rfl rfl).getF (hw _ (List.mem_of_getElem? (i := 21) rfl)) F1 dn_1
  have k : Wn l Z n0 (QN Z p 3 (incN sg 3) h0) G s h0 0 0 131 #[.val (.ref p), .val (.int c)] [] := k.tswIn (pc' := 131) dn_4 (by decide) rfl (by decide)
  have k : Wn l Z n0 (QN Z p 3 (incN sg 3) h0) G s h0 0 0 132 #[.val (.ref p), .val (.int c)] [(.int c)] := k.iloadN dn_131 rfl
  obtain ⟨v96, h96, ⟨rfl, rfl⟩, k⟩ := k.callSN (hw _ (List.mem_of_getElem? (i := 51) rfl)) (hw _ (List.mem_of_getElem? (i := 52) rfl)) (hw _ (List.mem_of_getElem? (i := 45) rfl)) (hw _ (List.mem_of_getElem? (i := 53) rfl)) (by decide) (conb1 l Z a0 hw c h0 n0 (own_dg1 hc (Or.inl rfl))) (argsL := [(.int c)]) (rest := []) (lenOf pdb rfl) dn_132 rfl rfl 0 (Nat.le_of_eq rfl) (by decide) (by decide) (by decide) (by decide)
  have k : Wn l Z n0 (QN Z p 3 (incN sg 3) h0) G s h0 0 0 135 #[.val (.ref p), .val (.int c)] [(.int (1 : Int32))] := k
  have k : Wn l Z n0 (QN Z p 3 (incN sg 3) h0) G s h0 0 0 138 #[.val (.ref p), .val (.int c)] [] := k.ifF dn_135 (XT.i0_eq_f (by decide))
  have k : Wn l Z n0 (QN Z p 3 (incN sg 3) h0) G s h0 0 0 141 #[.val (.ref p), .val (.int c)] [(.int (1 : Int32)), (.int c), (.ref p)] := ((k.aloadN dn_138 rfl rfl).iloadN dn_139 rfl).iconst (1) dn_140 rfl
  have N0 : NS Z h0 p 3 sg := ⟨E, F1, F2, ⟨_, F3⟩, ⟨_, F4⟩, ⟨_, F5⟩, ⟨_, F6⟩⟩
  obtain ⟨v97, h97, ⟨rfl, K97, N97⟩, k⟩ := k.callP (hw _ (List.mem_of_getElem? (i := 54) rfl)) (hw _ (List.mem_of_getElem? (i := 55) rfl)) (hw _ (List.mem_of_getElem? (i := 56) rfl)) (hw _ (List.mem_of_getElem? (i := 26) rfl)) rfl (hw _ (List.mem_of_getElem? (i := 14) rfl)) (hw _ (List.mem_of_getElem? (i := 57) rfl)) (by decide) E (conj1 l Z a0 hw p c 3 sg 3 hc (Or.inl rfl) hsg h0 n0 (by omega) n_p N0) (argsL := [(.int c), (.int (1 : Int32))]) (rest := []) (lenOf pdj rfl) dn_141 rfl rfl 0 (Nat.le_of_eq rfl) (by decide) (by decide) (by decide) (by decide)
  have k : Wn l Z n0 (QN Z p 3 (incN sg 3) h0) G s h97 0 0 144 #[.val (.ref p), .val (.int c)] [] := k
  have KK : Keep h0 _ [p] := KK.trans K97 (allS (Or.inl (by simp)) all0)
  have k : Wn l Z n0 (QN Z p 3 (incN sg 3) h0) G s h97 0 0 185 #[.val (.ref p), .val (.int c)] [] := k.goto (pc' := 185) dn_144 (by decide)
  exact k.outN dn_185 (by decide) (by decide) ⟨rfl, KK, N97⟩
set_option maxRecDepth 65536 in
set_option maxHeartbeats 40000000 in
theorem conn34 (l : Launch) (Z : State) (a0 : Array Value) (hw : ∀ d ∈ tables_1, d.before a0 Z = true) (p : Nat) (c : Int32) (sg : Nat) (hc : Cl c 4) (hsg : sg < 18) (h0 : Heap) (n0 : Nat) (s_h0 : n0 ≤ h0.size) (n_p : n0 ≤ p) (N : NS Z h0 p 3 sg) : Con l Z (⟨"com/example/caddisfly/caddisfly/XpathNumbers$Numeral", "add", "(C)V"⟩ : MethodName) prog_160_method_3_code 2 none ({ frames := 2, cells := 0, slots := 0, locals := 40 } : Room) #[.ref p, .int c] h0 n0 (QN Z p 3 (incN sg 4) h0) := by
  refine Con.of pnn (Ls := #[.val (.ref p), .val (.int c)]) (fun m => by first | (simp [entryFrame, mkF, argsToLocals, Value.category]; done) | rfl) ?_
  intro G s k
  obtain ⟨E, F1, F2, ⟨ex, F3⟩, ⟨ld, F4⟩, ⟨ad, F5⟩, ⟨ng, F6⟩⟩ := N
  have KK : Keep h0 h0 [p] := Keep.refl _ _
  have sk := KK.1
  have F1 : Fld Z h0 p "com/example/caddisfly/caddisfly/XpathNumbers$Numeral" "stage" "I" (.int (3 : Int32)) := F1
  have k : Wn l Z n0 (QN Z p 3 (incN sg 4) h0) G s h0 0 0 4 #[.val (.ref p), .val (.int c)] [(.int (3 : Int32))] := (k.aloadN dn_0 rfl rfl).getF (hw _ (List.mem_of_getElem? (i := 21) rfl)) F1 dn_1
  have k : Wn l Z n0 (QN Z p 3 (incN sg 4) h0) G s h0 0 0 131 #[.val (.ref p), .val (.int c)] [] := k.tswIn (pc' := 131) dn_4 (by decide) rfl (by decide)
  have k : Wn l Z n0 (QN Z p 3 (incN sg 4) h0) G s h0 0 0 132 #[.val (.ref p), .val (.int c)] [(.int c)] := k.iloadN dn_131 rfl
  obtain ⟨v98, h98, ⟨rfl, rfl⟩, k⟩ := k.callSN (hw _ (List.mem_of_getElem? (i := 51) rfl)) (hw _ (List.mem_of_getElem? (i := 52) rfl)) (hw _ (List.mem_of_getElem? (i := 45) rfl)) (hw _ (List.mem_of_getElem? (i := 53) rfl)) (by decide) (conb1 l Z a0 hw c h0 n0 (own_dg1 hc (Or.inr rfl))) (argsL := [(.int c)]) (rest := []) (lenOf pdb rfl) dn_132 rfl rfl 0 (Nat.le_of_eq rfl) (by decide) (by decide) (by decide) (by decide)
  have k : Wn l Z n0 (QN Z p 3 (incN sg 4) h0) G s h0 0 0 135 #[.val (.ref p), .val (.int c)] [(.int (1 : Int32))] := k
  have k : Wn l Z n0 (QN Z p 3 (incN sg 4) h0) G s h0 0 0 138 #[.val (.ref p), .val (.int c)] [] := k.ifF dn_135 (XT.i0_eq_f (by decide))
  have k : Wn l Z n0 (QN Z p 3 (incN sg 4) h0) G s h0 0 0 141 #[.val (.ref p), .val (.int c)] [(.int (1 : Int32)), (.int c), (.ref p)] := ((k.aloadN dn_138 rfl rfl).iloadN dn_139 rfl).iconst (1) dn_140 rfl
  have N0 : NS Z h0 p 3 sg := ⟨E, F1, F2, ⟨_, F3⟩, ⟨_, F4⟩, ⟨_, F5⟩, ⟨_, F6⟩⟩
  obtain ⟨v99, h99, ⟨rfl, K99, N99⟩, k⟩ := k.callP (hw _ (List.mem_of_getElem? (i := 54) rfl)) (hw _ (List.mem_of_getElem? (i := 55) rfl)) (hw _ (List.mem_of_getElem? (i := 56) rfl)) (hw _ (List.mem_of_getElem? (i := 26) rfl)) rfl (hw _ (List.mem_of_getElem? (i := 14) rfl)) (hw _ (List.mem_of_getElem? (i := 57) rfl)) (by decide) E (conj1 l Z a0 hw p c 3 sg 4 hc (Or.inr rfl) hsg h0 n0 (by omega) n_p N0) (argsL := [(.int c), (.int (1 : Int32))]) (rest := []) (lenOf pdj rfl) dn_141 rfl rfl 0 (Nat.le_of_eq rfl) (by decide) (by decide) (by decide) (by decide)
  have k : Wn l Z n0 (QN Z p 3 (incN sg 4) h0) G s h99 0 0 144 #[.val (.ref p), .val (.int c)] [] := k
  have KK : Keep h0 _ [p] := KK.trans K99 (allS (Or.inl (by simp)) all0)
  have k : Wn l Z n0 (QN Z p 3 (incN sg 4) h0) G s h99 0 0 185 #[.val (.ref p), .val (.int c)] [] := k.goto (pc' := 185) dn_144 (by decide)
  exact k.outN dn_185 (by decide) (by decide) ⟨rfl, KK, N99⟩
set_option maxRecDepth 65536 in
set_option maxHeartbeats 40000000 in
theorem conn35 (l : Launch) (Z : State) (a0 : Array Value) (hw : ∀ d ∈ tables_1, d.before a0 Z = true) (p : Nat) (c : Int32) (sg : Nat) (hc : Cl c 5) (hsg : sg < 18) (h0 : Heap) (n0 : Nat) (s_h0 : n0 ≤ h0.size) (n_p : n0 ≤ p) (N : NS Z h0 p 3 sg) : Con l Z (⟨"com/example/caddisfly/caddisfly/XpathNumbers$Numeral", "add", "(C)V"⟩ : MethodName) prog_160_method_3_code 2 none ({ frames := 2, cells := 0, slots := 0, locals := 40 } : Room) #[.ref p, .int c] h0 n0 (QN Z p 5 sg h0) := by
  refine Con.of pnn (Ls := #[.val (.ref p), .val (.int c)]) (fun m => by first | (simp [entryFrame, mkF, argsToLocals, Value.category]; done) | rfl) ?_
  intro G s k
  obtain ⟨E, F1, F2, ⟨ex, F3⟩, ⟨ld, F4⟩, ⟨ad, F5⟩, ⟨ng, F6⟩⟩ := N
  have KK : Keep h0 h0 [p] := Keep.refl _ _
  have sk := KK.1
  have F1 : Fld Z h0 p "com/example/caddisfly/caddisfly/XpathNumbers$Numeral" "stage" "I" (.int (3 : Int32)) := F1
  have k : Wn l Z n0 (QN Z p 5 sg h0) G s h0 0 0 4 #[.val (.ref p), .val (.int c)] [(.int (3 : Int32))] := (k.aloadN dn_0 rfl rfl).getF (hw _ (List.mem_of_getElem? (i := 21) rfl)) F1 dn_1
  have k : Wn l Z n0 (QN Z p 5 sg h0) G s h0 0 0 131 #[.val (.ref p), .val (.int c)] [] := k.tswIn (pc' := 131) dn_4 (by decide) rfl (by decide)
  have k : Wn l Z n0 (QN Z p 5 sg h0) G s h0 0 0 132 #[.val (.ref p), .val (.int c)] [(.int c)] := k.iloadN dn_131 rfl
  obtain ⟨v100, h100, ⟨rfl, rfl⟩, k⟩ := k.callSN (hw _ (List.mem_of_getElem? (i := 51) rfl)) (hw _ (List.mem_of_getElem? (i := 52) rfl)) (hw _ (List.mem_of_getElem? (i := 45) rfl)) (hw _ (List.mem_of_getElem? (i := 53) rfl)) (by decide) (conb0 l Z a0 hw c h0 n0 (own_dg0 hc (by decide))) (argsL := [(.int c)]) (rest := []) (lenOf pdb rfl) dn_132 rfl rfl 0 (Nat.le_of_eq rfl) (by decide) (by decide) (by decide) (by decide)
  have k : Wn l Z n0 (QN Z p 5 sg h0) G s h0 0 0 135 #[.val (.ref p), .val (.int c)] [(.int (0 : Int32))] := k
  have k : Wn l Z n0 (QN Z p 5 sg h0) G s h0 0 0 147 #[.val (.ref p), .val (.int c)] [] := k.ifT (pc' := 147) dn_135 (XT.i0_eq_t (by decide)) (by decide)
  have k : Wn l Z n0 (QN Z p 5 sg h0) G s h0 0 0 149 #[.val (.ref p), .val (.int c)] [(.int c), (.ref p)] := (k.aloadN dn_147 rfl rfl).iloadN dn_148 rfl
  obtain ⟨v101, h101, ⟨rfl, rfl⟩, k⟩ := k.callSN (hw _ (List.mem_of_getElem? (i := 43) rfl)) (hw _ (List.mem_of_getElem? (i := 44) rfl)) (hw _ (List.mem_of_getElem? (i := 45) rfl)) (hw _ (List.mem_of_getElem? (i := 46) rfl)) (by decide) (cona0 l Z a0 hw c h0 n0 (own_ws0 hc (by decide))) (argsL := [(.int c)]) (rest := [(.ref p)]) (lenOf pda rfl) dn_149 rfl rfl 1 (Nat.le_of_eq rfl) (by decide) (by decide) (by decide) (by decide)
  have k : Wn l Z n0 (QN Z p 5 sg h0) G s h0 0 0 152 #[.val (.ref p), .val (.int c)] [(.int (0 : Int32)), (.ref p)] := k
  have k : Wn l Z n0 (QN Z p 5 sg h0) G s h0 0 0 159 #[.val (.ref p), .val (.int c)] [(.ref p)] := k.ifT (pc' := 159) dn_152 (XT.i0_eq_t (by decide)) (by decide)
  have k : Wn l Z n0 (QN Z p 5 sg h0) G s h0 0 0 160 #[.val (.ref p), .val (.int c)] [(.int (5 : Int32)), (.ref p)] := k.iconst (5) dn_159 rfl
  obtain ⟨h102, W102, K102, F1', E', k⟩ := k.putF (ty := .int) (hw _ (List.mem_of_getElem? (i := 21) rfl)) F1 E (Or.inl (hw _ (List.mem_of_getElem? (i := 22) rfl))) (hw _ (List.mem_of_getElem? (i := 13) rfl)) (by decide) rfl rfl n_p dn_160
  have F2 := Fld.other W102 F2 (Or.inr (slot_ne (C := "com/example/caddisfly/caddisfly/XpathNumbers$Numeral") (Or.inl (hw _ (List.mem_of_getElem? (i := 61) rfl))) (Or.inl (hw _ (List.mem_of_getElem? (i := 22) rfl))) (by decide) (t := .int) (t' := .int) (by decide) (by decide)))
  have F3 := Fld.other W102 F3 (Or.inr (slot_ne (C := "com/example/caddisfly/caddisfly/XpathNumbers$Numeral") (Or.inl (hw _ (List.mem_of_getElem? (i := 63) rfl))) (Or.inl (hw _ (List.mem_of_getElem? (i := 22) rfl))) (by decide) (t := .long) (t' := .int) (by decide) (by decide)))
  have F4 := Fld.other W102 F4 (Or.inr (slot_ne (C := "com/example/caddisfly/caddisfly/XpathNumbers$Numeral") (Or.inl (hw _ (List.mem_of_getElem? (i := 65) rfl))) (Or.inl (hw _ (List.mem_of_getElem? (i := 22) rfl))) (by decide) (t := .long) (t' := .int) (by decide) (by decide)))
  have F5 := Fld.other W102 F5 (Or.inr (slot_ne (C := "com/example/caddisfly/caddisfly/XpathNumbers$Numeral") (Or.inl (hw _ (List.mem_of_getElem? (i := 59) rfl))) (Or.inl (hw _ (List.mem_of_getElem? (i := 22) rfl))) (by decide) (t := .boolean) (t' := .int) (by decide) (by decide)))
  have F6 := Fld.other W102 F6 (Or.inr (slot_ne (C := "com/example/caddisfly/caddisfly/XpathNumbers$Numeral") (Or.inl (hw _ (List.mem_of_getElem? (i := 68) rfl))) (Or.inl (hw _ (List.mem_of_getElem? (i := 22) rfl))) (by decide) (t := .boolean) (t' := .int) (by decide) (by decide)))
  have KK : Keep h0 _ [p] := KK.trans K102 (allS (Or.inl (by simp)) all0)
  have sk := KK.1
  have F1 := F1'
  have E := E'
  have s_h102 : n0 ≤ h102.size := Nat.le_trans (by omega) K102.1
  have k : Wn l Z n0 (QN Z p 5 sg h0) G s h102 0 0 163 #[.val (.ref p), .val (.int c)] [] := k
  have k : Wn l Z n0 (QN Z p 5 sg h0) G s h102 0 0 185 #[.val (.ref p), .val (.int c)] [] := k.goto (pc' := 185) dn_163 (by decide)
  exact k.outN dn_185 (by decide) (by decide) ⟨rfl, KK, ⟨E, F1, F2, ⟨_, F3⟩, ⟨_, F4⟩, ⟨_, F5⟩, ⟨_, F6⟩⟩⟩
set_option maxRecDepth 65536 in
set_option maxHeartbeats 40000000 in
theorem conn40 (l : Launch) (Z : State) (a0 : Array Value) (hw : ∀ d ∈ tables_1, d.before a0 Z = true) (p : Nat) (c : Int32) (sg : Nat) (hc : Cl c 0) (hsg : sg < 18) (h0 : Heap) (n0 : Nat) (s_h0 : n0 ≤ h0.size) (n_p : n0 ≤ p) (N : NS Z h0 p 4 sg) : Con l Z (⟨"com/example/caddisfly/caddisfly/XpathNumbers$Numeral", "add", "(C)V"⟩ : MethodName) prog_160_method_3_code 2 none ({ frames := 2, cells := 0, slots := 0, locals := 40 } : Room) #[.ref p, .int c] h0 n0 (QN Z p 4 sg h0) := by
  refine Con.of pnn (Ls := #[.val (.ref p), .val (.int c)]) (fun m => by first | (simp [entryFrame, mkF, argsToLocals, Value.category]; done) | rfl) ?_
  intro G s k
  obtain ⟨E, F1, F2, ⟨ex, F3⟩, ⟨ld, F4⟩, ⟨ad, F5⟩, ⟨ng, F6⟩⟩ := N
  have KK : Keep h0 h0 [p] := Keep.refl _ _
  have sk := KK.1
  have F1 : Fld Z h0 p "com/example/caddisfly/caddisfly/XpathNumbers$Numeral" "stage" "I" (.int (4 : Int32)) := F1
  have k : Wn l Z n0 (QN Z p 4 sg h0) G s h0 0 0 4 #[.val (.ref p), .val (.int c)] [(.int (4 : Int32))] := (k.aloadN dn_0 rfl rfl).getF (hw _ (List.mem_of_getElem? (i := 21) rfl)) F1 dn_1
  have k : Wn l Z n0 (QN Z p 4 sg h0) G s h0 0 0 166 #[.val (.ref p), .val (.int c)] [] := k.tswIn (pc' := 166) dn_4 (by decide) rfl (by decide)
  have k : Wn l Z n0 (QN Z p 4 sg h0) G s h0 0 0 168 #[.val (.ref p), .val (.int c)] [(.int c), (.ref p)] := (k.aloadN dn_166 rfl rfl).iloadN dn_167 rfl
  obtain ⟨v103, h103, ⟨rfl, rfl⟩, k⟩ := k.callSN (hw _ (List.mem_of_getElem? (i := 43) rfl)) (hw _ (List.mem_of_getElem? (i := 44) rfl)) (hw _ (List.mem_of_getElem? (i := 45) rfl)) (hw _ (List.mem_of_getElem? (i := 46) rfl)) (by decide) (cona1 l Z a0 hw c h0 n0 (own_ws1 hc)) (argsL := [(.int c)]) (rest := [(.ref p)]) (lenOf pda rfl) dn_168 rfl rfl 1 (Nat.le_of_eq rfl) (by decide) (by decide) (by decide) (by decide)
  have k : Wn l Z n0 (QN Z p 4 sg h0) G s h0 0 0 171 #[.val (.ref p), .val (.int c)] [(.int (1 : Int32)), (.ref p)] := k
  have k : Wn l Z n0 (QN Z p 4 sg h0) G s h0 0 0 174 #[.val (.ref p), .val (.int c)] [(.ref p)] := k.ifF dn_171 (XT.i0_eq_f (by decide))
  have k : Wn l Z n0 (QN Z p 4 sg h0) G s h0 0 0 179 #[.val (.ref p), .val (.int c)] [(.int (4 : Int32)), (.ref p)] := (k.iconst (4) dn_174 rfl).goto (pc' := 179) dn_175 (by decide)
  obtain ⟨h104, W104, K104, F1', E', k⟩ := k.putF (ty := .int) (hw _ (List.mem_of_getElem? (i := 21) rfl)) F1 E (Or.inl (hw _ (List.mem_of_getElem? (i := 22) rfl))) (hw _ (List.mem_of_getElem? (i := 13) rfl)) (by decide) rfl rfl n_p dn_179
  have F2 := Fld.other W104 F2 (Or.inr (slot_ne (C := "com/example/caddisfly/caddisfly/XpathNumbers$Numeral") (Or.inl (hw _ (List.mem_of_getElem? (i := 61) rfl))) (Or.inl (hw _ (List.mem_of_getElem? (i := 22) rfl))) (by decide) (t := .int) (t' := .int) (by decide) (by decide)))
  have F3 := Fld.other W104 F3 (Or.inr (slot_ne (C := "com/example/caddisfly/caddisfly/XpathNumbers$Numeral") (Or.inl (hw _ (List.mem_of_getElem? (i := 63) rfl))) (Or.inl (hw _ (List.mem_of_getElem? (i := 22) rfl))) (by decide) (t := .long) (t' := .int) (by decide) (by decide)))
  have F4 := Fld.other W104 F4 (Or.inr (slot_ne (C := "com/example/caddisfly/caddisfly/XpathNumbers$Numeral") (Or.inl (hw _ (List.mem_of_getElem? (i := 65) rfl))) (Or.inl (hw _ (List.mem_of_getElem? (i := 22) rfl))) (by decide) (t := .long) (t' := .int) (by decide) (by decide)))
  have F5 := Fld.other W104 F5 (Or.inr (slot_ne (C := "com/example/caddisfly/caddisfly/XpathNumbers$Numeral") (Or.inl (hw _ (List.mem_of_getElem? (i := 59) rfl))) (Or.inl (hw _ (List.mem_of_getElem? (i := 22) rfl))) (by decide) (t := .boolean) (t' := .int) (by decide) (by decide)))
  have F6 := Fld.other W104 F6 (Or.inr (slot_ne (C := "com/example/caddisfly/caddisfly/XpathNumbers$Numeral") (Or.inl (hw _ (List.mem_of_getElem? (i := 68) rfl))) (Or.inl (hw _ (List.mem_of_getElem? (i := 22) rfl))) (by decide) (t := .boolean) (t' := .int) (by decide) (by decide)))
  have KK : Keep h0 _ [p] := KK.trans K104 (allS (Or.inl (by simp)) all0)
  have sk := KK.1
  have F1 := F1'
  have E := E'
  have s_h104 : n0 ≤ h104.size := Nat.le_trans (by omega) K104.1
  have k : Wn l Z n0 (QN Z p 4 sg h0) G s h104 0 0 182 #[.val (.ref p), .val (.int c)] [] := k
  have k : Wn l Z n0 (QN Z p 4 sg h0) G s h104 0 0 185 #[.val (.ref p), .val (.int c)] [] := k.goto (pc' := 185) dn_182 (by decide)
  exact k.outN dn_185 (by decide) (by decide) ⟨rfl, KK, ⟨E, F1, F2, ⟨_, F3⟩, ⟨_, F4⟩, ⟨_, F5⟩, ⟨_, F6⟩⟩⟩
set_option maxRecDepth 65536 in
set_option maxHeartbeats 40000000 in
theorem conn41 (l : Launch) (Z : State) (a0 : Array Value) (hw : ∀ d ∈ tables_1, d.before a0 Z = true) (p : Nat) (c : Int32) (sg : Nat) (hc : Cl c 1) (hsg : sg < 18) (h0 : Heap) (n0 : Nat) (s_h0 : n0 ≤ h0.size) (n_p : n0 ≤ p) (N : NS Z h0 p 4 sg) : Con l Z (⟨"com/example/caddisfly/caddisfly/XpathNumbers$Numeral", "add", "(C)V"⟩ : MethodName) prog_160_method_3_code 2 none ({ frames := 2, cells := 0, slots := 0, locals := 40 } : Room) #[.ref p, .int c] h0 n0 (QN Z p 5 sg h0) := by
  refine Con.of pnn (Ls := #[.val (.ref p), .val (.int c)]) (fun m => by first | (simp [entryFrame, mkF, argsToLocals, Value.category]; done) | rfl) ?_
  intro G s k
  obtain ⟨E, F1, F2, ⟨ex, F3⟩, ⟨ld, F4⟩, ⟨ad, F5⟩, ⟨ng, F6⟩⟩ := N
  have KK : Keep h0 h0 [p] := Keep.refl _ _
  have sk := KK.1
  have F1 : Fld Z h0 p "com/example/caddisfly/caddisfly/XpathNumbers$Numeral" "stage" "I" (.int (4 : Int32)) := F1
  have k : Wn l Z n0 (QN Z p 5 sg h0) G s h0 0 0 4 #[.val (.ref p), .val (.int c)] [(.int (4 : Int32))] := (k.aloadN dn_0 rfl rfl).getF (hw _ (List.mem_of_getElem? (i := 21) rfl)) F1 dn_1
  have k : Wn l Z n0 (QN Z p 5 sg h0) G s h0 0 0 166 #[.val (.ref p), .val (.int c)] [] := k.tswIn (pc' := 166) dn_4 (by decide) rfl (by decide)
  have k : Wn l Z n0 (QN Z p 5 sg h0) G s h0 0 0 168 #[.val (.ref p), .val (.int c)] [(.int c), (.ref p)] := (k.aloadN dn_166 rfl rfl).iloadN dn_167 rfl
  obtain ⟨v105, h105, ⟨rfl, rfl⟩, k⟩ := k.callSN (hw _ (List.mem_of_getElem? (i := 43) rfl)) (hw _ (List.mem_of_getElem? (i := 44) rfl)) (hw _ (List.mem_of_getElem? (i := 45) rfl)) (hw _ (List.mem_of_getElem? (i := 46) rfl)) (by decide) (cona0 l Z a0 hw c h0 n0 (own_ws0 hc (by decide))) (argsL := [(.int c)]) (rest := [(.ref p)]) (lenOf pda rfl) dn_168 rfl rfl 1 (Nat.le_of_eq rfl) (by decide) (by decide) (by decide) (by decide)
  have k : Wn l Z n0 (QN Z p 5 sg h0) G s h0 0 0 171 #[.val (.ref p), .val (.int c)] [(.int (0 : Int32)), (.ref p)] := k
  have k : Wn l Z n0 (QN Z p 5 sg h0) G s h0 0 0 178 #[.val (.ref p), .val (.int c)] [(.ref p)] := k.ifT (pc' := 178) dn_171 (XT.i0_eq_t (by decide)) (by decide)
  have k : Wn l Z n0 (QN Z p 5 sg h0) G s h0 0 0 179 #[.val (.ref p), .val (.int c)] [(.int (5 : Int32)), (.ref p)] := k.iconst (5) dn_178 rfl
  obtain ⟨h106, W106, K106, F1', E', k⟩ := k.putF (ty := .int) (hw _ (List.mem_of_getElem? (i := 21) rfl)) F1 E (Or.inl (hw _ (List.mem_of_getElem? (i := 22) rfl))) (hw _ (List.mem_of_getElem? (i := 13) rfl)) (by decide) rfl rfl n_p dn_179
  have F2 := Fld.other W106 F2 (Or.inr (slot_ne (C := "com/example/caddisfly/caddisfly/XpathNumbers$Numeral") (Or.inl (hw _ (List.mem_of_getElem? (i := 61) rfl))) (Or.inl (hw _ (List.mem_of_getElem? (i := 22) rfl))) (by decide) (t := .int) (t' := .int) (by decide) (by decide)))
  have F3 := Fld.other W106 F3 (Or.inr (slot_ne (C := "com/example/caddisfly/caddisfly/XpathNumbers$Numeral") (Or.inl (hw _ (List.mem_of_getElem? (i := 63) rfl))) (Or.inl (hw _ (List.mem_of_getElem? (i := 22) rfl))) (by decide) (t := .long) (t' := .int) (by decide) (by decide)))
  have F4 := Fld.other W106 F4 (Or.inr (slot_ne (C := "com/example/caddisfly/caddisfly/XpathNumbers$Numeral") (Or.inl (hw _ (List.mem_of_getElem? (i := 65) rfl))) (Or.inl (hw _ (List.mem_of_getElem? (i := 22) rfl))) (by decide) (t := .long) (t' := .int) (by decide) (by decide)))
  have F5 := Fld.other W106 F5 (Or.inr (slot_ne (C := "com/example/caddisfly/caddisfly/XpathNumbers$Numeral") (Or.inl (hw _ (List.mem_of_getElem? (i := 59) rfl))) (Or.inl (hw _ (List.mem_of_getElem? (i := 22) rfl))) (by decide) (t := .boolean) (t' := .int) (by decide) (by decide)))
  have F6 := Fld.other W106 F6 (Or.inr (slot_ne (C := "com/example/caddisfly/caddisfly/XpathNumbers$Numeral") (Or.inl (hw _ (List.mem_of_getElem? (i := 68) rfl))) (Or.inl (hw _ (List.mem_of_getElem? (i := 22) rfl))) (by decide) (t := .boolean) (t' := .int) (by decide) (by decide)))
  have KK : Keep h0 _ [p] := KK.trans K106 (allS (Or.inl (by simp)) all0)
  have sk := KK.1
  have F1 := F1'
  have E := E'
  have s_h106 : n0 ≤ h106.size := Nat.le_trans (by omega) K106.1
  have k : Wn l Z n0 (QN Z p 5 sg h0) G s h106 0 0 182 #[.val (.ref p), .val (.int c)] [] := k
  have k : Wn l Z n0 (QN Z p 5 sg h0) G s h106 0 0 185 #[.val (.ref p), .val (.int c)] [] := k.goto (pc' := 185) dn_182 (by decide)
  exact k.outN dn_185 (by decide) (by decide) ⟨rfl, KK, ⟨E, F1, F2, ⟨_, F3⟩, ⟨_, F4⟩, ⟨_, F5⟩, ⟨_, F6⟩⟩⟩
set_option maxRecDepth 65536 in
set_option maxHeartbeats 40000000 in
theorem conn42 (l : Launch) (Z : State) (a0 : Array Value) (hw : ∀ d ∈ tables_1, d.before a0 Z = true) (p : Nat) (c : Int32) (sg : Nat) (hc : Cl c 2) (hsg : sg < 18) (h0 : Heap) (n0 : Nat) (s_h0 : n0 ≤ h0.size) (n_p : n0 ≤ p) (N : NS Z h0 p 4 sg) : Con l Z (⟨"com/example/caddisfly/caddisfly/XpathNumbers$Numeral", "add", "(C)V"⟩ : MethodName) prog_160_method_3_code 2 none ({ frames := 2, cells := 0, slots := 0, locals := 40 } : Room) #[.ref p, .int c] h0 n0 (QN Z p 5 sg h0) := by
  refine Con.of pnn (Ls := #[.val (.ref p), .val (.int c)]) (fun m => by first | (simp [entryFrame, mkF, argsToLocals, Value.category]; done) | rfl) ?_
  intro G s k
  obtain ⟨E, F1, F2, ⟨ex, F3⟩, ⟨ld, F4⟩, ⟨ad, F5⟩, ⟨ng, F6⟩⟩ := N
  have KK : Keep h0 h0 [p] := Keep.refl _ _
  have sk := KK.1
  have F1 : Fld Z h0 p "com/example/caddisfly/caddisfly/XpathNumbers$Numeral" "stage" "I" (.int (4 : Int32)) := F1
  have k : Wn l Z n0 (QN Z p 5 sg h0) G s h0 0 0 4 #[.val (.ref p), .val (.int c)] [(.int (4 : Int32))] := (k.aloadN dn_0 rfl rfl).getF (hw _ (List.mem_of_getElem? (i := 21) rfl)) F1 dn_1
  have k : Wn l Z n0 (QN Z p 5 sg h0) G s h0 0 0 166 #[.val (.ref p), .val (.int c)] [] := k.tswIn (pc' := 166) dn_4 (by decide) rfl (by decide)
  have k : Wn l Z n0 (QN Z p 5 sg h0) G s h0 0 0 168 #[.val (.ref p), .val (.int c)] [(.int c), (.ref p)] := (k.aloadN dn_166 rfl rfl).iloadN dn_167 rfl
  obtain ⟨v107, h107, ⟨rfl, rfl⟩, k⟩ := k.callSN (hw _ (List.mem_of_getElem? (i := 43) rfl)) (hw _ (List.mem_of_getElem? (i := 44) rfl)) (hw _ (List.mem_of_getElem? (i := 45) rfl)) (hw _ (List.mem_of_getElem? (i := 46) rfl)) (by decide) (cona0 l Z a0 hw c h0 n0 (own_ws0 hc (by decide))) (argsL := [(.int c)]) (rest := [(.ref p)]) (lenOf pda rfl) dn_168 rfl rfl 1 (Nat.le_of_eq rfl) (by decide) (by decide) (by decide) (by decide)
  have k : Wn l Z n0 (QN Z p 5 sg h0) G s h0 0 0 171 #[.val (.ref p), .val (.int c)] [(.int (0 : Int32)), (.ref p)] := k
  have k : Wn l Z n0 (QN Z p 5 sg h0) G s h0 0 0 178 #[.val (.ref p), .val (.int c)] [(.ref p)] := k.ifT (pc' := 178) dn_171 (XT.i0_eq_t (by decide)) (by decide)
  have k : Wn l Z n0 (QN Z p 5 sg h0) G s h0 0 0 179 #[.val (.ref p), .val (.int c)] [(.int (5 : Int32)), (.ref p)] := k.iconst (5) dn_178 rfl
  obtain ⟨h108, W108, K108, F1', E', k⟩ := k.putF (ty := .int) (hw _ (List.mem_of_getElem? (i := 21) rfl)) F1 E (Or.inl (hw _ (List.mem_of_getElem? (i := 22) rfl))) (hw _ (List.mem_of_getElem? (i := 13) rfl)) (by decide) rfl rfl n_p dn_179
  have F2 := Fld.other W108 F2 (Or.inr (slot_ne (C := "com/example/caddisfly/caddisfly/XpathNumbers$Numeral") (Or.inl (hw _ (List.mem_of_getElem? (i := 61) rfl))) (Or.inl (hw _ (List.mem_of_getElem? (i := 22) rfl))) (by decide) (t := .int) (t' := .int) (by decide) (by decide)))
  have F3 := Fld.other W108 F3 (Or.inr (slot_ne (C := "com/example/caddisfly/caddisfly/XpathNumbers$Numeral") (Or.inl (hw _ (List.mem_of_getElem? (i := 63) rfl))) (Or.inl (hw _ (List.mem_of_getElem? (i := 22) rfl))) (by decide) (t := .long) (t' := .int) (by decide) (by decide)))
  have F4 := Fld.other W108 F4 (Or.inr (slot_ne (C := "com/example/caddisfly/caddisfly/XpathNumbers$Numeral") (Or.inl (hw _ (List.mem_of_getElem? (i := 65) rfl))) (Or.inl (hw _ (List.mem_of_getElem? (i := 22) rfl))) (by decide) (t := .long) (t' := .int) (by decide) (by decide)))
  have F5 := Fld.other W108 F5 (Or.inr (slot_ne (C := "com/example/caddisfly/caddisfly/XpathNumbers$Numeral") (Or.inl (hw _ (List.mem_of_getElem? (i := 59) rfl))) (Or.inl (hw _ (List.mem_of_getElem? (i := 22) rfl))) (by decide) (t := .boolean) (t' := .int) (by decide) (by decide)))
  have F6 := Fld.other W108 F6 (Or.inr (slot_ne (C := "com/example/caddisfly/caddisfly/XpathNumbers$Numeral") (Or.inl (hw _ (List.mem_of_getElem? (i := 68) rfl))) (Or.inl (hw _ (List.mem_of_getElem? (i := 22) rfl))) (by decide) (t := .boolean) (t' := .int) (by decide) (by decide)))
  have KK : Keep h0 _ [p] := KK.trans K108 (allS (Or.inl (by simp)) all0)
  have sk := KK.1
  have F1 := F1'
  have E := E'
  have s_h108 : n0 ≤ h108.size := Nat.le_trans (by omega) K108.1
  have k : Wn l Z n0 (QN Z p 5 sg h0) G s h108 0 0 182 #[.val (.ref p), .val (.int c)] [] := k
  have k : Wn l Z n0 (QN Z p 5 sg h0) G s h108 0 0 185 #[.val (.ref p), .val (.int c)] [] := k.goto (pc' := 185) dn_182 (by decide)
  exact k.outN dn_185 (by decide) (by decide) ⟨rfl, KK, ⟨E, F1, F2, ⟨_, F3⟩, ⟨_, F4⟩, ⟨_, F5⟩, ⟨_, F6⟩⟩⟩
set_option maxRecDepth 65536 in
set_option maxHeartbeats 40000000 in
theorem conn43 (l : Launch) (Z : State) (a0 : Array Value) (hw : ∀ d ∈ tables_1, d.before a0 Z = true) (p : Nat) (c : Int32) (sg : Nat) (hc : Cl c 3) (hsg : sg < 18) (h0 : Heap) (n0 : Nat) (s_h0 : n0 ≤ h0.size) (n_p : n0 ≤ p) (N : NS Z h0 p 4 sg) : Con l Z (⟨"com/example/caddisfly/caddisfly/XpathNumbers$Numeral", "add", "(C)V"⟩ : MethodName) prog_160_method_3_code 2 none ({ frames := 2, cells := 0, slots := 0, locals := 40 } : Room) #[.ref p, .int c] h0 n0 (QN Z p 5 sg h0) := by
  refine Con.of pnn (Ls := #[.val (.ref p), .val (.int c)]) (fun m => by first | (simp [entryFrame, mkF, argsToLocals, Value.category]; done) | rfl) ?_
  intro G s k
  obtain ⟨E, F1, F2, ⟨ex, F3⟩, ⟨ld, F4⟩, ⟨ad, F5⟩, ⟨ng, F6⟩⟩ := N
  have KK : Keep h0 h0 [p] := Keep.refl _ _
  have sk := KK.1
  have F1 : Fld Z h0 p "com/example/caddisfly/caddisfly/XpathNumbers$Numeral" "stage" "I" (.int (4 : Int32)) := F1
  have k : Wn l Z n0 (QN Z p 5 sg h0) G s h0 0 0 4 #[.val (.ref p), .val (.int c)] [(.int (4 : Int32))] := (k.aloadN dn_0 rfl rfl).getF (hw _ (List.mem_of_getElem? (i := 21) rfl)) F1 dn_1
  have k : Wn l Z n0 (QN Z p 5 sg h0) G s h0 0 0 166 #[.val (.ref p), .val (.int c)] [] := k.tswIn (pc' := 166) dn_4 (by decide) rfl (by decide)
  have k : Wn l Z n0 (QN Z p 5 sg h0) G s h0 0 0 168 #[.val (.ref p), .val (.int c)] [(.int c), (.ref p)] := (k.aloadN dn_166 rfl rfl).iloadN dn_167 rfl
  obtain ⟨v109, h109, ⟨rfl, rfl⟩, k⟩ := k.callSN (hw _ (List.mem_of_getElem? (i := 43) rfl)) (hw _ (List.mem_of_getElem? (i := 44) rfl)) (hw _ (List.mem_of_getElem? (i := 45) rfl)) (hw _ (List.mem_of_getElem? (i := 46) rfl)) (by decide) (cona0 l Z a0 hw c h0 n0 (own_ws0 hc (by decide))) (argsL := [(.int c)]) (rest := [(.ref p)]) (lenOf pda rfl) dn_168 rfl rfl 1 (Nat.le_of_eq rfl) (by decide) (by decide) (by decide) (by decide)
  have k : Wn l Z n0 (QN Z p 5 sg h0) G s h0 0 0 171 #[.val (.ref p), .val (.int c)] [(.int (0 : Int32)), (.ref p)] := k
  have k : Wn l Z n0 (QN Z p 5 sg h0) G s h0 0 0 178 #[.val (.ref p), .val (.int c)] [(.ref p)] := k.ifT (pc' := 178) dn_171 (XT.i0_eq_t (by decide)) (by decide)
  have k : Wn l Z n0 (QN Z p 5 sg h0) G s h0 0 0 179 #[.val (.ref p), .val (.int c)] [(.int (5 : Int32)), (.ref p)] := k.iconst (5) dn_178 rfl
  obtain ⟨h110, W110, K110, F1', E', k⟩ := k.putF (ty := .int) (hw _ (List.mem_of_getElem? (i := 21) rfl)) F1 E (Or.inl (hw _ (List.mem_of_getElem? (i := 22) rfl))) (hw _ (List.mem_of_getElem? (i := 13) rfl)) (by decide) rfl rfl n_p dn_179
  have F2 := Fld.other W110 F2 (Or.inr (slot_ne (C := "com/example/caddisfly/caddisfly/XpathNumbers$Numeral") (Or.inl (hw _ (List.mem_of_getElem? (i := 61) rfl))) (Or.inl (hw _ (List.mem_of_getElem? (i := 22) rfl))) (by decide) (t := .int) (t' := .int) (by decide) (by decide)))
  have F3 := Fld.other W110 F3 (Or.inr (slot_ne (C := "com/example/caddisfly/caddisfly/XpathNumbers$Numeral") (Or.inl (hw _ (List.mem_of_getElem? (i := 63) rfl))) (Or.inl (hw _ (List.mem_of_getElem? (i := 22) rfl))) (by decide) (t := .long) (t' := .int) (by decide) (by decide)))
  have F4 := Fld.other W110 F4 (Or.inr (slot_ne (C := "com/example/caddisfly/caddisfly/XpathNumbers$Numeral") (Or.inl (hw _ (List.mem_of_getElem? (i := 65) rfl))) (Or.inl (hw _ (List.mem_of_getElem? (i := 22) rfl))) (by decide) (t := .long) (t' := .int) (by decide) (by decide)))
  have F5 := Fld.other W110 F5 (Or.inr (slot_ne (C := "com/example/caddisfly/caddisfly/XpathNumbers$Numeral") (Or.inl (hw _ (List.mem_of_getElem? (i := 59) rfl))) (Or.inl (hw _ (List.mem_of_getElem? (i := 22) rfl))) (by decide) (t := .boolean) (t' := .int) (by decide) (by decide)))
  have F6 := Fld.other W110 F6 (Or.inr (slot_ne (C := "com/example/caddisfly/caddisfly/XpathNumbers$Numeral") (Or.inl (hw _ (List.mem_of_getElem? (i := 68) rfl))) (Or.inl (hw _ (List.mem_of_getElem? (i := 22) rfl))) (by decide) (t := .boolean) (t' := .int) (by decide) (by decide)))
  have KK : Keep h0 _ [p] := KK.trans K110 (allS (Or.inl (by simp)) all0)
  have sk := KK.1
  have F1 := F1'
  have E := E'
  have s_h110 : n0 ≤ h110.size := Nat.le_trans (by omega) K110.1
  have k : Wn l Z n0 (QN Z p 5 sg h0) G s h110 0 0 182 #[.val (.ref p), .val (.int c)] [] := k
  have k : Wn l Z n0 (QN Z p 5 sg h0) G s h110 0 0 185 #[.val (.ref p), .val (.int c)] [] := k.goto (pc' := 185) dn_182 (by decide)
  exact k.outN dn_185 (by decide) (by decide) ⟨rfl, KK, ⟨E, F1, F2, ⟨_, F3⟩, ⟨_, F4⟩, ⟨_, F5⟩, ⟨_, F6⟩⟩⟩
set_option maxRecDepth 65536 in
set_option maxHeartbeats 40000000 in
theorem conn44 (l : Launch) (Z : State) (a0 : Array Value) (hw : ∀ d ∈ tables_1, d.before a0 Z = true) (p : Nat) (c : Int32) (sg : Nat) (hc : Cl c 4) (hsg : sg < 18) (h0 : Heap) (n0 : Nat) (s_h0 : n0 ≤ h0.size) (n_p : n0 ≤ p) (N : NS Z h0 p 4 sg) : Con l Z (⟨"com/example/caddisfly/caddisfly/XpathNumbers$Numeral", "add", "(C)V"⟩ : MethodName) prog_160_method_3_code 2 none ({ frames := 2, cells := 0, slots := 0, locals := 40 } : Room) #[.ref p, .int c] h0 n0 (QN Z p 5 sg h0) := by
  refine Con.of pnn (Ls := #[.val (.ref p), .val (.int c)]) (fun m => by first | (simp [entryFrame, mkF, argsToLocals, Value.category]; done) | rfl) ?_
  intro G s k
  obtain ⟨E, F1, F2, ⟨ex, F3⟩, ⟨ld, F4⟩, ⟨ad, F5⟩, ⟨ng, F6⟩⟩ := N
  have KK : Keep h0 h0 [p] := Keep.refl _ _
  have sk := KK.1
  have F1 : Fld Z h0 p "com/example/caddisfly/caddisfly/XpathNumbers$Numeral" "stage" "I" (.int (4 : Int32)) := F1
  have k : Wn l Z n0 (QN Z p 5 sg h0) G s h0 0 0 4 #[.val (.ref p), .val (.int c)] [(.int (4 : Int32))] := (k.aloadN dn_0 rfl rfl).getF (hw _ (List.mem_of_getElem? (i := 21) rfl)) F1 dn_1
  have k : Wn l Z n0 (QN Z p 5 sg h0) G s h0 0 0 166 #[.val (.ref p), .val (.int c)] [] := k.tswIn (pc' := 166) dn_4 (by decide) rfl (by decide)
  have k : Wn l Z n0 (QN Z p 5 sg h0) G s h0 0 0 168 #[.val (.ref p), .val (.int c)] [(.int c), (.ref p)] := (k.aloadN dn_166 rfl rfl).iloadN dn_167 rfl
  obtain ⟨v111, h111, ⟨rfl, rfl⟩, k⟩ := k.callSN (hw _ (List.mem_of_getElem? (i := 43) rfl)) (hw _ (List.mem_of_getElem? (i := 44) rfl)) (hw _ (List.mem_of_getElem? (i := 45) rfl)) (hw _ (List.mem_of_getElem? (i := 46) rfl)) (by decide) (cona0 l Z a0 hw c h0 n0 (own_ws0 hc (by decide))) (argsL := [(.int c)]) (rest := [(.ref p)]) (lenOf pda rfl) dn_168 rfl rfl 1 (Nat.le_of_eq rfl) (by decide) (by decide) (by decide) (by decide)
  have k : Wn l Z n0 (QN Z p 5 sg h0) G s h0 0 0 171 #[.val (.ref p), .val (.int c)] [(.int (0 : Int32)), (.ref p)] := k
  have k : Wn l Z n0 (QN Z p 5 sg h0) G s h0 0 0 178 #[.val (.ref p), .val (.int c)] [(.ref p)] := k.ifT (pc' := 178) dn_171 (XT.i0_eq_t (by decide)) (by decide)
  have k : Wn l Z n0 (QN Z p 5 sg h0) G s h0 0 0 179 #[.val (.ref p), .val (.int c)] [(.int (5 : Int32)), (.ref p)] := k.iconst (5) dn_178 rfl
  obtain ⟨h112, W112, K112, F1', E', k⟩ := k.putF (ty := .int) (hw _ (List.mem_of_getElem? (i := 21) rfl)) F1 E (Or.inl (hw _ (List.mem_of_getElem? (i := 22) rfl))) (hw _ (List.mem_of_getElem? (i := 13) rfl)) (by decide) rfl rfl n_p dn_179
  have F2 := Fld.other W112 F2 (Or.inr (slot_ne (C := "com/example/caddisfly/caddisfly/XpathNumbers$Numeral") (Or.inl (hw _ (List.mem_of_getElem? (i := 61) rfl))) (Or.inl (hw _ (List.mem_of_getElem? (i := 22) rfl))) (by decide) (t := .int) (t' := .int) (by decide) (by decide)))
  have F3 := Fld.other W112 F3 (Or.inr (slot_ne (C := "com/example/caddisfly/caddisfly/XpathNumbers$Numeral") (Or.inl (hw _ (List.mem_of_getElem? (i := 63) rfl))) (Or.inl (hw _ (List.mem_of_getElem? (i := 22) rfl))) (by decide) (t := .long) (t' := .int) (by decide) (by decide)))
  have F4 := Fld.other W112 F4 (Or.inr (slot_ne (C := "com/example/caddisfly/caddisfly/XpathNumbers$Numeral") (Or.inl (hw _ (List.mem_of_getElem? (i := 65) rfl))) (Or.inl (hw _ (List.mem_of_getElem? (i := 22) rfl))) (by decide) (t := .long) (t' := .int) (by decide) (by decide)))
  have F5 := Fld.other W112 F5 (Or.inr (slot_ne (C := "com/example/caddisfly/caddisfly/XpathNumbers$Numeral") (Or.inl (hw _ (List.mem_of_getElem? (i := 59) rfl))) (Or.inl (hw _ (List.mem_of_getElem? (i := 22) rfl))) (by decide) (t := .boolean) (t' := .int) (by decide) (by decide)))
  have F6 := Fld.other W112 F6 (Or.inr (slot_ne (C := "com/example/caddisfly/caddisfly/XpathNumbers$Numeral") (Or.inl (hw _ (List.mem_of_getElem? (i := 68) rfl))) (Or.inl (hw _ (List.mem_of_getElem? (i := 22) rfl))) (by decide) (t := .boolean) (t' := .int) (by decide) (by decide)))
  have KK : Keep h0 _ [p] := KK.trans K112 (allS (Or.inl (by simp)) all0)
  have sk := KK.1
  have F1 := F1'
  have E := E'
  have s_h112 : n0 ≤ h112.size := Nat.le_trans (by omega) K112.1
  have k : Wn l Z n0 (QN Z p 5 sg h0) G s h112 0 0 182 #[.val (.ref p), .val (.int c)] [] := k
  have k : Wn l Z n0 (QN Z p 5 sg h0) G s h112 0 0 185 #[.val (.ref p), .val (.int c)] [] := k.goto (pc' := 185) dn_182 (by decide)
  exact k.outN dn_185 (by decide) (by decide) ⟨rfl, KK, ⟨E, F1, F2, ⟨_, F3⟩, ⟨_, F4⟩, ⟨_, F5⟩, ⟨_, F6⟩⟩⟩
set_option maxRecDepth 65536 in
set_option maxHeartbeats 40000000 in
theorem conn45 (l : Launch) (Z : State) (a0 : Array Value) (hw : ∀ d ∈ tables_1, d.before a0 Z = true) (p : Nat) (c : Int32) (sg : Nat) (hc : Cl c 5) (hsg : sg < 18) (h0 : Heap) (n0 : Nat) (s_h0 : n0 ≤ h0.size) (n_p : n0 ≤ p) (N : NS Z h0 p 4 sg) : Con l Z (⟨"com/example/caddisfly/caddisfly/XpathNumbers$Numeral", "add", "(C)V"⟩ : MethodName) prog_160_method_3_code 2 none ({ frames := 2, cells := 0, slots := 0, locals := 40 } : Room) #[.ref p, .int c] h0 n0 (QN Z p 5 sg h0) := by
  refine Con.of pnn (Ls := #[.val (.ref p), .val (.int c)]) (fun m => by first | (simp [entryFrame, mkF, argsToLocals, Value.category]; done) | rfl) ?_
  intro G s k
  obtain ⟨E, F1, F2, ⟨ex, F3⟩, ⟨ld, F4⟩, ⟨ad, F5⟩, ⟨ng, F6⟩⟩ := N
  have KK : Keep h0 h0 [p] := Keep.refl _ _
  have sk := KK.1
  have F1 : Fld Z h0 p "com/example/caddisfly/caddisfly/XpathNumbers$Numeral" "stage" "I" (.int (4 : Int32)) := F1
  have k : Wn l Z n0 (QN Z p 5 sg h0) G s h0 0 0 4 #[.val (.ref p), .val (.int c)] [(.int (4 : Int32))] := (k.aloadN dn_0 rfl rfl).getF (hw _ (List.mem_of_getElem? (i := 21) rfl)) F1 dn_1
  have k : Wn l Z n0 (QN Z p 5 sg h0) G s h0 0 0 166 #[.val (.ref p), .val (.int c)] [] := k.tswIn (pc' := 166) dn_4 (by decide) rfl (by decide)
  have k : Wn l Z n0 (QN Z p 5 sg h0) G s h0 0 0 168 #[.val (.ref p), .val (.int c)] [(.int c), (.ref p)] := (k.aloadN dn_166 rfl rfl).iloadN dn_167 rfl
  obtain ⟨v113, h113, ⟨rfl, rfl⟩, k⟩ := k.callSN (hw _ (List.mem_of_getElem? (i := 43) rfl)) (hw _ (List.mem_of_getElem? (i := 44) rfl)) (hw _ (List.mem_of_getElem? (i := 45) rfl)) (hw _ (List.mem_of_getElem? (i := 46) rfl)) (by decide) (cona0 l Z a0 hw c h0 n0 (own_ws0 hc (by decide))) (argsL := [(.int c)]) (rest := [(.ref p)]) (lenOf pda rfl) dn_168 rfl rfl 1 (Nat.le_of_eq rfl) (by decide) (by decide) (by decide) (by decide)
  have k : Wn l Z n0 (QN Z p 5 sg h0) G s h0 0 0 171 #[.val (.ref p), .val (.int c)] [(.int (0 : Int32)), (.ref p)] := k
  have k : Wn l Z n0 (QN Z p 5 sg h0) G s h0 0 0 178 #[.val (.ref p), .val (.int c)] [(.ref p)] := k.ifT (pc' := 178) dn_171 (XT.i0_eq_t (by decide)) (by decide)
  have k : Wn l Z n0 (QN Z p 5 sg h0) G s h0 0 0 179 #[.val (.ref p), .val (.int c)] [(.int (5 : Int32)), (.ref p)] := k.iconst (5) dn_178 rfl
  obtain ⟨h114, W114, K114, F1', E', k⟩ := k.putF (ty := .int) (hw _ (List.mem_of_getElem? (i := 21) rfl)) F1 E (Or.inl (hw _ (List.mem_of_getElem? (i := 22) rfl))) (hw _ (List.mem_of_getElem? (i := 13) rfl)) (by decide) rfl rfl n_p dn_179
  have F2 := Fld.other W114 F2 (Or.inr (slot_ne (C := "com/example/caddisfly/caddisfly/XpathNumbers$Numeral") (Or.inl (hw _ (List.mem_of_getElem? (i := 61) rfl))) (Or.inl (hw _ (List.mem_of_getElem? (i := 22) rfl))) (by decide) (t := .int) (t' := .int) (by decide) (by decide)))
  have F3 := Fld.other W114 F3 (Or.inr (slot_ne (C := "com/example/caddisfly/caddisfly/XpathNumbers$Numeral") (Or.inl (hw _ (List.mem_of_getElem? (i := 63) rfl))) (Or.inl (hw _ (List.mem_of_getElem? (i := 22) rfl))) (by decide) (t := .long) (t' := .int) (by decide) (by decide)))
  have F4 := Fld.other W114 F4 (Or.inr (slot_ne (C := "com/example/caddisfly/caddisfly/XpathNumbers$Numeral") (Or.inl (hw _ (List.mem_of_getElem? (i := 65) rfl))) (Or.inl (hw _ (List.mem_of_getElem? (i := 22) rfl))) (by decide) (t := .long) (t' := .int) (by decide) (by decide)))
  have F5 := Fld.other W114 F5 (Or.inr (slot_ne (C := "com/example/caddisfly/caddisfly/XpathNumbers$Numeral") (Or.inl (hw _ (List.mem_of_getElem? (i := 59) rfl))) (Or.inl (hw _ (List.mem_of_getElem? (i := 22) rfl))) (by decide) (t := .boolean) (t' := .int) (by decide) (by decide)))
  have F6 := Fld.other W114 F6 (Or.inr (slot_ne (C := "com/example/caddisfly/caddisfly/XpathNumbers$Numeral") (Or.inl (hw _ (List.mem_of_getElem? (i := 68) rfl))) (Or.inl (hw _ (List.mem_of_getElem? (i := 22) rfl))) (by decide) (t := .boolean) (t' := .int) (by decide) (by decide)))
  have KK : Keep h0 _ [p] := KK.trans K114 (allS (Or.inl (by simp)) all0)
  have sk := KK.1
  have F1 := F1'
  have E := E'
  have s_h114 : n0 ≤ h114.size := Nat.le_trans (by omega) K114.1
  have k : Wn l Z n0 (QN Z p 5 sg h0) G s h114 0 0 182 #[.val (.ref p), .val (.int c)] [] := k
  have k : Wn l Z n0 (QN Z p 5 sg h0) G s h114 0 0 185 #[.val (.ref p), .val (.int c)] [] := k.goto (pc' := 185) dn_182 (by decide)
  exact k.outN dn_185 (by decide) (by decide) ⟨rfl, KK, ⟨E, F1, F2, ⟨_, F3⟩, ⟨_, F4⟩, ⟨_, F5⟩, ⟨_, F6⟩⟩⟩
set_option maxRecDepth 65536 in
set_option maxHeartbeats 40000000 in
theorem conn50 (l : Launch) (Z : State) (a0 : Array Value) (hw : ∀ d ∈ tables_1, d.before a0 Z = true) (p : Nat) (c : Int32) (sg : Nat) (hc : Cl c 0) (hsg : sg < 18) (h0 : Heap) (n0 : Nat) (s_h0 : n0 ≤ h0.size) (n_p : n0 ≤ p) (N : NS Z h0 p 5 sg) : Con l Z (⟨"com/example/caddisfly/caddisfly/XpathNumbers$Numeral", "add", "(C)V"⟩ : MethodName) prog_160_method_3_code 2 none ({ frames := 2, cells := 0, slots := 0, locals := 40 } : Room) #[.ref p, .int c] h0 n0 (QN Z p 5 sg h0) := by
  refine Con.of pnn (Ls := #[.val (.ref p), .val (.int c)]) (fun m => by first | (simp [entryFrame, mkF, argsToLocals, Value.category]; done) | rfl) ?_
  intro G s k
  obtain ⟨E, F1, F2, ⟨ex, F3⟩, ⟨ld, F4⟩, ⟨ad, F5⟩, ⟨ng, F6⟩⟩ := N
  have KK : Keep h0 h0 [p] := Keep.refl _ _
  have sk := KK.1
  have F1 : Fld Z h0 p "com/example/caddisfly/caddisfly/XpathNumbers$Numeral" "stage" "I" (.int (5 : Int32)) := F1
  have k : Wn l Z n0 (QN Z p 5 sg h0) G s h0 0 0 4 #[.val (.ref p), .val (.int c)] [(.int (5 : Int32))] := (k.aloadN dn_0 rfl rfl).getF (hw _ (List.mem_of_getElem? (i := 21) rfl)) F1 dn_1
  have k : Wn l Z n0 (QN Z p 5 sg h0) G s h0 0 0 185 #[.val (.ref p), .val (.int c)] [] := k.tswOut (pc' := 185) dn_4 (by decide) (by decide)
  exact k.outN dn_185 (by decide) (by decide) ⟨rfl, KK, ⟨E, F1, F2, ⟨_, F3⟩, ⟨_, F4⟩, ⟨_, F5⟩, ⟨_, F6⟩⟩⟩
set_option maxRecDepth 65536 in
set_option maxHeartbeats 40000000 in
theorem conn51 (l : Launch) (Z : State) (a0 : Array Value) (hw : ∀ d ∈ tables_1, d.before a0 Z = true) (p : Nat) (c : Int32) (sg : Nat) (hc : Cl c 1) (hsg : sg < 18) (h0 : Heap) (n0 : Nat) (s_h0 : n0 ≤ h0.size) (n_p : n0 ≤ p) (N : NS Z h0 p 5 sg) : Con l Z (⟨"com/example/caddisfly/caddisfly/XpathNumbers$Numeral", "add", "(C)V"⟩ : MethodName) prog_160_method_3_code 2 none ({ frames := 2, cells := 0, slots := 0, locals := 40 } : Room) #[.ref p, .int c] h0 n0 (QN Z p 5 sg h0) := by
  refine Con.of pnn (Ls := #[.val (.ref p), .val (.int c)]) (fun m => by first | (simp [entryFrame, mkF, argsToLocals, Value.category]; done) | rfl) ?_
  intro G s k
  obtain ⟨E, F1, F2, ⟨ex, F3⟩, ⟨ld, F4⟩, ⟨ad, F5⟩, ⟨ng, F6⟩⟩ := N
  have KK : Keep h0 h0 [p] := Keep.refl _ _
  have sk := KK.1
  have F1 : Fld Z h0 p "com/example/caddisfly/caddisfly/XpathNumbers$Numeral" "stage" "I" (.int (5 : Int32)) := F1
  have k : Wn l Z n0 (QN Z p 5 sg h0) G s h0 0 0 4 #[.val (.ref p), .val (.int c)] [(.int (5 : Int32))] := (k.aloadN dn_0 rfl rfl).getF (hw _ (List.mem_of_getElem? (i := 21) rfl)) F1 dn_1
  have k : Wn l Z n0 (QN Z p 5 sg h0) G s h0 0 0 185 #[.val (.ref p), .val (.int c)] [] := k.tswOut (pc' := 185) dn_4 (by decide) (by decide)
  exact k.outN dn_185 (by decide) (by decide) ⟨rfl, KK, ⟨E, F1, F2, ⟨_, F3⟩, ⟨_, F4⟩, ⟨_, F5⟩, ⟨_, F6⟩⟩⟩
set_option maxRecDepth 65536 in
set_option maxHeartbeats 40000000 in
theorem conn52 (l : Launch) (Z : State) (a0 : Array Value) (hw : ∀ d ∈ tables_1, d.before a0 Z = true) (p : Nat) (c : Int32) (sg : Nat) (hc : Cl c 2) (hsg : sg < 18) (h0 : Heap) (n0 : Nat) (s_h0 : n0 ≤ h0.size) (n_p : n0 ≤ p) (N : NS Z h0 p 5 sg) : Con l Z (⟨"com/example/caddisfly/caddisfly/XpathNumbers$Numeral", "add", "(C)V"⟩ : MethodName) prog_160_method_3_code 2 none ({ frames := 2, cells := 0, slots := 0, locals := 40 } : Room) #[.ref p, .int c] h0 n0 (QN Z p 5 sg h0) := by
  refine Con.of pnn (Ls := #[.val (.ref p), .val (.int c)]) (fun m => by first | (simp [entryFrame, mkF, argsToLocals, Value.category]; done) | rfl) ?_
  intro G s k
  obtain ⟨E, F1, F2, ⟨ex, F3⟩, ⟨ld, F4⟩, ⟨ad, F5⟩, ⟨ng, F6⟩⟩ := N
  have KK : Keep h0 h0 [p] := Keep.refl _ _
  have sk := KK.1
  have F1 : Fld Z h0 p "com/example/caddisfly/caddisfly/XpathNumbers$Numeral" "stage" "I" (.int (5 : Int32)) := F1
  have k : Wn l Z n0 (QN Z p 5 sg h0) G s h0 0 0 4 #[.val (.ref p), .val (.int c)] [(.int (5 : Int32))] := (k.aloadN dn_0 rfl rfl).getF (hw _ (List.mem_of_getElem? (i := 21) rfl)) F1 dn_1
  have k : Wn l Z n0 (QN Z p 5 sg h0) G s h0 0 0 185 #[.val (.ref p), .val (.int c)] [] := k.tswOut (pc' := 185) dn_4 (by decide) (by decide)
  exact k.outN dn_185 (by decide) (by decide) ⟨rfl, KK, ⟨E, F1, F2, ⟨_, F3⟩, ⟨_, F4⟩, ⟨_, F5⟩, ⟨_, F6⟩⟩⟩
set_option maxRecDepth 65536 in
set_option maxHeartbeats 40000000 in
theorem conn53 (l : Launch) (Z : State) (a0 : Array Value) (hw : ∀ d ∈ tables_1, d.before a0 Z = true) (p : Nat) (c : Int32) (sg : Nat) (hc : Cl c 3) (hsg : sg < 18) (h0 : Heap) (n0 : Nat) (s_h0 : n0 ≤ h0.size) (n_p : n0 ≤ p) (N : NS Z h0 p 5 sg) : Con l Z (⟨"com/example/caddisfly/caddisfly/XpathNumbers$Numeral", "add", "(C)V"⟩ : MethodName) prog_160_method_3_code 2 none ({ frames := 2, cells := 0, slots := 0, locals := 40 } : Room) #[.ref p, .int c] h0 n0 (QN Z p 5 sg h0) := by
  refine Con.of pnn (Ls := #[.val (.ref p), .val (.int c)]) (fun m => by first | (simp [entryFrame, mkF, argsToLocals, Value.category]; done) | rfl) ?_
  intro G s k
  obtain ⟨E, F1, F2, ⟨ex, F3⟩, ⟨ld, F4⟩, ⟨ad, F5⟩, ⟨ng, F6⟩⟩ := N
  have KK : Keep h0 h0 [p] := Keep.refl _ _
  have sk := KK.1
  have F1 : Fld Z h0 p "com/example/caddisfly/caddisfly/XpathNumbers$Numeral" "stage" "I" (.int (5 : Int32)) := F1
  have k : Wn l Z n0 (QN Z p 5 sg h0) G s h0 0 0 4 #[.val (.ref p), .val (.int c)] [(.int (5 : Int32))] := (k.aloadN dn_0 rfl rfl).getF (hw _ (List.mem_of_getElem? (i := 21) rfl)) F1 dn_1
  have k : Wn l Z n0 (QN Z p 5 sg h0) G s h0 0 0 185 #[.val (.ref p), .val (.int c)] [] := k.tswOut (pc' := 185) dn_4 (by decide) (by decide)
  exact k.outN dn_185 (by decide) (by decide) ⟨rfl, KK, ⟨E, F1, F2, ⟨_, F3⟩, ⟨_, F4⟩, ⟨_, F5⟩, ⟨_, F6⟩⟩⟩
set_option maxRecDepth 65536 in
set_option maxHeartbeats 40000000 in
theorem conn54 (l : Launch) (Z : State) (a0 : Array Value) (hw : ∀ d ∈ tables_1, d.before a0 Z = true) (p : Nat) (c : Int32) (sg : Nat) (hc : Cl c 4) (hsg : sg < 18) (h0 : Heap) (n0 : Nat) (s_h0 : n0 ≤ h0.size) (n_p : n0 ≤ p) (N : NS Z h0 p 5 sg) : Con l Z (⟨"com/example/caddisfly/caddisfly/XpathNumbers$Numeral", "add", "(C)V"⟩ : MethodName) prog_160_method_3_code 2 none ({ frames := 2, cells := 0, slots := 0, locals := 40 } : Room) #[.ref p, .int c] h0 n0 (QN Z p 5 sg h0) := by
  refine Con.of pnn (Ls := #[.val (.ref p), .val (.int c)]) (fun m => by first | (simp [entryFrame, mkF, argsToLocals, Value.category]; done) | rfl) ?_
  intro G s k
  obtain ⟨E, F1, F2, ⟨ex, F3⟩, ⟨ld, F4⟩, ⟨ad, F5⟩, ⟨ng, F6⟩⟩ := N
  have KK : Keep h0 h0 [p] := Keep.refl _ _
  have sk := KK.1
  have F1 : Fld Z h0 p "com/example/caddisfly/caddisfly/XpathNumbers$Numeral" "stage" "I" (.int (5 : Int32)) := F1
  have k : Wn l Z n0 (QN Z p 5 sg h0) G s h0 0 0 4 #[.val (.ref p), .val (.int c)] [(.int (5 : Int32))] := (k.aloadN dn_0 rfl rfl).getF (hw _ (List.mem_of_getElem? (i := 21) rfl)) F1 dn_1
  have k : Wn l Z n0 (QN Z p 5 sg h0) G s h0 0 0 185 #[.val (.ref p), .val (.int c)] [] := k.tswOut (pc' := 185) dn_4 (by decide) (by decide)
  exact k.outN dn_185 (by decide) (by decide) ⟨rfl, KK, ⟨E, F1, F2, ⟨_, F3⟩, ⟨_, F4⟩, ⟨_, F5⟩, ⟨_, F6⟩⟩⟩
set_option maxRecDepth 65536 in
set_option maxHeartbeats 40000000 in
theorem conn55 (l : Launch) (Z : State) (a0 : Array Value) (hw : ∀ d ∈ tables_1, d.before a0 Z = true) (p : Nat) (c : Int32) (sg : Nat) (hc : Cl c 5) (hsg : sg < 18) (h0 : Heap) (n0 : Nat) (s_h0 : n0 ≤ h0.size) (n_p : n0 ≤ p) (N : NS Z h0 p 5 sg) : Con l Z (⟨"com/example/caddisfly/caddisfly/XpathNumbers$Numeral", "add", "(C)V"⟩ : MethodName) prog_160_method_3_code 2 none ({ frames := 2, cells := 0, slots := 0, locals := 40 } : Room) #[.ref p, .int c] h0 n0 (QN Z p 5 sg h0) := by
  refine Con.of pnn (Ls := #[.val (.ref p), .val (.int c)]) (fun m => by first | (simp [entryFrame, mkF, argsToLocals, Value.category]; done) | rfl) ?_
  intro G s k
  obtain ⟨E, F1, F2, ⟨ex, F3⟩, ⟨ld, F4⟩, ⟨ad, F5⟩, ⟨ng, F6⟩⟩ := N
  have KK : Keep h0 h0 [p] := Keep.refl _ _
  have sk := KK.1
  have F1 : Fld Z h0 p "com/example/caddisfly/caddisfly/XpathNumbers$Numeral" "stage" "I" (.int (5 : Int32)) := F1
  have k : Wn l Z n0 (QN Z p 5 sg h0) G s h0 0 0 4 #[.val (.ref p), .val (.int c)] [(.int (5 : Int32))] := (k.aloadN dn_0 rfl rfl).getF (hw _ (List.mem_of_getElem? (i := 21) rfl)) F1 dn_1
  have k : Wn l Z n0 (QN Z p 5 sg h0) G s h0 0 0 185 #[.val (.ref p), .val (.int c)] [] := k.tswOut (pc' := 185) dn_4 (by decide) (by decide)
  exact k.outN dn_185 (by decide) (by decide) ⟨rfl, KK, ⟨E, F1, F2, ⟨_, F3⟩, ⟨_, F4⟩, ⟨_, F5⟩, ⟨_, F6⟩⟩⟩
theorem conn (l : Launch) (Z : State) (a0 : Array Value) (hw : ∀ d ∈ tables_1, d.before a0 Z = true) (p : Nat) (c : Int32) (st sg d : Nat) (hst : st ≤ 5) (hc : Cl c d) (hsg : sg < 18) (h0 : Heap) (n0 : Nat) (s_h0 : n0 ≤ h0.size) (n_p : n0 ≤ p) (N : NS Z h0 p st sg) : Con l Z (⟨"com/example/caddisfly/caddisfly/XpathNumbers$Numeral", "add", "(C)V"⟩ : MethodName) prog_160_method_3_code 2 none ({ frames := 2, cells := 0, slots := 0, locals := 40 } : Room) #[.ref p, .int c] h0 n0 (QN Z p (stN st d) (sgN st sg d) h0) := by
  have hd := own_cl6 hc
  rcases (show st = 0 ∨ st = 1 ∨ st = 2 ∨ st = 3 ∨ st = 4 ∨ st = 5 by omega) with rfl | rfl | rfl | rfl | rfl | rfl <;> rcases (show d = 0 ∨ d = 1 ∨ d = 2 ∨ d = 3 ∨ d = 4 ∨ d = 5 by omega) with rfl | rfl | rfl | rfl | rfl | rfl
  · exact conn00 l Z a0 hw p c sg hc hsg h0 n0 s_h0 n_p N
  · exact conn01 l Z a0 hw p c sg hc hsg h0 n0 s_h0 n_p N
  · exact conn02 l Z a0 hw p c sg hc hsg h0 n0 s_h0 n_p N
  · exact conn03 l Z a0 hw p c sg hc hsg h0 n0 s_h0 n_p N
  · exact conn04 l Z a0 hw p c sg hc hsg h0 n0 s_h0 n_p N
  · exact conn05 l Z a0 hw p c sg hc hsg h0 n0 s_h0 n_p N
  · exact conn10 l Z a0 hw p c sg hc hsg h0 n0 s_h0 n_p N
  · exact conn11 l Z a0 hw p c sg hc hsg h0 n0 s_h0 n_p N
  · exact conn12 l Z a0 hw p c sg hc hsg h0 n0 s_h0 n_p N
  · exact conn13 l Z a0 hw p c sg hc hsg h0 n0 s_h0 n_p N
  · exact conn14 l Z a0 hw p c sg hc hsg h0 n0 s_h0 n_p N
  · exact conn15 l Z a0 hw p c sg hc hsg h0 n0 s_h0 n_p N
  · exact conn20 l Z a0 hw p c sg hc hsg h0 n0 s_h0 n_p N
  · exact conn21 l Z a0 hw p c sg hc hsg h0 n0 s_h0 n_p N
  · exact conn22 l Z a0 hw p c sg hc hsg h0 n0 s_h0 n_p N
  · exact conn23 l Z a0 hw p c sg hc hsg h0 n0 s_h0 n_p N
  · exact conn24 l Z a0 hw p c sg hc hsg h0 n0 s_h0 n_p N
  · exact conn25 l Z a0 hw p c sg hc hsg h0 n0 s_h0 n_p N
  · exact conn30 l Z a0 hw p c sg hc hsg h0 n0 s_h0 n_p N
  · exact conn31 l Z a0 hw p c sg hc hsg h0 n0 s_h0 n_p N
  · exact conn32 l Z a0 hw p c sg hc hsg h0 n0 s_h0 n_p N
  · exact conn33 l Z a0 hw p c sg hc hsg h0 n0 s_h0 n_p N
  · exact conn34 l Z a0 hw p c sg hc hsg h0 n0 s_h0 n_p N
  · exact conn35 l Z a0 hw p c sg hc hsg h0 n0 s_h0 n_p N
  · exact conn40 l Z a0 hw p c sg hc hsg h0 n0 s_h0 n_p N
  · exact conn41 l Z a0 hw p c sg hc hsg h0 n0 s_h0 n_p N
  · exact conn42 l Z a0 hw p c sg hc hsg h0 n0 s_h0 n_p N
  · exact conn43 l Z a0 hw p c sg hc hsg h0 n0 s_h0 n_p N
  · exact conn44 l Z a0 hw p c sg hc hsg h0 n0 s_h0 n_p N
  · exact conn45 l Z a0 hw p c sg hc hsg h0 n0 s_h0 n_p N
  · exact conn50 l Z a0 hw p c sg hc hsg h0 n0 s_h0 n_p N
  · exact conn51 l Z a0 hw p c sg hc hsg h0 n0 s_h0 n_p N
  · exact conn52 l Z a0 hw p c sg hc hsg h0 n0 s_h0 n_p N
  · exact conn53 l Z a0 hw p c sg hc hsg h0 n0 s_h0 n_p N
  · exact conn54 l Z a0 hw p c sg hc hsg h0 n0 s_h0 n_p N
  · exact conn55 l Z a0 hw p c sg hc hsg h0 n0 s_h0 n_p N
theorem do_0 : decode prog_160_method_7_code 0 = .ok (.aload_n 0, 1) := by decide +kernel
theorem do_1 : decode prog_160_method_7_code 1 = .ok (.getfield 11, 3) := by decide +kernel
theorem do_4 : decode prog_160_method_7_code 4 = .ok (.iconst 2, 1) := by decide +kernel
theorem do_5 : decode prog_160_method_7_code 5 = .ok (.if_icmp .eq 11, 3) := by decide +kernel
theorem do_8 : decode prog_160_method_7_code 8 = .ok (.aload_n 0, 1) := by decide +kernel
theorem do_9 : decode prog_160_method_7_code 9 = .ok (.getfield 11, 3) := by decide +kernel
theorem do_12 : decode prog_160_method_7_code 12 = .ok (.iconst 3, 1) := by decide +kernel
theorem do_13 : decode prog_160_method_7_code 13 = .ok (.if_icmp .ne 7, 3) := by decide +kernel
theorem do_16 : decode prog_160_method_7_code 16 = .ok (.iconst 1, 1) := by decide +kernel
theorem do_17 : decode prog_160_method_7_code 17 = .ok (.goto 4, 3) := by decide +kernel
theorem do_20 : decode prog_160_method_7_code 20 = .ok (.iconst 0, 1) := by decide +kernel
theorem do_21 : decode prog_160_method_7_code 21 = .ok (.istore_n 1, 1) := by decide +kernel
theorem do_22 : decode prog_160_method_7_code 22 = .ok (.aload_n 0, 1) := by decide +kernel
theorem do_23 : decode prog_160_method_7_code 23 = .ok (.getfield 11, 3) := by decide +kernel
theorem do_26 : decode prog_160_method_7_code 26 = .ok (.ifCond .eq 11, 3) := by decide +kernel
theorem do_29 : decode prog_160_method_7_code 29 = .ok (.aload_n 0, 1) := by decide +kernel
theorem do_30 : decode prog_160_method_7_code 30 = .ok (.getfield 11, 3) := by decide +kernel
theorem do_33 : decode prog_160_method_7_code 33 = .ok (.iconst 4, 1) := by decide +kernel
theorem do_34 : decode prog_160_method_7_code 34 = .ok (.if_icmp .ne 8, 3) := by decide +kernel
theorem do_37 : decode prog_160_method_7_code 37 = .ok (.iconst 1, 1) := by decide +kernel
theorem do_38 : decode prog_160_method_7_code 38 = .ok (.istore_n 2, 1) := by decide +kernel
theorem do_39 : decode prog_160_method_7_code 39 = .ok (.goto 40, 3) := by decide +kernel
theorem do_42 : decode prog_160_method_7_code 42 = .ok (.iload_n 1, 1) := by decide +kernel
theorem do_43 : decode prog_160_method_7_code 43 = .ok (.ifCond .eq 18, 3) := by decide +kernel
theorem do_46 : decode prog_160_method_7_code 46 = .ok (.aload_n 0, 1) := by decide +kernel
theorem do_47 : decode prog_160_method_7_code 47 = .ok (.getfield 22, 3) := by decide +kernel
theorem do_50 : decode prog_160_method_7_code 50 = .ok (.sipush 800, 3) := by decide +kernel
theorem do_53 : decode prog_160_method_7_code 53 = .ok (.if_icmp .ne 8, 3) := by decide +kernel
theorem do_61 : decode prog_160_method_7_code 61 = .ok (.iload_n 1, 1) := by decide +kernel
theorem do_62 : decode prog_160_method_7_code 62 = .ok (.ifCond .eq 15, 3) := by decide +kernel
theorem do_65 : decode prog_160_method_7_code 65 = .ok (.aload_n 0, 1) := by decide +kernel
theorem do_66 : decode prog_160_method_7_code 66 = .ok (.getfield 22, 3) := by decide +kernel
theorem do_69 : decode prog_160_method_7_code 69 = .ok (.ifCond .ne 8, 3) := by decide +kernel
theorem do_72 : decode prog_160_method_7_code 72 = .ok (.iconst 3, 1) := by decide +kernel
theorem do_73 : decode prog_160_method_7_code 73 = .ok (.istore_n 2, 1) := by decide +kernel
theorem do_74 : decode prog_160_method_7_code 74 = .ok (.goto 5, 3) := by decide +kernel
theorem do_77 : decode prog_160_method_7_code 77 = .ok (.iconst 0, 1) := by decide +kernel
theorem do_78 : decode prog_160_method_7_code 78 = .ok (.istore_n 2, 1) := by decide +kernel
theorem do_79 : decode prog_160_method_7_code 79 = .ok (.iload_n 2, 1) := by decide +kernel
theorem do_80 : decode prog_160_method_7_code 80 = .ok (.ireturn, 1) := by decide +kernel
theorem pno : plainFor (⟨"com/example/caddisfly/caddisfly/XpathNumbers$Numeral", "steadyIn", "()I"⟩ : MethodName) = true := plainFor_of_name (show plainName "com/example/caddisfly/caddisfly/XpathNumbers$Numeral" = true by first | (simp [plainName, overriddenIn]; done) | decide +kernel)
theorem pdo : parseMethodDescriptor "()I" = some ⟨[], some .int⟩ := by decide +kernel
abbrev Wo (l : Launch) (Z : State) (n0 : Nat) (P : Option Value → Heap → Prop) (G : Prop) (s : State) := Wk l Z ({ frames := 0, cells := 0, slots := 0, locals := 0 } : Room) (⟨"com/example/caddisfly/caddisfly/XpathNumbers$Numeral", "steadyIn", "()I"⟩ : MethodName) prog_160_method_7_code 3 (some .int) n0 (Ex s ({ frames := 0, cells := 0, slots := 0, locals := 0 } : Room) n0 P G) s
set_option maxRecDepth 65536 in
set_option maxHeartbeats 40000000 in
theorem cono (l : Launch) (Z : State) (a0 : Array Value) (hw : ∀ d ∈ tables_1, d.before a0 Z = true) (p : Nat) (st sg : Nat) (hst : st ≤ 5) (hsg : sg < 18) (h0 : Heap) (n0 : Nat) (N : NS Z h0 p st sg) : Con l Z (⟨"com/example/caddisfly/caddisfly/XpathNumbers$Numeral", "steadyIn", "()I"⟩ : MethodName) prog_160_method_7_code 3 (some .int) ({ frames := 0, cells := 0, slots := 0, locals := 0 } : Room) #[.ref p] h0 n0 (QB (i32 (steadyN st sg)) h0) := by
  refine Con.of pno (Ls := #[.val (.ref p), .unset, .unset]) (fun m => by first | (simp [entryFrame, mkF, argsToLocals, Value.category]; done) | rfl) ?_
  intro G s k
  obtain ⟨E, F1, F2, ⟨ex, F3⟩, ⟨ld, F4⟩, ⟨ad, F5⟩, ⟨ng, F6⟩⟩ := N
  rcases (show st = 0 ∨ st = 1 ∨ st = 2 ∨ st = 3 ∨ st = 4 ∨ st = 5 by omega) with rfl | rfl | rfl | rfl | rfl | rfl
  · have F1 : Fld Z h0 p "com/example/caddisfly/caddisfly/XpathNumbers$Numeral" "stage" "I" (.int (0 : Int32)) := F1
    have k : Wo l Z n0 (QB (i32 (steadyN 0 sg)) h0) G s h0 0 0 8 #[.val (.ref p), .unset, .unset] [] := (((k.aloadN do_0 rfl rfl).getF (hw _ (List.mem_of_getElem? (i := 21) rfl)) F1 do_1).iconst (2) do_4 rfl).icF do_5 (XT.ii_eq_f (by decide))
    have k : Wo l Z n0 (QB (i32 (steadyN 0 sg)) h0) G s h0 0 0 20 #[.val (.ref p), .unset, .unset] [] := (((k.aloadN do_8 rfl rfl).getF (hw _ (List.mem_of_getElem? (i := 21) rfl)) F1 do_9).iconst (3) do_12 rfl).icT (pc' := 20) do_13 (XT.ii_ne_t (by decide)) (by decide)
    have k : Wo l Z n0 (QB (i32 (steadyN 0 sg)) h0) G s h0 0 0 37 #[.val (.ref p), .val (.int (0 : Int32)), .unset] [] := ((((k.iconst (0) do_20 rfl).istoreN do_21 (Ls' := #[.val (.ref p), .val (.int (0 : Int32)), .unset]) rfl).aloadN do_22 rfl rfl).getF (hw _ (List.mem_of_getElem? (i := 21) rfl)) F1 do_23).ifT (pc' := 37) do_26 (XT.i0_eq_t (by decide)) (by decide)
    have k : Wo l Z n0 (QB (i32 (steadyN 0 sg)) h0) G s h0 0 0 79 #[.val (.ref p), .val (.int (0 : Int32)), .val (.int (1 : Int32))] [] := ((k.iconst (1) do_37 rfl).istoreN do_38 (Ls' := #[.val (.ref p), .val (.int (0 : Int32)), .val (.int (1 : Int32))]) rfl).goto (pc' := 79) do_39 (by decide)
    have k : Wo l Z n0 (QB (i32 (steadyN 0 sg)) h0) G s h0 0 0 80 #[.val (.ref p), .val (.int (0 : Int32)), .val (.int (1 : Int32))] [(.int (1 : Int32))] := k.iloadN do_79 rfl
    exact k.outI do_80 (by decide) (by decide) ⟨rfl, rfl⟩
  · have F1 : Fld Z h0 p "com/example/caddisfly/caddisfly/XpathNumbers$Numeral" "stage" "I" (.int (1 : Int32)) := F1
    have k : Wo l Z n0 (QB (i32 (steadyN 1 sg)) h0) G s h0 0 0 8 #[.val (.ref p), .unset, .unset] [] := (((k.aloadN do_0 rfl rfl).getF (hw _ (List.mem_of_getElem? (i := 21) rfl)) F1 do_1).iconst (2) do_4 rfl).icF do_5 (XT.ii_eq_f (by decide))
    have k : Wo l Z n0 (QB (i32 (steadyN 1 sg)) h0) G s h0 0 0 20 #[.val (.ref p), .unset, .unset] [] := (((k.aloadN do_8 rfl rfl).getF (hw _ (List.mem_of_getElem? (i := 21) rfl)) F1 do_9).iconst (3) do_12 rfl).icT (pc' := 20) do_13 (XT.ii_ne_t (by decide)) (by decide)
    have k : Wo l Z n0 (QB (i32 (steadyN 1 sg)) h0) G s h0 0 0 29 #[.val (.ref p), .val (.int (0 : Int32)), .unset] [] := ((((k.iconst (0) do_20 rfl).istoreN do_21 (Ls' := #[.val (.ref p), .val (.int (0 : Int32)), .unset]) rfl).aloadN do_22 rfl rfl).getF (hw _ (List.mem_of_getElem? (i := 21) rfl)) F1 do_23).ifF do_26 (XT.i0_eq_f (by decide))
    have k : Wo l Z n0 (QB (i32 (steadyN 1 sg)) h0) G s h0 0 0 42 #[.val (.ref p), .val (.int (0 : Int32)), .unset] [] := (((k.aloadN do_29 rfl rfl).getF (hw _ (List.mem_of_getElem? (i := 21) rfl)) F1 do_30).iconst (4) do_33 rfl).icT (pc' := 42) do_34 (XT.ii_ne_t (by decide)) (by decide)
    have k : Wo l Z n0 (QB (i32 (steadyN 1 sg)) h0) G s h0 0 0 61 #[.val (.ref p), .val (.int (0 : Int32)), .unset] [] := (k.iloadN do_42 rfl).ifT (pc' := 61) do_43 (XT.i0_eq_t (by decide)) (by decide)
    have k : Wo l Z n0 (QB (i32 (steadyN 1 sg)) h0) G s h0 0 0 77 #[.val (.ref p), .val (.int (0 : Int32)), .unset] [] := (k.iloadN do_61 rfl).ifT (pc' := 77) do_62 (XT.i0_eq_t (by decide)) (by decide)
    have k : Wo l Z n0 (QB (i32 (steadyN 1 sg)) h0) G s h0 0 0 80 #[.val (.ref p), .val (.int (0 : Int32)), .val (.int (0 : Int32))] [(.int (0 : Int32))] := ((k.iconst (0) do_77 rfl).istoreN do_78 (Ls' := #[.val (.ref p), .val (.int (0 : Int32)), .val (.int (0 : Int32))]) rfl).iloadN do_79 rfl
    exact k.outI do_80 (by decide) (by decide) ⟨rfl, rfl⟩
  · have F1 : Fld Z h0 p "com/example/caddisfly/caddisfly/XpathNumbers$Numeral" "stage" "I" (.int (2 : Int32)) := F1
    have k : Wo l Z n0 (QB (i32 (steadyN 2 sg)) h0) G s h0 0 0 16 #[.val (.ref p), .unset, .unset] [] := (((k.aloadN do_0 rfl rfl).getF (hw _ (List.mem_of_getElem? (i := 21) rfl)) F1 do_1).iconst (2) do_4 rfl).icT (pc' := 16) do_5 (XT.ii_eq_t (by decide)) (by decide)
    have k : Wo l Z n0 (QB (i32 (steadyN 2 sg)) h0) G s h0 0 0 21 #[.val (.ref p), .unset, .unset] [(.int (1 : Int32))] := (k.iconst (1) do_16 rfl).goto (pc' := 21) do_17 (by decide)
    have k : Wo l Z n0 (QB (i32 (steadyN 2 sg)) h0) G s h0 0 0 29 #[.val (.ref p), .val (.int (1 : Int32)), .unset] [] := (((k.istoreN do_21 (Ls' := #[.val (.ref p), .val (.int (1 : Int32)), .unset]) rfl).aloadN do_22 rfl rfl).getF (hw _ (List.mem_of_getElem? (i := 21) rfl)) F1 do_23).ifF do_26 (XT.i0_eq_f (by decide))
    have k : Wo l Z n0 (QB (i32 (steadyN 2 sg)) h0) G s h0 0 0 42 #[.val (.ref p), .val (.int (1 : Int32)), .unset] [] := (((k.aloadN do_29 rfl rfl).getF (hw _ (List.mem_of_getElem? (i := 21) rfl)) F1 do_30).iconst (4) do_33 rfl).icT (pc' := 42) do_34 (XT.ii_ne_t (by decide)) (by decide)
    have k : Wo l Z n0 (QB (i32 (steadyN 2 sg)) h0) G s h0 0 0 46 #[.val (.ref p), .val (.int (1 : Int32)), .unset] [] := (k.iloadN do_42 rfl).ifF do_43 (XT.i0_eq_f (by decide))
    have k : Wo l Z n0 (QB (i32 (steadyN 2 sg)) h0) G s h0 0 0 53 #[.val (.ref p), .val (.int (1 : Int32)), .unset] [(.int (800 : Int32)), (.int (i32 sg))] := ((k.aloadN do_46 rfl rfl).getF (hw _ (List.mem_of_getElem? (i := 60) rfl)) F2 do_47).sipush (800) do_50 rfl
    have k : Wo l Z n0 (QB (i32 (steadyN 2 sg)) h0) G s h0 0 0 61 #[.val (.ref p), .val (.int (1 : Int32)), .unset] [] := k.icT (pc' := 61) do_53 (XT.ii_ne_t (own_ne (b := 800) (by omega) (by omega) (by omega))) (by decide)
    have k : Wo l Z n0 (QB (i32 (steadyN 2 sg)) h0) G s h0 0 0 65 #[.val (.ref p), .val (.int (1 : Int32)), .unset] [] := (k.iloadN do_61 rfl).ifF do_62 (XT.i0_eq_f (by decide))
    have k : Wo l Z n0 (QB (i32 (steadyN 2 sg)) h0) G s h0 0 0 69 #[.val (.ref p), .val (.int (1 : Int32)), .unset] [(.int (i32 sg))] := (k.aloadN do_65 rfl rfl).getF (hw _ (List.mem_of_getElem? (i := 60) rfl)) F2 do_66
    by_cases z : sg = 0
    · have k : Wo l Z n0 (QB (i32 (steadyN 2 sg)) h0) G s h0 0 0 72 #[.val (.ref p), .val (.int (1 : Int32)), .unset] [] := k.ifF do_69 (XT.i0_ne_f (congrArg i32 z))
      have k : Wo l Z n0 (QB (i32 (steadyN 2 sg)) h0) G s h0 0 0 79 #[.val (.ref p), .val (.int (1 : Int32)), .val (.int (3 : Int32))] [] := ((k.iconst (3) do_72 rfl).istoreN do_73 (Ls' := #[.val (.ref p), .val (.int (1 : Int32)), .val (.int (3 : Int32))]) rfl).goto (pc' := 79) do_74 (by decide)
      have k : Wo l Z n0 (QB (i32 (steadyN 2 sg)) h0) G s h0 0 0 80 #[.val (.ref p), .val (.int (1 : Int32)), .val (.int (3 : Int32))] [(.int (3 : Int32))] := k.iloadN do_79 rfl
      exact k.outI do_80 (by decide) (by decide) ⟨rfl, by subst z; rfl⟩
    · have k : Wo l Z n0 (QB (i32 (steadyN 2 sg)) h0) G s h0 0 0 77 #[.val (.ref p), .val (.int (1 : Int32)), .unset] [] := k.ifT (pc' := 77) do_69 (XT.i0_ne_t (own_ne (b := 0) (by omega) (by omega) z)) (by decide)
      have k : Wo l Z n0 (QB (i32 (steadyN 2 sg)) h0) G s h0 0 0 80 #[.val (.ref p), .val (.int (1 : Int32)), .val (.int (0 : Int32))] [(.int (0 : Int32))] := ((k.iconst (0) do_77 rfl).istoreN do_78 (Ls' := #[.val (.ref p), .val (.int (1 : Int32)), .val (.int (0 : Int32))]) rfl).iloadN do_79 rfl
      exact k.outI do_80 (by decide) (by decide) ⟨rfl, own_ans (show steadyN 2 sg = 0 from by unfold steadyN; simp [z])⟩
  · have F1 : Fld Z h0 p "com/example/caddisfly/caddisfly/XpathNumbers$Numeral" "stage" "I" (.int (3 : Int32)) := F1
    have k : Wo l Z n0 (QB (i32 (steadyN 3 sg)) h0) G s h0 0 0 8 #[.val (.ref p), .unset, .unset] [] := (((k.aloadN do_0 rfl rfl).getF (hw _ (List.mem_of_getElem? (i := 21) rfl)) F1 do_1).iconst (2) do_4 rfl).icF do_5 (XT.ii_eq_f (by decide))
    have k : Wo l Z n0 (QB (i32 (steadyN 3 sg)) h0) G s h0 0 0 16 #[.val (.ref p), .unset, .unset] [] := (((k.aloadN do_8 rfl rfl).getF (hw _ (List.mem_of_getElem? (i := 21) rfl)) F1 do_9).iconst (3) do_12 rfl).icF do_13 (XT.ii_ne_f (by decide))
    have k : Wo l Z n0 (QB (i32 (steadyN 3 sg)) h0) G s h0 0 0 21 #[.val (.ref p), .unset, .unset] [(.int (1 : Int32))] := (k.iconst (1) do_16 rfl).goto (pc' := 21) do_17 (by decide)
    have k : Wo l Z n0 (QB (i32 (steadyN 3 sg)) h0) G s h0 0 0 29 #[.val (.ref p), .val (.int (1 : Int32)), .unset] [] := (((k.istoreN do_21 (Ls' := #[.val (.ref p), .val (.int (1 : Int32)), .unset]) rfl).aloadN do_22 rfl rfl).getF (hw _ (List.mem_of_getElem? (i := 21) rfl)) F1 do_23).ifF do_26 (XT.i0_eq_f (by decide))
    have k : Wo l Z n0 (QB (i32 (steadyN 3 sg)) h0) G s h0 0 0 42 #[.val (.ref p), .val (.int (1 : Int32)), .unset] [] := (((k.aloadN do_29 rfl rfl).getF (hw _ (List.mem_of_getElem? (i := 21) rfl)) F1 do_30).iconst (4) do_33 rfl).icT (pc' := 42) do_34 (XT.ii_ne_t (by decide)) (by decide)
    have k : Wo l Z n0 (QB (i32 (steadyN 3 sg)) h0) G s h0 0 0 46 #[.val (.ref p), .val (.int (1 : Int32)), .unset] [] := (k.iloadN do_42 rfl).ifF do_43 (XT.i0_eq_f (by decide))
    have k : Wo l Z n0 (QB (i32 (steadyN 3 sg)) h0) G s h0 0 0 53 #[.val (.ref p), .val (.int (1 : Int32)), .unset] [(.int (800 : Int32)), (.int (i32 sg))] := ((k.aloadN do_46 rfl rfl).getF (hw _ (List.mem_of_getElem? (i := 60) rfl)) F2 do_47).sipush (800) do_50 rfl
    have k : Wo l Z n0 (QB (i32 (steadyN 3 sg)) h0) G s h0 0 0 61 #[.val (.ref p), .val (.int (1 : Int32)), .unset] [] := k.icT (pc' := 61) do_53 (XT.ii_ne_t (own_ne (b := 800) (by omega) (by omega) (by omega))) (by decide)
    have k : Wo l Z n0 (QB (i32 (steadyN 3 sg)) h0) G s h0 0 0 65 #[.val (.ref p), .val (.int (1 : Int32)), .unset] [] := (k.iloadN do_61 rfl).ifF do_62 (XT.i0_eq_f (by decide))
    have k : Wo l Z n0 (QB (i32 (steadyN 3 sg)) h0) G s h0 0 0 69 #[.val (.ref p), .val (.int (1 : Int32)), .unset] [(.int (i32 sg))] := (k.aloadN do_65 rfl rfl).getF (hw _ (List.mem_of_getElem? (i := 60) rfl)) F2 do_66
    by_cases z : sg = 0
    · have k : Wo l Z n0 (QB (i32 (steadyN 3 sg)) h0) G s h0 0 0 72 #[.val (.ref p), .val (.int (1 : Int32)), .unset] [] := k.ifF do_69 (XT.i0_ne_f (congrArg i32 z))
      have k : Wo l Z n0 (QB (i32 (steadyN 3 sg)) h0) G s h0 0 0 79 #[.val (.ref p), .val (.int (1 : Int32)), .val (.int (3 : Int32))] [] := ((k.iconst (3) do_72 rfl).istoreN do_73 (Ls' := #[.val (.ref p), .val (.int (1 : Int32)), .val (.int (3 : Int32))]) rfl).goto (pc' := 79) do_74 (by decide)
      have k : Wo l Z n0 (QB (i32 (steadyN 3 sg)) h0) G s h0 0 0 80 #[.val (.ref p), .val (.int (1 : Int32)), .val (.int (3 : Int32))] [(.int (3 : Int32))] := k.iloadN do_79 rfl
      exact k.outI do_80 (by decide) (by decide) ⟨rfl, by subst z; rfl⟩
    · have k : Wo l Z n0 (QB (i32 (steadyN 3 sg)) h0) G s h0 0 0 77 #[.val (.ref p), .val (.int (1 : Int32)), .unset] [] := k.ifT (pc' := 77) do_69 (XT.i0_ne_t (own_ne (b := 0) (by omega) (by omega) z)) (by decide)
      have k : Wo l Z n0 (QB (i32 (steadyN 3 sg)) h0) G s h0 0 0 80 #[.val (.ref p), .val (.int (1 : Int32)), .val (.int (0 : Int32))] [(.int (0 : Int32))] := ((k.iconst (0) do_77 rfl).istoreN do_78 (Ls' := #[.val (.ref p), .val (.int (1 : Int32)), .val (.int (0 : Int32))]) rfl).iloadN do_79 rfl
      exact k.outI do_80 (by decide) (by decide) ⟨rfl, own_ans (show steadyN 3 sg = 0 from by unfold steadyN; simp [z])⟩
  · have F1 : Fld Z h0 p "com/example/caddisfly/caddisfly/XpathNumbers$Numeral" "stage" "I" (.int (4 : Int32)) := F1
    have k : Wo l Z n0 (QB (i32 (steadyN 4 sg)) h0) G s h0 0 0 8 #[.val (.ref p), .unset, .unset] [] := (((k.aloadN do_0 rfl rfl).getF (hw _ (List.mem_of_getElem? (i := 21) rfl)) F1 do_1).iconst (2) do_4 rfl).icF do_5 (XT.ii_eq_f (by decide))
    have k : Wo l Z n0 (QB (i32 (steadyN 4 sg)) h0) G s h0 0 0 20 #[.val (.ref p), .unset, .unset] [] := (((k.aloadN do_8 rfl rfl).getF (hw _ (List.mem_of_getElem? (i := 21) rfl)) F1 do_9).iconst (3) do_12 rfl).icT (pc' := 20) do_13 (XT.ii_ne_t (by decide)) (by decide)
    have k : Wo l Z n0 (QB (i32 (steadyN 4 sg)) h0) G s h0 0 0 29 #[.val (.ref p), .val (.int (0 : Int32)), .unset] [] := ((((k.iconst (0) do_20 rfl).istoreN do_21 (Ls' := #[.val (.ref p), .val (.int (0 : Int32)), .unset]) rfl).aloadN do_22 rfl rfl).getF (hw _ (List.mem_of_getElem? (i := 21) rfl)) F1 do_23).ifF do_26 (XT.i0_eq_f (by decide))
    have k : Wo l Z n0 (QB (i32 (steadyN 4 sg)) h0) G s h0 0 0 37 #[.val (.ref p), .val (.int (0 : Int32)), .unset] [] := (((k.aloadN do_29 rfl rfl).getF (hw _ (List.mem_of_getElem? (i := 21) rfl)) F1 do_30).iconst (4) do_33 rfl).icF do_34 (XT.ii_ne_f (by decide))
    have k : Wo l Z n0 (QB (i32 (steadyN 4 sg)) h0) G s h0 0 0 79 #[.val (.ref p), .val (.int (0 : Int32)), .val (.int (1 : Int32))] [] := ((k.iconst (1) do_37 rfl).istoreN do_38 (Ls' := #[.val (.ref p), .val (.int (0 : Int32)), .val (.int (1 : Int32))]) rfl).goto (pc' := 79) do_39 (by decide)
    have k : Wo l Z n0 (QB (i32 (steadyN 4 sg)) h0) G s h0 0 0 80 #[.val (.ref p), .val (.int (0 : Int32)), .val (.int (1 : Int32))] [(.int (1 : Int32))] := k.iloadN do_79 rfl
    exact k.outI do_80 (by decide) (by decide) ⟨rfl, rfl⟩
  · have F1 : Fld Z h0 p "com/example/caddisfly/caddisfly/XpathNumbers$Numeral" "stage" "I" (.int (5 : Int32)) := F1
    have k : Wo l Z n0 (QB (i32 (steadyN 5 sg)) h0) G s h0 0 0 8 #[.val (.ref p), .unset, .unset] [] := (((k.aloadN do_0 rfl rfl).getF (hw _ (List.mem_of_getElem? (i := 21) rfl)) F1 do_1).iconst (2) do_4 rfl).icF do_5 (XT.ii_eq_f (by decide))
    have k : Wo l Z n0 (QB (i32 (steadyN 5 sg)) h0) G s h0 0 0 20 #[.val (.ref p), .unset, .unset] [] := (((k.aloadN do_8 rfl rfl).getF (hw _ (List.mem_of_getElem? (i := 21) rfl)) F1 do_9).iconst (3) do_12 rfl).icT (pc' := 20) do_13 (XT.ii_ne_t (by decide)) (by decide)
    have k : Wo l Z n0 (QB (i32 (steadyN 5 sg)) h0) G s h0 0 0 29 #[.val (.ref p), .val (.int (0 : Int32)), .unset] [] := ((((k.iconst (0) do_20 rfl).istoreN do_21 (Ls' := #[.val (.ref p), .val (.int (0 : Int32)), .unset]) rfl).aloadN do_22 rfl rfl).getF (hw _ (List.mem_of_getElem? (i := 21) rfl)) F1 do_23).ifF do_26 (XT.i0_eq_f (by decide))
    have k : Wo l Z n0 (QB (i32 (steadyN 5 sg)) h0) G s h0 0 0 42 #[.val (.ref p), .val (.int (0 : Int32)), .unset] [] := (((k.aloadN do_29 rfl rfl).getF (hw _ (List.mem_of_getElem? (i := 21) rfl)) F1 do_30).iconst (4) do_33 rfl).icT (pc' := 42) do_34 (XT.ii_ne_t (by decide)) (by decide)
    have k : Wo l Z n0 (QB (i32 (steadyN 5 sg)) h0) G s h0 0 0 61 #[.val (.ref p), .val (.int (0 : Int32)), .unset] [] := (k.iloadN do_42 rfl).ifT (pc' := 61) do_43 (XT.i0_eq_t (by decide)) (by decide)
    have k : Wo l Z n0 (QB (i32 (steadyN 5 sg)) h0) G s h0 0 0 77 #[.val (.ref p), .val (.int (0 : Int32)), .unset] [] := (k.iloadN do_61 rfl).ifT (pc' := 77) do_62 (XT.i0_eq_t (by decide)) (by decide)
    have k : Wo l Z n0 (QB (i32 (steadyN 5 sg)) h0) G s h0 0 0 80 #[.val (.ref p), .val (.int (0 : Int32)), .val (.int (0 : Int32))] [(.int (0 : Int32))] := ((k.iconst (0) do_77 rfl).istoreN do_78 (Ls' := #[.val (.ref p), .val (.int (0 : Int32)), .val (.int (0 : Int32))]) rfl).iloadN do_79 rfl
    exact k.outI do_80 (by decide) (by decide) ⟨rfl, rfl⟩
theorem pn0 : plainFor x = true := plainFor_of_name (show plainName "com/example/caddisfly/caddisfly/NumeralSteadyInPinLaw" = true by first | (simp [plainName, overriddenIn]; done) | decide +kernel)
abbrev W0 (l : Launch) (Z : State) (n0 : Nat) (P : Option Value → Heap → Prop) (G : Prop) (s : State) := Wk l Z room_1 x code maxLocals ret n0 (Ex s room_1 n0 P G) s
abbrev Q0 : Option Value → Heap → Prop := fun v h => v = some (.int 1)
set_option maxRecDepth 65536 in
set_option maxHeartbeats 40000000 in
theorem con0 (l : Launch) (Z : State) (a0 : Array Value) (hw : ∀ d ∈ tables_1, d.before a0 Z = true) (p0 p1 p2 p3 p4 : Int32) (h0 : Heap) (n0 : Nat) (Z0 : n0 ≤ h0.size) : Con l Z x code maxLocals ret room_1 #[.int p0, .int p1, .int p2, .int p3, .int p4] h0 n0 Q0 := by
  refine Con.of pn0 (Ls := #[.val (.int p0), .val (.int p1), .val (.int p2), .val (.int p3), .val (.int p4), .unset, .unset, .unset, .unset, .unset, .unset, .unset, .unset]) (fun m => by first | (simp [entryFrame, mkF, argsToLocals, Value.category, maxLocals]; done) | rfl) ?_
  intro G s k
  have k : W0 l Z n0 Q0 G s h0 0 0 7 #[.val (.int p0), .val (.int p1), .val (.int p2), .val (.int p3), .val (.int p4), .unset, .unset, .unset, .unset, .unset, .unset, .unset, .unset] [(.int ((p4 &&& (2147483647 : Int32)) % (5 : Int32)))] := ((((k.iload at_0 rfl).ldc (hw _ (List.mem_of_getElem? (i := 0) rfl)) at_2).iand at_4).iconst (5) at_5 rfl).irem at_6 (by decide)
  obtain ⟨n, hn⟩ : ∃ z : Int32, z = (p4 &&& (2147483647 : Int32)) % (5 : Int32) := ⟨_, rfl⟩
  rw [← hn] at k
  have c5 : n = 0 ∨ n = 1 ∨ n = 2 ∨ n = 3 ∨ n = 4 := by rw [hn]; exact own_rem5 p4
  have k : W0 l Z n0 Q0 G s h0 0 0 10 #[.val (.int p0), .val (.int p1), .val (.int p2), .val (.int p3), .val (.int p4), .val (.int n), .unset, .unset, .unset, .unset, .unset, .unset, .unset] [(.int p0)] := (k.istore at_7 (Ls' := #[.val (.int p0), .val (.int p1), .val (.int p2), .val (.int p3), .val (.int p4), .val (.int n), .unset, .unset, .unset, .unset, .unset, .unset, .unset]) rfl).iloadN at_9 rfl
  obtain ⟨v115, h115, ⟨rfl, r115, rfl⟩, k⟩ := k.callS (hw _ (List.mem_of_getElem? (i := 1) rfl)) (hw _ (List.mem_of_getElem? (i := 2) rfl)) (hw _ (List.mem_of_getElem? (i := 3) rfl)) (hw _ (List.mem_of_getElem? (i := 4) rfl)) (by decide) (conc l Z a0 hw p0 h0 n0) (argsL := [(.int p0)]) (rest := []) (lenOf pdc rfl) at_10 rfl rfl 0 (Nat.le_of_eq rfl) (by decide) (by decide) (by decide) (by decide)
  have k : W0 l Z n0 Q0 G s h0 0 0 13 #[.val (.int p0), .val (.int p1), .val (.int p2), .val (.int p3), .val (.int p4), .val (.int n), .unset, .unset, .unset, .unset, .unset, .unset, .unset] [(.int r115)] := k
  have k : W0 l Z n0 Q0 G s h0 0 0 16 #[.val (.int p0), .val (.int p1), .val (.int p2), .val (.int p3), .val (.int p4), .val (.int n), .val (.int r115), .unset, .unset, .unset, .unset, .unset, .unset] [(.int p1)] := (k.istore at_13 (Ls' := #[.val (.int p0), .val (.int p1), .val (.int p2), .val (.int p3), .val (.int p4), .val (.int n), .val (.int r115), .unset, .unset, .unset, .unset, .unset, .unset]) rfl).iloadN at_15 rfl
  obtain ⟨v116, h116, ⟨rfl, r116, rfl⟩, k⟩ := k.callS (hw _ (List.mem_of_getElem? (i := 1) rfl)) (hw _ (List.mem_of_getElem? (i := 2) rfl)) (hw _ (List.mem_of_getElem? (i := 3) rfl)) (hw _ (List.mem_of_getElem? (i := 4) rfl)) (by decide) (conc l Z a0 hw p1 h0 n0) (argsL := [(.int p1)]) (rest := []) (lenOf pdc rfl) at_16 rfl rfl 0 (Nat.le_of_eq rfl) (by decide) (by decide) (by decide) (by decide)
  have k : W0 l Z n0 Q0 G s h0 0 0 19 #[.val (.int p0), .val (.int p1), .val (.int p2), .val (.int p3), .val (.int p4), .val (.int n), .val (.int r115), .unset, .unset, .unset, .unset, .unset, .unset] [(.int r116)] := k
  have k : W0 l Z n0 Q0 G s h0 0 0 22 #[.val (.int p0), .val (.int p1), .val (.int p2), .val (.int p3), .val (.int p4), .val (.int n), .val (.int r115), .val (.int r116), .unset, .unset, .unset, .unset, .unset] [(.int p2)] := (k.istore at_19 (Ls' := #[.val (.int p0), .val (.int p1), .val (.int p2), .val (.int p3), .val (.int p4), .val (.int n), .val (.int r115), .val (.int r116), .unset, .unset, .unset, .unset, .unset]) rfl).iloadN at_21 rfl
  obtain ⟨v117, h117, ⟨rfl, r117, rfl⟩, k⟩ := k.callS (hw _ (List.mem_of_getElem? (i := 1) rfl)) (hw _ (List.mem_of_getElem? (i := 2) rfl)) (hw _ (List.mem_of_getElem? (i := 3) rfl)) (hw _ (List.mem_of_getElem? (i := 4) rfl)) (by decide) (conc l Z a0 hw p2 h0 n0) (argsL := [(.int p2)]) (rest := []) (lenOf pdc rfl) at_22 rfl rfl 0 (Nat.le_of_eq rfl) (by decide) (by decide) (by decide) (by decide)
  have k : W0 l Z n0 Q0 G s h0 0 0 25 #[.val (.int p0), .val (.int p1), .val (.int p2), .val (.int p3), .val (.int p4), .val (.int n), .val (.int r115), .val (.int r116), .unset, .unset, .unset, .unset, .unset] [(.int r117)] := k
  have k : W0 l Z n0 Q0 G s h0 0 0 28 #[.val (.int p0), .val (.int p1), .val (.int p2), .val (.int p3), .val (.int p4), .val (.int n), .val (.int r115), .val (.int r116), .val (.int r117), .unset, .unset, .unset, .unset] [(.int p3)] := (k.istore at_25 (Ls' := #[.val (.int p0), .val (.int p1), .val (.int p2), .val (.int p3), .val (.int p4), .val (.int n), .val (.int r115), .val (.int r116), .val (.int r117), .unset, .unset, .unset, .unset]) rfl).iloadN at_27 rfl
  obtain ⟨v118, h118, ⟨rfl, r118, rfl⟩, k⟩ := k.callS (hw _ (List.mem_of_getElem? (i := 1) rfl)) (hw _ (List.mem_of_getElem? (i := 2) rfl)) (hw _ (List.mem_of_getElem? (i := 3) rfl)) (hw _ (List.mem_of_getElem? (i := 4) rfl)) (by decide) (conc l Z a0 hw p3 h0 n0) (argsL := [(.int p3)]) (rest := []) (lenOf pdc rfl) at_28 rfl rfl 0 (Nat.le_of_eq rfl) (by decide) (by decide) (by decide) (by decide)
  have k : W0 l Z n0 Q0 G s h0 0 0 31 #[.val (.int p0), .val (.int p1), .val (.int p2), .val (.int p3), .val (.int p4), .val (.int n), .val (.int r115), .val (.int r116), .val (.int r117), .unset, .unset, .unset, .unset] [(.int r118)] := k
  have k : W0 l Z n0 Q0 G s h0 0 0 34 #[.val (.int p0), .val (.int p1), .val (.int p2), .val (.int p3), .val (.int p4), .val (.int n), .val (.int r115), .val (.int r116), .val (.int r117), .val (.int r118), .unset, .unset, .unset] [(.int (5 : Int32))] := (k.istore at_31 (Ls' := #[.val (.int p0), .val (.int p1), .val (.int p2), .val (.int p3), .val (.int p4), .val (.int n), .val (.int r115), .val (.int r116), .val (.int r117), .val (.int r118), .unset, .unset, .unset]) rfl).iconst (5) at_33 rfl
  rcases c5 with rfl | rfl | rfl | rfl | rfl
  · have k : W0 l Z n0 Q0 G s h0 0 0 34 #[.val (.int p0), .val (.int p1), .val (.int p2), .val (.int p3), .val (.int p4), .val (.int (0 : Int32)), .val (.int r115), .val (.int r116), .val (.int r117), .val (.int r118), .unset, .unset, .unset] [(.int (5 : Int32))] := k
    obtain ⟨h119, K119, A119, k⟩ := k.newA (hw _ (List.mem_of_getElem? (i := 5) rfl)) at_34 5 rfl (by decide) (by decide) (by decide) (by decide)
    obtain ⟨a119, ea119⟩ : ∃ z, z = h0.size := ⟨_, rfl⟩
    rw [← ea119] at A119 k
    have n_a119 : n0 ≤ a119 := by omega
    have A119 : AV Z h119 a119 .int [(.int (0 : Int32)), (.int (0 : Int32)), (.int (0 : Int32)), (.int (0 : Int32)), (.int (0 : Int32))] := A119
    have s_h119 : n0 ≤ h119.size := Nat.le_trans (by omega) K119.1
    have k : W0 l Z n0 Q0 G s h119 1 5 36 #[.val (.int p0), .val (.int p1), .val (.int p2), .val (.int p3), .val (.int p4), .val (.int (0 : Int32)), .val (.int r115), .val (.int r116), .val (.int r117), .val (.int r118), .unset, .unset, .unset] [(.ref a119)] := k
    have k : W0 l Z n0 Q0 G s h119 1 5 54 #[.val (.int p0), .val (.int p1), .val (.int p2), .val (.int p3), .val (.int p4), .val (.int (0 : Int32)), .val (.int r115), .val (.int r116), .val (.int r117), .val (.int r118), .val (.ref a119), .unset, .unset] [(.int (0 : Int32)), (.ref a119)] := ((((k.astore at_36 rfl (Ls' := #[.val (.int p0), .val (.int p1), .val (.int p2), .val (.int p3), .val (.int p4), .val (.int (0 : Int32)), .val (.int r115), .val (.int r116), .val (.int r117), .val (.int r118), .val (.ref a119), .unset, .unset]) rfl).aload at_38 rfl rfl).iconst (0) at_40 rfl).iload at_41 rfl).ifT (pc' := 54) at_43 (XT.i0_le_t (by decide)) (by decide)
    have k : W0 l Z n0 Q0 G s h119 1 5 56 #[.val (.int p0), .val (.int p1), .val (.int p2), .val (.int p3), .val (.int p4), .val (.int (0 : Int32)), .val (.int r115), .val (.int r116), .val (.int r117), .val (.int r118), .val (.ref a119), .unset, .unset] [(.int (6 : Int32)), (.int (0 : Int32)), (.ref a119)] := k.bipush (6) at_54 rfl
    obtain ⟨h120, K120, A119', k⟩ := k.stI A119 0 rfl (by decide) (by simp) n_a119 at_56
    have A119 : AV Z h120 a119 .int [(.int (6 : Int32)), (.int (0 : Int32)), (.int (0 : Int32)), (.int (0 : Int32)), (.int (0 : Int32))] := A119'
    have s_h120 : n0 ≤ h120.size := Nat.le_trans (by omega) K120.1
    have k : W0 l Z n0 Q0 G s h120 1 5 57 #[.val (.int p0), .val (.int p1), .val (.int p2), .val (.int p3), .val (.int p4), .val (.int (0 : Int32)), .val (.int r115), .val (.int r116), .val (.int r117), .val (.int r118), .val (.ref a119), .unset, .unset] [] := k
    have k : W0 l Z n0 Q0 G s h120 1 5 74 #[.val (.int p0), .val (.int p1), .val (.int p2), .val (.int p3), .val (.int p4), .val (.int (0 : Int32)), .val (.int r115), .val (.int r116), .val (.int r117), .val (.int r118), .val (.ref a119), .unset, .unset] [(.int (1 : Int32)), (.ref a119)] := ((((k.aload at_57 rfl rfl).iconst (1) at_59 rfl).iload at_60 rfl).iconst (1) at_62 rfl).icT (pc' := 74) at_63 (XT.ii_le_t (by decide)) (by decide)
    have k : W0 l Z n0 Q0 G s h120 1 5 76 #[.val (.int p0), .val (.int p1), .val (.int p2), .val (.int p3), .val (.int p4), .val (.int (0 : Int32)), .val (.int r115), .val (.int r116), .val (.int r117), .val (.int r118), .val (.ref a119), .unset, .unset] [(.int (6 : Int32)), (.int (1 : Int32)), (.ref a119)] := k.bipush (6) at_74 rfl
    obtain ⟨h121, K121, A119', k⟩ := k.stI A119 1 rfl (by decide) (by simp) n_a119 at_76
    have A119 : AV Z h121 a119 .int [(.int (6 : Int32)), (.int (6 : Int32)), (.int (0 : Int32)), (.int (0 : Int32)), (.int (0 : Int32))] := A119'
    have s_h121 : n0 ≤ h121.size := Nat.le_trans (by omega) K121.1
    have k : W0 l Z n0 Q0 G s h121 1 5 77 #[.val (.int p0), .val (.int p1), .val (.int p2), .val (.int p3), .val (.int p4), .val (.int (0 : Int32)), .val (.int r115), .val (.int r116), .val (.int r117), .val (.int r118), .val (.ref a119), .unset, .unset] [] := k
    have k : W0 l Z n0 Q0 G s h121 1 5 94 #[.val (.int p0), .val (.int p1), .val (.int p2), .val (.int p3), .val (.int p4), .val (.int (0 : Int32)), .val (.int r115), .val (.int r116), .val (.int r117), .val (.int r118), .val (.ref a119), .unset, .unset] [(.int (2 : Int32)), (.ref a119)] := ((((k.aload at_77 rfl rfl).iconst (2) at_79 rfl).iload at_80 rfl).iconst (2) at_82 rfl).icT (pc' := 94) at_83 (XT.ii_le_t (by decide)) (by decide)
    have k : W0 l Z n0 Q0 G s h121 1 5 96 #[.val (.int p0), .val (.int p1), .val (.int p2), .val (.int p3), .val (.int p4), .val (.int (0 : Int32)), .val (.int r115), .val (.int r116), .val (.int r117), .val (.int r118), .val (.ref a119), .unset, .unset] [(.int (6 : Int32)), (.int (2 : Int32)), (.ref a119)] := k.bipush (6) at_94 rfl
    obtain ⟨h122, K122, A119', k⟩ := k.stI A119 2 rfl (by decide) (by simp) n_a119 at_96
    have A119 : AV Z h122 a119 .int [(.int (6 : Int32)), (.int (6 : Int32)), (.int (6 : Int32)), (.int (0 : Int32)), (.int (0 : Int32))] := A119'
    have s_h122 : n0 ≤ h122.size := Nat.le_trans (by omega) K122.1
    have k : W0 l Z n0 Q0 G s h122 1 5 97 #[.val (.int p0), .val (.int p1), .val (.int p2), .val (.int p3), .val (.int p4), .val (.int (0 : Int32)), .val (.int r115), .val (.int r116), .val (.int r117), .val (.int r118), .val (.ref a119), .unset, .unset] [] := k
    have k : W0 l Z n0 Q0 G s h122 1 5 114 #[.val (.int p0), .val (.int p1), .val (.int p2), .val (.int p3), .val (.int p4), .val (.int (0 : Int32)), .val (.int r115), .val (.int r116), .val (.int r117), .val (.int r118), .val (.ref a119), .unset, .unset] [(.int (3 : Int32)), (.ref a119)] := ((((k.aload at_97 rfl rfl).iconst (3) at_99 rfl).iload at_100 rfl).iconst (3) at_102 rfl).icT (pc' := 114) at_103 (XT.ii_le_t (by decide)) (by decide)
    have k : W0 l Z n0 Q0 G s h122 1 5 116 #[.val (.int p0), .val (.int p1), .val (.int p2), .val (.int p3), .val (.int p4), .val (.int (0 : Int32)), .val (.int r115), .val (.int r116), .val (.int r117), .val (.int r118), .val (.ref a119), .unset, .unset] [(.int (6 : Int32)), (.int (3 : Int32)), (.ref a119)] := k.bipush (6) at_114 rfl
    obtain ⟨h123, K123, A119', k⟩ := k.stI A119 3 rfl (by decide) (by simp) n_a119 at_116
    have A119 : AV Z h123 a119 .int [(.int (6 : Int32)), (.int (6 : Int32)), (.int (6 : Int32)), (.int (6 : Int32)), (.int (0 : Int32))] := A119'
    have s_h123 : n0 ≤ h123.size := Nat.le_trans (by omega) K123.1
    have k : W0 l Z n0 Q0 G s h123 1 5 117 #[.val (.int p0), .val (.int p1), .val (.int p2), .val (.int p3), .val (.int p4), .val (.int (0 : Int32)), .val (.int r115), .val (.int r116), .val (.int r117), .val (.int r118), .val (.ref a119), .unset, .unset] [] := k
    have k : W0 l Z n0 Q0 G s h123 1 5 122 #[.val (.int p0), .val (.int p1), .val (.int p2), .val (.int p3), .val (.int p4), .val (.int (0 : Int32)), .val (.int r115), .val (.int r116), .val (.int r117), .val (.int r118), .val (.ref a119), .unset, .unset] [(.int (6 : Int32)), (.int (4 : Int32)), (.ref a119)] := ((k.aload at_117 rfl rfl).iconst (4) at_119 rfl).bipush (6) at_120 rfl
    obtain ⟨h124, K124, A119', k⟩ := k.stI A119 4 rfl (by decide) (by simp) n_a119 at_122
    have A119 : AV Z h124 a119 .int [(.int (6 : Int32)), (.int (6 : Int32)), (.int (6 : Int32)), (.int (6 : Int32)), (.int (6 : Int32))] := A119'
    have s_h124 : n0 ≤ h124.size := Nat.le_trans (by omega) K124.1
    have k : W0 l Z n0 Q0 G s h124 1 5 123 #[.val (.int p0), .val (.int p1), .val (.int p2), .val (.int p3), .val (.int p4), .val (.int (0 : Int32)), .val (.int r115), .val (.int r116), .val (.int r117), .val (.int r118), .val (.ref a119), .unset, .unset] [] := k
    have k : W0 l Z n0 Q0 G s h124 1 5 125 #[.val (.int p0), .val (.int p1), .val (.int p2), .val (.int p3), .val (.int p4), .val (.int (0 : Int32)), .val (.int r115), .val (.int r116), .val (.int r117), .val (.int r118), .val (.ref a119), .unset, .unset] [(.ref a119)] := k.aload at_123 rfl rfl
    have A : AV Z h124 a119 .int (vk [6, 6, 6, 6, 6]) := A119
    obtain ⟨v125, h125, ⟨rfl, rfl⟩, k⟩ := k.callS (hw _ (List.mem_of_getElem? (i := 6) rfl)) (hw _ (List.mem_of_getElem? (i := 7) rfl)) (hw _ (List.mem_of_getElem? (i := 3) rfl)) (hw _ (List.mem_of_getElem? (i := 8) rfl)) (by decide) (conh l Z a0 hw a119 [6, 6, 6, 6, 6] rfl (by intro d hd; simp at hd; omega) rfl h124 n0 A) (argsL := [(.ref a119)]) (rest := []) (lenOf pdh rfl) at_125 rfl rfl 0 (Nat.le_of_eq rfl) (by decide) (by decide) (by decide) (by decide)
    have k : W0 l Z n0 Q0 G s h124 1 5 128 #[.val (.int p0), .val (.int p1), .val (.int p2), .val (.int p3), .val (.int p4), .val (.int (0 : Int32)), .val (.int r115), .val (.int r116), .val (.int r117), .val (.int r118), .val (.ref a119), .unset, .unset] [(.int (i32 (expN [6, 6, 6, 6, 6])))] := k
    have k : W0 l Z n0 Q0 G s h124 1 5 130 #[.val (.int p0), .val (.int p1), .val (.int p2), .val (.int p3), .val (.int p4), .val (.int (0 : Int32)), .val (.int r115), .val (.int r116), .val (.int r117), .val (.int r118), .val (.ref a119), .val (.int (i32 (expN [6, 6, 6, 6, 6]))), .unset] [] := k.istore at_128 (Ls' := #[.val (.int p0), .val (.int p1), .val (.int p2), .val (.int p3), .val (.int p4), .val (.int (0 : Int32)), .val (.int r115), .val (.int r116), .val (.int r117), .val (.int r118), .val (.ref a119), .val (.int (i32 (expN [6, 6, 6, 6, 6]))), .unset]) rfl
    obtain ⟨h126, K126, E126, D126, k⟩ := k.newO (hw _ (List.mem_of_getElem? (i := 12) rfl)) (hw _ (List.mem_of_getElem? (i := 13) rfl)) (hw _ (List.mem_of_getElem? (i := 14) rfl)) at_130 (by decide) (by decide)
    obtain ⟨a126, ea126⟩ : ∃ z, z = h124.size := ⟨_, rfl⟩
    rw [← ea126] at E126 D126 k
    have n_a126 : n0 ≤ a126 := by omega
    have F126_stage : Fld Z h126 a126 "com/example/caddisfly/caddisfly/XpathNumbers$Numeral" "stage" "I" (.int (0 : Int32)) := D126 (Or.inl (hw _ (List.mem_of_getElem? (i := 22) rfl))) (ty := .int) (by decide)
    have F126_anyDigit : Fld Z h126 a126 "com/example/caddisfly/caddisfly/XpathNumbers$Numeral" "anyDigit" "Z" (.int (0 : Int32)) := D126 (Or.inl (hw _ (List.mem_of_getElem? (i := 59) rfl))) (ty := .boolean) (by decide)
    have F126_significant : Fld Z h126 a126 "com/example/caddisfly/caddisfly/XpathNumbers$Numeral" "significant" "I" (.int (0 : Int32)) := D126 (Or.inl (hw _ (List.mem_of_getElem? (i := 61) rfl))) (ty := .int) (by decide)
    have F126_exponent : Fld Z h126 a126 "com/example/caddisfly/caddisfly/XpathNumbers$Numeral" "exponent" "J" (.long (0 : Int64)) := D126 (Or.inl (hw _ (List.mem_of_getElem? (i := 63) rfl))) (ty := .long) (by decide)
    have F126_leading : Fld Z h126 a126 "com/example/caddisfly/caddisfly/XpathNumbers$Numeral" "leading" "J" (.long (0 : Int64)) := D126 (Or.inl (hw _ (List.mem_of_getElem? (i := 65) rfl))) (ty := .long) (by decide)
    have F126_negative : Fld Z h126 a126 "com/example/caddisfly/caddisfly/XpathNumbers$Numeral" "negative" "Z" (.int (0 : Int32)) := D126 (Or.inl (hw _ (List.mem_of_getElem? (i := 68) rfl))) (ty := .boolean) (by decide)
    have F126_more : Fld Z h126 a126 "com/example/caddisfly/caddisfly/XpathNumbers$Numeral" "more" "Ljava/lang/StringBuilder;" .null := D126 (Or.inl (hw _ (List.mem_of_getElem? (i := 70) rfl))) (ty := (.object "java/lang/StringBuilder")) (by decide)
    have F126_droppedNonZero : Fld Z h126 a126 "com/example/caddisfly/caddisfly/XpathNumbers$Numeral" "droppedNonZero" "Z" (.int (0 : Int32)) := D126 (Or.inl (hw _ (List.mem_of_getElem? (i := 72) rfl))) (ty := .boolean) (by decide)
    have s_h126 : n0 ≤ h126.size := Nat.le_trans (by omega) K126.1
    have k : W0 l Z n0 Q0 G s h126 2 13 133 #[.val (.int p0), .val (.int p1), .val (.int p2), .val (.int p3), .val (.int p4), .val (.int (0 : Int32)), .val (.int r115), .val (.int r116), .val (.int r117), .val (.int r118), .val (.ref a119), .val (.int (i32 (expN [6, 6, 6, 6, 6]))), .unset] [(.ref a126)] := k
    have k : W0 l Z n0 Q0 G s h126 2 13 134 #[.val (.int p0), .val (.int p1), .val (.int p2), .val (.int p3), .val (.int p4), .val (.int (0 : Int32)), .val (.int r115), .val (.int r116), .val (.int r117), .val (.int r118), .val (.ref a119), .val (.int (i32 (expN [6, 6, 6, 6, 6]))), .unset] [(.ref a126), (.ref a126)] := k.dup at_133 rfl
    have N : NS Z h126 a126 0 0 := ⟨E126, F126_stage, F126_significant, ⟨_, F126_exponent⟩, ⟨_, F126_leading⟩, ⟨_, F126_anyDigit⟩, ⟨_, F126_negative⟩⟩
    obtain ⟨v127, h127, ⟨rfl, K127, N127⟩, k⟩ := k.callN rfl (hw _ (List.mem_of_getElem? (i := 15) rfl)) (hw _ (List.mem_of_getElem? (i := 16) rfl)) (hw _ (List.mem_of_getElem? (i := 14) rfl)) (hw _ (List.mem_of_getElem? (i := 17) rfl)) (by decide) (coni l Z a0 hw a126 h126 n0 (by omega) n_a126 N) (argsL := []) (rest := [(.ref a126)]) (lenOf pdi rfl) at_134 rfl rfl 1 (Nat.le_of_eq rfl) (by decide) (by decide) (by decide) (by decide)
    have s_h127 : n0 ≤ h127.size := Nat.le_trans (by omega) K127.1
    have k : W0 l Z n0 Q0 G s h127 2 13 137 #[.val (.int p0), .val (.int p1), .val (.int p2), .val (.int p3), .val (.int p4), .val (.int (0 : Int32)), .val (.int r115), .val (.int r116), .val (.int r117), .val (.int r118), .val (.ref a119), .val (.int (i32 (expN [6, 6, 6, 6, 6]))), .unset] [(.ref a126)] := k
    have k : W0 l Z n0 Q0 G s h127 2 13 151 #[.val (.int p0), .val (.int p1), .val (.int p2), .val (.int p3), .val (.int p4), .val (.int (0 : Int32)), .val (.int r115), .val (.int r116), .val (.int r117), .val (.int r118), .val (.ref a119), .val (.int (i32 (expN [6, 6, 6, 6, 6]))), .val (.ref a126)] [] := ((k.astore at_137 rfl (Ls' := #[.val (.int p0), .val (.int p1), .val (.int p2), .val (.int p3), .val (.int p4), .val (.int (0 : Int32)), .val (.int r115), .val (.int r116), .val (.int r117), .val (.int r118), .val (.ref a119), .val (.int (i32 (expN [6, 6, 6, 6, 6]))), .val (.ref a126)]) rfl).iload at_139 rfl).ifT (pc' := 151) at_141 (XT.i0_le_t (by decide)) (by decide)
    have k : W0 l Z n0 Q0 G s h127 2 13 164 #[.val (.int p0), .val (.int p1), .val (.int p2), .val (.int p3), .val (.int p4), .val (.int (0 : Int32)), .val (.int r115), .val (.int r116), .val (.int r117), .val (.int r118), .val (.ref a119), .val (.int (i32 (expN [6, 6, 6, 6, 6]))), .val (.ref a126)] [] := ((k.iload at_151 rfl).iconst (1) at_153 rfl).icT (pc' := 164) at_154 (XT.ii_le_t (by decide)) (by decide)
    have k : W0 l Z n0 Q0 G s h127 2 13 177 #[.val (.int p0), .val (.int p1), .val (.int p2), .val (.int p3), .val (.int p4), .val (.int (0 : Int32)), .val (.int r115), .val (.int r116), .val (.int r117), .val (.int r118), .val (.ref a119), .val (.int (i32 (expN [6, 6, 6, 6, 6]))), .val (.ref a126)] [] := ((k.iload at_164 rfl).iconst (2) at_166 rfl).icT (pc' := 177) at_167 (XT.ii_le_t (by decide)) (by decide)
    have k : W0 l Z n0 Q0 G s h127 2 13 190 #[.val (.int p0), .val (.int p1), .val (.int p2), .val (.int p3), .val (.int p4), .val (.int (0 : Int32)), .val (.int r115), .val (.int r116), .val (.int r117), .val (.int r118), .val (.ref a119), .val (.int (i32 (expN [6, 6, 6, 6, 6]))), .val (.ref a126)] [] := ((k.iload at_177 rfl).iconst (3) at_179 rfl).icT (pc' := 190) at_180 (XT.ii_le_t (by decide)) (by decide)
    have k : W0 l Z n0 Q0 G s h127 2 13 192 #[.val (.int p0), .val (.int p1), .val (.int p2), .val (.int p3), .val (.int p4), .val (.int (0 : Int32)), .val (.int r115), .val (.int r116), .val (.int r117), .val (.int r118), .val (.ref a119), .val (.int (i32 (expN [6, 6, 6, 6, 6]))), .val (.ref a126)] [(.ref a126)] := k.aload at_190 rfl rfl
    have bs : (0 : Nat) ≤ 5 := by omega
    have bg : (0 : Nat) ≤ 0 := by omega
    obtain ⟨v128, h128, ⟨rfl, rfl⟩, k⟩ := k.callV (hw _ (List.mem_of_getElem? (i := 23) rfl)) (hw _ (List.mem_of_getElem? (i := 24) rfl)) (hw _ (List.mem_of_getElem? (i := 25) rfl)) (hw _ (List.mem_of_getElem? (i := 26) rfl)) rfl (hw _ (List.mem_of_getElem? (i := 14) rfl)) (hw _ (List.mem_of_getElem? (i := 27) rfl)) (by decide) N127.1 (cono l Z a0 hw a126 0 0 bs (by omega) h127 n0 N127) (argsL := []) (rest := []) (lenOf pdo rfl) at_192 rfl rfl 0 (Nat.le_of_eq rfl) (by decide) (by decide) (by decide) (by decide)
    have k : W0 l Z n0 Q0 G s h127 2 13 195 #[.val (.int p0), .val (.int p1), .val (.int p2), .val (.int p3), .val (.int p4), .val (.int (0 : Int32)), .val (.int r115), .val (.int r116), .val (.int r117), .val (.int r118), .val (.ref a119), .val (.int (i32 (expN [6, 6, 6, 6, 6]))), .val (.ref a126)] [(.int (i32 (steadyN 0 0)))] := k
    have k : W0 l Z n0 Q0 G s h127 2 13 197 #[.val (.int p0), .val (.int p1), .val (.int p2), .val (.int p3), .val (.int p4), .val (.int (0 : Int32)), .val (.int r115), .val (.int r116), .val (.int r117), .val (.int r118), .val (.ref a119), .val (.int (i32 (expN [6, 6, 6, 6, 6]))), .val (.ref a126)] [(.int (i32 (expN [6, 6, 6, 6, 6]))), (.int (i32 (steadyN 0 0)))] := k.iload at_195 rfl
    have k : W0 l Z n0 Q0 G s h127 2 13 200 #[.val (.int p0), .val (.int p1), .val (.int p2), .val (.int p3), .val (.int p4), .val (.int (0 : Int32)), .val (.int r115), .val (.int r116), .val (.int r117), .val (.int r118), .val (.ref a119), .val (.int (i32 (expN [6, 6, 6, 6, 6]))), .val (.ref a126)] [] := k.icF at_197 (XT.ii_ne_f (congrArg i32 (own_fin0 )))
    have k : W0 l Z n0 Q0 G s h127 2 13 205 #[.val (.int p0), .val (.int p1), .val (.int p2), .val (.int p3), .val (.int p4), .val (.int (0 : Int32)), .val (.int r115), .val (.int r116), .val (.int r117), .val (.int r118), .val (.ref a119), .val (.int (i32 (expN [6, 6, 6, 6, 6]))), .val (.ref a126)] [(.int (1 : Int32))] := (k.iconst (1) at_200 rfl).goto (pc' := 205) at_201 (by decide)
    exact k.outZ (Or.inr rfl) at_205 (by decide) (by decide) rfl
  · have k : W0 l Z n0 Q0 G s h0 0 0 34 #[.val (.int p0), .val (.int p1), .val (.int p2), .val (.int p3), .val (.int p4), .val (.int (1 : Int32)), .val (.int r115), .val (.int r116), .val (.int r117), .val (.int r118), .unset, .unset, .unset] [(.int (5 : Int32))] := k
    obtain ⟨h129, K129, A129, k⟩ := k.newA (hw _ (List.mem_of_getElem? (i := 5) rfl)) at_34 5 rfl (by decide) (by decide) (by decide) (by decide)
    obtain ⟨a129, ea129⟩ : ∃ z, z = h0.size := ⟨_, rfl⟩
    rw [← ea129] at A129 k
    have n_a129 : n0 ≤ a129 := by omega
    have A129 : AV Z h129 a129 .int [(.int (0 : Int32)), (.int (0 : Int32)), (.int (0 : Int32)), (.int (0 : Int32)), (.int (0 : Int32))] := A129
    have s_h129 : n0 ≤ h129.size := Nat.le_trans (by omega) K129.1
    have k : W0 l Z n0 Q0 G s h129 1 5 36 #[.val (.int p0), .val (.int p1), .val (.int p2), .val (.int p3), .val (.int p4), .val (.int (1 : Int32)), .val (.int r115), .val (.int r116), .val (.int r117), .val (.int r118), .unset, .unset, .unset] [(.ref a129)] := k
    have k : W0 l Z n0 Q0 G s h129 1 5 46 #[.val (.int p0), .val (.int p1), .val (.int p2), .val (.int p3), .val (.int p4), .val (.int (1 : Int32)), .val (.int r115), .val (.int r116), .val (.int r117), .val (.int r118), .val (.ref a129), .unset, .unset] [(.int (0 : Int32)), (.ref a129)] := ((((k.astore at_36 rfl (Ls' := #[.val (.int p0), .val (.int p1), .val (.int p2), .val (.int p3), .val (.int p4), .val (.int (1 : Int32)), .val (.int r115), .val (.int r116), .val (.int r117), .val (.int r118), .val (.ref a129), .unset, .unset]) rfl).aload at_38 rfl rfl).iconst (0) at_40 rfl).iload at_41 rfl).ifF at_43 (XT.i0_le_f (by decide))
    have k : W0 l Z n0 Q0 G s h129 1 5 48 #[.val (.int p0), .val (.int p1), .val (.int p2), .val (.int p3), .val (.int p4), .val (.int (1 : Int32)), .val (.int r115), .val (.int r116), .val (.int r117), .val (.int r118), .val (.ref a129), .unset, .unset] [(.int r115), (.int (0 : Int32)), (.ref a129)] := k.iload at_46 rfl
    obtain ⟨v130, h130, ⟨rfl, d130, rfl, hd130⟩, k⟩ := k.callS (hw _ (List.mem_of_getElem? (i := 29) rfl)) (hw _ (List.mem_of_getElem? (i := 30) rfl)) (hw _ (List.mem_of_getElem? (i := 3) rfl)) (hw _ (List.mem_of_getElem? (i := 31) rfl)) (by decide) (cond l Z a0 hw r115 h129 n0) (argsL := [(.int r115)]) (rest := [(.int (0 : Int32)), (.ref a129)]) (lenOf pdd rfl) at_48 rfl rfl 2 (Nat.le_of_eq rfl) (by decide) (by decide) (by decide) (by decide)
    have k : W0 l Z n0 Q0 G s h129 1 5 51 #[.val (.int p0), .val (.int p1), .val (.int p2), .val (.int p3), .val (.int p4), .val (.int (1 : Int32)), .val (.int r115), .val (.int r116), .val (.int r117), .val (.int r118), .val (.ref a129), .unset, .unset] [(.int (i32 d130)), (.int (0 : Int32)), (.ref a129)] := k
    have k : W0 l Z n0 Q0 G s h129 1 5 56 #[.val (.int p0), .val (.int p1), .val (.int p2), .val (.int p3), .val (.int p4), .val (.int (1 : Int32)), .val (.int r115), .val (.int r116), .val (.int r117), .val (.int r118), .val (.ref a129), .unset, .unset] [(.int (i32 d130)), (.int (0 : Int32)), (.ref a129)] := k.goto (pc' := 56) at_51 (by decide)
    obtain ⟨h131, K131, A129', k⟩ := k.stI A129 0 rfl (by decide) (by simp) n_a129 at_56
    have A129 : AV Z h131 a129 .int [(.int (i32 d130)), (.int (0 : Int32)), (.int (0 : Int32)), (.int (0 : Int32)), (.int (0 : Int32))] := A129'
    have s_h131 : n0 ≤ h131.size := Nat.le_trans (by omega) K131.1
    have k : W0 l Z n0 Q0 G s h131 1 5 57 #[.val (.int p0), .val (.int p1), .val (.int p2), .val (.int p3), .val (.int p4), .val (.int (1 : Int32)), .val (.int r115), .val (.int r116), .val (.int r117), .val (.int r118), .val (.ref a129), .unset, .unset] [] := k
    have k : W0 l Z n0 Q0 G s h131 1 5 74 #[.val (.int p0), .val (.int p1), .val (.int p2), .val (.int p3), .val (.int p4), .val (.int (1 : Int32)), .val (.int r115), .val (.int r116), .val (.int r117), .val (.int r118), .val (.ref a129), .unset, .unset] [(.int (1 : Int32)), (.ref a129)] := ((((k.aload at_57 rfl rfl).iconst (1) at_59 rfl).iload at_60 rfl).iconst (1) at_62 rfl).icT (pc' := 74) at_63 (XT.ii_le_t (by decide)) (by decide)
    have k : W0 l Z n0 Q0 G s h131 1 5 76 #[.val (.int p0), .val (.int p1), .val (.int p2), .val (.int p3), .val (.int p4), .val (.int (1 : Int32)), .val (.int r115), .val (.int r116), .val (.int r117), .val (.int r118), .val (.ref a129), .unset, .unset] [(.int (6 : Int32)), (.int (1 : Int32)), (.ref a129)] := k.bipush (6) at_74 rfl
    obtain ⟨h132, K132, A129', k⟩ := k.stI A129 1 rfl (by decide) (by simp) n_a129 at_76
    have A129 : AV Z h132 a129 .int [(.int (i32 d130)), (.int (6 : Int32)), (.int (0 : Int32)), (.int (0 : Int32)), (.int (0 : Int32))] := A129'
    have s_h132 : n0 ≤ h132.size := Nat.le_trans (by omega) K132.1
    have k : W0 l Z n0 Q0 G s h132 1 5 77 #[.val (.int p0), .val (.int p1), .val (.int p2), .val (.int p3), .val (.int p4), .val (.int (1 : Int32)), .val (.int r115), .val (.int r116), .val (.int r117), .val (.int r118), .val (.ref a129), .unset, .unset] [] := k
    have k : W0 l Z n0 Q0 G s h132 1 5 94 #[.val (.int p0), .val (.int p1), .val (.int p2), .val (.int p3), .val (.int p4), .val (.int (1 : Int32)), .val (.int r115), .val (.int r116), .val (.int r117), .val (.int r118), .val (.ref a129), .unset, .unset] [(.int (2 : Int32)), (.ref a129)] := ((((k.aload at_77 rfl rfl).iconst (2) at_79 rfl).iload at_80 rfl).iconst (2) at_82 rfl).icT (pc' := 94) at_83 (XT.ii_le_t (by decide)) (by decide)
    have k : W0 l Z n0 Q0 G s h132 1 5 96 #[.val (.int p0), .val (.int p1), .val (.int p2), .val (.int p3), .val (.int p4), .val (.int (1 : Int32)), .val (.int r115), .val (.int r116), .val (.int r117), .val (.int r118), .val (.ref a129), .unset, .unset] [(.int (6 : Int32)), (.int (2 : Int32)), (.ref a129)] := k.bipush (6) at_94 rfl
    obtain ⟨h133, K133, A129', k⟩ := k.stI A129 2 rfl (by decide) (by simp) n_a129 at_96
    have A129 : AV Z h133 a129 .int [(.int (i32 d130)), (.int (6 : Int32)), (.int (6 : Int32)), (.int (0 : Int32)), (.int (0 : Int32))] := A129'
    have s_h133 : n0 ≤ h133.size := Nat.le_trans (by omega) K133.1
    have k : W0 l Z n0 Q0 G s h133 1 5 97 #[.val (.int p0), .val (.int p1), .val (.int p2), .val (.int p3), .val (.int p4), .val (.int (1 : Int32)), .val (.int r115), .val (.int r116), .val (.int r117), .val (.int r118), .val (.ref a129), .unset, .unset] [] := k
    have k : W0 l Z n0 Q0 G s h133 1 5 114 #[.val (.int p0), .val (.int p1), .val (.int p2), .val (.int p3), .val (.int p4), .val (.int (1 : Int32)), .val (.int r115), .val (.int r116), .val (.int r117), .val (.int r118), .val (.ref a129), .unset, .unset] [(.int (3 : Int32)), (.ref a129)] := ((((k.aload at_97 rfl rfl).iconst (3) at_99 rfl).iload at_100 rfl).iconst (3) at_102 rfl).icT (pc' := 114) at_103 (XT.ii_le_t (by decide)) (by decide)
    have k : W0 l Z n0 Q0 G s h133 1 5 116 #[.val (.int p0), .val (.int p1), .val (.int p2), .val (.int p3), .val (.int p4), .val (.int (1 : Int32)), .val (.int r115), .val (.int r116), .val (.int r117), .val (.int r118), .val (.ref a129), .unset, .unset] [(.int (6 : Int32)), (.int (3 : Int32)), (.ref a129)] := k.bipush (6) at_114 rfl
    obtain ⟨h134, K134, A129', k⟩ := k.stI A129 3 rfl (by decide) (by simp) n_a129 at_116
    have A129 : AV Z h134 a129 .int [(.int (i32 d130)), (.int (6 : Int32)), (.int (6 : Int32)), (.int (6 : Int32)), (.int (0 : Int32))] := A129'
    have s_h134 : n0 ≤ h134.size := Nat.le_trans (by omega) K134.1
    have k : W0 l Z n0 Q0 G s h134 1 5 117 #[.val (.int p0), .val (.int p1), .val (.int p2), .val (.int p3), .val (.int p4), .val (.int (1 : Int32)), .val (.int r115), .val (.int r116), .val (.int r117), .val (.int r118), .val (.ref a129), .unset, .unset] [] := k
    have k : W0 l Z n0 Q0 G s h134 1 5 122 #[.val (.int p0), .val (.int p1), .val (.int p2), .val (.int p3), .val (.int p4), .val (.int (1 : Int32)), .val (.int r115), .val (.int r116), .val (.int r117), .val (.int r118), .val (.ref a129), .unset, .unset] [(.int (6 : Int32)), (.int (4 : Int32)), (.ref a129)] := ((k.aload at_117 rfl rfl).iconst (4) at_119 rfl).bipush (6) at_120 rfl
    obtain ⟨h135, K135, A129', k⟩ := k.stI A129 4 rfl (by decide) (by simp) n_a129 at_122
    have A129 : AV Z h135 a129 .int [(.int (i32 d130)), (.int (6 : Int32)), (.int (6 : Int32)), (.int (6 : Int32)), (.int (6 : Int32))] := A129'
    have s_h135 : n0 ≤ h135.size := Nat.le_trans (by omega) K135.1
    have k : W0 l Z n0 Q0 G s h135 1 5 123 #[.val (.int p0), .val (.int p1), .val (.int p2), .val (.int p3), .val (.int p4), .val (.int (1 : Int32)), .val (.int r115), .val (.int r116), .val (.int r117), .val (.int r118), .val (.ref a129), .unset, .unset] [] := k
    have k : W0 l Z n0 Q0 G s h135 1 5 125 #[.val (.int p0), .val (.int p1), .val (.int p2), .val (.int p3), .val (.int p4), .val (.int (1 : Int32)), .val (.int r115), .val (.int r116), .val (.int r117), .val (.int r118), .val (.ref a129), .unset, .unset] [(.ref a129)] := k.aload at_123 rfl rfl
    have l130 := own_cl6 hd130
    have A : AV Z h135 a129 .int (vk [d130, 6, 6, 6, 6]) := A129
    obtain ⟨v136, h136, ⟨rfl, rfl⟩, k⟩ := k.callS (hw _ (List.mem_of_getElem? (i := 6) rfl)) (hw _ (List.mem_of_getElem? (i := 7) rfl)) (hw _ (List.mem_of_getElem? (i := 3) rfl)) (hw _ (List.mem_of_getElem? (i := 8) rfl)) (by decide) (conh l Z a0 hw a129 [d130, 6, 6, 6, 6] rfl (by intro d hd; simp at hd; omega) rfl h135 n0 A) (argsL := [(.ref a129)]) (rest := []) (lenOf pdh rfl) at_125 rfl rfl 0 (Nat.le_of_eq rfl) (by decide) (by decide) (by decide) (by decide)
    have k : W0 l Z n0 Q0 G s h135 1 5 128 #[.val (.int p0), .val (.int p1), .val (.int p2), .val (.int p3), .val (.int p4), .val (.int (1 : Int32)), .val (.int r115), .val (.int r116), .val (.int r117), .val (.int r118), .val (.ref a129), .unset, .unset] [(.int (i32 (expN [d130, 6, 6, 6, 6])))] := k
    have k : W0 l Z n0 Q0 G s h135 1 5 130 #[.val (.int p0), .val (.int p1), .val (.int p2), .val (.int p3), .val (.int p4), .val (.int (1 : Int32)), .val (.int r115), .val (.int r116), .val (.int r117), .val (.int r118), .val (.ref a129), .val (.int (i32 (expN [d130, 6, 6, 6, 6]))), .unset] [] := k.istore at_128 (Ls' := #[.val (.int p0), .val (.int p1), .val (.int p2), .val (.int p3), .val (.int p4), .val (.int (1 : Int32)), .val (.int r115), .val (.int r116), .val (.int r117), .val (.int r118), .val (.ref a129), .val (.int (i32 (expN [d130, 6, 6, 6, 6]))), .unset]) rfl
    obtain ⟨h137, K137, E137, D137, k⟩ := k.newO (hw _ (List.mem_of_getElem? (i := 12) rfl)) (hw _ (List.mem_of_getElem? (i := 13) rfl)) (hw _ (List.mem_of_getElem? (i := 14) rfl)) at_130 (by decide) (by decide)
    obtain ⟨a137, ea137⟩ : ∃ z, z = h135.size := ⟨_, rfl⟩
    rw [← ea137] at E137 D137 k
    have n_a137 : n0 ≤ a137 := by omega
    have F137_stage : Fld Z h137 a137 "com/example/caddisfly/caddisfly/XpathNumbers$Numeral" "stage" "I" (.int (0 : Int32)) := D137 (Or.inl (hw _ (List.mem_of_getElem? (i := 22) rfl))) (ty := .int) (by decide)
    have F137_anyDigit : Fld Z h137 a137 "com/example/caddisfly/caddisfly/XpathNumbers$Numeral" "anyDigit" "Z" (.int (0 : Int32)) := D137 (Or.inl (hw _ (List.mem_of_getElem? (i := 59) rfl))) (ty := .boolean) (by decide)
    have F137_significant : Fld Z h137 a137 "com/example/caddisfly/caddisfly/XpathNumbers$Numeral" "significant" "I" (.int (0 : Int32)) := D137 (Or.inl (hw _ (List.mem_of_getElem? (i := 61) rfl))) (ty := .int) (by decide)
    have F137_exponent : Fld Z h137 a137 "com/example/caddisfly/caddisfly/XpathNumbers$Numeral" "exponent" "J" (.long (0 : Int64)) := D137 (Or.inl (hw _ (List.mem_of_getElem? (i := 63) rfl))) (ty := .long) (by decide)
    have F137_leading : Fld Z h137 a137 "com/example/caddisfly/caddisfly/XpathNumbers$Numeral" "leading" "J" (.long (0 : Int64)) := D137 (Or.inl (hw _ (List.mem_of_getElem? (i := 65) rfl))) (ty := .long) (by decide)
    have F137_negative : Fld Z h137 a137 "com/example/caddisfly/caddisfly/XpathNumbers$Numeral" "negative" "Z" (.int (0 : Int32)) := D137 (Or.inl (hw _ (List.mem_of_getElem? (i := 68) rfl))) (ty := .boolean) (by decide)
    have F137_more : Fld Z h137 a137 "com/example/caddisfly/caddisfly/XpathNumbers$Numeral" "more" "Ljava/lang/StringBuilder;" .null := D137 (Or.inl (hw _ (List.mem_of_getElem? (i := 70) rfl))) (ty := (.object "java/lang/StringBuilder")) (by decide)
    have F137_droppedNonZero : Fld Z h137 a137 "com/example/caddisfly/caddisfly/XpathNumbers$Numeral" "droppedNonZero" "Z" (.int (0 : Int32)) := D137 (Or.inl (hw _ (List.mem_of_getElem? (i := 72) rfl))) (ty := .boolean) (by decide)
    have s_h137 : n0 ≤ h137.size := Nat.le_trans (by omega) K137.1
    have k : W0 l Z n0 Q0 G s h137 2 13 133 #[.val (.int p0), .val (.int p1), .val (.int p2), .val (.int p3), .val (.int p4), .val (.int (1 : Int32)), .val (.int r115), .val (.int r116), .val (.int r117), .val (.int r118), .val (.ref a129), .val (.int (i32 (expN [d130, 6, 6, 6, 6]))), .unset] [(.ref a137)] := k
    have k : W0 l Z n0 Q0 G s h137 2 13 134 #[.val (.int p0), .val (.int p1), .val (.int p2), .val (.int p3), .val (.int p4), .val (.int (1 : Int32)), .val (.int r115), .val (.int r116), .val (.int r117), .val (.int r118), .val (.ref a129), .val (.int (i32 (expN [d130, 6, 6, 6, 6]))), .unset] [(.ref a137), (.ref a137)] := k.dup at_133 rfl
    have N : NS Z h137 a137 0 0 := ⟨E137, F137_stage, F137_significant, ⟨_, F137_exponent⟩, ⟨_, F137_leading⟩, ⟨_, F137_anyDigit⟩, ⟨_, F137_negative⟩⟩
    obtain ⟨v138, h138, ⟨rfl, K138, N138⟩, k⟩ := k.callN rfl (hw _ (List.mem_of_getElem? (i := 15) rfl)) (hw _ (List.mem_of_getElem? (i := 16) rfl)) (hw _ (List.mem_of_getElem? (i := 14) rfl)) (hw _ (List.mem_of_getElem? (i := 17) rfl)) (by decide) (coni l Z a0 hw a137 h137 n0 (by omega) n_a137 N) (argsL := []) (rest := [(.ref a137)]) (lenOf pdi rfl) at_134 rfl rfl 1 (Nat.le_of_eq rfl) (by decide) (by decide) (by decide) (by decide)
    have s_h138 : n0 ≤ h138.size := Nat.le_trans (by omega) K138.1
    have k : W0 l Z n0 Q0 G s h138 2 13 137 #[.val (.int p0), .val (.int p1), .val (.int p2), .val (.int p3), .val (.int p4), .val (.int (1 : Int32)), .val (.int r115), .val (.int r116), .val (.int r117), .val (.int r118), .val (.ref a129), .val (.int (i32 (expN [d130, 6, 6, 6, 6]))), .unset] [(.ref a137)] := k
    have k : W0 l Z n0 Q0 G s h138 2 13 144 #[.val (.int p0), .val (.int p1), .val (.int p2), .val (.int p3), .val (.int p4), .val (.int (1 : Int32)), .val (.int r115), .val (.int r116), .val (.int r117), .val (.int r118), .val (.ref a129), .val (.int (i32 (expN [d130, 6, 6, 6, 6]))), .val (.ref a137)] [] := ((k.astore at_137 rfl (Ls' := #[.val (.int p0), .val (.int p1), .val (.int p2), .val (.int p3), .val (.int p4), .val (.int (1 : Int32)), .val (.int r115), .val (.int r116), .val (.int r117), .val (.int r118), .val (.ref a129), .val (.int (i32 (expN [d130, 6, 6, 6, 6]))), .val (.ref a137)]) rfl).iload at_139 rfl).ifF at_141 (XT.i0_le_f (by decide))
    have k : W0 l Z n0 Q0 G s h138 2 13 148 #[.val (.int p0), .val (.int p1), .val (.int p2), .val (.int p3), .val (.int p4), .val (.int (1 : Int32)), .val (.int r115), .val (.int r116), .val (.int r117), .val (.int r118), .val (.ref a129), .val (.int (i32 (expN [d130, 6, 6, 6, 6]))), .val (.ref a137)] [(.int r115), (.ref a137)] := (k.aload at_144 rfl rfl).iload at_146 rfl
    have bs : (0 : Nat) ≤ 5 := by omega
    have bg : (0 : Nat) ≤ 0 := by omega
    obtain ⟨v139, h139, ⟨rfl, K139, N139⟩, k⟩ := k.callV (hw _ (List.mem_of_getElem? (i := 38) rfl)) (hw _ (List.mem_of_getElem? (i := 39) rfl)) (hw _ (List.mem_of_getElem? (i := 40) rfl)) (hw _ (List.mem_of_getElem? (i := 41) rfl)) rfl (hw _ (List.mem_of_getElem? (i := 14) rfl)) (hw _ (List.mem_of_getElem? (i := 42) rfl)) (by decide) N138.1 (conn l Z a0 hw a137 r115 0 0 d130 bs hd130 (by omega) h138 n0 (by omega) n_a137 N138) (argsL := [(.int r115)]) (rest := []) (lenOf pdn rfl) at_148 rfl rfl 0 (Nat.le_of_eq rfl) (by decide) (by decide) (by decide) (by decide)
    have s_h139 : n0 ≤ h139.size := Nat.le_trans (by omega) K139.1
    have k : W0 l Z n0 Q0 G s h139 2 13 151 #[.val (.int p0), .val (.int p1), .val (.int p2), .val (.int p3), .val (.int p4), .val (.int (1 : Int32)), .val (.int r115), .val (.int r116), .val (.int r117), .val (.int r118), .val (.ref a129), .val (.int (i32 (expN [d130, 6, 6, 6, 6]))), .val (.ref a137)] [] := k
    have bs : stN 0 d130 ≤ 5 := own_st5 bs
    have bg : sgN 0 0 d130 ≤ 1 := Nat.le_trans own_sg (by omega)
    have k : W0 l Z n0 Q0 G s h139 2 13 164 #[.val (.int p0), .val (.int p1), .val (.int p2), .val (.int p3), .val (.int p4), .val (.int (1 : Int32)), .val (.int r115), .val (.int r116), .val (.int r117), .val (.int r118), .val (.ref a129), .val (.int (i32 (expN [d130, 6, 6, 6, 6]))), .val (.ref a137)] [] := ((k.iload at_151 rfl).iconst (1) at_153 rfl).icT (pc' := 164) at_154 (XT.ii_le_t (by decide)) (by decide)
    have k : W0 l Z n0 Q0 G s h139 2 13 177 #[.val (.int p0), .val (.int p1), .val (.int p2), .val (.int p3), .val (.int p4), .val (.int (1 : Int32)), .val (.int r115), .val (.int r116), .val (.int r117), .val (.int r118), .val (.ref a129), .val (.int (i32 (expN [d130, 6, 6, 6, 6]))), .val (.ref a137)] [] := ((k.iload at_164 rfl).iconst (2) at_166 rfl).icT (pc' := 177) at_167 (XT.ii_le_t (by decide)) (by decide)
    have k : W0 l Z n0 Q0 G s h139 2 13 190 #[.val (.int p0), .val (.int p1), .val (.int p2), .val (.int p3), .val (.int p4), .val (.int (1 : Int32)), .val (.int r115), .val (.int r116), .val (.int r117), .val (.int r118), .val (.ref a129), .val (.int (i32 (expN [d130, 6, 6, 6, 6]))), .val (.ref a137)] [] := ((k.iload at_177 rfl).iconst (3) at_179 rfl).icT (pc' := 190) at_180 (XT.ii_le_t (by decide)) (by decide)
    have k : W0 l Z n0 Q0 G s h139 2 13 192 #[.val (.int p0), .val (.int p1), .val (.int p2), .val (.int p3), .val (.int p4), .val (.int (1 : Int32)), .val (.int r115), .val (.int r116), .val (.int r117), .val (.int r118), .val (.ref a129), .val (.int (i32 (expN [d130, 6, 6, 6, 6]))), .val (.ref a137)] [(.ref a137)] := k.aload at_190 rfl rfl
    obtain ⟨v140, h140, ⟨rfl, rfl⟩, k⟩ := k.callV (hw _ (List.mem_of_getElem? (i := 23) rfl)) (hw _ (List.mem_of_getElem? (i := 24) rfl)) (hw _ (List.mem_of_getElem? (i := 25) rfl)) (hw _ (List.mem_of_getElem? (i := 26) rfl)) rfl (hw _ (List.mem_of_getElem? (i := 14) rfl)) (hw _ (List.mem_of_getElem? (i := 27) rfl)) (by decide) N139.1 (cono l Z a0 hw a137 (stN 0 d130) (sgN 0 0 d130) bs (by omega) h139 n0 N139) (argsL := []) (rest := []) (lenOf pdo rfl) at_192 rfl rfl 0 (Nat.le_of_eq rfl) (by decide) (by decide) (by decide) (by decide)
    have k : W0 l Z n0 Q0 G s h139 2 13 195 #[.val (.int p0), .val (.int p1), .val (.int p2), .val (.int p3), .val (.int p4), .val (.int (1 : Int32)), .val (.int r115), .val (.int r116), .val (.int r117), .val (.int r118), .val (.ref a129), .val (.int (i32 (expN [d130, 6, 6, 6, 6]))), .val (.ref a137)] [(.int (i32 (steadyN (stN 0 d130) (sgN 0 0 d130))))] := k
    have k : W0 l Z n0 Q0 G s h139 2 13 197 #[.val (.int p0), .val (.int p1), .val (.int p2), .val (.int p3), .val (.int p4), .val (.int (1 : Int32)), .val (.int r115), .val (.int r116), .val (.int r117), .val (.int r118), .val (.ref a129), .val (.int (i32 (expN [d130, 6, 6, 6, 6]))), .val (.ref a137)] [(.int (i32 (expN [d130, 6, 6, 6, 6]))), (.int (i32 (steadyN (stN 0 d130) (sgN 0 0 d130))))] := k.iload at_195 rfl
    have k : W0 l Z n0 Q0 G s h139 2 13 200 #[.val (.int p0), .val (.int p1), .val (.int p2), .val (.int p3), .val (.int p4), .val (.int (1 : Int32)), .val (.int r115), .val (.int r116), .val (.int r117), .val (.int r118), .val (.ref a129), .val (.int (i32 (expN [d130, 6, 6, 6, 6]))), .val (.ref a137)] [] := k.icF at_197 (XT.ii_ne_f (congrArg i32 (own_fin1 d130 l130)))
    have k : W0 l Z n0 Q0 G s h139 2 13 205 #[.val (.int p0), .val (.int p1), .val (.int p2), .val (.int p3), .val (.int p4), .val (.int (1 : Int32)), .val (.int r115), .val (.int r116), .val (.int r117), .val (.int r118), .val (.ref a129), .val (.int (i32 (expN [d130, 6, 6, 6, 6]))), .val (.ref a137)] [(.int (1 : Int32))] := (k.iconst (1) at_200 rfl).goto (pc' := 205) at_201 (by decide)
    exact k.outZ (Or.inr rfl) at_205 (by decide) (by decide) rfl
  · have k : W0 l Z n0 Q0 G s h0 0 0 34 #[.val (.int p0), .val (.int p1), .val (.int p2), .val (.int p3), .val (.int p4), .val (.int (2 : Int32)), .val (.int r115), .val (.int r116), .val (.int r117), .val (.int r118), .unset, .unset, .unset] [(.int (5 : Int32))] := k
    obtain ⟨h141, K141, A141, k⟩ := k.newA (hw _ (List.mem_of_getElem? (i := 5) rfl)) at_34 5 rfl (by decide) (by decide) (by decide) (by decide)
    obtain ⟨a141, ea141⟩ : ∃ z, z = h0.size := ⟨_, rfl⟩
    rw [← ea141] at A141 k
    have n_a141 : n0 ≤ a141 := by omega
    have A141 : AV Z h141 a141 .int [(.int (0 : Int32)), (.int (0 : Int32)), (.int (0 : Int32)), (.int (0 : Int32)), (.int (0 : Int32))] := A141
    have s_h141 : n0 ≤ h141.size := Nat.le_trans (by omega) K141.1
    have k : W0 l Z n0 Q0 G s h141 1 5 36 #[.val (.int p0), .val (.int p1), .val (.int p2), .val (.int p3), .val (.int p4), .val (.int (2 : Int32)), .val (.int r115), .val (.int r116), .val (.int r117), .val (.int r118), .unset, .unset, .unset] [(.ref a141)] := k
    have k : W0 l Z n0 Q0 G s h141 1 5 46 #[.val (.int p0), .val (.int p1), .val (.int p2), .val (.int p3), .val (.int p4), .val (.int (2 : Int32)), .val (.int r115), .val (.int r116), .val (.int r117), .val (.int r118), .val (.ref a141), .unset, .unset] [(.int (0 : Int32)), (.ref a141)] := ((((k.astore at_36 rfl (Ls' := #[.val (.int p0), .val (.int p1), .val (.int p2), .val (.int p3), .val (.int p4), .val (.int (2 : Int32)), .val (.int r115), .val (.int r116), .val (.int r117), .val (.int r118), .val (.ref a141), .unset, .unset]) rfl).aload at_38 rfl rfl).iconst (0) at_40 rfl).iload at_41 rfl).ifF at_43 (XT.i0_le_f (by decide))
    have k : W0 l Z n0 Q0 G s h141 1 5 48 #[.val (.int p0), .val (.int p1), .val (.int p2), .val (.int p3), .val (.int p4), .val (.int (2 : Int32)), .val (.int r115), .val (.int r116), .val (.int r117), .val (.int r118), .val (.ref a141), .unset, .unset] [(.int r115), (.int (0 : Int32)), (.ref a141)] := k.iload at_46 rfl
    obtain ⟨v142, h142, ⟨rfl, d142, rfl, hd142⟩, k⟩ := k.callS (hw _ (List.mem_of_getElem? (i := 29) rfl)) (hw _ (List.mem_of_getElem? (i := 30) rfl)) (hw _ (List.mem_of_getElem? (i := 3) rfl)) (hw _ (List.mem_of_getElem? (i := 31) rfl)) (by decide) (cond l Z a0 hw r115 h141 n0) (argsL := [(.int r115)]) (rest := [(.int (0 : Int32)), (.ref a141)]) (lenOf pdd rfl) at_48 rfl rfl 2 (Nat.le_of_eq rfl) (by decide) (by decide) (by decide) (by decide)
    have k : W0 l Z n0 Q0 G s h141 1 5 51 #[.val (.int p0), .val (.int p1), .val (.int p2), .val (.int p3), .val (.int p4), .val (.int (2 : Int32)), .val (.int r115), .val (.int r116), .val (.int r117), .val (.int r118), .val (.ref a141), .unset, .unset] [(.int (i32 d142)), (.int (0 : Int32)), (.ref a141)] := k
    have k : W0 l Z n0 Q0 G s h141 1 5 56 #[.val (.int p0), .val (.int p1), .val (.int p2), .val (.int p3), .val (.int p4), .val (.int (2 : Int32)), .val (.int r115), .val (.int r116), .val (.int r117), .val (.int r118), .val (.ref a141), .unset, .unset] [(.int (i32 d142)), (.int (0 : Int32)), (.ref a141)] := k.goto (pc' := 56) at_51 (by decide)
    obtain ⟨h143, K143, A141', k⟩ := k.stI A141 0 rfl (by decide) (by simp) n_a141 at_56
    have A141 : AV Z h143 a141 .int [(.int (i32 d142)), (.int (0 : Int32)), (.int (0 : Int32)), (.int (0 : Int32)), (.int (0 : Int32))] := A141'
    have s_h143 : n0 ≤ h143.size := Nat.le_trans (by omega) K143.1
    have k : W0 l Z n0 Q0 G s h143 1 5 57 #[.val (.int p0), .val (.int p1), .val (.int p2), .val (.int p3), .val (.int p4), .val (.int (2 : Int32)), .val (.int r115), .val (.int r116), .val (.int r117), .val (.int r118), .val (.ref a141), .unset, .unset] [] := k
    have k : W0 l Z n0 Q0 G s h143 1 5 66 #[.val (.int p0), .val (.int p1), .val (.int p2), .val (.int p3), .val (.int p4), .val (.int (2 : Int32)), .val (.int r115), .val (.int r116), .val (.int r117), .val (.int r118), .val (.ref a141), .unset, .unset] [(.int (1 : Int32)), (.ref a141)] := ((((k.aload at_57 rfl rfl).iconst (1) at_59 rfl).iload at_60 rfl).iconst (1) at_62 rfl).icF at_63 (XT.ii_le_f (by decide))
    have k : W0 l Z n0 Q0 G s h143 1 5 68 #[.val (.int p0), .val (.int p1), .val (.int p2), .val (.int p3), .val (.int p4), .val (.int (2 : Int32)), .val (.int r115), .val (.int r116), .val (.int r117), .val (.int r118), .val (.ref a141), .unset, .unset] [(.int r116), (.int (1 : Int32)), (.ref a141)] := k.iload at_66 rfl
    obtain ⟨v144, h144, ⟨rfl, d144, rfl, hd144⟩, k⟩ := k.callS (hw _ (List.mem_of_getElem? (i := 29) rfl)) (hw _ (List.mem_of_getElem? (i := 30) rfl)) (hw _ (List.mem_of_getElem? (i := 3) rfl)) (hw _ (List.mem_of_getElem? (i := 31) rfl)) (by decide) (cond l Z a0 hw r116 h143 n0) (argsL := [(.int r116)]) (rest := [(.int (1 : Int32)), (.ref a141)]) (lenOf pdd rfl) at_68 rfl rfl 2 (Nat.le_of_eq rfl) (by decide) (by decide) (by decide) (by decide)
    have k : W0 l Z n0 Q0 G s h143 1 5 71 #[.val (.int p0), .val (.int p1), .val (.int p2), .val (.int p3), .val (.int p4), .val (.int (2 : Int32)), .val (.int r115), .val (.int r116), .val (.int r117), .val (.int r118), .val (.ref a141), .unset, .unset] [(.int (i32 d144)), (.int (1 : Int32)), (.ref a141)] := k
    have k : W0 l Z n0 Q0 G s h143 1 5 76 #[.val (.int p0), .val (.int p1), .val (.int p2), .val (.int p3), .val (.int p4), .val (.int (2 : Int32)), .val (.int r115), .val (.int r116), .val (.int r117), .val (.int r118), .val (.ref a141), .unset, .unset] [(.int (i32 d144)), (.int (1 : Int32)), (.ref a141)] := k.goto (pc' := 76) at_71 (by decide)
    obtain ⟨h145, K145, A141', k⟩ := k.stI A141 1 rfl (by decide) (by simp) n_a141 at_76
    have A141 : AV Z h145 a141 .int [(.int (i32 d142)), (.int (i32 d144)), (.int (0 : Int32)), (.int (0 : Int32)), (.int (0 : Int32))] := A141'
    have s_h145 : n0 ≤ h145.size := Nat.le_trans (by omega) K145.1
    have k : W0 l Z n0 Q0 G s h145 1 5 77 #[.val (.int p0), .val (.int p1), .val (.int p2), .val (.int p3), .val (.int p4), .val (.int (2 : Int32)), .val (.int r115), .val (.int r116), .val (.int r117), .val (.int r118), .val (.ref a141), .unset, .unset] [] := k
    have k : W0 l Z n0 Q0 G s h145 1 5 94 #[.val (.int p0), .val (.int p1), .val (.int p2), .val (.int p3), .val (.int p4), .val (.int (2 : Int32)), .val (.int r115), .val (.int r116), .val (.int r117), .val (.int r118), .val (.ref a141), .unset, .unset] [(.int (2 : Int32)), (.ref a141)] := ((((k.aload at_77 rfl rfl).iconst (2) at_79 rfl).iload at_80 rfl).iconst (2) at_82 rfl).icT (pc' := 94) at_83 (XT.ii_le_t (by decide)) (by decide)
    have k : W0 l Z n0 Q0 G s h145 1 5 96 #[.val (.int p0), .val (.int p1), .val (.int p2), .val (.int p3), .val (.int p4), .val (.int (2 : Int32)), .val (.int r115), .val (.int r116), .val (.int r117), .val (.int r118), .val (.ref a141), .unset, .unset] [(.int (6 : Int32)), (.int (2 : Int32)), (.ref a141)] := k.bipush (6) at_94 rfl
    obtain ⟨h146, K146, A141', k⟩ := k.stI A141 2 rfl (by decide) (by simp) n_a141 at_96
    have A141 : AV Z h146 a141 .int [(.int (i32 d142)), (.int (i32 d144)), (.int (6 : Int32)), (.int (0 : Int32)), (.int (0 : Int32))] := A141'
    have s_h146 : n0 ≤ h146.size := Nat.le_trans (by omega) K146.1
    have k : W0 l Z n0 Q0 G s h146 1 5 97 #[.val (.int p0), .val (.int p1), .val (.int p2), .val (.int p3), .val (.int p4), .val (.int (2 : Int32)), .val (.int r115), .val (.int r116), .val (.int r117), .val (.int r118), .val (.ref a141), .unset, .unset] [] := k
    have k : W0 l Z n0 Q0 G s h146 1 5 114 #[.val (.int p0), .val (.int p1), .val (.int p2), .val (.int p3), .val (.int p4), .val (.int (2 : Int32)), .val (.int r115), .val (.int r116), .val (.int r117), .val (.int r118), .val (.ref a141), .unset, .unset] [(.int (3 : Int32)), (.ref a141)] := ((((k.aload at_97 rfl rfl).iconst (3) at_99 rfl).iload at_100 rfl).iconst (3) at_102 rfl).icT (pc' := 114) at_103 (XT.ii_le_t (by decide)) (by decide)
    have k : W0 l Z n0 Q0 G s h146 1 5 116 #[.val (.int p0), .val (.int p1), .val (.int p2), .val (.int p3), .val (.int p4), .val (.int (2 : Int32)), .val (.int r115), .val (.int r116), .val (.int r117), .val (.int r118), .val (.ref a141), .unset, .unset] [(.int (6 : Int32)), (.int (3 : Int32)), (.ref a141)] := k.bipush (6) at_114 rfl
    obtain ⟨h147, K147, A141', k⟩ := k.stI A141 3 rfl (by decide) (by simp) n_a141 at_116
    have A141 : AV Z h147 a141 .int [(.int (i32 d142)), (.int (i32 d144)), (.int (6 : Int32)), (.int (6 : Int32)), (.int (0 : Int32))] := A141'
    have s_h147 : n0 ≤ h147.size := Nat.le_trans (by omega) K147.1
    have k : W0 l Z n0 Q0 G s h147 1 5 117 #[.val (.int p0), .val (.int p1), .val (.int p2), .val (.int p3), .val (.int p4), .val (.int (2 : Int32)), .val (.int r115), .val (.int r116), .val (.int r117), .val (.int r118), .val (.ref a141), .unset, .unset] [] := k
    have k : W0 l Z n0 Q0 G s h147 1 5 122 #[.val (.int p0), .val (.int p1), .val (.int p2), .val (.int p3), .val (.int p4), .val (.int (2 : Int32)), .val (.int r115), .val (.int r116), .val (.int r117), .val (.int r118), .val (.ref a141), .unset, .unset] [(.int (6 : Int32)), (.int (4 : Int32)), (.ref a141)] := ((k.aload at_117 rfl rfl).iconst (4) at_119 rfl).bipush (6) at_120 rfl
    obtain ⟨h148, K148, A141', k⟩ := k.stI A141 4 rfl (by decide) (by simp) n_a141 at_122
    have A141 : AV Z h148 a141 .int [(.int (i32 d142)), (.int (i32 d144)), (.int (6 : Int32)), (.int (6 : Int32)), (.int (6 : Int32))] := A141'
    have s_h148 : n0 ≤ h148.size := Nat.le_trans (by omega) K148.1
    have k : W0 l Z n0 Q0 G s h148 1 5 123 #[.val (.int p0), .val (.int p1), .val (.int p2), .val (.int p3), .val (.int p4), .val (.int (2 : Int32)), .val (.int r115), .val (.int r116), .val (.int r117), .val (.int r118), .val (.ref a141), .unset, .unset] [] := k
    have k : W0 l Z n0 Q0 G s h148 1 5 125 #[.val (.int p0), .val (.int p1), .val (.int p2), .val (.int p3), .val (.int p4), .val (.int (2 : Int32)), .val (.int r115), .val (.int r116), .val (.int r117), .val (.int r118), .val (.ref a141), .unset, .unset] [(.ref a141)] := k.aload at_123 rfl rfl
    have l142 := own_cl6 hd142
    have l144 := own_cl6 hd144
    have A : AV Z h148 a141 .int (vk [d142, d144, 6, 6, 6]) := A141
    obtain ⟨v149, h149, ⟨rfl, rfl⟩, k⟩ := k.callS (hw _ (List.mem_of_getElem? (i := 6) rfl)) (hw _ (List.mem_of_getElem? (i := 7) rfl)) (hw _ (List.mem_of_getElem? (i := 3) rfl)) (hw _ (List.mem_of_getElem? (i := 8) rfl)) (by decide) (conh l Z a0 hw a141 [d142, d144, 6, 6, 6] rfl (by intro d hd; simp at hd; omega) rfl h148 n0 A) (argsL := [(.ref a141)]) (rest := []) (lenOf pdh rfl) at_125 rfl rfl 0 (Nat.le_of_eq rfl) (by decide) (by decide) (by decide) (by decide)
    have k : W0 l Z n0 Q0 G s h148 1 5 128 #[.val (.int p0), .val (.int p1), .val (.int p2), .val (.int p3), .val (.int p4), .val (.int (2 : Int32)), .val (.int r115), .val (.int r116), .val (.int r117), .val (.int r118), .val (.ref a141), .unset, .unset] [(.int (i32 (expN [d142, d144, 6, 6, 6])))] := k
    have k : W0 l Z n0 Q0 G s h148 1 5 130 #[.val (.int p0), .val (.int p1), .val (.int p2), .val (.int p3), .val (.int p4), .val (.int (2 : Int32)), .val (.int r115), .val (.int r116), .val (.int r117), .val (.int r118), .val (.ref a141), .val (.int (i32 (expN [d142, d144, 6, 6, 6]))), .unset] [] := k.istore at_128 (Ls' := #[.val (.int p0), .val (.int p1), .val (.int p2), .val (.int p3), .val (.int p4), .val (.int (2 : Int32)), .val (.int r115), .val (.int r116), .val (.int r117), .val (.int r118), .val (.ref a141), .val (.int (i32 (expN [d142, d144, 6, 6, 6]))), .unset]) rfl
    obtain ⟨h150, K150, E150, D150, k⟩ := k.newO (hw _ (List.mem_of_getElem? (i := 12) rfl)) (hw _ (List.mem_of_getElem? (i := 13) rfl)) (hw _ (List.mem_of_getElem? (i := 14) rfl)) at_130 (by decide) (by decide)
    obtain ⟨a150, ea150⟩ : ∃ z, z = h148.size := ⟨_, rfl⟩
    rw [← ea150] at E150 D150 k
    have n_a150 : n0 ≤ a150 := by omega
    have F150_stage : Fld Z h150 a150 "com/example/caddisfly/caddisfly/XpathNumbers$Numeral" "stage" "I" (.int (0 : Int32)) := D150 (Or.inl (hw _ (List.mem_of_getElem? (i := 22) rfl))) (ty := .int) (by decide)
    have F150_anyDigit : Fld Z h150 a150 "com/example/caddisfly/caddisfly/XpathNumbers$Numeral" "anyDigit" "Z" (.int (0 : Int32)) := D150 (Or.inl (hw _ (List.mem_of_getElem? (i := 59) rfl))) (ty := .boolean) (by decide)
    have F150_significant : Fld Z h150 a150 "com/example/caddisfly/caddisfly/XpathNumbers$Numeral" "significant" "I" (.int (0 : Int32)) := D150 (Or.inl (hw _ (List.mem_of_getElem? (i := 61) rfl))) (ty := .int) (by decide)
    have F150_exponent : Fld Z h150 a150 "com/example/caddisfly/caddisfly/XpathNumbers$Numeral" "exponent" "J" (.long (0 : Int64)) := D150 (Or.inl (hw _ (List.mem_of_getElem? (i := 63) rfl))) (ty := .long) (by decide)
    have F150_leading : Fld Z h150 a150 "com/example/caddisfly/caddisfly/XpathNumbers$Numeral" "leading" "J" (.long (0 : Int64)) := D150 (Or.inl (hw _ (List.mem_of_getElem? (i := 65) rfl))) (ty := .long) (by decide)
    have F150_negative : Fld Z h150 a150 "com/example/caddisfly/caddisfly/XpathNumbers$Numeral" "negative" "Z" (.int (0 : Int32)) := D150 (Or.inl (hw _ (List.mem_of_getElem? (i := 68) rfl))) (ty := .boolean) (by decide)
    have F150_more : Fld Z h150 a150 "com/example/caddisfly/caddisfly/XpathNumbers$Numeral" "more" "Ljava/lang/StringBuilder;" .null := D150 (Or.inl (hw _ (List.mem_of_getElem? (i := 70) rfl))) (ty := (.object "java/lang/StringBuilder")) (by decide)
    have F150_droppedNonZero : Fld Z h150 a150 "com/example/caddisfly/caddisfly/XpathNumbers$Numeral" "droppedNonZero" "Z" (.int (0 : Int32)) := D150 (Or.inl (hw _ (List.mem_of_getElem? (i := 72) rfl))) (ty := .boolean) (by decide)
    have s_h150 : n0 ≤ h150.size := Nat.le_trans (by omega) K150.1
    have k : W0 l Z n0 Q0 G s h150 2 13 133 #[.val (.int p0), .val (.int p1), .val (.int p2), .val (.int p3), .val (.int p4), .val (.int (2 : Int32)), .val (.int r115), .val (.int r116), .val (.int r117), .val (.int r118), .val (.ref a141), .val (.int (i32 (expN [d142, d144, 6, 6, 6]))), .unset] [(.ref a150)] := k
    have k : W0 l Z n0 Q0 G s h150 2 13 134 #[.val (.int p0), .val (.int p1), .val (.int p2), .val (.int p3), .val (.int p4), .val (.int (2 : Int32)), .val (.int r115), .val (.int r116), .val (.int r117), .val (.int r118), .val (.ref a141), .val (.int (i32 (expN [d142, d144, 6, 6, 6]))), .unset] [(.ref a150), (.ref a150)] := k.dup at_133 rfl
    have N : NS Z h150 a150 0 0 := ⟨E150, F150_stage, F150_significant, ⟨_, F150_exponent⟩, ⟨_, F150_leading⟩, ⟨_, F150_anyDigit⟩, ⟨_, F150_negative⟩⟩
    obtain ⟨v151, h151, ⟨rfl, K151, N151⟩, k⟩ := k.callN rfl (hw _ (List.mem_of_getElem? (i := 15) rfl)) (hw _ (List.mem_of_getElem? (i := 16) rfl)) (hw _ (List.mem_of_getElem? (i := 14) rfl)) (hw _ (List.mem_of_getElem? (i := 17) rfl)) (by decide) (coni l Z a0 hw a150 h150 n0 (by omega) n_a150 N) (argsL := []) (rest := [(.ref a150)]) (lenOf pdi rfl) at_134 rfl rfl 1 (Nat.le_of_eq rfl) (by decide) (by decide) (by decide) (by decide)
    have s_h151 : n0 ≤ h151.size := Nat.le_trans (by omega) K151.1
    have k : W0 l Z n0 Q0 G s h151 2 13 137 #[.val (.int p0), .val (.int p1), .val (.int p2), .val (.int p3), .val (.int p4), .val (.int (2 : Int32)), .val (.int r115), .val (.int r116), .val (.int r117), .val (.int r118), .val (.ref a141), .val (.int (i32 (expN [d142, d144, 6, 6, 6]))), .unset] [(.ref a150)] := k
    have k : W0 l Z n0 Q0 G s h151 2 13 144 #[.val (.int p0), .val (.int p1), .val (.int p2), .val (.int p3), .val (.int p4), .val (.int (2 : Int32)), .val (.int r115), .val (.int r116), .val (.int r117), .val (.int r118), .val (.ref a141), .val (.int (i32 (expN [d142, d144, 6, 6, 6]))), .val (.ref a150)] [] := ((k.astore at_137 rfl (Ls' := #[.val (.int p0), .val (.int p1), .val (.int p2), .val (.int p3), .val (.int p4), .val (.int (2 : Int32)), .val (.int r115), .val (.int r116), .val (.int r117), .val (.int r118), .val (.ref a141), .val (.int (i32 (expN [d142, d144, 6, 6, 6]))), .val (.ref a150)]) rfl).iload at_139 rfl).ifF at_141 (XT.i0_le_f (by decide))
    have k : W0 l Z n0 Q0 G s h151 2 13 148 #[.val (.int p0), .val (.int p1), .val (.int p2), .val (.int p3), .val (.int p4), .val (.int (2 : Int32)), .val (.int r115), .val (.int r116), .val (.int r117), .val (.int r118), .val (.ref a141), .val (.int (i32 (expN [d142, d144, 6, 6, 6]))), .val (.ref a150)] [(.int r115), (.ref a150)] := (k.aload at_144 rfl rfl).iload at_146 rfl
    have bs : (0 : Nat) ≤ 5 := by omega
    have bg : (0 : Nat) ≤ 0 := by omega
    obtain ⟨v152, h152, ⟨rfl, K152, N152⟩, k⟩ := k.callV (hw _ (List.mem_of_getElem? (i := 38) rfl)) (hw _ (List.mem_of_getElem? (i := 39) rfl)) (hw _ (List.mem_of_getElem? (i := 40) rfl)) (hw _ (List.mem_of_getElem? (i := 41) rfl)) rfl (hw _ (List.mem_of_getElem? (i := 14) rfl)) (hw _ (List.mem_of_getElem? (i := 42) rfl)) (by decide) N151.1 (conn l Z a0 hw a150 r115 0 0 d142 bs hd142 (by omega) h151 n0 (by omega) n_a150 N151) (argsL := [(.int r115)]) (rest := []) (lenOf pdn rfl) at_148 rfl rfl 0 (Nat.le_of_eq rfl) (by decide) (by decide) (by decide) (by decide)
    have s_h152 : n0 ≤ h152.size := Nat.le_trans (by omega) K152.1
    have k : W0 l Z n0 Q0 G s h152 2 13 151 #[.val (.int p0), .val (.int p1), .val (.int p2), .val (.int p3), .val (.int p4), .val (.int (2 : Int32)), .val (.int r115), .val (.int r116), .val (.int r117), .val (.int r118), .val (.ref a141), .val (.int (i32 (expN [d142, d144, 6, 6, 6]))), .val (.ref a150)] [] := k
    have bs : stN 0 d142 ≤ 5 := own_st5 bs
    have bg : sgN 0 0 d142 ≤ 1 := Nat.le_trans own_sg (by omega)
    have k : W0 l Z n0 Q0 G s h152 2 13 157 #[.val (.int p0), .val (.int p1), .val (.int p2), .val (.int p3), .val (.int p4), .val (.int (2 : Int32)), .val (.int r115), .val (.int r116), .val (.int r117), .val (.int r118), .val (.ref a141), .val (.int (i32 (expN [d142, d144, 6, 6, 6]))), .val (.ref a150)] [] := ((k.iload at_151 rfl).iconst (1) at_153 rfl).icF at_154 (XT.ii_le_f (by decide))
    have k : W0 l Z n0 Q0 G s h152 2 13 161 #[.val (.int p0), .val (.int p1), .val (.int p2), .val (.int p3), .val (.int p4), .val (.int (2 : Int32)), .val (.int r115), .val (.int r116), .val (.int r117), .val (.int r118), .val (.ref a141), .val (.int (i32 (expN [d142, d144, 6, 6, 6]))), .val (.ref a150)] [(.int r116), (.ref a150)] := (k.aload at_157 rfl rfl).iload at_159 rfl
    obtain ⟨v153, h153, ⟨rfl, K153, N153⟩, k⟩ := k.callV (hw _ (List.mem_of_getElem? (i := 38) rfl)) (hw _ (List.mem_of_getElem? (i := 39) rfl)) (hw _ (List.mem_of_getElem? (i := 40) rfl)) (hw _ (List.mem_of_getElem? (i := 41) rfl)) rfl (hw _ (List.mem_of_getElem? (i := 14) rfl)) (hw _ (List.mem_of_getElem? (i := 42) rfl)) (by decide) N152.1 (conn l Z a0 hw a150 r116 (stN 0 d142) (sgN 0 0 d142) d144 bs hd144 (by omega) h152 n0 (by omega) n_a150 N152) (argsL := [(.int r116)]) (rest := []) (lenOf pdn rfl) at_161 rfl rfl 0 (Nat.le_of_eq rfl) (by decide) (by decide) (by decide) (by decide)
    have s_h153 : n0 ≤ h153.size := Nat.le_trans (by omega) K153.1
    have k : W0 l Z n0 Q0 G s h153 2 13 164 #[.val (.int p0), .val (.int p1), .val (.int p2), .val (.int p3), .val (.int p4), .val (.int (2 : Int32)), .val (.int r115), .val (.int r116), .val (.int r117), .val (.int r118), .val (.ref a141), .val (.int (i32 (expN [d142, d144, 6, 6, 6]))), .val (.ref a150)] [] := k
    have bs : stN (stN 0 d142) d144 ≤ 5 := own_st5 bs
    have bg : sgN (stN 0 d142) (sgN 0 0 d142) d144 ≤ 2 := Nat.le_trans own_sg (by omega)
    have k : W0 l Z n0 Q0 G s h153 2 13 177 #[.val (.int p0), .val (.int p1), .val (.int p2), .val (.int p3), .val (.int p4), .val (.int (2 : Int32)), .val (.int r115), .val (.int r116), .val (.int r117), .val (.int r118), .val (.ref a141), .val (.int (i32 (expN [d142, d144, 6, 6, 6]))), .val (.ref a150)] [] := ((k.iload at_164 rfl).iconst (2) at_166 rfl).icT (pc' := 177) at_167 (XT.ii_le_t (by decide)) (by decide)
    have k : W0 l Z n0 Q0 G s h153 2 13 190 #[.val (.int p0), .val (.int p1), .val (.int p2), .val (.int p3), .val (.int p4), .val (.int (2 : Int32)), .val (.int r115), .val (.int r116), .val (.int r117), .val (.int r118), .val (.ref a141), .val (.int (i32 (expN [d142, d144, 6, 6, 6]))), .val (.ref a150)] [] := ((k.iload at_177 rfl).iconst (3) at_179 rfl).icT (pc' := 190) at_180 (XT.ii_le_t (by decide)) (by decide)
    have k : W0 l Z n0 Q0 G s h153 2 13 192 #[.val (.int p0), .val (.int p1), .val (.int p2), .val (.int p3), .val (.int p4), .val (.int (2 : Int32)), .val (.int r115), .val (.int r116), .val (.int r117), .val (.int r118), .val (.ref a141), .val (.int (i32 (expN [d142, d144, 6, 6, 6]))), .val (.ref a150)] [(.ref a150)] := k.aload at_190 rfl rfl
    obtain ⟨v154, h154, ⟨rfl, rfl⟩, k⟩ := k.callV (hw _ (List.mem_of_getElem? (i := 23) rfl)) (hw _ (List.mem_of_getElem? (i := 24) rfl)) (hw _ (List.mem_of_getElem? (i := 25) rfl)) (hw _ (List.mem_of_getElem? (i := 26) rfl)) rfl (hw _ (List.mem_of_getElem? (i := 14) rfl)) (hw _ (List.mem_of_getElem? (i := 27) rfl)) (by decide) N153.1 (cono l Z a0 hw a150 (stN (stN 0 d142) d144) (sgN (stN 0 d142) (sgN 0 0 d142) d144) bs (by omega) h153 n0 N153) (argsL := []) (rest := []) (lenOf pdo rfl) at_192 rfl rfl 0 (Nat.le_of_eq rfl) (by decide) (by decide) (by decide) (by decide)
    have k : W0 l Z n0 Q0 G s h153 2 13 195 #[.val (.int p0), .val (.int p1), .val (.int p2), .val (.int p3), .val (.int p4), .val (.int (2 : Int32)), .val (.int r115), .val (.int r116), .val (.int r117), .val (.int r118), .val (.ref a141), .val (.int (i32 (expN [d142, d144, 6, 6, 6]))), .val (.ref a150)] [(.int (i32 (steadyN (stN (stN 0 d142) d144) (sgN (stN 0 d142) (sgN 0 0 d142) d144))))] := k
    have k : W0 l Z n0 Q0 G s h153 2 13 197 #[.val (.int p0), .val (.int p1), .val (.int p2), .val (.int p3), .val (.int p4), .val (.int (2 : Int32)), .val (.int r115), .val (.int r116), .val (.int r117), .val (.int r118), .val (.ref a141), .val (.int (i32 (expN [d142, d144, 6, 6, 6]))), .val (.ref a150)] [(.int (i32 (expN [d142, d144, 6, 6, 6]))), (.int (i32 (steadyN (stN (stN 0 d142) d144) (sgN (stN 0 d142) (sgN 0 0 d142) d144))))] := k.iload at_195 rfl
    have k : W0 l Z n0 Q0 G s h153 2 13 200 #[.val (.int p0), .val (.int p1), .val (.int p2), .val (.int p3), .val (.int p4), .val (.int (2 : Int32)), .val (.int r115), .val (.int r116), .val (.int r117), .val (.int r118), .val (.ref a141), .val (.int (i32 (expN [d142, d144, 6, 6, 6]))), .val (.ref a150)] [] := k.icF at_197 (XT.ii_ne_f (congrArg i32 (own_fin2 d142 l142 d144 l144)))
    have k : W0 l Z n0 Q0 G s h153 2 13 205 #[.val (.int p0), .val (.int p1), .val (.int p2), .val (.int p3), .val (.int p4), .val (.int (2 : Int32)), .val (.int r115), .val (.int r116), .val (.int r117), .val (.int r118), .val (.ref a141), .val (.int (i32 (expN [d142, d144, 6, 6, 6]))), .val (.ref a150)] [(.int (1 : Int32))] := (k.iconst (1) at_200 rfl).goto (pc' := 205) at_201 (by decide)
    exact k.outZ (Or.inr rfl) at_205 (by decide) (by decide) rfl
  · have k : W0 l Z n0 Q0 G s h0 0 0 34 #[.val (.int p0), .val (.int p1), .val (.int p2), .val (.int p3), .val (.int p4), .val (.int (3 : Int32)), .val (.int r115), .val (.int r116), .val (.int r117), .val (.int r118), .unset, .unset, .unset] [(.int (5 : Int32))] := k
    obtain ⟨h155, K155, A155, k⟩ := k.newA (hw _ (List.mem_of_getElem? (i := 5) rfl)) at_34 5 rfl (by decide) (by decide) (by decide) (by decide)
    obtain ⟨a155, ea155⟩ : ∃ z, z = h0.size := ⟨_, rfl⟩
    rw [← ea155] at A155 k
    have n_a155 : n0 ≤ a155 := by omega
    have A155 : AV Z h155 a155 .int [(.int (0 : Int32)), (.int (0 : Int32)), (.int (0 : Int32)), (.int (0 : Int32)), (.int (0 : Int32))] := A155
    have s_h155 : n0 ≤ h155.size := Nat.le_trans (by omega) K155.1
    have k : W0 l Z n0 Q0 G s h155 1 5 36 #[.val (.int p0), .val (.int p1), .val (.int p2), .val (.int p3), .val (.int p4), .val (.int (3 : Int32)), .val (.int r115), .val (.int r116), .val (.int r117), .val (.int r118), .unset, .unset, .unset] [(.ref a155)] := k
    have k : W0 l Z n0 Q0 G s h155 1 5 46 #[.val (.int p0), .val (.int p1), .val (.int p2), .val (.int p3), .val (.int p4), .val (.int (3 : Int32)), .val (.int r115), .val (.int r116), .val (.int r117), .val (.int r118), .val (.ref a155), .unset, .unset] [(.int (0 : Int32)), (.ref a155)] := ((((k.astore at_36 rfl (Ls' := #[.val (.int p0), .val (.int p1), .val (.int p2), .val (.int p3), .val (.int p4), .val (.int (3 : Int32)), .val (.int r115), .val (.int r116), .val (.int r117), .val (.int r118), .val (.ref a155), .unset, .unset]) rfl).aload at_38 rfl rfl).iconst (0) at_40 rfl).iload at_41 rfl).ifF at_43 (XT.i0_le_f (by decide))
    have k : W0 l Z n0 Q0 G s h155 1 5 48 #[.val (.int p0), .val (.int p1), .val (.int p2), .val (.int p3), .val (.int p4), .val (.int (3 : Int32)), .val (.int r115), .val (.int r116), .val (.int r117), .val (.int r118), .val (.ref a155), .unset, .unset] [(.int r115), (.int (0 : Int32)), (.ref a155)] := k.iload at_46 rfl
    obtain ⟨v156, h156, ⟨rfl, d156, rfl, hd156⟩, k⟩ := k.callS (hw _ (List.mem_of_getElem? (i := 29) rfl)) (hw _ (List.mem_of_getElem? (i := 30) rfl)) (hw _ (List.mem_of_getElem? (i := 3) rfl)) (hw _ (List.mem_of_getElem? (i := 31) rfl)) (by decide) (cond l Z a0 hw r115 h155 n0) (argsL := [(.int r115)]) (rest := [(.int (0 : Int32)), (.ref a155)]) (lenOf pdd rfl) at_48 rfl rfl 2 (Nat.le_of_eq rfl) (by decide) (by decide) (by decide) (by decide)
    have k : W0 l Z n0 Q0 G s h155 1 5 51 #[.val (.int p0), .val (.int p1), .val (.int p2), .val (.int p3), .val (.int p4), .val (.int (3 : Int32)), .val (.int r115), .val (.int r116), .val (.int r117), .val (.int r118), .val (.ref a155), .unset, .unset] [(.int (i32 d156)), (.int (0 : Int32)), (.ref a155)] := k
    have k : W0 l Z n0 Q0 G s h155 1 5 56 #[.val (.int p0), .val (.int p1), .val (.int p2), .val (.int p3), .val (.int p4), .val (.int (3 : Int32)), .val (.int r115), .val (.int r116), .val (.int r117), .val (.int r118), .val (.ref a155), .unset, .unset] [(.int (i32 d156)), (.int (0 : Int32)), (.ref a155)] := k.goto (pc' := 56) at_51 (by decide)
    obtain ⟨h157, K157, A155', k⟩ := k.stI A155 0 rfl (by decide) (by simp) n_a155 at_56
    have A155 : AV Z h157 a155 .int [(.int (i32 d156)), (.int (0 : Int32)), (.int (0 : Int32)), (.int (0 : Int32)), (.int (0 : Int32))] := A155'
    have s_h157 : n0 ≤ h157.size := Nat.le_trans (by omega) K157.1
    have k : W0 l Z n0 Q0 G s h157 1 5 57 #[.val (.int p0), .val (.int p1), .val (.int p2), .val (.int p3), .val (.int p4), .val (.int (3 : Int32)), .val (.int r115), .val (.int r116), .val (.int r117), .val (.int r118), .val (.ref a155), .unset, .unset] [] := k
    have k : W0 l Z n0 Q0 G s h157 1 5 66 #[.val (.int p0), .val (.int p1), .val (.int p2), .val (.int p3), .val (.int p4), .val (.int (3 : Int32)), .val (.int r115), .val (.int r116), .val (.int r117), .val (.int r118), .val (.ref a155), .unset, .unset] [(.int (1 : Int32)), (.ref a155)] := ((((k.aload at_57 rfl rfl).iconst (1) at_59 rfl).iload at_60 rfl).iconst (1) at_62 rfl).icF at_63 (XT.ii_le_f (by decide))
    have k : W0 l Z n0 Q0 G s h157 1 5 68 #[.val (.int p0), .val (.int p1), .val (.int p2), .val (.int p3), .val (.int p4), .val (.int (3 : Int32)), .val (.int r115), .val (.int r116), .val (.int r117), .val (.int r118), .val (.ref a155), .unset, .unset] [(.int r116), (.int (1 : Int32)), (.ref a155)] := k.iload at_66 rfl
    obtain ⟨v158, h158, ⟨rfl, d158, rfl, hd158⟩, k⟩ := k.callS (hw _ (List.mem_of_getElem? (i := 29) rfl)) (hw _ (List.mem_of_getElem? (i := 30) rfl)) (hw _ (List.mem_of_getElem? (i := 3) rfl)) (hw _ (List.mem_of_getElem? (i := 31) rfl)) (by decide) (cond l Z a0 hw r116 h157 n0) (argsL := [(.int r116)]) (rest := [(.int (1 : Int32)), (.ref a155)]) (lenOf pdd rfl) at_68 rfl rfl 2 (Nat.le_of_eq rfl) (by decide) (by decide) (by decide) (by decide)
    have k : W0 l Z n0 Q0 G s h157 1 5 71 #[.val (.int p0), .val (.int p1), .val (.int p2), .val (.int p3), .val (.int p4), .val (.int (3 : Int32)), .val (.int r115), .val (.int r116), .val (.int r117), .val (.int r118), .val (.ref a155), .unset, .unset] [(.int (i32 d158)), (.int (1 : Int32)), (.ref a155)] := k
    have k : W0 l Z n0 Q0 G s h157 1 5 76 #[.val (.int p0), .val (.int p1), .val (.int p2), .val (.int p3), .val (.int p4), .val (.int (3 : Int32)), .val (.int r115), .val (.int r116), .val (.int r117), .val (.int r118), .val (.ref a155), .unset, .unset] [(.int (i32 d158)), (.int (1 : Int32)), (.ref a155)] := k.goto (pc' := 76) at_71 (by decide)
    obtain ⟨h159, K159, A155', k⟩ := k.stI A155 1 rfl (by decide) (by simp) n_a155 at_76
    have A155 : AV Z h159 a155 .int [(.int (i32 d156)), (.int (i32 d158)), (.int (0 : Int32)), (.int (0 : Int32)), (.int (0 : Int32))] := A155'
    have s_h159 : n0 ≤ h159.size := Nat.le_trans (by omega) K159.1
    have k : W0 l Z n0 Q0 G s h159 1 5 77 #[.val (.int p0), .val (.int p1), .val (.int p2), .val (.int p3), .val (.int p4), .val (.int (3 : Int32)), .val (.int r115), .val (.int r116), .val (.int r117), .val (.int r118), .val (.ref a155), .unset, .unset] [] := k
    have k : W0 l Z n0 Q0 G s h159 1 5 86 #[.val (.int p0), .val (.int p1), .val (.int p2), .val (.int p3), .val (.int p4), .val (.int (3 : Int32)), .val (.int r115), .val (.int r116), .val (.int r117), .val (.int r118), .val (.ref a155), .unset, .unset] [(.int (2 : Int32)), (.ref a155)] := ((((k.aload at_77 rfl rfl).iconst (2) at_79 rfl).iload at_80 rfl).iconst (2) at_82 rfl).icF at_83 (XT.ii_le_f (by decide))
    have k : W0 l Z n0 Q0 G s h159 1 5 88 #[.val (.int p0), .val (.int p1), .val (.int p2), .val (.int p3), .val (.int p4), .val (.int (3 : Int32)), .val (.int r115), .val (.int r116), .val (.int r117), .val (.int r118), .val (.ref a155), .unset, .unset] [(.int r117), (.int (2 : Int32)), (.ref a155)] := k.iload at_86 rfl
    obtain ⟨v160, h160, ⟨rfl, d160, rfl, hd160⟩, k⟩ := k.callS (hw _ (List.mem_of_getElem? (i := 29) rfl)) (hw _ (List.mem_of_getElem? (i := 30) rfl)) (hw _ (List.mem_of_getElem? (i := 3) rfl)) (hw _ (List.mem_of_getElem? (i := 31) rfl)) (by decide) (cond l Z a0 hw r117 h159 n0) (argsL := [(.int r117)]) (rest := [(.int (2 : Int32)), (.ref a155)]) (lenOf pdd rfl) at_88 rfl rfl 2 (Nat.le_of_eq rfl) (by decide) (by decide) (by decide) (by decide)
    have k : W0 l Z n0 Q0 G s h159 1 5 91 #[.val (.int p0), .val (.int p1), .val (.int p2), .val (.int p3), .val (.int p4), .val (.int (3 : Int32)), .val (.int r115), .val (.int r116), .val (.int r117), .val (.int r118), .val (.ref a155), .unset, .unset] [(.int (i32 d160)), (.int (2 : Int32)), (.ref a155)] := k
    have k : W0 l Z n0 Q0 G s h159 1 5 96 #[.val (.int p0), .val (.int p1), .val (.int p2), .val (.int p3), .val (.int p4), .val (.int (3 : Int32)), .val (.int r115), .val (.int r116), .val (.int r117), .val (.int r118), .val (.ref a155), .unset, .unset] [(.int (i32 d160)), (.int (2 : Int32)), (.ref a155)] := k.goto (pc' := 96) at_91 (by decide)
    obtain ⟨h161, K161, A155', k⟩ := k.stI A155 2 rfl (by decide) (by simp) n_a155 at_96
    have A155 : AV Z h161 a155 .int [(.int (i32 d156)), (.int (i32 d158)), (.int (i32 d160)), (.int (0 : Int32)), (.int (0 : Int32))] := A155'
    have s_h161 : n0 ≤ h161.size := Nat.le_trans (by omega) K161.1
    have k : W0 l Z n0 Q0 G s h161 1 5 97 #[.val (.int p0), .val (.int p1), .val (.int p2), .val (.int p3), .val (.int p4), .val (.int (3 : Int32)), .val (.int r115), .val (.int r116), .val (.int r117), .val (.int r118), .val (.ref a155), .unset, .unset] [] := k
    have k : W0 l Z n0 Q0 G s h161 1 5 114 #[.val (.int p0), .val (.int p1), .val (.int p2), .val (.int p3), .val (.int p4), .val (.int (3 : Int32)), .val (.int r115), .val (.int r116), .val (.int r117), .val (.int r118), .val (.ref a155), .unset, .unset] [(.int (3 : Int32)), (.ref a155)] := ((((k.aload at_97 rfl rfl).iconst (3) at_99 rfl).iload at_100 rfl).iconst (3) at_102 rfl).icT (pc' := 114) at_103 (XT.ii_le_t (by decide)) (by decide)
    have k : W0 l Z n0 Q0 G s h161 1 5 116 #[.val (.int p0), .val (.int p1), .val (.int p2), .val (.int p3), .val (.int p4), .val (.int (3 : Int32)), .val (.int r115), .val (.int r116), .val (.int r117), .val (.int r118), .val (.ref a155), .unset, .unset] [(.int (6 : Int32)), (.int (3 : Int32)), (.ref a155)] := k.bipush (6) at_114 rfl
    obtain ⟨h162, K162, A155', k⟩ := k.stI A155 3 rfl (by decide) (by simp) n_a155 at_116
    have A155 : AV Z h162 a155 .int [(.int (i32 d156)), (.int (i32 d158)), (.int (i32 d160)), (.int (6 : Int32)), (.int (0 : Int32))] := A155'
    have s_h162 : n0 ≤ h162.size := Nat.le_trans (by omega) K162.1
    have k : W0 l Z n0 Q0 G s h162 1 5 117 #[.val (.int p0), .val (.int p1), .val (.int p2), .val (.int p3), .val (.int p4), .val (.int (3 : Int32)), .val (.int r115), .val (.int r116), .val (.int r117), .val (.int r118), .val (.ref a155), .unset, .unset] [] := k
    have k : W0 l Z n0 Q0 G s h162 1 5 122 #[.val (.int p0), .val (.int p1), .val (.int p2), .val (.int p3), .val (.int p4), .val (.int (3 : Int32)), .val (.int r115), .val (.int r116), .val (.int r117), .val (.int r118), .val (.ref a155), .unset, .unset] [(.int (6 : Int32)), (.int (4 : Int32)), (.ref a155)] := ((k.aload at_117 rfl rfl).iconst (4) at_119 rfl).bipush (6) at_120 rfl
    obtain ⟨h163, K163, A155', k⟩ := k.stI A155 4 rfl (by decide) (by simp) n_a155 at_122
    have A155 : AV Z h163 a155 .int [(.int (i32 d156)), (.int (i32 d158)), (.int (i32 d160)), (.int (6 : Int32)), (.int (6 : Int32))] := A155'
    have s_h163 : n0 ≤ h163.size := Nat.le_trans (by omega) K163.1
    have k : W0 l Z n0 Q0 G s h163 1 5 123 #[.val (.int p0), .val (.int p1), .val (.int p2), .val (.int p3), .val (.int p4), .val (.int (3 : Int32)), .val (.int r115), .val (.int r116), .val (.int r117), .val (.int r118), .val (.ref a155), .unset, .unset] [] := k
    have k : W0 l Z n0 Q0 G s h163 1 5 125 #[.val (.int p0), .val (.int p1), .val (.int p2), .val (.int p3), .val (.int p4), .val (.int (3 : Int32)), .val (.int r115), .val (.int r116), .val (.int r117), .val (.int r118), .val (.ref a155), .unset, .unset] [(.ref a155)] := k.aload at_123 rfl rfl
    have l156 := own_cl6 hd156
    have l158 := own_cl6 hd158
    have l160 := own_cl6 hd160
    have A : AV Z h163 a155 .int (vk [d156, d158, d160, 6, 6]) := A155
    obtain ⟨v164, h164, ⟨rfl, rfl⟩, k⟩ := k.callS (hw _ (List.mem_of_getElem? (i := 6) rfl)) (hw _ (List.mem_of_getElem? (i := 7) rfl)) (hw _ (List.mem_of_getElem? (i := 3) rfl)) (hw _ (List.mem_of_getElem? (i := 8) rfl)) (by decide) (conh l Z a0 hw a155 [d156, d158, d160, 6, 6] rfl (by intro d hd; simp at hd; omega) rfl h163 n0 A) (argsL := [(.ref a155)]) (rest := []) (lenOf pdh rfl) at_125 rfl rfl 0 (Nat.le_of_eq rfl) (by decide) (by decide) (by decide) (by decide)
    have k : W0 l Z n0 Q0 G s h163 1 5 128 #[.val (.int p0), .val (.int p1), .val (.int p2), .val (.int p3), .val (.int p4), .val (.int (3 : Int32)), .val (.int r115), .val (.int r116), .val (.int r117), .val (.int r118), .val (.ref a155), .unset, .unset] [(.int (i32 (expN [d156, d158, d160, 6, 6])))] := k
    have k : W0 l Z n0 Q0 G s h163 1 5 130 #[.val (.int p0), .val (.int p1), .val (.int p2), .val (.int p3), .val (.int p4), .val (.int (3 : Int32)), .val (.int r115), .val (.int r116), .val (.int r117), .val (.int r118), .val (.ref a155), .val (.int (i32 (expN [d156, d158, d160, 6, 6]))), .unset] [] := k.istore at_128 (Ls' := #[.val (.int p0), .val (.int p1), .val (.int p2), .val (.int p3), .val (.int p4), .val (.int (3 : Int32)), .val (.int r115), .val (.int r116), .val (.int r117), .val (.int r118), .val (.ref a155), .val (.int (i32 (expN [d156, d158, d160, 6, 6]))), .unset]) rfl
    obtain ⟨h165, K165, E165, D165, k⟩ := k.newO (hw _ (List.mem_of_getElem? (i := 12) rfl)) (hw _ (List.mem_of_getElem? (i := 13) rfl)) (hw _ (List.mem_of_getElem? (i := 14) rfl)) at_130 (by decide) (by decide)
    obtain ⟨a165, ea165⟩ : ∃ z, z = h163.size := ⟨_, rfl⟩
    rw [← ea165] at E165 D165 k
    have n_a165 : n0 ≤ a165 := by omega
    have F165_stage : Fld Z h165 a165 "com/example/caddisfly/caddisfly/XpathNumbers$Numeral" "stage" "I" (.int (0 : Int32)) := D165 (Or.inl (hw _ (List.mem_of_getElem? (i := 22) rfl))) (ty := .int) (by decide)
    have F165_anyDigit : Fld Z h165 a165 "com/example/caddisfly/caddisfly/XpathNumbers$Numeral" "anyDigit" "Z" (.int (0 : Int32)) := D165 (Or.inl (hw _ (List.mem_of_getElem? (i := 59) rfl))) (ty := .boolean) (by decide)
    have F165_significant : Fld Z h165 a165 "com/example/caddisfly/caddisfly/XpathNumbers$Numeral" "significant" "I" (.int (0 : Int32)) := D165 (Or.inl (hw _ (List.mem_of_getElem? (i := 61) rfl))) (ty := .int) (by decide)
    have F165_exponent : Fld Z h165 a165 "com/example/caddisfly/caddisfly/XpathNumbers$Numeral" "exponent" "J" (.long (0 : Int64)) := D165 (Or.inl (hw _ (List.mem_of_getElem? (i := 63) rfl))) (ty := .long) (by decide)
    have F165_leading : Fld Z h165 a165 "com/example/caddisfly/caddisfly/XpathNumbers$Numeral" "leading" "J" (.long (0 : Int64)) := D165 (Or.inl (hw _ (List.mem_of_getElem? (i := 65) rfl))) (ty := .long) (by decide)
    have F165_negative : Fld Z h165 a165 "com/example/caddisfly/caddisfly/XpathNumbers$Numeral" "negative" "Z" (.int (0 : Int32)) := D165 (Or.inl (hw _ (List.mem_of_getElem? (i := 68) rfl))) (ty := .boolean) (by decide)
    have F165_more : Fld Z h165 a165 "com/example/caddisfly/caddisfly/XpathNumbers$Numeral" "more" "Ljava/lang/StringBuilder;" .null := D165 (Or.inl (hw _ (List.mem_of_getElem? (i := 70) rfl))) (ty := (.object "java/lang/StringBuilder")) (by decide)
    have F165_droppedNonZero : Fld Z h165 a165 "com/example/caddisfly/caddisfly/XpathNumbers$Numeral" "droppedNonZero" "Z" (.int (0 : Int32)) := D165 (Or.inl (hw _ (List.mem_of_getElem? (i := 72) rfl))) (ty := .boolean) (by decide)
    have s_h165 : n0 ≤ h165.size := Nat.le_trans (by omega) K165.1
    have k : W0 l Z n0 Q0 G s h165 2 13 133 #[.val (.int p0), .val (.int p1), .val (.int p2), .val (.int p3), .val (.int p4), .val (.int (3 : Int32)), .val (.int r115), .val (.int r116), .val (.int r117), .val (.int r118), .val (.ref a155), .val (.int (i32 (expN [d156, d158, d160, 6, 6]))), .unset] [(.ref a165)] := k
    have k : W0 l Z n0 Q0 G s h165 2 13 134 #[.val (.int p0), .val (.int p1), .val (.int p2), .val (.int p3), .val (.int p4), .val (.int (3 : Int32)), .val (.int r115), .val (.int r116), .val (.int r117), .val (.int r118), .val (.ref a155), .val (.int (i32 (expN [d156, d158, d160, 6, 6]))), .unset] [(.ref a165), (.ref a165)] := k.dup at_133 rfl
    have N : NS Z h165 a165 0 0 := ⟨E165, F165_stage, F165_significant, ⟨_, F165_exponent⟩, ⟨_, F165_leading⟩, ⟨_, F165_anyDigit⟩, ⟨_, F165_negative⟩⟩
    obtain ⟨v166, h166, ⟨rfl, K166, N166⟩, k⟩ := k.callN rfl (hw _ (List.mem_of_getElem? (i := 15) rfl)) (hw _ (List.mem_of_getElem? (i := 16) rfl)) (hw _ (List.mem_of_getElem? (i := 14) rfl)) (hw _ (List.mem_of_getElem? (i := 17) rfl)) (by decide) (coni l Z a0 hw a165 h165 n0 (by omega) n_a165 N) (argsL := []) (rest := [(.ref a165)]) (lenOf pdi rfl) at_134 rfl rfl 1 (Nat.le_of_eq rfl) (by decide) (by decide) (by decide) (by decide)
    have s_h166 : n0 ≤ h166.size := Nat.le_trans (by omega) K166.1
    have k : W0 l Z n0 Q0 G s h166 2 13 137 #[.val (.int p0), .val (.int p1), .val (.int p2), .val (.int p3), .val (.int p4), .val (.int (3 : Int32)), .val (.int r115), .val (.int r116), .val (.int r117), .val (.int r118), .val (.ref a155), .val (.int (i32 (expN [d156, d158, d160, 6, 6]))), .unset] [(.ref a165)] := k
    have k : W0 l Z n0 Q0 G s h166 2 13 144 #[.val (.int p0), .val (.int p1), .val (.int p2), .val (.int p3), .val (.int p4), .val (.int (3 : Int32)), .val (.int r115), .val (.int r116), .val (.int r117), .val (.int r118), .val (.ref a155), .val (.int (i32 (expN [d156, d158, d160, 6, 6]))), .val (.ref a165)] [] := ((k.astore at_137 rfl (Ls' := #[.val (.int p0), .val (.int p1), .val (.int p2), .val (.int p3), .val (.int p4), .val (.int (3 : Int32)), .val (.int r115), .val (.int r116), .val (.int r117), .val (.int r118), .val (.ref a155), .val (.int (i32 (expN [d156, d158, d160, 6, 6]))), .val (.ref a165)]) rfl).iload at_139 rfl).ifF at_141 (XT.i0_le_f (by decide))
    have k : W0 l Z n0 Q0 G s h166 2 13 148 #[.val (.int p0), .val (.int p1), .val (.int p2), .val (.int p3), .val (.int p4), .val (.int (3 : Int32)), .val (.int r115), .val (.int r116), .val (.int r117), .val (.int r118), .val (.ref a155), .val (.int (i32 (expN [d156, d158, d160, 6, 6]))), .val (.ref a165)] [(.int r115), (.ref a165)] := (k.aload at_144 rfl rfl).iload at_146 rfl
    have bs : (0 : Nat) ≤ 5 := by omega
    have bg : (0 : Nat) ≤ 0 := by omega
    obtain ⟨v167, h167, ⟨rfl, K167, N167⟩, k⟩ := k.callV (hw _ (List.mem_of_getElem? (i := 38) rfl)) (hw _ (List.mem_of_getElem? (i := 39) rfl)) (hw _ (List.mem_of_getElem? (i := 40) rfl)) (hw _ (List.mem_of_getElem? (i := 41) rfl)) rfl (hw _ (List.mem_of_getElem? (i := 14) rfl)) (hw _ (List.mem_of_getElem? (i := 42) rfl)) (by decide) N166.1 (conn l Z a0 hw a165 r115 0 0 d156 bs hd156 (by omega) h166 n0 (by omega) n_a165 N166) (argsL := [(.int r115)]) (rest := []) (lenOf pdn rfl) at_148 rfl rfl 0 (Nat.le_of_eq rfl) (by decide) (by decide) (by decide) (by decide)
    have s_h167 : n0 ≤ h167.size := Nat.le_trans (by omega) K167.1
    have k : W0 l Z n0 Q0 G s h167 2 13 151 #[.val (.int p0), .val (.int p1), .val (.int p2), .val (.int p3), .val (.int p4), .val (.int (3 : Int32)), .val (.int r115), .val (.int r116), .val (.int r117), .val (.int r118), .val (.ref a155), .val (.int (i32 (expN [d156, d158, d160, 6, 6]))), .val (.ref a165)] [] := k
    have bs : stN 0 d156 ≤ 5 := own_st5 bs
    have bg : sgN 0 0 d156 ≤ 1 := Nat.le_trans own_sg (by omega)
    have k : W0 l Z n0 Q0 G s h167 2 13 157 #[.val (.int p0), .val (.int p1), .val (.int p2), .val (.int p3), .val (.int p4), .val (.int (3 : Int32)), .val (.int r115), .val (.int r116), .val (.int r117), .val (.int r118), .val (.ref a155), .val (.int (i32 (expN [d156, d158, d160, 6, 6]))), .val (.ref a165)] [] := ((k.iload at_151 rfl).iconst (1) at_153 rfl).icF at_154 (XT.ii_le_f (by decide))
    have k : W0 l Z n0 Q0 G s h167 2 13 161 #[.val (.int p0), .val (.int p1), .val (.int p2), .val (.int p3), .val (.int p4), .val (.int (3 : Int32)), .val (.int r115), .val (.int r116), .val (.int r117), .val (.int r118), .val (.ref a155), .val (.int (i32 (expN [d156, d158, d160, 6, 6]))), .val (.ref a165)] [(.int r116), (.ref a165)] := (k.aload at_157 rfl rfl).iload at_159 rfl
    obtain ⟨v168, h168, ⟨rfl, K168, N168⟩, k⟩ := k.callV (hw _ (List.mem_of_getElem? (i := 38) rfl)) (hw _ (List.mem_of_getElem? (i := 39) rfl)) (hw _ (List.mem_of_getElem? (i := 40) rfl)) (hw _ (List.mem_of_getElem? (i := 41) rfl)) rfl (hw _ (List.mem_of_getElem? (i := 14) rfl)) (hw _ (List.mem_of_getElem? (i := 42) rfl)) (by decide) N167.1 (conn l Z a0 hw a165 r116 (stN 0 d156) (sgN 0 0 d156) d158 bs hd158 (by omega) h167 n0 (by omega) n_a165 N167) (argsL := [(.int r116)]) (rest := []) (lenOf pdn rfl) at_161 rfl rfl 0 (Nat.le_of_eq rfl) (by decide) (by decide) (by decide) (by decide)
    have s_h168 : n0 ≤ h168.size := Nat.le_trans (by omega) K168.1
    have k : W0 l Z n0 Q0 G s h168 2 13 164 #[.val (.int p0), .val (.int p1), .val (.int p2), .val (.int p3), .val (.int p4), .val (.int (3 : Int32)), .val (.int r115), .val (.int r116), .val (.int r117), .val (.int r118), .val (.ref a155), .val (.int (i32 (expN [d156, d158, d160, 6, 6]))), .val (.ref a165)] [] := k
    have bs : stN (stN 0 d156) d158 ≤ 5 := own_st5 bs
    have bg : sgN (stN 0 d156) (sgN 0 0 d156) d158 ≤ 2 := Nat.le_trans own_sg (by omega)
    have k : W0 l Z n0 Q0 G s h168 2 13 170 #[.val (.int p0), .val (.int p1), .val (.int p2), .val (.int p3), .val (.int p4), .val (.int (3 : Int32)), .val (.int r115), .val (.int r116), .val (.int r117), .val (.int r118), .val (.ref a155), .val (.int (i32 (expN [d156, d158, d160, 6, 6]))), .val (.ref a165)] [] := ((k.iload at_164 rfl).iconst (2) at_166 rfl).icF at_167 (XT.ii_le_f (by decide))
    have k : W0 l Z n0 Q0 G s h168 2 13 174 #[.val (.int p0), .val (.int p1), .val (.int p2), .val (.int p3), .val (.int p4), .val (.int (3 : Int32)), .val (.int r115), .val (.int r116), .val (.int r117), .val (.int r118), .val (.ref a155), .val (.int (i32 (expN [d156, d158, d160, 6, 6]))), .val (.ref a165)] [(.int r117), (.ref a165)] := (k.aload at_170 rfl rfl).iload at_172 rfl
    obtain ⟨v169, h169, ⟨rfl, K169, N169⟩, k⟩ := k.callV (hw _ (List.mem_of_getElem? (i := 38) rfl)) (hw _ (List.mem_of_getElem? (i := 39) rfl)) (hw _ (List.mem_of_getElem? (i := 40) rfl)) (hw _ (List.mem_of_getElem? (i := 41) rfl)) rfl (hw _ (List.mem_of_getElem? (i := 14) rfl)) (hw _ (List.mem_of_getElem? (i := 42) rfl)) (by decide) N168.1 (conn l Z a0 hw a165 r117 (stN (stN 0 d156) d158) (sgN (stN 0 d156) (sgN 0 0 d156) d158) d160 bs hd160 (by omega) h168 n0 (by omega) n_a165 N168) (argsL := [(.int r117)]) (rest := []) (lenOf pdn rfl) at_174 rfl rfl 0 (Nat.le_of_eq rfl) (by decide) (by decide) (by decide) (by decide)
    have s_h169 : n0 ≤ h169.size := Nat.le_trans (by omega) K169.1
    have k : W0 l Z n0 Q0 G s h169 2 13 177 #[.val (.int p0), .val (.int p1), .val (.int p2), .val (.int p3), .val (.int p4), .val (.int (3 : Int32)), .val (.int r115), .val (.int r116), .val (.int r117), .val (.int r118), .val (.ref a155), .val (.int (i32 (expN [d156, d158, d160, 6, 6]))), .val (.ref a165)] [] := k
    have bs : stN (stN (stN 0 d156) d158) d160 ≤ 5 := own_st5 bs
    have bg : sgN (stN (stN 0 d156) d158) (sgN (stN 0 d156) (sgN 0 0 d156) d158) d160 ≤ 3 := Nat.le_trans own_sg (by omega)
    have k : W0 l Z n0 Q0 G s h169 2 13 190 #[.val (.int p0), .val (.int p1), .val (.int p2), .val (.int p3), .val (.int p4), .val (.int (3 : Int32)), .val (.int r115), .val (.int r116), .val (.int r117), .val (.int r118), .val (.ref a155), .val (.int (i32 (expN [d156, d158, d160, 6, 6]))), .val (.ref a165)] [] := ((k.iload at_177 rfl).iconst (3) at_179 rfl).icT (pc' := 190) at_180 (XT.ii_le_t (by decide)) (by decide)
    have k : W0 l Z n0 Q0 G s h169 2 13 192 #[.val (.int p0), .val (.int p1), .val (.int p2), .val (.int p3), .val (.int p4), .val (.int (3 : Int32)), .val (.int r115), .val (.int r116), .val (.int r117), .val (.int r118), .val (.ref a155), .val (.int (i32 (expN [d156, d158, d160, 6, 6]))), .val (.ref a165)] [(.ref a165)] := k.aload at_190 rfl rfl
    obtain ⟨v170, h170, ⟨rfl, rfl⟩, k⟩ := k.callV (hw _ (List.mem_of_getElem? (i := 23) rfl)) (hw _ (List.mem_of_getElem? (i := 24) rfl)) (hw _ (List.mem_of_getElem? (i := 25) rfl)) (hw _ (List.mem_of_getElem? (i := 26) rfl)) rfl (hw _ (List.mem_of_getElem? (i := 14) rfl)) (hw _ (List.mem_of_getElem? (i := 27) rfl)) (by decide) N169.1 (cono l Z a0 hw a165 (stN (stN (stN 0 d156) d158) d160) (sgN (stN (stN 0 d156) d158) (sgN (stN 0 d156) (sgN 0 0 d156) d158) d160) bs (by omega) h169 n0 N169) (argsL := []) (rest := []) (lenOf pdo rfl) at_192 rfl rfl 0 (Nat.le_of_eq rfl) (by decide) (by decide) (by decide) (by decide)
    have k : W0 l Z n0 Q0 G s h169 2 13 195 #[.val (.int p0), .val (.int p1), .val (.int p2), .val (.int p3), .val (.int p4), .val (.int (3 : Int32)), .val (.int r115), .val (.int r116), .val (.int r117), .val (.int r118), .val (.ref a155), .val (.int (i32 (expN [d156, d158, d160, 6, 6]))), .val (.ref a165)] [(.int (i32 (steadyN (stN (stN (stN 0 d156) d158) d160) (sgN (stN (stN 0 d156) d158) (sgN (stN 0 d156) (sgN 0 0 d156) d158) d160))))] := k
    have k : W0 l Z n0 Q0 G s h169 2 13 197 #[.val (.int p0), .val (.int p1), .val (.int p2), .val (.int p3), .val (.int p4), .val (.int (3 : Int32)), .val (.int r115), .val (.int r116), .val (.int r117), .val (.int r118), .val (.ref a155), .val (.int (i32 (expN [d156, d158, d160, 6, 6]))), .val (.ref a165)] [(.int (i32 (expN [d156, d158, d160, 6, 6]))), (.int (i32 (steadyN (stN (stN (stN 0 d156) d158) d160) (sgN (stN (stN 0 d156) d158) (sgN (stN 0 d156) (sgN 0 0 d156) d158) d160))))] := k.iload at_195 rfl
    have k : W0 l Z n0 Q0 G s h169 2 13 200 #[.val (.int p0), .val (.int p1), .val (.int p2), .val (.int p3), .val (.int p4), .val (.int (3 : Int32)), .val (.int r115), .val (.int r116), .val (.int r117), .val (.int r118), .val (.ref a155), .val (.int (i32 (expN [d156, d158, d160, 6, 6]))), .val (.ref a165)] [] := k.icF at_197 (XT.ii_ne_f (congrArg i32 (own_fin3 d156 l156 d158 l158 d160 l160)))
    have k : W0 l Z n0 Q0 G s h169 2 13 205 #[.val (.int p0), .val (.int p1), .val (.int p2), .val (.int p3), .val (.int p4), .val (.int (3 : Int32)), .val (.int r115), .val (.int r116), .val (.int r117), .val (.int r118), .val (.ref a155), .val (.int (i32 (expN [d156, d158, d160, 6, 6]))), .val (.ref a165)] [(.int (1 : Int32))] := (k.iconst (1) at_200 rfl).goto (pc' := 205) at_201 (by decide)
    exact k.outZ (Or.inr rfl) at_205 (by decide) (by decide) rfl
  · have k : W0 l Z n0 Q0 G s h0 0 0 34 #[.val (.int p0), .val (.int p1), .val (.int p2), .val (.int p3), .val (.int p4), .val (.int (4 : Int32)), .val (.int r115), .val (.int r116), .val (.int r117), .val (.int r118), .unset, .unset, .unset] [(.int (5 : Int32))] := k
    obtain ⟨h171, K171, A171, k⟩ := k.newA (hw _ (List.mem_of_getElem? (i := 5) rfl)) at_34 5 rfl (by decide) (by decide) (by decide) (by decide)
    obtain ⟨a171, ea171⟩ : ∃ z, z = h0.size := ⟨_, rfl⟩
    rw [← ea171] at A171 k
    have n_a171 : n0 ≤ a171 := by omega
    have A171 : AV Z h171 a171 .int [(.int (0 : Int32)), (.int (0 : Int32)), (.int (0 : Int32)), (.int (0 : Int32)), (.int (0 : Int32))] := A171
    have s_h171 : n0 ≤ h171.size := Nat.le_trans (by omega) K171.1
    have k : W0 l Z n0 Q0 G s h171 1 5 36 #[.val (.int p0), .val (.int p1), .val (.int p2), .val (.int p3), .val (.int p4), .val (.int (4 : Int32)), .val (.int r115), .val (.int r116), .val (.int r117), .val (.int r118), .unset, .unset, .unset] [(.ref a171)] := k
    have k : W0 l Z n0 Q0 G s h171 1 5 46 #[.val (.int p0), .val (.int p1), .val (.int p2), .val (.int p3), .val (.int p4), .val (.int (4 : Int32)), .val (.int r115), .val (.int r116), .val (.int r117), .val (.int r118), .val (.ref a171), .unset, .unset] [(.int (0 : Int32)), (.ref a171)] := ((((k.astore at_36 rfl (Ls' := #[.val (.int p0), .val (.int p1), .val (.int p2), .val (.int p3), .val (.int p4), .val (.int (4 : Int32)), .val (.int r115), .val (.int r116), .val (.int r117), .val (.int r118), .val (.ref a171), .unset, .unset]) rfl).aload at_38 rfl rfl).iconst (0) at_40 rfl).iload at_41 rfl).ifF at_43 (XT.i0_le_f (by decide))
    have k : W0 l Z n0 Q0 G s h171 1 5 48 #[.val (.int p0), .val (.int p1), .val (.int p2), .val (.int p3), .val (.int p4), .val (.int (4 : Int32)), .val (.int r115), .val (.int r116), .val (.int r117), .val (.int r118), .val (.ref a171), .unset, .unset] [(.int r115), (.int (0 : Int32)), (.ref a171)] := k.iload at_46 rfl
    obtain ⟨v172, h172, ⟨rfl, d172, rfl, hd172⟩, k⟩ := k.callS (hw _ (List.mem_of_getElem? (i := 29) rfl)) (hw _ (List.mem_of_getElem? (i := 30) rfl)) (hw _ (List.mem_of_getElem? (i := 3) rfl)) (hw _ (List.mem_of_getElem? (i := 31) rfl)) (by decide) (cond l Z a0 hw r115 h171 n0) (argsL := [(.int r115)]) (rest := [(.int (0 : Int32)), (.ref a171)]) (lenOf pdd rfl) at_48 rfl rfl 2 (Nat.le_of_eq rfl) (by decide) (by decide) (by decide) (by decide)
    have k : W0 l Z n0 Q0 G s h171 1 5 51 #[.val (.int p0), .val (.int p1), .val (.int p2), .val (.int p3), .val (.int p4), .val (.int (4 : Int32)), .val (.int r115), .val (.int r116), .val (.int r117), .val (.int r118), .val (.ref a171), .unset, .unset] [(.int (i32 d172)), (.int (0 : Int32)), (.ref a171)] := k
    have k : W0 l Z n0 Q0 G s h171 1 5 56 #[.val (.int p0), .val (.int p1), .val (.int p2), .val (.int p3), .val (.int p4), .val (.int (4 : Int32)), .val (.int r115), .val (.int r116), .val (.int r117), .val (.int r118), .val (.ref a171), .unset, .unset] [(.int (i32 d172)), (.int (0 : Int32)), (.ref a171)] := k.goto (pc' := 56) at_51 (by decide)
    obtain ⟨h173, K173, A171', k⟩ := k.stI A171 0 rfl (by decide) (by simp) n_a171 at_56
    have A171 : AV Z h173 a171 .int [(.int (i32 d172)), (.int (0 : Int32)), (.int (0 : Int32)), (.int (0 : Int32)), (.int (0 : Int32))] := A171'
    have s_h173 : n0 ≤ h173.size := Nat.le_trans (by omega) K173.1
    have k : W0 l Z n0 Q0 G s h173 1 5 57 #[.val (.int p0), .val (.int p1), .val (.int p2), .val (.int p3), .val (.int p4), .val (.int (4 : Int32)), .val (.int r115), .val (.int r116), .val (.int r117), .val (.int r118), .val (.ref a171), .unset, .unset] [] := k
    have k : W0 l Z n0 Q0 G s h173 1 5 66 #[.val (.int p0), .val (.int p1), .val (.int p2), .val (.int p3), .val (.int p4), .val (.int (4 : Int32)), .val (.int r115), .val (.int r116), .val (.int r117), .val (.int r118), .val (.ref a171), .unset, .unset] [(.int (1 : Int32)), (.ref a171)] := ((((k.aload at_57 rfl rfl).iconst (1) at_59 rfl).iload at_60 rfl).iconst (1) at_62 rfl).icF at_63 (XT.ii_le_f (by decide))
    have k : W0 l Z n0 Q0 G s h173 1 5 68 #[.val (.int p0), .val (.int p1), .val (.int p2), .val (.int p3), .val (.int p4), .val (.int (4 : Int32)), .val (.int r115), .val (.int r116), .val (.int r117), .val (.int r118), .val (.ref a171), .unset, .unset] [(.int r116), (.int (1 : Int32)), (.ref a171)] := k.iload at_66 rfl
    obtain ⟨v174, h174, ⟨rfl, d174, rfl, hd174⟩, k⟩ := k.callS (hw _ (List.mem_of_getElem? (i := 29) rfl)) (hw _ (List.mem_of_getElem? (i := 30) rfl)) (hw _ (List.mem_of_getElem? (i := 3) rfl)) (hw _ (List.mem_of_getElem? (i := 31) rfl)) (by decide) (cond l Z a0 hw r116 h173 n0) (argsL := [(.int r116)]) (rest := [(.int (1 : Int32)), (.ref a171)]) (lenOf pdd rfl) at_68 rfl rfl 2 (Nat.le_of_eq rfl) (by decide) (by decide) (by decide) (by decide)
    have k : W0 l Z n0 Q0 G s h173 1 5 71 #[.val (.int p0), .val (.int p1), .val (.int p2), .val (.int p3), .val (.int p4), .val (.int (4 : Int32)), .val (.int r115), .val (.int r116), .val (.int r117), .val (.int r118), .val (.ref a171), .unset, .unset] [(.int (i32 d174)), (.int (1 : Int32)), (.ref a171)] := k
    have k : W0 l Z n0 Q0 G s h173 1 5 76 #[.val (.int p0), .val (.int p1), .val (.int p2), .val (.int p3), .val (.int p4), .val (.int (4 : Int32)), .val (.int r115), .val (.int r116), .val (.int r117), .val (.int r118), .val (.ref a171), .unset, .unset] [(.int (i32 d174)), (.int (1 : Int32)), (.ref a171)] := k.goto (pc' := 76) at_71 (by decide)
    obtain ⟨h175, K175, A171', k⟩ := k.stI A171 1 rfl (by decide) (by simp) n_a171 at_76
    have A171 : AV Z h175 a171 .int [(.int (i32 d172)), (.int (i32 d174)), (.int (0 : Int32)), (.int (0 : Int32)), (.int (0 : Int32))] := A171'
    have s_h175 : n0 ≤ h175.size := Nat.le_trans (by omega) K175.1
    have k : W0 l Z n0 Q0 G s h175 1 5 77 #[.val (.int p0), .val (.int p1), .val (.int p2), .val (.int p3), .val (.int p4), .val (.int (4 : Int32)), .val (.int r115), .val (.int r116), .val (.int r117), .val (.int r118), .val (.ref a171), .unset, .unset] [] := k
    have k : W0 l Z n0 Q0 G s h175 1 5 86 #[.val (.int p0), .val (.int p1), .val (.int p2), .val (.int p3), .val (.int p4), .val (.int (4 : Int32)), .val (.int r115), .val (.int r116), .val (.int r117), .val (.int r118), .val (.ref a171), .unset, .unset] [(.int (2 : Int32)), (.ref a171)] := ((((k.aload at_77 rfl rfl).iconst (2) at_79 rfl).iload at_80 rfl).iconst (2) at_82 rfl).icF at_83 (XT.ii_le_f (by decide))
    have k : W0 l Z n0 Q0 G s h175 1 5 88 #[.val (.int p0), .val (.int p1), .val (.int p2), .val (.int p3), .val (.int p4), .val (.int (4 : Int32)), .val (.int r115), .val (.int r116), .val (.int r117), .val (.int r118), .val (.ref a171), .unset, .unset] [(.int r117), (.int (2 : Int32)), (.ref a171)] := k.iload at_86 rfl
    obtain ⟨v176, h176, ⟨rfl, d176, rfl, hd176⟩, k⟩ := k.callS (hw _ (List.mem_of_getElem? (i := 29) rfl)) (hw _ (List.mem_of_getElem? (i := 30) rfl)) (hw _ (List.mem_of_getElem? (i := 3) rfl)) (hw _ (List.mem_of_getElem? (i := 31) rfl)) (by decide) (cond l Z a0 hw r117 h175 n0) (argsL := [(.int r117)]) (rest := [(.int (2 : Int32)), (.ref a171)]) (lenOf pdd rfl) at_88 rfl rfl 2 (Nat.le_of_eq rfl) (by decide) (by decide) (by decide) (by decide)
    have k : W0 l Z n0 Q0 G s h175 1 5 91 #[.val (.int p0), .val (.int p1), .val (.int p2), .val (.int p3), .val (.int p4), .val (.int (4 : Int32)), .val (.int r115), .val (.int r116), .val (.int r117), .val (.int r118), .val (.ref a171), .unset, .unset] [(.int (i32 d176)), (.int (2 : Int32)), (.ref a171)] := k
    have k : W0 l Z n0 Q0 G s h175 1 5 96 #[.val (.int p0), .val (.int p1), .val (.int p2), .val (.int p3), .val (.int p4), .val (.int (4 : Int32)), .val (.int r115), .val (.int r116), .val (.int r117), .val (.int r118), .val (.ref a171), .unset, .unset] [(.int (i32 d176)), (.int (2 : Int32)), (.ref a171)] := k.goto (pc' := 96) at_91 (by decide)
    obtain ⟨h177, K177, A171', k⟩ := k.stI A171 2 rfl (by decide) (by simp) n_a171 at_96
    have A171 : AV Z h177 a171 .int [(.int (i32 d172)), (.int (i32 d174)), (.int (i32 d176)), (.int (0 : Int32)), (.int (0 : Int32))] := A171'
    have s_h177 : n0 ≤ h177.size := Nat.le_trans (by omega) K177.1
    have k : W0 l Z n0 Q0 G s h177 1 5 97 #[.val (.int p0), .val (.int p1), .val (.int p2), .val (.int p3), .val (.int p4), .val (.int (4 : Int32)), .val (.int r115), .val (.int r116), .val (.int r117), .val (.int r118), .val (.ref a171), .unset, .unset] [] := k
    have k : W0 l Z n0 Q0 G s h177 1 5 106 #[.val (.int p0), .val (.int p1), .val (.int p2), .val (.int p3), .val (.int p4), .val (.int (4 : Int32)), .val (.int r115), .val (.int r116), .val (.int r117), .val (.int r118), .val (.ref a171), .unset, .unset] [(.int (3 : Int32)), (.ref a171)] := ((((k.aload at_97 rfl rfl).iconst (3) at_99 rfl).iload at_100 rfl).iconst (3) at_102 rfl).icF at_103 (XT.ii_le_f (by decide))
    have k : W0 l Z n0 Q0 G s h177 1 5 108 #[.val (.int p0), .val (.int p1), .val (.int p2), .val (.int p3), .val (.int p4), .val (.int (4 : Int32)), .val (.int r115), .val (.int r116), .val (.int r117), .val (.int r118), .val (.ref a171), .unset, .unset] [(.int r118), (.int (3 : Int32)), (.ref a171)] := k.iload at_106 rfl
    obtain ⟨v178, h178, ⟨rfl, d178, rfl, hd178⟩, k⟩ := k.callS (hw _ (List.mem_of_getElem? (i := 29) rfl)) (hw _ (List.mem_of_getElem? (i := 30) rfl)) (hw _ (List.mem_of_getElem? (i := 3) rfl)) (hw _ (List.mem_of_getElem? (i := 31) rfl)) (by decide) (cond l Z a0 hw r118 h177 n0) (argsL := [(.int r118)]) (rest := [(.int (3 : Int32)), (.ref a171)]) (lenOf pdd rfl) at_108 rfl rfl 2 (Nat.le_of_eq rfl) (by decide) (by decide) (by decide) (by decide)
    have k : W0 l Z n0 Q0 G s h177 1 5 111 #[.val (.int p0), .val (.int p1), .val (.int p2), .val (.int p3), .val (.int p4), .val (.int (4 : Int32)), .val (.int r115), .val (.int r116), .val (.int r117), .val (.int r118), .val (.ref a171), .unset, .unset] [(.int (i32 d178)), (.int (3 : Int32)), (.ref a171)] := k
    have k : W0 l Z n0 Q0 G s h177 1 5 116 #[.val (.int p0), .val (.int p1), .val (.int p2), .val (.int p3), .val (.int p4), .val (.int (4 : Int32)), .val (.int r115), .val (.int r116), .val (.int r117), .val (.int r118), .val (.ref a171), .unset, .unset] [(.int (i32 d178)), (.int (3 : Int32)), (.ref a171)] := k.goto (pc' := 116) at_111 (by decide)
    obtain ⟨h179, K179, A171', k⟩ := k.stI A171 3 rfl (by decide) (by simp) n_a171 at_116
    have A171 : AV Z h179 a171 .int [(.int (i32 d172)), (.int (i32 d174)), (.int (i32 d176)), (.int (i32 d178)), (.int (0 : Int32))] := A171'
    have s_h179 : n0 ≤ h179.size := Nat.le_trans (by omega) K179.1
    have k : W0 l Z n0 Q0 G s h179 1 5 117 #[.val (.int p0), .val (.int p1), .val (.int p2), .val (.int p3), .val (.int p4), .val (.int (4 : Int32)), .val (.int r115), .val (.int r116), .val (.int r117), .val (.int r118), .val (.ref a171), .unset, .unset] [] := k
    have k : W0 l Z n0 Q0 G s h179 1 5 122 #[.val (.int p0), .val (.int p1), .val (.int p2), .val (.int p3), .val (.int p4), .val (.int (4 : Int32)), .val (.int r115), .val (.int r116), .val (.int r117), .val (.int r118), .val (.ref a171), .unset, .unset] [(.int (6 : Int32)), (.int (4 : Int32)), (.ref a171)] := ((k.aload at_117 rfl rfl).iconst (4) at_119 rfl).bipush (6) at_120 rfl
    obtain ⟨h180, K180, A171', k⟩ := k.stI A171 4 rfl (by decide) (by simp) n_a171 at_122
    have A171 : AV Z h180 a171 .int [(.int (i32 d172)), (.int (i32 d174)), (.int (i32 d176)), (.int (i32 d178)), (.int (6 : Int32))] := A171'
    have s_h180 : n0 ≤ h180.size := Nat.le_trans (by omega) K180.1
    have k : W0 l Z n0 Q0 G s h180 1 5 123 #[.val (.int p0), .val (.int p1), .val (.int p2), .val (.int p3), .val (.int p4), .val (.int (4 : Int32)), .val (.int r115), .val (.int r116), .val (.int r117), .val (.int r118), .val (.ref a171), .unset, .unset] [] := k
    have k : W0 l Z n0 Q0 G s h180 1 5 125 #[.val (.int p0), .val (.int p1), .val (.int p2), .val (.int p3), .val (.int p4), .val (.int (4 : Int32)), .val (.int r115), .val (.int r116), .val (.int r117), .val (.int r118), .val (.ref a171), .unset, .unset] [(.ref a171)] := k.aload at_123 rfl rfl
    have l172 := own_cl6 hd172
    have l174 := own_cl6 hd174
    have l176 := own_cl6 hd176
    have l178 := own_cl6 hd178
    have A : AV Z h180 a171 .int (vk [d172, d174, d176, d178, 6]) := A171
    obtain ⟨v181, h181, ⟨rfl, rfl⟩, k⟩ := k.callS (hw _ (List.mem_of_getElem? (i := 6) rfl)) (hw _ (List.mem_of_getElem? (i := 7) rfl)) (hw _ (List.mem_of_getElem? (i := 3) rfl)) (hw _ (List.mem_of_getElem? (i := 8) rfl)) (by decide) (conh l Z a0 hw a171 [d172, d174, d176, d178, 6] rfl (by intro d hd; simp at hd; omega) rfl h180 n0 A) (argsL := [(.ref a171)]) (rest := []) (lenOf pdh rfl) at_125 rfl rfl 0 (Nat.le_of_eq rfl) (by decide) (by decide) (by decide) (by decide)
    have k : W0 l Z n0 Q0 G s h180 1 5 128 #[.val (.int p0), .val (.int p1), .val (.int p2), .val (.int p3), .val (.int p4), .val (.int (4 : Int32)), .val (.int r115), .val (.int r116), .val (.int r117), .val (.int r118), .val (.ref a171), .unset, .unset] [(.int (i32 (expN [d172, d174, d176, d178, 6])))] := k
    have k : W0 l Z n0 Q0 G s h180 1 5 130 #[.val (.int p0), .val (.int p1), .val (.int p2), .val (.int p3), .val (.int p4), .val (.int (4 : Int32)), .val (.int r115), .val (.int r116), .val (.int r117), .val (.int r118), .val (.ref a171), .val (.int (i32 (expN [d172, d174, d176, d178, 6]))), .unset] [] := k.istore at_128 (Ls' := #[.val (.int p0), .val (.int p1), .val (.int p2), .val (.int p3), .val (.int p4), .val (.int (4 : Int32)), .val (.int r115), .val (.int r116), .val (.int r117), .val (.int r118), .val (.ref a171), .val (.int (i32 (expN [d172, d174, d176, d178, 6]))), .unset]) rfl
    obtain ⟨h182, K182, E182, D182, k⟩ := k.newO (hw _ (List.mem_of_getElem? (i := 12) rfl)) (hw _ (List.mem_of_getElem? (i := 13) rfl)) (hw _ (List.mem_of_getElem? (i := 14) rfl)) at_130 (by decide) (by decide)
    obtain ⟨a182, ea182⟩ : ∃ z, z = h180.size := ⟨_, rfl⟩
    rw [← ea182] at E182 D182 k
    have n_a182 : n0 ≤ a182 := by omega
    have F182_stage : Fld Z h182 a182 "com/example/caddisfly/caddisfly/XpathNumbers$Numeral" "stage" "I" (.int (0 : Int32)) := D182 (Or.inl (hw _ (List.mem_of_getElem? (i := 22) rfl))) (ty := .int) (by decide)
    have F182_anyDigit : Fld Z h182 a182 "com/example/caddisfly/caddisfly/XpathNumbers$Numeral" "anyDigit" "Z" (.int (0 : Int32)) := D182 (Or.inl (hw _ (List.mem_of_getElem? (i := 59) rfl))) (ty := .boolean) (by decide)
    have F182_significant : Fld Z h182 a182 "com/example/caddisfly/caddisfly/XpathNumbers$Numeral" "significant" "I" (.int (0 : Int32)) := D182 (Or.inl (hw _ (List.mem_of_getElem? (i := 61) rfl))) (ty := .int) (by decide)
    have F182_exponent : Fld Z h182 a182 "com/example/caddisfly/caddisfly/XpathNumbers$Numeral" "exponent" "J" (.long (0 : Int64)) := D182 (Or.inl (hw _ (List.mem_of_getElem? (i := 63) rfl))) (ty := .long) (by decide)
    have F182_leading : Fld Z h182 a182 "com/example/caddisfly/caddisfly/XpathNumbers$Numeral" "leading" "J" (.long (0 : Int64)) := D182 (Or.inl (hw _ (List.mem_of_getElem? (i := 65) rfl))) (ty := .long) (by decide)
    have F182_negative : Fld Z h182 a182 "com/example/caddisfly/caddisfly/XpathNumbers$Numeral" "negative" "Z" (.int (0 : Int32)) := D182 (Or.inl (hw _ (List.mem_of_getElem? (i := 68) rfl))) (ty := .boolean) (by decide)
    have F182_more : Fld Z h182 a182 "com/example/caddisfly/caddisfly/XpathNumbers$Numeral" "more" "Ljava/lang/StringBuilder;" .null := D182 (Or.inl (hw _ (List.mem_of_getElem? (i := 70) rfl))) (ty := (.object "java/lang/StringBuilder")) (by decide)
    have F182_droppedNonZero : Fld Z h182 a182 "com/example/caddisfly/caddisfly/XpathNumbers$Numeral" "droppedNonZero" "Z" (.int (0 : Int32)) := D182 (Or.inl (hw _ (List.mem_of_getElem? (i := 72) rfl))) (ty := .boolean) (by decide)
    have s_h182 : n0 ≤ h182.size := Nat.le_trans (by omega) K182.1
    have k : W0 l Z n0 Q0 G s h182 2 13 133 #[.val (.int p0), .val (.int p1), .val (.int p2), .val (.int p3), .val (.int p4), .val (.int (4 : Int32)), .val (.int r115), .val (.int r116), .val (.int r117), .val (.int r118), .val (.ref a171), .val (.int (i32 (expN [d172, d174, d176, d178, 6]))), .unset] [(.ref a182)] := k
    have k : W0 l Z n0 Q0 G s h182 2 13 134 #[.val (.int p0), .val (.int p1), .val (.int p2), .val (.int p3), .val (.int p4), .val (.int (4 : Int32)), .val (.int r115), .val (.int r116), .val (.int r117), .val (.int r118), .val (.ref a171), .val (.int (i32 (expN [d172, d174, d176, d178, 6]))), .unset] [(.ref a182), (.ref a182)] := k.dup at_133 rfl
    have N : NS Z h182 a182 0 0 := ⟨E182, F182_stage, F182_significant, ⟨_, F182_exponent⟩, ⟨_, F182_leading⟩, ⟨_, F182_anyDigit⟩, ⟨_, F182_negative⟩⟩
    obtain ⟨v183, h183, ⟨rfl, K183, N183⟩, k⟩ := k.callN rfl (hw _ (List.mem_of_getElem? (i := 15) rfl)) (hw _ (List.mem_of_getElem? (i := 16) rfl)) (hw _ (List.mem_of_getElem? (i := 14) rfl)) (hw _ (List.mem_of_getElem? (i := 17) rfl)) (by decide) (coni l Z a0 hw a182 h182 n0 (by omega) n_a182 N) (argsL := []) (rest := [(.ref a182)]) (lenOf pdi rfl) at_134 rfl rfl 1 (Nat.le_of_eq rfl) (by decide) (by decide) (by decide) (by decide)
    have s_h183 : n0 ≤ h183.size := Nat.le_trans (by omega) K183.1
    have k : W0 l Z n0 Q0 G s h183 2 13 137 #[.val (.int p0), .val (.int p1), .val (.int p2), .val (.int p3), .val (.int p4), .val (.int (4 : Int32)), .val (.int r115), .val (.int r116), .val (.int r117), .val (.int r118), .val (.ref a171), .val (.int (i32 (expN [d172, d174, d176, d178, 6]))), .unset] [(.ref a182)] := k
    have k : W0 l Z n0 Q0 G s h183 2 13 144 #[.val (.int p0), .val (.int p1), .val (.int p2), .val (.int p3), .val (.int p4), .val (.int (4 : Int32)), .val (.int r115), .val (.int r116), .val (.int r117), .val (.int r118), .val (.ref a171), .val (.int (i32 (expN [d172, d174, d176, d178, 6]))), .val (.ref a182)] [] := ((k.astore at_137 rfl (Ls' := #[.val (.int p0), .val (.int p1), .val (.int p2), .val (.int p3), .val (.int p4), .val (.int (4 : Int32)), .val (.int r115), .val (.int r116), .val (.int r117), .val (.int r118), .val (.ref a171), .val (.int (i32 (expN [d172, d174, d176, d178, 6]))), .val (.ref a182)]) rfl).iload at_139 rfl).ifF at_141 (XT.i0_le_f (by decide))
    have k : W0 l Z n0 Q0 G s h183 2 13 148 #[.val (.int p0), .val (.int p1), .val (.int p2), .val (.int p3), .val (.int p4), .val (.int (4 : Int32)), .val (.int r115), .val (.int r116), .val (.int r117), .val (.int r118), .val (.ref a171), .val (.int (i32 (expN [d172, d174, d176, d178, 6]))), .val (.ref a182)] [(.int r115), (.ref a182)] := (k.aload at_144 rfl rfl).iload at_146 rfl
    have bs : (0 : Nat) ≤ 5 := by omega
    have bg : (0 : Nat) ≤ 0 := by omega
    obtain ⟨v184, h184, ⟨rfl, K184, N184⟩, k⟩ := k.callV (hw _ (List.mem_of_getElem? (i := 38) rfl)) (hw _ (List.mem_of_getElem? (i := 39) rfl)) (hw _ (List.mem_of_getElem? (i := 40) rfl)) (hw _ (List.mem_of_getElem? (i := 41) rfl)) rfl (hw _ (List.mem_of_getElem? (i := 14) rfl)) (hw _ (List.mem_of_getElem? (i := 42) rfl)) (by decide) N183.1 (conn l Z a0 hw a182 r115 0 0 d172 bs hd172 (by omega) h183 n0 (by omega) n_a182 N183) (argsL := [(.int r115)]) (rest := []) (lenOf pdn rfl) at_148 rfl rfl 0 (Nat.le_of_eq rfl) (by decide) (by decide) (by decide) (by decide)
    have s_h184 : n0 ≤ h184.size := Nat.le_trans (by omega) K184.1
    have k : W0 l Z n0 Q0 G s h184 2 13 151 #[.val (.int p0), .val (.int p1), .val (.int p2), .val (.int p3), .val (.int p4), .val (.int (4 : Int32)), .val (.int r115), .val (.int r116), .val (.int r117), .val (.int r118), .val (.ref a171), .val (.int (i32 (expN [d172, d174, d176, d178, 6]))), .val (.ref a182)] [] := k
    have bs : stN 0 d172 ≤ 5 := own_st5 bs
    have bg : sgN 0 0 d172 ≤ 1 := Nat.le_trans own_sg (by omega)
    have k : W0 l Z n0 Q0 G s h184 2 13 157 #[.val (.int p0), .val (.int p1), .val (.int p2), .val (.int p3), .val (.int p4), .val (.int (4 : Int32)), .val (.int r115), .val (.int r116), .val (.int r117), .val (.int r118), .val (.ref a171), .val (.int (i32 (expN [d172, d174, d176, d178, 6]))), .val (.ref a182)] [] := ((k.iload at_151 rfl).iconst (1) at_153 rfl).icF at_154 (XT.ii_le_f (by decide))
    have k : W0 l Z n0 Q0 G s h184 2 13 161 #[.val (.int p0), .val (.int p1), .val (.int p2), .val (.int p3), .val (.int p4), .val (.int (4 : Int32)), .val (.int r115), .val (.int r116), .val (.int r117), .val (.int r118), .val (.ref a171), .val (.int (i32 (expN [d172, d174, d176, d178, 6]))), .val (.ref a182)] [(.int r116), (.ref a182)] := (k.aload at_157 rfl rfl).iload at_159 rfl
    obtain ⟨v185, h185, ⟨rfl, K185, N185⟩, k⟩ := k.callV (hw _ (List.mem_of_getElem? (i := 38) rfl)) (hw _ (List.mem_of_getElem? (i := 39) rfl)) (hw _ (List.mem_of_getElem? (i := 40) rfl)) (hw _ (List.mem_of_getElem? (i := 41) rfl)) rfl (hw _ (List.mem_of_getElem? (i := 14) rfl)) (hw _ (List.mem_of_getElem? (i := 42) rfl)) (by decide) N184.1 (conn l Z a0 hw a182 r116 (stN 0 d172) (sgN 0 0 d172) d174 bs hd174 (by omega) h184 n0 (by omega) n_a182 N184) (argsL := [(.int r116)]) (rest := []) (lenOf pdn rfl) at_161 rfl rfl 0 (Nat.le_of_eq rfl) (by decide) (by decide) (by decide) (by decide)
    have s_h185 : n0 ≤ h185.size := Nat.le_trans (by omega) K185.1
    have k : W0 l Z n0 Q0 G s h185 2 13 164 #[.val (.int p0), .val (.int p1), .val (.int p2), .val (.int p3), .val (.int p4), .val (.int (4 : Int32)), .val (.int r115), .val (.int r116), .val (.int r117), .val (.int r118), .val (.ref a171), .val (.int (i32 (expN [d172, d174, d176, d178, 6]))), .val (.ref a182)] [] := k
    have bs : stN (stN 0 d172) d174 ≤ 5 := own_st5 bs
    have bg : sgN (stN 0 d172) (sgN 0 0 d172) d174 ≤ 2 := Nat.le_trans own_sg (by omega)
    have k : W0 l Z n0 Q0 G s h185 2 13 170 #[.val (.int p0), .val (.int p1), .val (.int p2), .val (.int p3), .val (.int p4), .val (.int (4 : Int32)), .val (.int r115), .val (.int r116), .val (.int r117), .val (.int r118), .val (.ref a171), .val (.int (i32 (expN [d172, d174, d176, d178, 6]))), .val (.ref a182)] [] := ((k.iload at_164 rfl).iconst (2) at_166 rfl).icF at_167 (XT.ii_le_f (by decide))
    have k : W0 l Z n0 Q0 G s h185 2 13 174 #[.val (.int p0), .val (.int p1), .val (.int p2), .val (.int p3), .val (.int p4), .val (.int (4 : Int32)), .val (.int r115), .val (.int r116), .val (.int r117), .val (.int r118), .val (.ref a171), .val (.int (i32 (expN [d172, d174, d176, d178, 6]))), .val (.ref a182)] [(.int r117), (.ref a182)] := (k.aload at_170 rfl rfl).iload at_172 rfl
    obtain ⟨v186, h186, ⟨rfl, K186, N186⟩, k⟩ := k.callV (hw _ (List.mem_of_getElem? (i := 38) rfl)) (hw _ (List.mem_of_getElem? (i := 39) rfl)) (hw _ (List.mem_of_getElem? (i := 40) rfl)) (hw _ (List.mem_of_getElem? (i := 41) rfl)) rfl (hw _ (List.mem_of_getElem? (i := 14) rfl)) (hw _ (List.mem_of_getElem? (i := 42) rfl)) (by decide) N185.1 (conn l Z a0 hw a182 r117 (stN (stN 0 d172) d174) (sgN (stN 0 d172) (sgN 0 0 d172) d174) d176 bs hd176 (by omega) h185 n0 (by omega) n_a182 N185) (argsL := [(.int r117)]) (rest := []) (lenOf pdn rfl) at_174 rfl rfl 0 (Nat.le_of_eq rfl) (by decide) (by decide) (by decide) (by decide)
    have s_h186 : n0 ≤ h186.size := Nat.le_trans (by omega) K186.1
    have k : W0 l Z n0 Q0 G s h186 2 13 177 #[.val (.int p0), .val (.int p1), .val (.int p2), .val (.int p3), .val (.int p4), .val (.int (4 : Int32)), .val (.int r115), .val (.int r116), .val (.int r117), .val (.int r118), .val (.ref a171), .val (.int (i32 (expN [d172, d174, d176, d178, 6]))), .val (.ref a182)] [] := k
    have bs : stN (stN (stN 0 d172) d174) d176 ≤ 5 := own_st5 bs
    have bg : sgN (stN (stN 0 d172) d174) (sgN (stN 0 d172) (sgN 0 0 d172) d174) d176 ≤ 3 := Nat.le_trans own_sg (by omega)
    have k : W0 l Z n0 Q0 G s h186 2 13 183 #[.val (.int p0), .val (.int p1), .val (.int p2), .val (.int p3), .val (.int p4), .val (.int (4 : Int32)), .val (.int r115), .val (.int r116), .val (.int r117), .val (.int r118), .val (.ref a171), .val (.int (i32 (expN [d172, d174, d176, d178, 6]))), .val (.ref a182)] [] := ((k.iload at_177 rfl).iconst (3) at_179 rfl).icF at_180 (XT.ii_le_f (by decide))
    have k : W0 l Z n0 Q0 G s h186 2 13 187 #[.val (.int p0), .val (.int p1), .val (.int p2), .val (.int p3), .val (.int p4), .val (.int (4 : Int32)), .val (.int r115), .val (.int r116), .val (.int r117), .val (.int r118), .val (.ref a171), .val (.int (i32 (expN [d172, d174, d176, d178, 6]))), .val (.ref a182)] [(.int r118), (.ref a182)] := (k.aload at_183 rfl rfl).iload at_185 rfl
    obtain ⟨v187, h187, ⟨rfl, K187, N187⟩, k⟩ := k.callV (hw _ (List.mem_of_getElem? (i := 38) rfl)) (hw _ (List.mem_of_getElem? (i := 39) rfl)) (hw _ (List.mem_of_getElem? (i := 40) rfl)) (hw _ (List.mem_of_getElem? (i := 41) rfl)) rfl (hw _ (List.mem_of_getElem? (i := 14) rfl)) (hw _ (List.mem_of_getElem? (i := 42) rfl)) (by decide) N186.1 (conn l Z a0 hw a182 r118 (stN (stN (stN 0 d172) d174) d176) (sgN (stN (stN 0 d172) d174) (sgN (stN 0 d172) (sgN 0 0 d172) d174) d176) d178 bs hd178 (by omega) h186 n0 (by omega) n_a182 N186) (argsL := [(.int r118)]) (rest := []) (lenOf pdn rfl) at_187 rfl rfl 0 (Nat.le_of_eq rfl) (by decide) (by decide) (by decide) (by decide)
    have s_h187 : n0 ≤ h187.size := Nat.le_trans (by omega) K187.1
    have k : W0 l Z n0 Q0 G s h187 2 13 190 #[.val (.int p0), .val (.int p1), .val (.int p2), .val (.int p3), .val (.int p4), .val (.int (4 : Int32)), .val (.int r115), .val (.int r116), .val (.int r117), .val (.int r118), .val (.ref a171), .val (.int (i32 (expN [d172, d174, d176, d178, 6]))), .val (.ref a182)] [] := k
    have bs : stN (stN (stN (stN 0 d172) d174) d176) d178 ≤ 5 := own_st5 bs
    have bg : sgN (stN (stN (stN 0 d172) d174) d176) (sgN (stN (stN 0 d172) d174) (sgN (stN 0 d172) (sgN 0 0 d172) d174) d176) d178 ≤ 4 := Nat.le_trans own_sg (by omega)
    have k : W0 l Z n0 Q0 G s h187 2 13 192 #[.val (.int p0), .val (.int p1), .val (.int p2), .val (.int p3), .val (.int p4), .val (.int (4 : Int32)), .val (.int r115), .val (.int r116), .val (.int r117), .val (.int r118), .val (.ref a171), .val (.int (i32 (expN [d172, d174, d176, d178, 6]))), .val (.ref a182)] [(.ref a182)] := k.aload at_190 rfl rfl
    obtain ⟨v188, h188, ⟨rfl, rfl⟩, k⟩ := k.callV (hw _ (List.mem_of_getElem? (i := 23) rfl)) (hw _ (List.mem_of_getElem? (i := 24) rfl)) (hw _ (List.mem_of_getElem? (i := 25) rfl)) (hw _ (List.mem_of_getElem? (i := 26) rfl)) rfl (hw _ (List.mem_of_getElem? (i := 14) rfl)) (hw _ (List.mem_of_getElem? (i := 27) rfl)) (by decide) N187.1 (cono l Z a0 hw a182 (stN (stN (stN (stN 0 d172) d174) d176) d178) (sgN (stN (stN (stN 0 d172) d174) d176) (sgN (stN (stN 0 d172) d174) (sgN (stN 0 d172) (sgN 0 0 d172) d174) d176) d178) bs (by omega) h187 n0 N187) (argsL := []) (rest := []) (lenOf pdo rfl) at_192 rfl rfl 0 (Nat.le_of_eq rfl) (by decide) (by decide) (by decide) (by decide)
    have k : W0 l Z n0 Q0 G s h187 2 13 195 #[.val (.int p0), .val (.int p1), .val (.int p2), .val (.int p3), .val (.int p4), .val (.int (4 : Int32)), .val (.int r115), .val (.int r116), .val (.int r117), .val (.int r118), .val (.ref a171), .val (.int (i32 (expN [d172, d174, d176, d178, 6]))), .val (.ref a182)] [(.int (i32 (steadyN (stN (stN (stN (stN 0 d172) d174) d176) d178) (sgN (stN (stN (stN 0 d172) d174) d176) (sgN (stN (stN 0 d172) d174) (sgN (stN 0 d172) (sgN 0 0 d172) d174) d176) d178))))] := k
    have k : W0 l Z n0 Q0 G s h187 2 13 197 #[.val (.int p0), .val (.int p1), .val (.int p2), .val (.int p3), .val (.int p4), .val (.int (4 : Int32)), .val (.int r115), .val (.int r116), .val (.int r117), .val (.int r118), .val (.ref a171), .val (.int (i32 (expN [d172, d174, d176, d178, 6]))), .val (.ref a182)] [(.int (i32 (expN [d172, d174, d176, d178, 6]))), (.int (i32 (steadyN (stN (stN (stN (stN 0 d172) d174) d176) d178) (sgN (stN (stN (stN 0 d172) d174) d176) (sgN (stN (stN 0 d172) d174) (sgN (stN 0 d172) (sgN 0 0 d172) d174) d176) d178))))] := k.iload at_195 rfl
    have k : W0 l Z n0 Q0 G s h187 2 13 200 #[.val (.int p0), .val (.int p1), .val (.int p2), .val (.int p3), .val (.int p4), .val (.int (4 : Int32)), .val (.int r115), .val (.int r116), .val (.int r117), .val (.int r118), .val (.ref a171), .val (.int (i32 (expN [d172, d174, d176, d178, 6]))), .val (.ref a182)] [] := k.icF at_197 (XT.ii_ne_f (congrArg i32 (own_fin4 d172 l172 d174 l174 d176 l176 d178 l178)))
    have k : W0 l Z n0 Q0 G s h187 2 13 205 #[.val (.int p0), .val (.int p1), .val (.int p2), .val (.int p3), .val (.int p4), .val (.int (4 : Int32)), .val (.int r115), .val (.int r116), .val (.int r117), .val (.int r118), .val (.ref a171), .val (.int (i32 (expN [d172, d174, d176, d178, 6]))), .val (.ref a182)] [(.int (1 : Int32))] := (k.iconst (1) at_200 rfl).goto (pc' := 205) at_201 (by decide)
    exact k.outZ (Or.inr rfl) at_205 (by decide) (by decide) rfl
set_option maxRecDepth 65536 in
set_option maxHeartbeats 40000000 in
theorem comes_1 {Post : Tables → Env → Array Value → State → Outcome → State → Prop} (hpost : ∀ tb e args s v u, (limb_1_1.after args s (.returned v) u = true ∧ limb_1_2.after args s (.returned v) u = true ∧ True) → FrameEnd s (.returned v) u (Jvm.fieldLocs frame_1_writes args s ++ Jvm.arrayLocs frame_1_arrays args s ++ Jvm.staticLocs frame_1_statics s) 16 128 → Post tb e args s (.returned v) u) :
    ArmFor flags0 classFile x code maxLocals ret World_1 tables_1 room_1 Calls_1 rest_1 Pre_1 Post := by
  intro l hfl _ _ p e ha hc hk s m args below hf hA hF happ hP
  obtain ⟨hcalls, hrest, hpre⟩ := hP
  obtain ⟨-, -, -, hnamed, -, -, -, hat⟩ := (Spec.applies_iff hf).mp happ
  obtain ⟨hg, hn⟩ := and_e (Cond.before_iff.mp (show (Jvm.Cond.and given_1 narrow_1).before args s = true from hpre))
  obtain ⟨h1, g0⟩ := and_e hg
  obtain ⟨w0, w1, w2, w3, w4, rfl⟩ : ∃ w0 w1 w2 w3 w4 : Value, args = #[w0, w1, w2, w3, w4] := by
    have hs : args.size = 5 := by simpa [Cond.value, given_1] using h1
    obtain ⟨L⟩ := args
    match L, hs with
    | [w0, w1, w2, w3, w4], _ => exact ⟨w0, w1, w2, w3, w4, rfl⟩
  have hw := fun d (hd : d ∈ tables_1) => atoms_spec (ws := Jvm.Cond.code x code maxLocals ret :: tables_1) hat d (List.mem_cons_of_mem _ hd)
  obtain ⟨q0, g1⟩ := and_e g0
  obtain ⟨i0, e0⟩ := is_v q0
  obtain rfl : w0 = (.int i0) := Option.some.inj e0
  obtain ⟨q1, g2⟩ := and_e g1
  obtain ⟨i1, e1⟩ := is_v q1
  obtain rfl : w1 = (.int i1) := Option.some.inj e1
  obtain ⟨q2, g3⟩ := and_e g2
  obtain ⟨i2, e2⟩ := is_v q2
  obtain rfl : w2 = (.int i2) := Option.some.inj e2
  obtain ⟨q3, g4⟩ := and_e g3
  obtain ⟨i3, e3⟩ := is_v q3
  obtain rfl : w3 = (.int i3) := Option.some.inj e3
  have q4 := g4
  obtain ⟨i4, e4⟩ := is_v q4
  obtain rfl : w4 = (.int i4) := Option.some.inj e4
  obtain ⟨n, o, h1, h2, h3, _, L, rfl, ⟨N, rfl⟩, hq⟩ := con0 l s _ hw i0 i1 i2 i3 i4 s.heap s.heap.size (Nat.le_refl _) tables_1 p e ha hc hk s m _ below hf ((Spec.applies_iff_loose hf).mp happ).1 ⟨rfl, State.Warmed39.refl s, rfl⟩ trivial
  refine ⟨n, _, h1, h2, h3, hpost _ _ _ _ _ _ ⟨Cond.after_iff.mpr rfl, Cond.after_iff.mpr (eq_i res_at (Term.int_eval (1)) rfl), trivial⟩ ⟨hq.1, hq.2.1, (hq.2.2.sift fun y hy => Or.inr (N y hy)).mono (by decide) (by decide)⟩⟩
theorem main_1_1 : Claimed_1_1 := comes_1 fun _ _ _ _ _ _ h hF => ⟨h.1, hF⟩
theorem main_1_2 : Claimed_1_2 := comes_1 fun _ _ _ _ _ _ h hF => ⟨h.2.1, hF⟩
end Jvm.Pilot.@@N@@
namespace Jvm.Pilot.@@N@@
open Jvm Jvm.ClassFile Sem Op Lib Jvm.Free Jvm.Stand Jvm.Pilot.@@N@@.Jvm.D
/-! MADE BY PROGRAM (witnessworld.py) out of the Statement's table words and the real class files: 10 classes; the members and pool entries that the words name. The judged class is class 1, her method 1. -/
namespace start1
open Jvm.ClassFile
def u (s : String) : CpInfo := .utf8 (stringToUtf16 s)
/-- a pool by its gaps: so many unusable entries, then the entry; so many at the end -/
def gap : Nat → List CpInfo → List CpInfo
  | 0, r => r
  | n + 1, r => .unusable :: gap n r
def poolList (es : List (Nat × CpInfo)) (last : Nat) : List CpInfo := es.foldr (fun e r => gap e.1 (e.2 :: r)) (gap last [])
def pool (es : List (Nat × CpInfo)) (last : Nat) : Array CpInfo := ⟨poolList es last⟩
def fileOf (pool : Array CpInfo) (this : Nat) (attrs : Array Attribute := #[]) (ms : Array MethodInfo := #[]) (fl : Nat := 33) (sup : Nat := 0) (ifs : Array Nat := #[]) (fds : Array FieldInfo := #[]) : ClassFile where
  minorVersion := 0
  majorVersion := 65
  constantPool := pool
  accessFlags := fl
  thisClass := this
  superClass := sup
  interfaces := ifs
  fields := fds
  methods := ms
  attributes := attrs
def plain (name : String) (sup : Option ClassId) : Class where
  name := name
  kind := .ordinary
  loader := none
  accessFlags := 33
  super := sup
  interfaces := #[]
  cf := none
  fields := #[]
  methods := #[]
  instanceTypes := #[]
  staticTypes := #[]
  resolved := #[]
  callSites := []
  init := .initialized
  statics := none
  mirror := none

def pool0 : Array CpInfo := pool [(5, u "<init>"), (0, u "()V"), (1, .class_ 10), (1, u "java/lang/Object")] 113

def k0c0 : Code := { maxStack := 0, maxLocals := 1, code := object_method_1_code, exceptionTable := #[], attributes := #[] }
def k0m0 : Method := { name := "<init>", desc := "()V", sig := { parameters := [], returnType := none }, accessFlags := 1, code := some k0c0 }
/-- java/lang/Object -/
def k0 : Class := { plain "java/lang/Object" none with
  accessFlags := 33
  interfaces := #[]
  cf := some (fileOf pool0 8 #[] #[{ accessFlags := 1, nameIndex := 5, descriptorIndex := 6, attributes := #[] }] 33 0 #[] #[])
  fields := #[]
  methods := #[k0m0]
  instanceTypes := #[]
  staticTypes := #[]
  resolved := Array.replicate 124 none
  statics := none }

def pool1 : Array CpInfo := pool [(2, .class_ 4), (0, .nameAndType 5 6), (0, u "java/lang/Object"), (0, u "<init>"), (0, u "()V"), (0, .integer 2147483647), (0, .methodref 9 10), (0, .class_ 11), (0, .nameAndType 12 13), (0, u "com/example/caddisfly/caddisfly/NumeralSteadyInPinLaw"), (0, u "draw"), (0, u "(I)C"), (0, .methodref 9 15), (0, .nameAndType 16 17), (0, u "cls"), (0, u "(C)I"), (0, .methodref 9 19), (0, .nameAndType 20 21), (0, u "expected"), (0, u "([I)I"), (0, .class_ 23), (0, u "com/example/caddisfly/caddisfly/XpathNumbers$Numeral"), (0, .methodref 22 3), (0, .methodref 22 26), (0, .nameAndType 27 28), (0, u "add"), (0, u "(C)V"), (0, .methodref 22 30), (0, .nameAndType 31 32), (0, u "steadyIn"), (0, u "()I"), (0, .integer 65535), (0, .methodref 9 35), (0, .nameAndType 36 37), (0, u "skipWs"), (0, u "([II)I"), (0, .methodref 9 39), (0, .nameAndType 40 37), (0, u "skipDigitChars"), (0, .methodref 9 42), (0, .nameAndType 43 44), (0, u "anyNonZero"), (0, u "([III)Z"), (2, u "law"), (0, u "(IIIII)Z")] 9

def k1m0 : Method := { name := "<init>", desc := "()V", sig := { parameters := [], returnType := none }, accessFlags := 2, code := none }
def k1c1 : Code := { maxStack := 4, maxLocals := 13, code := code, exceptionTable := #[], attributes := #[] }
def k1m1 : Method := { name := "law", desc := "(IIIII)Z", sig := { parameters := [.int, .int, .int, .int, .int], returnType := some .boolean }, accessFlags := 9, code := some k1c1 }
def k1c2 : Code := { maxStack := 3, maxLocals := 5, code := method_3_code, exceptionTable := #[], attributes := #[] }
def k1m2 : Method := { name := "draw", desc := "(I)C", sig := { parameters := [.int], returnType := some .char }, accessFlags := 10, code := some k1c2 }
def k1c3 : Code := { maxStack := 2, maxLocals := 2, code := method_4_code, exceptionTable := #[], attributes := #[] }
def k1m3 : Method := { name := "cls", desc := "(C)I", sig := { parameters := [.char], returnType := some .int }, accessFlags := 10, code := some k1c3 }
def k1c4 : Code := { maxStack := 2, maxLocals := 3, code := method_5_code, exceptionTable := #[], attributes := #[] }
def k1m4 : Method := { name := "skipWs", desc := "([II)I", sig := { parameters := [(.array .int), .int], returnType := some .int }, accessFlags := 10, code := some k1c4 }
def k1c5 : Code := { maxStack := 2, maxLocals := 3, code := method_6_code, exceptionTable := #[], attributes := #[] }
def k1m5 : Method := { name := "skipDigitChars", desc := "([II)I", sig := { parameters := [(.array .int), .int], returnType := some .int }, accessFlags := 10, code := some k1c5 }
def k1c6 : Code := { maxStack := 2, maxLocals := 3, code := method_7_code, exceptionTable := #[], attributes := #[] }
def k1m6 : Method := { name := "anyNonZero", desc := "([III)Z", sig := { parameters := [(.array .int), .int, .int], returnType := some .boolean }, accessFlags := 10, code := some k1c6 }
def k1c7 : Code := { maxStack := 3, maxLocals := 6, code := method_8_code, exceptionTable := #[], attributes := #[] }
def k1m7 : Method := { name := "expected", desc := "([I)I", sig := { parameters := [(.array .int)], returnType := some .int }, accessFlags := 10, code := some k1c7 }
/-- com/example/caddisfly/caddisfly/NumeralSteadyInPinLaw -/
def k1 : Class := { plain "com/example/caddisfly/caddisfly/NumeralSteadyInPinLaw" (some 0) with
  accessFlags := 49
  interfaces := #[]
  cf := some (fileOf pool1 9 #[] #[{ accessFlags := 2, nameIndex := 5, descriptorIndex := 6, attributes := #[] }, { accessFlags := 9, nameIndex := 47, descriptorIndex := 48, attributes := #[] }, { accessFlags := 10, nameIndex := 12, descriptorIndex := 13, attributes := #[] }, { accessFlags := 10, nameIndex := 16, descriptorIndex := 17, attributes := #[] }, { accessFlags := 10, nameIndex := 36, descriptorIndex := 37, attributes := #[] }, { accessFlags := 10, nameIndex := 40, descriptorIndex := 37, attributes := #[] }, { accessFlags := 10, nameIndex := 43, descriptorIndex := 44, attributes := #[] }, { accessFlags := 10, nameIndex := 20, descriptorIndex := 21, attributes := #[] }] 49 2 #[] #[])
  fields := #[]
  methods := #[k1m0, k1m1, k1m2, k1m3, k1m4, k1m5, k1m6, k1m7]
  instanceTypes := #[]
  staticTypes := #[]
  resolved := Array.replicate 58 none
  statics := none }

def pool2 : Array CpInfo := pool [(1, .class_ 2), (0, u "com/example/caddisfly/caddisfly/XpathNumbers"), (0, .methodref 4 5), (0, .class_ 6), (0, .nameAndType 7 8), (0, u "java/lang/Object"), (0, u "<init>"), (0, u "()V"), (0, .class_ 10), (0, u "com/example/caddisfly/caddisfly/XpathNumbers$Numeral"), (0, .fieldref 9 12), (0, .nameAndType 13 14), (0, u "stage"), (0, u "I"), (0, .fieldref 9 16), (0, .nameAndType 17 18), (0, u "negative"), (0, u "Z"), (0, .fieldref 9 20), (0, .nameAndType 21 18), (0, u "anyDigit"), (0, .fieldref 9 23), (0, .nameAndType 24 14), (0, u "significant"), (0, .fieldref 9 26), (0, .nameAndType 27 28), (0, u "leading"), (0, u "J"), (0, .fieldref 9 30), (0, .nameAndType 31 32), (0, u "more"), (0, u "Ljava/lang/StringBuilder;"), (6, .fieldref 9 40), (0, .nameAndType 41 28), (0, u "exponent"), (0, .fieldref 9 43), (0, .nameAndType 44 18), (0, u "droppedNonZero"), (0, .methodref 1 46), (0, .nameAndType 47 48), (0, u "isWhitespace"), (0, u "(C)Z"), (0, .methodref 9 50), (0, .nameAndType 51 52), (0, u "startNumeral"), (0, u "(C)V"), (0, .methodref 1 54), (0, .nameAndType 55 48), (0, u "isDigit"), (0, .methodref 9 57), (0, .nameAndType 58 59), (0, u "addDigit"), (0, u "(CZ)V"), (0, .long 10), (41, u "CHANGING"), (2, u "SPACES"), (1, u "DIGITS"), (1, u "ZEROS"), (1, u "LEADING"), (0, u "SIGNED"), (0, u "WHOLE"), (0, u "FRACTION"), (0, u "TRAILING"), (1, u "NOT_A_NUMBER"), (1, u "SIGNIFICANT_DIGITS"), (1, u "LONG_DIGITS"), (1, u "EXPONENT_BOUND"), (4, u "add"), (2, u "steadyIn"), (0, u "()I")] 9

def k2c0 : Code := { maxStack := 2, maxLocals := 1, code := prog_160_method_1_code, exceptionTable := #[], attributes := #[] }
def k2m0 : Method := { name := "<init>", desc := "()V", sig := { parameters := [], returnType := none }, accessFlags := 0, code := some k2c0 }
def k2c1 : Code := { maxStack := 3, maxLocals := 2, code := prog_160_method_3_code, exceptionTable := #[], attributes := #[] }
def k2m1 : Method := { name := "add", desc := "(C)V", sig := { parameters := [.char], returnType := none }, accessFlags := 0, code := some k2c1 }
def k2c2 : Code := { maxStack := 3, maxLocals := 2, code := prog_160_method_4_code, exceptionTable := #[], attributes := #[] }
def k2m2 : Method := { name := "startNumeral", desc := "(C)V", sig := { parameters := [.char], returnType := none }, accessFlags := 2, code := some k2c2 }
def k2c3 : Code := { maxStack := 5, maxLocals := 3, code := prog_160_method_5_code, exceptionTable := #[], attributes := #[] }
def k2m3 : Method := { name := "addDigit", desc := "(CZ)V", sig := { parameters := [.char, .boolean], returnType := none }, accessFlags := 2, code := some k2c3 }
def k2c4 : Code := { maxStack := 2, maxLocals := 3, code := prog_160_method_7_code, exceptionTable := #[], attributes := #[] }
def k2m4 : Method := { name := "steadyIn", desc := "()I", sig := { parameters := [], returnType := some .int }, accessFlags := 0, code := some k2c4 }
/-- com/example/caddisfly/caddisfly/XpathNumbers$Numeral -/
def k2 : Class := { plain "com/example/caddisfly/caddisfly/XpathNumbers$Numeral" (some 0) with
  accessFlags := 32
  interfaces := #[]
  cf := some (fileOf pool2 9 #[.nestHost 1] #[{ accessFlags := 0, nameIndex := 7, descriptorIndex := 8, attributes := #[] }, { accessFlags := 0, nameIndex := 128, descriptorIndex := 52, attributes := #[] }, { accessFlags := 2, nameIndex := 51, descriptorIndex := 52, attributes := #[] }, { accessFlags := 2, nameIndex := 58, descriptorIndex := 59, attributes := #[] }, { accessFlags := 0, nameIndex := 131, descriptorIndex := 132, attributes := #[] }] 32 4 #[] #[{ accessFlags := 24, nameIndex := 102, descriptorIndex := 14, attributes := #[] }, { accessFlags := 24, nameIndex := 105, descriptorIndex := 14, attributes := #[] }, { accessFlags := 24, nameIndex := 107, descriptorIndex := 14, attributes := #[] }, { accessFlags := 24, nameIndex := 109, descriptorIndex := 14, attributes := #[] }, { accessFlags := 26, nameIndex := 111, descriptorIndex := 14, attributes := #[] }, { accessFlags := 26, nameIndex := 112, descriptorIndex := 14, attributes := #[] }, { accessFlags := 26, nameIndex := 113, descriptorIndex := 14, attributes := #[] }, { accessFlags := 26, nameIndex := 114, descriptorIndex := 14, attributes := #[] }, { accessFlags := 26, nameIndex := 115, descriptorIndex := 14, attributes := #[] }, { accessFlags := 26, nameIndex := 117, descriptorIndex := 14, attributes := #[] }, { accessFlags := 26, nameIndex := 119, descriptorIndex := 14, attributes := #[] }, { accessFlags := 26, nameIndex := 121, descriptorIndex := 14, attributes := #[] }, { accessFlags := 26, nameIndex := 123, descriptorIndex := 28, attributes := #[] }, { accessFlags := 2, nameIndex := 13, descriptorIndex := 14, attributes := #[] }, { accessFlags := 2, nameIndex := 17, descriptorIndex := 18, attributes := #[] }, { accessFlags := 2, nameIndex := 21, descriptorIndex := 18, attributes := #[] }, { accessFlags := 2, nameIndex := 24, descriptorIndex := 14, attributes := #[] }, { accessFlags := 2, nameIndex := 27, descriptorIndex := 28, attributes := #[] }, { accessFlags := 2, nameIndex := 31, descriptorIndex := 32, attributes := #[] }, { accessFlags := 2, nameIndex := 41, descriptorIndex := 28, attributes := #[] }, { accessFlags := 2, nameIndex := 44, descriptorIndex := 18, attributes := #[] }])
  fields := #[{ name := "CHANGING", type := .int, accessFlags := 24, slot := 0, constantValue := 0 }, { name := "SPACES", type := .int, accessFlags := 24, slot := 1, constantValue := 0 }, { name := "DIGITS", type := .int, accessFlags := 24, slot := 2, constantValue := 0 }, { name := "ZEROS", type := .int, accessFlags := 24, slot := 3, constantValue := 0 }, { name := "LEADING", type := .int, accessFlags := 26, slot := 4, constantValue := 0 }, { name := "SIGNED", type := .int, accessFlags := 26, slot := 5, constantValue := 0 }, { name := "WHOLE", type := .int, accessFlags := 26, slot := 6, constantValue := 0 }, { name := "FRACTION", type := .int, accessFlags := 26, slot := 7, constantValue := 0 }, { name := "TRAILING", type := .int, accessFlags := 26, slot := 8, constantValue := 0 }, { name := "NOT_A_NUMBER", type := .int, accessFlags := 26, slot := 9, constantValue := 0 }, { name := "SIGNIFICANT_DIGITS", type := .int, accessFlags := 26, slot := 10, constantValue := 0 }, { name := "LONG_DIGITS", type := .int, accessFlags := 26, slot := 11, constantValue := 0 }, { name := "EXPONENT_BOUND", type := .long, accessFlags := 26, slot := 12, constantValue := 0 }, { name := "stage", type := .int, accessFlags := 2, slot := 0, constantValue := 0 }, { name := "negative", type := .boolean, accessFlags := 2, slot := 1, constantValue := 0 }, { name := "anyDigit", type := .boolean, accessFlags := 2, slot := 2, constantValue := 0 }, { name := "significant", type := .int, accessFlags := 2, slot := 3, constantValue := 0 }, { name := "leading", type := .long, accessFlags := 2, slot := 4, constantValue := 0 }, { name := "more", type := (.object "java/lang/StringBuilder"), accessFlags := 2, slot := 5, constantValue := 0 }, { name := "exponent", type := .long, accessFlags := 2, slot := 6, constantValue := 0 }, { name := "droppedNonZero", type := .boolean, accessFlags := 2, slot := 7, constantValue := 0 }]
  methods := #[k2m0, k2m1, k2m2, k2m3, k2m4]
  instanceTypes := #[.int, .boolean, .boolean, .int, .long, (.object "java/lang/StringBuilder"), .long, .boolean]
  staticTypes := #[.int, .int, .int, .int, .int, .int, .int, .int, .int, .int, .int, .int, .long]
  resolved := Array.replicate 142 none
  statics := none }

def pool3 : Array CpInfo := pool [(2, .class_ 4), (1, u "java/lang/Object"), (0, u "<init>"), (0, u "()V"), (2, .class_ 10), (0, u "com/example/caddisfly/caddisfly/XpathNumbers$Numeral"), (41, .class_ 54), (1, u "com/example/caddisfly/caddisfly/XpathNumbers"), (72, .class_ 129), (1, u "com/example/caddisfly/caddisfly/XpathNumbers$1"), (25, u "POWERS_OF_TEN"), (0, u "[D"), (0, u "EXACT_DIGITS"), (0, u "I"), (13, u "isWhitespace"), (0, u "(C)Z"), (0, u "isDigit")] 23

def k3m0 : Method := { name := "<init>", desc := "()V", sig := { parameters := [], returnType := none }, accessFlags := 2, code := none }
def k3c1 : Code := { maxStack := 2, maxLocals := 1, code := prog_158_method_8_code, exceptionTable := #[], attributes := #[] }
def k3m1 : Method := { name := "isWhitespace", desc := "(C)Z", sig := { parameters := [.char], returnType := some .boolean }, accessFlags := 10, code := some k3c1 }
def k3c2 : Code := { maxStack := 2, maxLocals := 1, code := prog_158_method_9_code, exceptionTable := #[], attributes := #[] }
def k3m2 : Method := { name := "isDigit", desc := "(C)Z", sig := { parameters := [.char], returnType := some .boolean }, accessFlags := 10, code := some k3c2 }
/-- com/example/caddisfly/caddisfly/XpathNumbers -/
def k3 : Class := { plain "com/example/caddisfly/caddisfly/XpathNumbers" (some 0) with
  accessFlags := 32
  interfaces := #[]
  cf := some (fileOf pool3 52 #[.nestMembers #[127, 9]] #[{ accessFlags := 2, nameIndex := 5, descriptorIndex := 6, attributes := #[] }, { accessFlags := 10, nameIndex := 172, descriptorIndex := 173, attributes := #[] }, { accessFlags := 10, nameIndex := 174, descriptorIndex := 173, attributes := #[] }] 32 2 #[] #[{ accessFlags := 26, nameIndex := 157, descriptorIndex := 158, attributes := #[] }, { accessFlags := 26, nameIndex := 155, descriptorIndex := 156, attributes := #[] }])
  fields := #[{ name := "EXACT_DIGITS", type := .int, accessFlags := 26, slot := 0, constantValue := 0 }, { name := "POWERS_OF_TEN", type := (.array .double), accessFlags := 26, slot := 1, constantValue := 0 }]
  methods := #[k3m0, k3m1, k3m2]
  instanceTypes := #[]
  staticTypes := #[.int, (.array .double)]
  resolved := Array.replicate 198 none
  statics := none }

def pool4 : Array CpInfo := pool [(1, u "java/lang/Cloneable"), (0, .class_ 1), (0, u "java/lang/Object"), (0, .class_ 3)] 3

/-- java/lang/Cloneable -/
def k4 : Class := { plain "java/lang/Cloneable" (some 0) with
  accessFlags := 1537
  interfaces := #[]
  cf := some (fileOf pool4 2 #[] #[] 1537 4 #[] #[])
  fields := #[]
  methods := #[]
  instanceTypes := #[]
  staticTypes := #[]
  resolved := Array.replicate 8 none
  statics := none }

def pool5 : Array CpInfo := pool [(1, u "java/io/Serializable"), (0, .class_ 1), (0, u "java/lang/Object"), (0, .class_ 3)] 3

/-- java/io/Serializable -/
def k5 : Class := { plain "java/io/Serializable" (some 0) with
  accessFlags := 1537
  interfaces := #[]
  cf := some (fileOf pool5 2 #[] #[] 1537 4 #[] #[])
  fields := #[]
  methods := #[]
  instanceTypes := #[]
  staticTypes := #[]
  resolved := Array.replicate 8 none
  statics := none }

/-- the primitive byte -/
def k6 : Class := { plain "byte" none with kind := .primitive 'B', accessFlags := 0x411 }
/-- [B -/
def k7 : Class := { plain "[B" (some 0) with kind := .array 6 .byte, interfaces := #[4, 5], accessFlags := 1041 }

/-- the primitive int -/
def k8 : Class := { plain "int" none with kind := .primitive 'I', accessFlags := 0x411 }
/-- [I -/
def k9 : Class := { plain "[I" (some 0) with kind := .array 8 .int, interfaces := #[4, 5], accessFlags := 1041 }

def heap : Heap := #[]
def classes : Array Class := #[k0, k1, k2, k3, k4, k5, k6, k7, k8, k9]
def interned : List (Array UInt16 × Addr) := []
def slotsUsed : Nat := 0
def theMethod : MethodId := ⟨1, 1⟩
def args0 : Array Value := #[.int 5, .int 7, .int 9, .int 1, .int 2]
def aboutOver (below : List Frame) : State where
  vm := { classes := classes, interned := interned.toArray }
  heap := heap
  slotsUsed := slotsUsed
  threads := #[{ frames := .invoking theMethod args0 :: below }]
def below0 : List Frame := [.native { method := ⟨0, 0⟩, args := #[] }]
def about1 : State := aboutOver below0
def p0 : Program := .bare "" "" ""
def e0 : Env := launch0.env 0 0 0
theorem w_frames : about1.frames = Frame.invoking theMethod args0 :: below0 := rfl
set_option maxRecDepth 65536 in
theorem w_args : argsFit about1.vm theMethod args0 = true := by decide +kernel
set_option maxRecDepth 65536 in
theorem w_heap : heapFits about1 = true := by decide +kernel
set_option maxRecDepth 65536 in
theorem w_runnable : about1.curStatus? = some .runnable := by decide +kernel
set_option maxRecDepth 65536 in
theorem w_alone : about1.alone = true := by decide +kernel
set_option maxRecDepth 65536 in
theorem w_named : about1.methodNamed? x = some theMethod := by decide +kernel
set_option maxRecDepth 65536 in
theorem w_hears : about1.hears theMethod below0 = true := by decide +kernel
set_option maxRecDepth 65536 in
theorem w_ripe : about1.ripe theMethod args0 below0 = true := by decide +kernel
theorem w_running : about1.status = .running := rfl
set_option maxRecDepth 65536 in
theorem w_room : about1.hasRoom e0.platform room_1 = true :=
  launch0.hasRoom_least _ room_1 (by decide +kernel) (by decide +kernel) (by decide +kernel) (by decide +kernel) (by decide +kernel) (by decide +kernel)
theorem allAtoms_all (ts : List Jvm.Cond) (a : Array Jvm.Value) (st : Jvm.State) : (allAtoms ts).before a st = ts.all (fun c => c.before a st) := by
  induction ts with
  | nil => rfl
  | cons c t ih =>
    show (Jvm.Cond.and c (allAtoms t)).before a st = _
    rw [Jvm.Cond.before_and, ih, List.all_cons]
def words1 : List Jvm.Cond := Jvm.Cond.code x code maxLocals ret :: tables_1
/-- a 'code' word, met by the world's own term for the bytes: nothing is compared byte by byte -/
theorem code_word {y : MethodName} {bytes : ByteArray} {mx : Nat} {rt : Option FieldType} {a : Array Value} {s : State} {m : MethodId} {meth : Method} {c : Code} (h1 : s.methodNamed? y = some m) (h2 : s.vm.method? m = some meth) (h3 : meth.code = some c) (h4 : c.code = bytes)
    (h5 : (c.maxLocals == mx && c.exceptionTable.isEmpty && decide (c.maxStack ≤ mostOperands) && decide (meth.sig.returnType = rt) && !meth.locks && decide (parseMethodDescriptor y.desc = some meth.sig)) = true) : (Jvm.Cond.code y bytes mx rt).before a s = true := by
  simp only [Bool.and_eq_true, beq_iff_eq, Bool.not_eq_true', decide_eq_true_eq] at h5
  obtain ⟨⟨⟨⟨⟨g1, g2⟩, g3⟩, g4⟩, g5⟩, g6⟩ := h5
  simp [Cond.before, Cond.holds, Cond.value, h1, h2, h3, h4, g1, g2, g3, g4, g5, g6]
def isCode : Jvm.Cond → Bool
  | .code _ _ _ _ => true
  | _ => false
theorem all_split {L : List Jvm.Cond} {P : Jvm.Cond → Bool} (h1 : L.all (fun c => isCode c || P c) = true) (h2 : ∀ c ∈ L.filter isCode, P c = true) : L.all P = true := by
  refine List.all_eq_true.mpr fun c hc => ?_
  have h := List.all_eq_true.mp h1 c hc
  rcases Bool.eq_false_or_eq_true (isCode c) with hi | hi
  · exact h2 c (List.mem_filter.mpr ⟨hc, hi⟩)
  · simpa [hi] using h
set_option maxRecDepth 65536 in
theorem w_c0 : (Jvm.Cond.code x code maxLocals ret).before args0 about1 = true := code_word (m := ⟨1, 1⟩) (meth := k1m1) (c := k1c1) (by decide +kernel) rfl rfl rfl (by decide +kernel)
set_option maxRecDepth 65536 in
theorem w_c1 : (Jvm.Cond.code ({ cls := "com/example/caddisfly/caddisfly/NumeralSteadyInPinLaw", name := "draw", desc := "(I)C" } : Jvm.MethodName) method_3_code (5 : Nat) (Option.some Jvm.ClassFile.FieldType.char)).before args0 about1 = true := code_word (m := ⟨1, 2⟩) (meth := k1m2) (c := k1c2) (by decide +kernel) rfl rfl rfl (by decide +kernel)
set_option maxRecDepth 65536 in
theorem w_c2 : (Jvm.Cond.code ({ cls := "com/example/caddisfly/caddisfly/NumeralSteadyInPinLaw", name := "expected", desc := "([I)I" } : Jvm.MethodName) method_8_code (6 : Nat) (Option.some Jvm.ClassFile.FieldType.int)).before args0 about1 = true := code_word (m := ⟨1, 7⟩) (meth := k1m7) (c := k1c7) (by decide +kernel) rfl rfl rfl (by decide +kernel)
set_option maxRecDepth 65536 in
theorem w_c3 : (Jvm.Cond.code ({ cls := "com/example/caddisfly/caddisfly/NumeralSteadyInPinLaw", name := "skipWs", desc := "([II)I" } : Jvm.MethodName) method_5_code (3 : Nat) (Option.some Jvm.ClassFile.FieldType.int)).before args0 about1 = true := code_word (m := ⟨1, 4⟩) (meth := k1m4) (c := k1c4) (by decide +kernel) rfl rfl rfl (by decide +kernel)
set_option maxRecDepth 65536 in
theorem w_c4 : (Jvm.Cond.code ({ cls := "com/example/caddisfly/caddisfly/XpathNumbers$Numeral", name := "<init>", desc := "()V" } : Jvm.MethodName) prog_160_method_1_code (1 : Nat) (Option.none : Option Jvm.ClassFile.FieldType)).before args0 about1 = true := code_word (m := ⟨2, 0⟩) (meth := k2m0) (c := k2c0) (by decide +kernel) rfl rfl rfl (by decide +kernel)
set_option maxRecDepth 65536 in
theorem w_c5 : (Jvm.Cond.code ({ cls := "java/lang/Object", name := "<init>", desc := "()V" } : Jvm.MethodName) object_method_1_code (1 : Nat) (Option.none : Option Jvm.ClassFile.FieldType)).before args0 about1 = true := code_word (m := ⟨0, 0⟩) (meth := k0m0) (c := k0c0) (by decide +kernel) rfl rfl rfl (by decide +kernel)
set_option maxRecDepth 65536 in
theorem w_c6 : (Jvm.Cond.code ({ cls := "com/example/caddisfly/caddisfly/XpathNumbers$Numeral", name := "steadyIn", desc := "()I" } : Jvm.MethodName) prog_160_method_7_code (3 : Nat) (Option.some Jvm.ClassFile.FieldType.int)).before args0 about1 = true := code_word (m := ⟨2, 4⟩) (meth := k2m4) (c := k2c4) (by decide +kernel) rfl rfl rfl (by decide +kernel)
set_option maxRecDepth 65536 in
theorem w_c7 : (Jvm.Cond.code ({ cls := "com/example/caddisfly/caddisfly/NumeralSteadyInPinLaw", name := "cls", desc := "(C)I" } : Jvm.MethodName) method_4_code (2 : Nat) (Option.some Jvm.ClassFile.FieldType.int)).before args0 about1 = true := code_word (m := ⟨1, 3⟩) (meth := k1m3) (c := k1c3) (by decide +kernel) rfl rfl rfl (by decide +kernel)
set_option maxRecDepth 65536 in
theorem w_c8 : (Jvm.Cond.code ({ cls := "com/example/caddisfly/caddisfly/NumeralSteadyInPinLaw", name := "skipDigitChars", desc := "([II)I" } : Jvm.MethodName) method_6_code (3 : Nat) (Option.some Jvm.ClassFile.FieldType.int)).before args0 about1 = true := code_word (m := ⟨1, 5⟩) (meth := k1m5) (c := k1c5) (by decide +kernel) rfl rfl rfl (by decide +kernel)
set_option maxRecDepth 65536 in
theorem w_c9 : (Jvm.Cond.code ({ cls := "com/example/caddisfly/caddisfly/NumeralSteadyInPinLaw", name := "anyNonZero", desc := "([III)Z" } : Jvm.MethodName) method_7_code (3 : Nat) (Option.some Jvm.ClassFile.FieldType.boolean)).before args0 about1 = true := code_word (m := ⟨1, 6⟩) (meth := k1m6) (c := k1c6) (by decide +kernel) rfl rfl rfl (by decide +kernel)
set_option maxRecDepth 65536 in
theorem w_c10 : (Jvm.Cond.code ({ cls := "com/example/caddisfly/caddisfly/XpathNumbers$Numeral", name := "add", desc := "(C)V" } : Jvm.MethodName) prog_160_method_3_code (2 : Nat) (Option.none : Option Jvm.ClassFile.FieldType)).before args0 about1 = true := code_word (m := ⟨2, 1⟩) (meth := k2m1) (c := k2c1) (by decide +kernel) rfl rfl rfl (by decide +kernel)
set_option maxRecDepth 65536 in
theorem w_c11 : (Jvm.Cond.code ({ cls := "com/example/caddisfly/caddisfly/XpathNumbers", name := "isWhitespace", desc := "(C)Z" } : Jvm.MethodName) prog_158_method_8_code (1 : Nat) (Option.some Jvm.ClassFile.FieldType.boolean)).before args0 about1 = true := code_word (m := ⟨3, 1⟩) (meth := k3m1) (c := k3c1) (by decide +kernel) rfl rfl rfl (by decide +kernel)
set_option maxRecDepth 65536 in
theorem w_c12 : (Jvm.Cond.code ({ cls := "com/example/caddisfly/caddisfly/XpathNumbers$Numeral", name := "startNumeral", desc := "(C)V" } : Jvm.MethodName) prog_160_method_4_code (2 : Nat) (Option.none : Option Jvm.ClassFile.FieldType)).before args0 about1 = true := code_word (m := ⟨2, 2⟩) (meth := k2m2) (c := k2c2) (by decide +kernel) rfl rfl rfl (by decide +kernel)
set_option maxRecDepth 65536 in
theorem w_c13 : (Jvm.Cond.code ({ cls := "com/example/caddisfly/caddisfly/XpathNumbers", name := "isDigit", desc := "(C)Z" } : Jvm.MethodName) prog_158_method_9_code (1 : Nat) (Option.some Jvm.ClassFile.FieldType.boolean)).before args0 about1 = true := code_word (m := ⟨3, 2⟩) (meth := k3m2) (c := k3c2) (by decide +kernel) rfl rfl rfl (by decide +kernel)
set_option maxRecDepth 65536 in
theorem w_c14 : (Jvm.Cond.code ({ cls := "com/example/caddisfly/caddisfly/XpathNumbers$Numeral", name := "addDigit", desc := "(CZ)V" } : Jvm.MethodName) prog_160_method_5_code (3 : Nat) (Option.none : Option Jvm.ClassFile.FieldType)).before args0 about1 = true := code_word (m := ⟨2, 3⟩) (meth := k2m3) (c := k2c3) (by decide +kernel) rfl rfl rfl (by decide +kernel)
def codes1 : List Jvm.Cond := [Jvm.Cond.code x code maxLocals ret, Jvm.Cond.code ({ cls := "com/example/caddisfly/caddisfly/NumeralSteadyInPinLaw", name := "draw", desc := "(I)C" } : Jvm.MethodName) method_3_code (5 : Nat) (Option.some Jvm.ClassFile.FieldType.char), Jvm.Cond.code ({ cls := "com/example/caddisfly/caddisfly/NumeralSteadyInPinLaw", name := "expected", desc := "([I)I" } : Jvm.MethodName) method_8_code (6 : Nat) (Option.some Jvm.ClassFile.FieldType.int), Jvm.Cond.code ({ cls := "com/example/caddisfly/caddisfly/NumeralSteadyInPinLaw", name := "skipWs", desc := "([II)I" } : Jvm.MethodName) method_5_code (3 : Nat) (Option.some Jvm.ClassFile.FieldType.int), Jvm.Cond.code ({ cls := "com/example/caddisfly/caddisfly/XpathNumbers$Numeral", name := "<init>", desc := "()V" } : Jvm.MethodName) prog_160_method_1_code (1 : Nat) (Option.none : Option Jvm.ClassFile.FieldType), Jvm.Cond.code ({ cls := "java/lang/Object", name := "<init>", desc := "()V" } : Jvm.MethodName) object_method_1_code (1 : Nat) (Option.none : Option Jvm.ClassFile.FieldType), Jvm.Cond.code ({ cls := "com/example/caddisfly/caddisfly/XpathNumbers$Numeral", name := "steadyIn", desc := "()I" } : Jvm.MethodName) prog_160_method_7_code (3 : Nat) (Option.some Jvm.ClassFile.FieldType.int), Jvm.Cond.code ({ cls := "com/example/caddisfly/caddisfly/NumeralSteadyInPinLaw", name := "cls", desc := "(C)I" } : Jvm.MethodName) method_4_code (2 : Nat) (Option.some Jvm.ClassFile.FieldType.int), Jvm.Cond.code ({ cls := "com/example/caddisfly/caddisfly/NumeralSteadyInPinLaw", name := "skipDigitChars", desc := "([II)I" } : Jvm.MethodName) method_6_code (3 : Nat) (Option.some Jvm.ClassFile.FieldType.int), Jvm.Cond.code ({ cls := "com/example/caddisfly/caddisfly/NumeralSteadyInPinLaw", name := "anyNonZero", desc := "([III)Z" } : Jvm.MethodName) method_7_code (3 : Nat) (Option.some Jvm.ClassFile.FieldType.boolean), Jvm.Cond.code ({ cls := "com/example/caddisfly/caddisfly/XpathNumbers$Numeral", name := "add", desc := "(C)V" } : Jvm.MethodName) prog_160_method_3_code (2 : Nat) (Option.none : Option Jvm.ClassFile.FieldType), Jvm.Cond.code ({ cls := "com/example/caddisfly/caddisfly/XpathNumbers", name := "isWhitespace", desc := "(C)Z" } : Jvm.MethodName) prog_158_method_8_code (1 : Nat) (Option.some Jvm.ClassFile.FieldType.boolean), Jvm.Cond.code ({ cls := "com/example/caddisfly/caddisfly/XpathNumbers$Numeral", name := "startNumeral", desc := "(C)V" } : Jvm.MethodName) prog_160_method_4_code (2 : Nat) (Option.none : Option Jvm.ClassFile.FieldType), Jvm.Cond.code ({ cls := "com/example/caddisfly/caddisfly/XpathNumbers", name := "isDigit", desc := "(C)Z" } : Jvm.MethodName) prog_158_method_9_code (1 : Nat) (Option.some Jvm.ClassFile.FieldType.boolean), Jvm.Cond.code ({ cls := "com/example/caddisfly/caddisfly/XpathNumbers$Numeral", name := "addDigit", desc := "(CZ)V" } : Jvm.MethodName) prog_160_method_5_code (3 : Nat) (Option.none : Option Jvm.ClassFile.FieldType)]
set_option maxRecDepth 65536 in
theorem codes_eq : words1.filter isCode = codes1 := rfl
theorem w_codes : ∀ c ∈ words1.filter isCode, c.before args0 about1 = true := by
  rw [codes_eq]
  intro c hc
  simp only [codes1, List.mem_cons, List.not_mem_nil, or_false] at hc
  rcases hc with rfl | rfl | rfl | rfl | rfl | rfl | rfl | rfl | rfl | rfl | rfl | rfl | rfl | rfl | rfl
  · exact w_c0
  · exact w_c1
  · exact w_c2
  · exact w_c3
  · exact w_c4
  · exact w_c5
  · exact w_c6
  · exact w_c7
  · exact w_c8
  · exact w_c9
  · exact w_c10
  · exact w_c11
  · exact w_c12
  · exact w_c13
  · exact w_c14
set_option maxRecDepth 65536 in
theorem w_t1 : (words1.take 24).all (fun c => isCode c || c.before args0 about1) = true := by decide +kernel
set_option maxRecDepth 65536 in
theorem w_t2 : ((words1.drop 24).take 24).all (fun c => isCode c || c.before args0 about1) = true := by decide +kernel
set_option maxRecDepth 65536 in
theorem w_t3 : (((words1.drop 24).drop 24).take 24).all (fun c => isCode c || c.before args0 about1) = true := by decide +kernel
set_option maxRecDepth 65536 in
theorem w_t4 : (((words1.drop 24).drop 24).drop 24).all (fun c => isCode c || c.before args0 about1) = true := by decide +kernel
theorem w_tables : (allAtoms (Jvm.Cond.code x code maxLocals ret :: tables_1)).before args0 about1 = true := by
  rw [allAtoms_all]
  show words1.all (fun c => c.before args0 about1) = true
  refine all_split ?_ w_codes
  rw [← List.take_append_drop 24 words1, List.all_append, w_t1, ← List.take_append_drop 24 (words1.drop 24), List.all_append, w_t2, ← List.take_append_drop 24 ((words1.drop 24).drop 24), List.all_append, w_t3, w_t4]
  rfl
set_option maxRecDepth 65536 in
theorem w_case : (Jvm.Cond.and given_1 narrow_1).before args0 about1 = true := by decide +kernel
theorem w_applies : (headSpec (Jvm.Cond.code x code maxLocals ret :: tables_1) room_1).applies x e0.platform about1 = true :=
  (Spec.applies_iff w_frames).mpr ⟨w_running, w_runnable, w_alone, w_named, w_hears, w_ripe, w_room, w_tables⟩
theorem atStart : AtStart classFile x code maxLocals ret World_1 tables_1 room_1 Calls_1 rest_1 Pre_1 launch0 p0 e0 about1 theMethod args0 below0 :=
  ⟨lists_1, trivial, launch0.admits_env _ _ _, launch0.least_env, fairChoices_fair.cas, fairChoices_fair.clock, w_frames, w_args, w_heap, w_applies, trivial, trivial, w_case⟩
end start1
theorem witness_1 : WitnessClaimed_1 := ⟨start1.p0, start1.e0, start1.about1, start1.theMethod, start1.args0, start1.below0, start1.atStart⟩
end Jvm.Pilot.@@N@@
