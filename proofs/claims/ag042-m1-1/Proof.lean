import JvmDerived
import JvmDerived.Pilot.@@N@@Statement
import JvmDerived.Pilot.@@N@@Code
set_option linter.unusedVariables false
set_option linter.unusedSimpArgs false
@@BLOCK:NumsL.lean.txt@@
@@BLOCK:Masks.lean.txt@@
namespace Jvm.Wk
open Sem ClassFile Op Lib Jvm.Stand Jvm.Free Jvm.LawKit Jvm.RoadKit
def Fin_ (p : Program) (e : Env) (s : State) (below : List Frame) (R : Room) (n0 : Nat) (P : Option Value → Heap → Prop) (S0 : State) : Prop :=
  ∃ s₂ o, Steps p.tables e below S0 s₂ ∧ s₂.status = .running ∧ Ended s₂ below o ∧ ∃ v L, o = .returned v ∧ (Fr n0 L ∧ P v s₂.heap) ∧ FrameEnd s o s₂ L R.cells R.slots
def Fa (Z : State) (y : MethodName) (bytes : ByteArray) (maxL : Nat) (ret : Option FieldType) (p : Program) (s : State) (m : MethodId) (meth : Method) (c : Code) : Prop :=
  p.tables.exec = Jvm.exec ∧ c.code = bytes ∧ c.maxLocals = maxL ∧ Z.Warmed39 s.vm ∧ s.vm.findClass y.cls = some m.cls ∧ meth.name = y.name ∧ meth.sig.returnType = ret ∧ meth.locks = false
/-- a walk that has come to pc with these locals and this operand stack over the heap h; G: what it is walked for -/
def Wk (l : Launch) (Z : State) (R : Room) (y : MethodName) (bytes : ByteArray) (maxL : Nat) (ret : Option FieldType) (n0 : Nat) (Xt : Program → Env → List Frame → State → Prop) (s : State) (h : Heap) (cells slots pc : Nat) (Ls : Array Slot) (st : List Value) : Prop :=
  ∃ (p : Program) (e : Env) (m : MethodId) (args : Array Value) (below : List Frame) (meth : Method) (c : Code) (S0 T : State) (locs : List Loc), Fa Z y bytes maxL ret p s m meth c ∧
    Stand p l e R s m args below meth c T locs cells slots ∧ T.heap = h ∧ Fr n0 locs ∧ (∀ t, Steps p.tables e below (T.setTop (mkF m pc Ls st)) t → Steps p.tables e below S0 t) ∧ Xt p e below S0
/-- how a walk of a contract ends: G is what it is walked for -/
abbrev Ex (s : State) (R : Room) (n0 : Nat) (P : Option Value → Heap → Prop) (G : Prop) : Program → Env → List Frame → State → Prop := fun p e below S0 => Fin_ p e s below R n0 P S0 → G
/-- a callee's contract: entered with the arguments as' over the heap h0 it returns; P says what and over which heap -/
def Con (l : Launch) (Z : State) (y : MethodName) (bytes : ByteArray) (maxL : Nat) (ret : Option FieldType) (rm : Room) (as' : Array Value) (h0 : Heap) (n0 : Nat) (P : Option Value → Heap → Prop) : Prop :=
  ∀ ws : List Jvm.Cond, MetFree l y (head1 (Jvm.Cond.code y bytes maxL ret :: ws) rm) (fun a U => a = as' ∧ Z.Warmed39 U.vm ∧ U.heap = h0) (fun _ _ _ _ _ => True) (fun _ U o U' => ∃ v L, o = .returned v ∧ (Fr n0 L ∧ P v U'.heap) ∧ FrameEnd U o U' L rm.cells rm.slots)
/-- an array of the component type ty that holds vs -/
def AV (Z : State) (h : Heap) (a : Addr) (ty : FieldType) (vs : List Value) : Prop := vs.length < 2 ^ 31 ∧ ∃ c : Cell, Arr Z h a c ty ∧ c.slots = vs.toArray
section L
variable {l : Launch} {Z : State} {R : Room} {y : MethodName} {bytes : ByteArray} {maxL : Nat} {ret : Option FieldType} {n0 : Nat} {P : Option Value → Heap → Prop} {G : Prop} {Xt : Program → Env → List Frame → State → Prop} {s : State} {h h' : Heap} {cells slots pc : Nat} {Ls : Array Slot} {st : List Value} {a0 : Array Value} {a : Addr} {ty : FieldType} {vs : List Value} {ws : List Addr}
theorem AV.lt (A : AV Z h a ty vs) : a < h.size := by obtain ⟨-, c, A, -⟩ := A; exact A.lt
theorem AV.keep (A : AV Z h a ty vs) (K : Keep h h' ws) (q : a ∉ ws) : AV Z h' a ty vs := by obtain ⟨n, c, A, r⟩ := A; exact ⟨n, c, ⟨K.2.1 a c A.1 q, A.2⟩, r⟩
theorem nS {x y : Nat} {L : List Addr} (q : ¬ x = y) (r : (x : Addr) ∉ L) : (x : Addr) ∉ (y : Addr) :: L := ninS q r
theorem Keep.of_ext (E : Ext h h') : Keep h h' [] := (Keep.refl h []).ext E
theorem mk {p : Program} {e : Env} {m : MethodId} {args : Array Value} {below : List Frame} {meth : Method} {c : Code} {S0 T : State} {locs : List Loc} (F : Fa Z y bytes maxL ret p s m meth c)
    (X : Stand p l e R s m args below meth c T locs cells slots) (eT : T.heap = h) (N : Fr n0 locs) (r : ∀ t, Steps p.tables e below (T.setTop (mkF m pc Ls st)) t → Steps p.tables e below S0 t) (ex : Xt p e below S0) : Wk l Z R y bytes maxL ret n0 Xt s h cells slots pc Ls st :=
  Exists.intro p ⟨e, m, args, below, meth, c, S0, T, locs, F, X, eT, N, r, ex⟩
theorem Con.of {as' : Array Value} (hpn : plainFor y = true) (hef : ∀ m, entryFrame m as' maxL = mkF m 0 Ls []) (body : ∀ (G : Prop) (s : State), Wk l Z R y bytes maxL ret n0 (Ex s R n0 P G) s h 0 0 0 Ls [] → G) : Con l Z y bytes maxL ret R as' h n0 P := by
  intro ws
  refine MetFree.of_bodySF hpn hisR ?_
  intro p e s m args below meth c s₁ Bd hml0 hP hK
  obtain ⟨rfl, hZ, hh⟩ := hP
  refine body _ s ?_
  have X0 : Stand p l e R s m args below meth c s₁ [] 0 0 := Stand.of_body Bd
  exact mk (S0 := s₁.setTop (entryFrame m args maxL)) ⟨Bd.exec, Bd.bytes, hml0, hZ, findClass_of_methodNamed Bd.named, (name_of_methodNamed Bd.named Bd.method).1, Bd.returns, Bd.notSynchronized⟩ X0 (by rw [← hh, Bd.state]; rfl) (Fr.nil n0) (fun t k => castTop (hef m) k) (fun q => q)
theorem Wk.pure {pc' : Nat} {Ls' : Array Slot} {st' : List Value} (k : Wk l Z R y bytes maxL ret n0 Xt s h cells slots pc Ls st) (f : ∀ {tb : Tables} [Ours tb] {e : Env} {below : List Frame} {T t : State} {m : MethodId} {c : Code}, At T m c below → tb.exec = Jvm.exec → c.code = bytes → Steps tb e below (T.setTop (mkF m pc' Ls' st')) t → Steps tb e below (T.setTop (mkF m pc Ls st)) t) : Wk l Z R y bytes maxL ret n0 Xt s h cells slots pc' Ls' st' := by
  obtain ⟨p, e, m, args, below, meth, c, S0, T, locs, F, X, eT, N, r, ex⟩ := k
  exact mk F X eT N (fun t q => r t (f X.here F.1 F.2.1 q)) ex
/-- more cells and slots booked than were made -/
theorem Wk.more {cells' slots' : Nat} (k : Wk l Z R y bytes maxL ret n0 Xt s h cells slots pc Ls st) (h1 : cells ≤ cells') (h2 : slots ≤ slots') : Wk l Z R y bytes maxL ret n0 Xt s h cells' slots' pc Ls st := by
  obtain ⟨p, e, m, args, below, meth, c, S0, T, locs, F, X, eT, N, r, ex⟩ := k
  exact mk F { X with same := X.same.mono h1 h2 } eT N r ex
theorem Wk.aloadN {j : Fin 4} {v : Value} (k : Wk l Z R y bytes maxL ret n0 Xt s h cells slots pc Ls st) (hd : decode bytes pc = .ok (.aload_n j, 1)) (hl : Ls[j.val]? = some (.val v)) (hv : v.isRef = true) : Wk l Z R y bytes maxL ret n0 Xt s h cells slots (pc + 1) Ls (v :: st) := k.pure fun a hx hb' q => XS.aloadN a hx rfl (hb hb' hd) hl hv q
theorem Wk.aload {j : Nat} {v : Value} (k : Wk l Z R y bytes maxL ret n0 Xt s h cells slots pc Ls st) (hd : decode bytes pc = .ok (.aload j, 2)) (hl : Ls[j]? = some (.val v)) (hv : v.isRef = true) : Wk l Z R y bytes maxL ret n0 Xt s h cells slots (pc + 2) Ls (v :: st) := k.pure fun a hx hb' q => XS.aload a hx rfl (hb hb' hd) hl hv q
theorem Wk.iloadN {j : Fin 4} {v : Int32} (k : Wk l Z R y bytes maxL ret n0 Xt s h cells slots pc Ls st) (hd : decode bytes pc = .ok (.iload_n j, 1)) (hl : Ls[j.val]? = some (.val (.int v))) : Wk l Z R y bytes maxL ret n0 Xt s h cells slots (pc + 1) Ls (.int v :: st) := k.pure fun a hx hb' q => XS.iloadN a hx rfl (hb hb' hd) hl q
theorem Wk.iload {j : Nat} {v : Int32} (k : Wk l Z R y bytes maxL ret n0 Xt s h cells slots pc Ls st) (hd : decode bytes pc = .ok (.iload j, 2)) (hl : Ls[j]? = some (.val (.int v))) : Wk l Z R y bytes maxL ret n0 Xt s h cells slots (pc + 2) Ls (.int v :: st) := k.pure fun a hx hb' q => XS.iload a hx rfl (hb hb' hd) hl q
theorem Wk.lloadN {j : Fin 4} {v : Int64} (k : Wk l Z R y bytes maxL ret n0 Xt s h cells slots pc Ls st) (hd : decode bytes pc = .ok (.lload_n j, 1)) (hl : Ls[j.val]? = some (.val (.long v))) : Wk l Z R y bytes maxL ret n0 Xt s h cells slots (pc + 1) Ls (.long v :: st) := k.pure fun a hx hb' q => XT.lloadN a hx rfl (hb hb' hd) hl q
theorem Wk.lload {j : Nat} {v : Int64} (k : Wk l Z R y bytes maxL ret n0 Xt s h cells slots pc Ls st) (hd : decode bytes pc = .ok (.lload j, 2)) (hl : Ls[j]? = some (.val (.long v))) : Wk l Z R y bytes maxL ret n0 Xt s h cells slots (pc + 2) Ls (.long v :: st) := k.pure fun a hx hb' q => XT.lload a hx rfl (hb hb' hd) hl q
theorem Wk.istoreN {j : Fin 4} {v : Int32} {Ls' : Array Slot} (k : Wk l Z R y bytes maxL ret n0 Xt s h cells slots pc Ls (.int v :: st)) (hd : decode bytes pc = .ok (.istore_n j, 1)) (hl : storeLocals Ls j.val (.int v) = some Ls') : Wk l Z R y bytes maxL ret n0 Xt s h cells slots (pc + 1) Ls' st := k.pure fun a hx hb' q => XS.istoreN a hx rfl (hb hb' hd) rfl hl q
theorem Wk.istore {j : Nat} {v : Int32} {Ls' : Array Slot} (k : Wk l Z R y bytes maxL ret n0 Xt s h cells slots pc Ls (.int v :: st)) (hd : decode bytes pc = .ok (.istore j, 2)) (hl : storeLocals Ls j (.int v) = some Ls') : Wk l Z R y bytes maxL ret n0 Xt s h cells slots (pc + 2) Ls' st := k.pure fun a hx hb' q => XS.istore a hx rfl (hb hb' hd) rfl hl q
theorem Wk.lstoreN {j : Fin 4} {v : Int64} {Ls' : Array Slot} (k : Wk l Z R y bytes maxL ret n0 Xt s h cells slots pc Ls (.long v :: st)) (hd : decode bytes pc = .ok (.lstore_n j, 1)) (hl : storeLocals Ls j.val (.long v) = some Ls') : Wk l Z R y bytes maxL ret n0 Xt s h cells slots (pc + 1) Ls' st := k.pure fun a hx hb' q => XT.lstoreN a hx rfl (hb hb' hd) rfl hl q
theorem Wk.lstore {j : Nat} {v : Int64} {Ls' : Array Slot} (k : Wk l Z R y bytes maxL ret n0 Xt s h cells slots pc Ls (.long v :: st)) (hd : decode bytes pc = .ok (.lstore j, 2)) (hl : storeLocals Ls j (.long v) = some Ls') : Wk l Z R y bytes maxL ret n0 Xt s h cells slots (pc + 2) Ls' st := k.pure fun a hx hb' q => XT.lstore a hx rfl (hb hb' hd) rfl hl q
theorem Wk.astoreN {j : Fin 4} {v : Value} {Ls' : Array Slot} (k : Wk l Z R y bytes maxL ret n0 Xt s h cells slots pc Ls (v :: st)) (hd : decode bytes pc = .ok (.astore_n j, 1)) (hv : v.isRef = true) (hl : storeLocals Ls j.val v = some Ls') : Wk l Z R y bytes maxL ret n0 Xt s h cells slots (pc + 1) Ls' st := k.pure fun a hx hb' q => XS.astoreN a hx rfl (hb hb' hd) rfl hv hl q
theorem Wk.astore {j : Nat} {v : Value} {Ls' : Array Slot} (k : Wk l Z R y bytes maxL ret n0 Xt s h cells slots pc Ls (v :: st)) (hd : decode bytes pc = .ok (.astore j, 2)) (hv : v.isRef = true) (hl : storeLocals Ls j v = some Ls') : Wk l Z R y bytes maxL ret n0 Xt s h cells slots (pc + 2) Ls' st := k.pure fun a hx hb' q => XS.astore a hx rfl (hb hb' hd) rfl hv hl q
theorem Wk.iconst {i : Int} (k : Wk l Z R y bytes maxL ret n0 Xt s h cells slots pc Ls st) (v : Int32) (hd : decode bytes pc = .ok (.iconst i, 1)) (hv : Int32.ofInt i = v) : Wk l Z R y bytes maxL ret n0 Xt s h cells slots (pc + 1) Ls (.int v :: st) := k.pure fun a hx hb' q => XT.iconstV a hx rfl v (hb hb' hd) hv q
theorem Wk.bipush {i : Int} (k : Wk l Z R y bytes maxL ret n0 Xt s h cells slots pc Ls st) (v : Int32) (hd : decode bytes pc = .ok (.bipush i, 2)) (hv : (Int8.ofInt i).toInt32 = v) : Wk l Z R y bytes maxL ret n0 Xt s h cells slots (pc + 2) Ls (.int v :: st) := k.pure fun a hx hb' q => XT.bipushV a hx rfl v (hb hb' hd) hv q
theorem Wk.sipush {i : Int} (k : Wk l Z R y bytes maxL ret n0 Xt s h cells slots pc Ls st) (v : Int32) (hd : decode bytes pc = .ok (.sipush i, 3)) (hv : (Int16.ofInt i).toInt32 = v) : Wk l Z R y bytes maxL ret n0 Xt s h cells slots (pc + 3) Ls (.int v :: st) := k.pure fun a hx hb' q => XT.sipushV a hx rfl v (hb hb' hd) hv q
theorem Wk.lconst {i : Fin 2} (k : Wk l Z R y bytes maxL ret n0 Xt s h cells slots pc Ls st) (v : Int64) (hd : decode bytes pc = .ok (.lconst i, 1)) (hv : Int64.ofNat i = v) : Wk l Z R y bytes maxL ret n0 Xt s h cells slots (pc + 1) Ls (.long v :: st) := k.pure fun a hx hb' q => XT.lconstV a hx rfl v (hb hb' hd) hv q
theorem Wk.anull (k : Wk l Z R y bytes maxL ret n0 Xt s h cells slots pc Ls st) (hd : decode bytes pc = .ok (.aconst_null, 1)) : Wk l Z R y bytes maxL ret n0 Xt s h cells slots (pc + 1) Ls (.null :: st) := k.pure fun a hx hb' q => XS.aconstNull a hx rfl (hb hb' hd) q
theorem Wk.iadd {x z : Int32} (k : Wk l Z R y bytes maxL ret n0 Xt s h cells slots pc Ls (.int z :: .int x :: st)) (hd : decode bytes pc = .ok (.iadd, 1)) : Wk l Z R y bytes maxL ret n0 Xt s h cells slots (pc + 1) Ls (.int (x + z) :: st) := k.pure fun a hx hb' q => XS.iadd a hx rfl (hb hb' hd) rfl q
theorem Wk.isub {x z : Int32} (k : Wk l Z R y bytes maxL ret n0 Xt s h cells slots pc Ls (.int z :: .int x :: st)) (hd : decode bytes pc = .ok (.isub, 1)) : Wk l Z R y bytes maxL ret n0 Xt s h cells slots (pc + 1) Ls (.int (x - z) :: st) := k.pure fun a hx hb' q => XS.isub a hx rfl (hb hb' hd) rfl q
theorem Wk.imul {x z : Int32} (k : Wk l Z R y bytes maxL ret n0 Xt s h cells slots pc Ls (.int z :: .int x :: st)) (hd : decode bytes pc = .ok (.imul, 1)) : Wk l Z R y bytes maxL ret n0 Xt s h cells slots (pc + 1) Ls (.int (x * z) :: st) := k.pure fun a hx hb' q => XS.imul a hx rfl (hb hb' hd) rfl q
theorem Wk.iand {x z : Int32} (k : Wk l Z R y bytes maxL ret n0 Xt s h cells slots pc Ls (.int z :: .int x :: st)) (hd : decode bytes pc = .ok (.iand, 1)) : Wk l Z R y bytes maxL ret n0 Xt s h cells slots (pc + 1) Ls (.int (x &&& z) :: st) := k.pure fun a hx hb' q => XS.iand a hx rfl (hb hb' hd) rfl q
theorem Wk.ior {x z : Int32} (k : Wk l Z R y bytes maxL ret n0 Xt s h cells slots pc Ls (.int z :: .int x :: st)) (hd : decode bytes pc = .ok (.ior, 1)) : Wk l Z R y bytes maxL ret n0 Xt s h cells slots (pc + 1) Ls (.int (x ||| z) :: st) := k.pure fun a hx hb' q => XT.ior a hx rfl (hb hb' hd) rfl q
theorem Wk.ixor {x z : Int32} (k : Wk l Z R y bytes maxL ret n0 Xt s h cells slots pc Ls (.int z :: .int x :: st)) (hd : decode bytes pc = .ok (.ixor, 1)) : Wk l Z R y bytes maxL ret n0 Xt s h cells slots (pc + 1) Ls (.int (x ^^^ z) :: st) := k.pure fun a hx hb' q => XT.ixor a hx rfl (hb hb' hd) rfl q
theorem Wk.iushr {x z : Int32} (k : Wk l Z R y bytes maxL ret n0 Xt s h cells slots pc Ls (.int z :: .int x :: st)) (hd : decode bytes pc = .ok (.iushr, 1)) : Wk l Z R y bytes maxL ret n0 Xt s h cells slots (pc + 1) Ls (.int (XT.ushr x z) :: st) := k.pure fun a hx hb' q => XT.iushr a hx rfl (hb hb' hd) rfl q
theorem Wk.ladd {x z : Int64} (k : Wk l Z R y bytes maxL ret n0 Xt s h cells slots pc Ls (.long z :: .long x :: st)) (hd : decode bytes pc = .ok (.ladd, 1)) : Wk l Z R y bytes maxL ret n0 Xt s h cells slots (pc + 1) Ls (.long (x + z) :: st) := k.pure fun a hx hb' q => XT.ladd a hx rfl (hb hb' hd) rfl q
theorem Wk.lsub {x z : Int64} (k : Wk l Z R y bytes maxL ret n0 Xt s h cells slots pc Ls (.long z :: .long x :: st)) (hd : decode bytes pc = .ok (.lsub, 1)) : Wk l Z R y bytes maxL ret n0 Xt s h cells slots (pc + 1) Ls (.long (x - z) :: st) := k.pure fun a hx hb' q => XT.lsub a hx rfl (hb hb' hd) rfl q
theorem Wk.lmul {x z : Int64} (k : Wk l Z R y bytes maxL ret n0 Xt s h cells slots pc Ls (.long z :: .long x :: st)) (hd : decode bytes pc = .ok (.lmul, 1)) : Wk l Z R y bytes maxL ret n0 Xt s h cells slots (pc + 1) Ls (.long (x * z) :: st) := k.pure fun a hx hb' q => XT.lmul a hx rfl (hb hb' hd) rfl q
theorem Wk.land {x z : Int64} (k : Wk l Z R y bytes maxL ret n0 Xt s h cells slots pc Ls (.long z :: .long x :: st)) (hd : decode bytes pc = .ok (.land, 1)) : Wk l Z R y bytes maxL ret n0 Xt s h cells slots (pc + 1) Ls (.long (x &&& z) :: st) := k.pure fun a hx hb' q => XT.land a hx rfl (hb hb' hd) rfl q
theorem Wk.lor {x z : Int64} (k : Wk l Z R y bytes maxL ret n0 Xt s h cells slots pc Ls (.long z :: .long x :: st)) (hd : decode bytes pc = .ok (.lor, 1)) : Wk l Z R y bytes maxL ret n0 Xt s h cells slots (pc + 1) Ls (.long (x ||| z) :: st) := k.pure fun a hx hb' q => XT.lor a hx rfl (hb hb' hd) rfl q
theorem Wk.lxor {x z : Int64} (k : Wk l Z R y bytes maxL ret n0 Xt s h cells slots pc Ls (.long z :: .long x :: st)) (hd : decode bytes pc = .ok (.lxor, 1)) : Wk l Z R y bytes maxL ret n0 Xt s h cells slots (pc + 1) Ls (.long (x ^^^ z) :: st) := k.pure fun a hx hb' q => XT.lxor a hx rfl (hb hb' hd) rfl q
theorem Wk.lcmp {x z : Int64} (k : Wk l Z R y bytes maxL ret n0 Xt s h cells slots pc Ls (.long z :: .long x :: st)) (hd : decode bytes pc = .ok (.lcmp, 1)) : Wk l Z R y bytes maxL ret n0 Xt s h cells slots (pc + 1) Ls (.int (XT.cmpL x z) :: st) := k.pure fun a hx hb' q => XT.lcmp a hx rfl (hb hb' hd) rfl q
theorem Wk.lshl {x : Int64} {z : Int32} (k : Wk l Z R y bytes maxL ret n0 Xt s h cells slots pc Ls (.int z :: .long x :: st)) (hd : decode bytes pc = .ok (.lshl, 1)) : Wk l Z R y bytes maxL ret n0 Xt s h cells slots (pc + 1) Ls (.long (x <<< (z.toInt64 &&& 63)) :: st) := k.pure fun a hx hb' q => XT.lshl a hx rfl (hb hb' hd) rfl q
theorem Wk.lushr {x : Int64} {z : Int32} (k : Wk l Z R y bytes maxL ret n0 Xt s h cells slots pc Ls (.int z :: .long x :: st)) (hd : decode bytes pc = .ok (.lushr, 1)) : Wk l Z R y bytes maxL ret n0 Xt s h cells slots (pc + 1) Ls (.long (XT.ushrL x z) :: st) := k.pure fun a hx hb' q => XT.lushr a hx rfl (hb hb' hd) rfl q
theorem Wk.i2l {x : Int32} (k : Wk l Z R y bytes maxL ret n0 Xt s h cells slots pc Ls (.int x :: st)) (hd : decode bytes pc = .ok (.i2l, 1)) : Wk l Z R y bytes maxL ret n0 Xt s h cells slots (pc + 1) Ls (.long x.toInt64 :: st) := k.pure fun a hx hb' q => XT.i2l a hx rfl (hb hb' hd) rfl q
theorem Wk.l2i {x : Int64} (k : Wk l Z R y bytes maxL ret n0 Xt s h cells slots pc Ls (.long x :: st)) (hd : decode bytes pc = .ok (.l2i, 1)) : Wk l Z R y bytes maxL ret n0 Xt s h cells slots (pc + 1) Ls (.int x.toInt32 :: st) := k.pure fun a hx hb' q => XT.l2i a hx rfl (hb hb' hd) rfl q
theorem Wk.i2b {x : Int32} (k : Wk l Z R y bytes maxL ret n0 Xt s h cells slots pc Ls (.int x :: st)) (hd : decode bytes pc = .ok (.i2b, 1)) : Wk l Z R y bytes maxL ret n0 Xt s h cells slots (pc + 1) Ls (.int x.toInt8.toInt32 :: st) := k.pure fun a hx hb' q => XT.i2b a hx rfl (hb hb' hd) rfl q
theorem Wk.i2c {x : Int32} (k : Wk l Z R y bytes maxL ret n0 Xt s h cells slots pc Ls (.int x :: st)) (hd : decode bytes pc = .ok (.i2c, 1)) : Wk l Z R y bytes maxL ret n0 Xt s h cells slots (pc + 1) Ls (.int x.toUInt32.toUInt16.toUInt32.toInt32 :: st) := k.pure fun a hx hb' q => XT.i2c a hx rfl (hb hb' hd) rfl q
theorem Wk.dup {x : Value} (k : Wk l Z R y bytes maxL ret n0 Xt s h cells slots pc Ls (x :: st)) (hd : decode bytes pc = .ok (.dup, 1)) (hc : x.category = 1) : Wk l Z R y bytes maxL ret n0 Xt s h cells slots (pc + 1) Ls (x :: x :: st) := k.pure fun a hx hb' q => XS.dup a hx rfl (hb hb' hd) rfl hc q
theorem Wk.pop {x : Value} (k : Wk l Z R y bytes maxL ret n0 Xt s h cells slots pc Ls (x :: st)) (hd : decode bytes pc = .ok (.pop, 1)) (hc : x.category = 1) : Wk l Z R y bytes maxL ret n0 Xt s h cells slots (pc + 1) Ls st := k.pure fun a hx hb' q => XT.pop a hx rfl (hb hb' hd) rfl hc q
theorem Wk.iinc {j : Nat} {i : Int} {x : Int32} {Ls' : Array Slot} (k : Wk l Z R y bytes maxL ret n0 Xt s h cells slots pc Ls st) (v : Int32) (hd : decode bytes pc = .ok (.iinc j i, 3)) (hv : Int32.ofInt i = v) (hl : Ls[j]? = some (.val (.int x))) (hl' : storeLocals Ls j (.int (x + v)) = some Ls') : Wk l Z R y bytes maxL ret n0 Xt s h cells slots (pc + 3) Ls' st := k.pure fun a hx hb' q => XT.iincV a hx rfl v (hb hb' hd) hv hl hl' q
theorem Wk.goto {o : Int} {pc' : Nat} (k : Wk l Z R y bytes maxL ret n0 Xt s h cells slots pc Ls st) (hd : decode bytes pc = .ok (.goto o, 3)) (hp : 0 ≤ (pc : Int) + o ∧ ((pc : Int) + o).toNat = pc') : Wk l Z R y bytes maxL ret n0 Xt s h cells slots pc' Ls st := k.pure fun a hx hb' q => XS.goto a hx rfl (pc0 := pc) (pc' := pc') rfl (hb hb' hd) hp.1 hp.2 q
theorem Wk.ifT {x : Int32} {cd : ClassFile.Cond} {o : Int} {pc' : Nat} (k : Wk l Z R y bytes maxL ret n0 Xt s h cells slots pc Ls (.int x :: st)) (hd : decode bytes pc = .ok (.ifCond cd o, 3)) (hc : ifCond.holds cd x = true) (hp : 0 ≤ (pc : Int) + o ∧ ((pc : Int) + o).toNat = pc') : Wk l Z R y bytes maxL ret n0 Xt s h cells slots pc' Ls st := k.pure fun a hx hb' q => XS.ifYes a hx rfl (pc0 := pc) (pc' := pc') rfl (hb hb' hd) rfl hc hp.1 hp.2 q
theorem Wk.ifF {x : Int32} {cd : ClassFile.Cond} {o : Int} (k : Wk l Z R y bytes maxL ret n0 Xt s h cells slots pc Ls (.int x :: st)) (hd : decode bytes pc = .ok (.ifCond cd o, 3)) (hc : ifCond.holds cd x = false) : Wk l Z R y bytes maxL ret n0 Xt s h cells slots (pc + 3) Ls st := k.pure fun a hx hb' q => XS.ifNo a hx rfl (hb hb' hd) rfl hc q
theorem Wk.icT {x z : Int32} {cd : ClassFile.Cond} {o : Int} {pc' : Nat} (k : Wk l Z R y bytes maxL ret n0 Xt s h cells slots pc Ls (.int z :: .int x :: st)) (hd : decode bytes pc = .ok (.if_icmp cd o, 3)) (hc : if_icmp.holds cd x z = true) (hp : 0 ≤ (pc : Int) + o ∧ ((pc : Int) + o).toNat = pc') : Wk l Z R y bytes maxL ret n0 Xt s h cells slots pc' Ls st := k.pure fun a hx hb' q => XS.icmpYes a hx rfl (pc0 := pc) (pc' := pc') rfl (hb hb' hd) rfl hc hp.1 hp.2 q
theorem Wk.icF {x z : Int32} {cd : ClassFile.Cond} {o : Int} (k : Wk l Z R y bytes maxL ret n0 Xt s h cells slots pc Ls (.int z :: .int x :: st)) (hd : decode bytes pc = .ok (.if_icmp cd o, 3)) (hc : if_icmp.holds cd x z = false) : Wk l Z R y bytes maxL ret n0 Xt s h cells slots (pc + 3) Ls st := k.pure fun a hx hb' q => XS.icmpNo a hx rfl (hb hb' hd) rfl hc q
theorem Wk.acT {x z : Value} {cd : ClassFile.ACond} {o : Int} {pc' : Nat} (k : Wk l Z R y bytes maxL ret n0 Xt s h cells slots pc Ls (z :: x :: st)) (hd : decode bytes pc = .ok (.if_acmp cd o, 3)) (h1 : x.isRef = true) (h2 : z.isRef = true) (hc : XT.acmp cd x z = true) (hp : 0 ≤ (pc : Int) + o ∧ ((pc : Int) + o).toNat = pc') : Wk l Z R y bytes maxL ret n0 Xt s h cells slots pc' Ls st := k.pure fun a hx hb' q => XT.acmpYes a hx rfl (pc0 := pc) (pc' := pc') rfl (hb hb' hd) rfl h1 h2 hc hp.1 hp.2 q
theorem Wk.acF {x z : Value} {cd : ClassFile.ACond} {o : Int} (k : Wk l Z R y bytes maxL ret n0 Xt s h cells slots pc Ls (z :: x :: st)) (hd : decode bytes pc = .ok (.if_acmp cd o, 3)) (h1 : x.isRef = true) (h2 : z.isRef = true) (hc : XT.acmp cd x z = false) : Wk l Z R y bytes maxL ret n0 Xt s h cells slots (pc + 3) Ls st := k.pure fun a hx hb' q => XT.acmpNo a hx rfl (hb hb' hd) rfl h1 h2 hc q
theorem Wk.nnT {b : Addr} {o : Int} {pc' : Nat} (k : Wk l Z R y bytes maxL ret n0 Xt s h cells slots pc Ls (.ref b :: st)) (hd : decode bytes pc = .ok (.ifnonnull o, 3)) (hp : 0 ≤ (pc : Int) + o ∧ ((pc : Int) + o).toNat = pc') : Wk l Z R y bytes maxL ret n0 Xt s h cells slots pc' Ls st := k.pure fun a hx hb' q => XT.ifnonnullYes a hx rfl (pc0 := pc) (pc' := pc') rfl (hb hb' hd) rfl hp.1 hp.2 q
theorem Wk.nnF {o : Int} (k : Wk l Z R y bytes maxL ret n0 Xt s h cells slots pc Ls (.null :: st)) (hd : decode bytes pc = .ok (.ifnonnull o, 3)) : Wk l Z R y bytes maxL ret n0 Xt s h cells slots (pc + 3) Ls st := k.pure fun a hx hb' q => XT.ifnonnullNo a hx rfl (hb hb' hd) rfl q
theorem Wk.irem {x z : Int32} (k : Wk l Z R y bytes maxL ret n0 Xt s h cells slots pc Ls (.int z :: .int x :: st)) (hd : decode bytes pc = .ok (.irem, 1)) (hz : z ≠ 0) : Wk l Z R y bytes maxL ret n0 Xt s h cells slots (pc + 1) Ls (.int (x % z) :: st) := by
  obtain ⟨p, e, m, args, below, meth, c, S0, T, locs, F, X, eT, N, r, ex⟩ := k
  exact mk F X eT N (fun t q => r t (iremM X F.1 rfl (hb F.2.1 hd) rfl hz q)) ex
theorem Wk.ldc {i : Nat} {v : Int32} (k : Wk l Z R y bytes maxL ret n0 Xt s h cells slots pc Ls st) (w : (Jvm.Cond.constant y.cls i v).before a0 Z = true) (hd : decode bytes pc = .ok (.ldc i, 2)) : Wk l Z R y bytes maxL ret n0 Xt s h cells slots (pc + 2) Ls (.int v :: st) := by
  obtain ⟨p, e, m, args, below, meth, c, S0, T, locs, F, X, eT, N, r, ex⟩ := k
  exact mk F X eT N (fun t q => r t (X.ldcI F.1 F.2.2.2.2.1 (mvT F.2.2.2.1 w) rfl (hb F.2.1 hd) q)) ex
theorem Wk.ldc2 {i : Nat} {v : Int64} (k : Wk l Z R y bytes maxL ret n0 Xt s h cells slots pc Ls st) (w : (Jvm.Cond.constantLong y.cls i v).before a0 Z = true) (hd : decode bytes pc = .ok (.ldc2_w i, 3)) : Wk l Z R y bytes maxL ret n0 Xt s h cells slots (pc + 3) Ls (.long v :: st) := by
  obtain ⟨p, e, m, args, below, meth, c, S0, T, locs, F, X, eT, N, r, ex⟩ := k
  exact mk F X eT N (fun t q => r t (X.ldc2J F.1 F.2.2.2.2.1 (mvT F.2.2.2.1 w) rfl (hb F.2.1 hd) q)) ex
theorem Wk.getF {i : Nat} {O n d : String} {v : Value} (k : Wk l Z R y bytes maxL ret n0 Xt s h cells slots pc Ls (.ref a :: st)) (w : (Jvm.Cond.fieldLink y.cls i O n d).before a0 Z = true) (A : Fld Z h a O n d v) (hd : decode bytes pc = .ok (.getfield i, 3)) : Wk l Z R y bytes maxL ret n0 Xt s h cells slots (pc + 3) Ls (v :: st) := by
  obtain ⟨p, e, m, args, below, meth, c, S0, T, locs, F, X, eT, N, r, ex⟩ := k
  obtain ⟨T', X', e', q⟩ := RoadKit.getF X F.1 F.2.2.2.1 F.2.2.2.2.1 (host := "") (Or.inl w) Via.refl eT A (g := mkF m pc Ls (.ref a :: st)) rfl rfl (hb F.2.1 hd)
  exact mk F X' e' N (fun t u => r t (q t u)) ex
theorem Wk.getS {i : Nat} {O n d : String} {v : Value} (k : Wk l Z R y bytes maxL ret n0 Xt s h cells slots pc Ls st) (w : (Jvm.Cond.fieldLink y.cls i O n d).before a0 Z = true) (A : Sta Z h O n d v) (hd : decode bytes pc = .ok (.getstatic i, 3)) : Wk l Z R y bytes maxL ret n0 Xt s h cells slots (pc + 3) Ls (v :: st) := by
  obtain ⟨p, e, m, args, below, meth, c, S0, T, locs, F, X, eT, N, r, ex⟩ := k
  obtain ⟨T', X', e', q⟩ := RoadKit.getS X F.1 F.2.2.2.1 F.2.2.2.2.1 (host := "") w Via.refl eT A (g := mkF m pc Ls st) rfl (hb F.2.1 hd)
  exact mk F X' e' N (fun t u => r t (q t u)) ex
theorem Wk.putF {i kk : Nat} {O n d C : String} {v old : Value} (k : Wk l Z R y bytes maxL ret n0 Xt s h cells slots pc Ls (v :: .ref a :: st)) (w : (Jvm.Cond.fieldLink y.cls i O n d).before a0 Z = true) (A : Fld Z h a O n d old) (E : Exa Z h a C)
    (L : (Jvm.Cond.lays C O n d).before a0 Z = true ∨ ((Jvm.Cond.laysFinal C O n d).before a0 Z = true ∧ y.cls = O ∧ y.name = "<init>")) (wi : (Jvm.Cond.instantiable C kk).before a0 Z = true)
    (hty : parseFieldDescriptor d = some ty) (hn : narrow ty v = v) (hf : fits ty v = true) (hg : n0 ≤ a) (hd : decode bytes pc = .ok (.putfield i, 3)) :
    ∃ h', Wr h h' a (RoadKit.slotOf Z O n d) v ∧ Keep h h' [a] ∧ Fld Z h' a O n d v ∧ Exa Z h' a C ∧ Wk l Z R y bytes maxL ret n0 Xt s h' cells slots (pc + 3) Ls st := by
  obtain ⟨p, e, m, args, below, meth, c, S0, T, locs, F, X, eT, N, r, ex⟩ := k
  obtain ⟨T', h', X', e', W1, q⟩ := RoadKit.putF X F.1 F.2.2.2.1 F.2.2.2.2.1 (host := "") (Or.inl w) Via.refl eT A E (L.imp id fun z => ⟨z.1, z.2.1, F.2.2.2.2.2.1.trans z.2.2⟩) wi hty hn hf (g := mkF m pc Ls (v :: .ref a :: st)) rfl rfl (hb F.2.1 hd)
  exact ⟨h', W1, Keep.of_wr W1, A.same W1, E.wr W1, mk F X' e' (Fr.snoc X' N hg) (fun t u => r t (q t u)) ex⟩
theorem Wk.newO {i n : Nat} {C : String} (k : Wk l Z R y bytes maxL ret n0 Xt s h cells slots pc Ls st) (w : (Jvm.Cond.classLink y.cls i C).before a0 Z = true) (wi : (Jvm.Cond.instantiable C n).before a0 Z = true) (wz : (Jvm.Cond.initialized C).before a0 Z = true) (hd : decode bytes pc = .ok (.new i, 3)) (hc : cells + 1 ≤ R.cells) (hl : slots + n ≤ R.slots) :
    ∃ h', Keep h h' [] ∧ Exa Z h' h.size C ∧ (∀ {O nm d : String} {ty : FieldType}, Laid Z a0 C O nm d → parseFieldDescriptor d = some ty → Fld Z h' h.size O nm d (defaultValue ty)) ∧ Wk l Z R y bytes maxL ret n0 Xt s h' (cells + 1) (slots + n) (pc + 3) Ls (.ref h.size :: st) := by
  obtain ⟨p, e, m, args, below, meth, c, S0, T, locs, F, X, eT, N, r, ex⟩ := k
  obtain ⟨T', h', X', e', E, A, D, -, q⟩ := RoadKit.newO X F.1 F.2.2.2.1 F.2.2.2.2.1 w wi wz eT (g := mkF m pc Ls st) rfl (hb F.2.1 hd) hc hl
  exact ⟨h', Keep.of_ext E, A, D, mk F X' e' N (fun t u => r t (q t u)) ex⟩
theorem Wk.initO {i : Nat} (k : Wk l Z R y bytes maxL ret n0 Xt s h cells slots pc Ls (.ref a :: st)) (w1 : (Jvm.Cond.methodLink y.cls i Lib.objectInit).before a0 Z = true) (w2 : (Jvm.Cond.instanceMethod Lib.objectInit).before a0 Z = true) (w3 : (Jvm.Cond.code Lib.objectInit Jvm.Pilot.@@N@@.object_method_1_code 1 none).before a0 Z = true) (hd : decode bytes pc = .ok (.invokespecial i, 3)) (hL : Ls.size = maxL)
    (hf : 1 ≤ R.frames) (W0 : Nat) (hW : (st.map fun v => v.category).sum ≤ W0) (hl : W0 + 12 ≤ R.locals) : Wk l Z R y bytes maxL ret n0 Xt s h cells slots (pc + 3) Ls st := by
  obtain ⟨p, e, m, args, below, meth, c, S0, T, locs, F, X, eT, N, r, ex⟩ := k
  obtain ⟨T', X', e', q⟩ := RoadKit.initO X F.1 F.2.2.2.1 F.2.2.2.2.1 w1 w2 w3 eT (g := mkF m pc Ls (.ref a :: st)) rfl (by rw [F.2.2.1]; exact hL) rfl (hb F.2.1 hd) hf (W := W0) (by show 2 * 0 + _ ≤ _; omega) hl
  exact mk F X' e' N (fun t u => r t (q t u)) ex
theorem Wk.newA {n : Int32} {aty : ArrayType} (k : Wk l Z R y bytes maxL ret n0 Xt s h cells slots pc Ls (.int n :: st)) (w : (Jvm.Cond.arrayClass (newarray.typeOf aty)).before a0 Z = true) (hd : decode bytes pc = .ok (.newarray aty, 2)) (n' : Nat) (hN : n.toNatClampNeg = n') (hn : ¬ n < 0) (hm : n' ≤ 1000) (hc : cells + 1 ≤ R.cells) (hl : slots + n' ≤ R.slots) :
    ∃ h', Keep h h' [] ∧ AV Z h' h.size (newarray.typeOf aty) (List.replicate n' (defaultValue (newarray.typeOf aty))) ∧ Wk l Z R y bytes maxL ret n0 Xt s h' (cells + 1) (slots + n') (pc + 2) Ls (.ref h.size :: st) := by
  obtain ⟨p, e, m, args, below, meth, c, S0, T, locs, F, X, eT, N, r, ex⟩ := k
  obtain ⟨T', h', cA, X', e', E, A, q⟩ := newP X F.1 F.2.2.2.1 w eT (g := mkF m pc Ls (.int n :: st)) rfl (hb F.2.1 hd) rfl hn (cap := n') (Nat.le_of_eq hN) (by omega) hc hl
  refine ⟨h', Keep.of_ext E, ⟨by rw [List.length_replicate]; omega, _, A, ?_⟩, mk F X' e' N (fun t u => r t (q t u)) ex⟩
  subst hN; rfl
theorem AV.inb {c : Cell} {j : Int32} {i : Nat} (e : c.slots = vs.toArray) (h0 : ¬ j < 0) (hj : j.toNatClampNeg = i) (hi : i < vs.length) : ¬ (j < 0 ∨ c.slots.size ≤ j.toNatClampNeg) := by
  rintro (q | q)
  · exact h0 q
  · rw [e, hj, List.size_toArray] at q; omega
theorem AV.set {c : Cell} {i : Nat} {v : Value} (e : c.slots = vs.toArray) : (c.setSlot i v).slots = (vs.set i v).toArray := by
  show c.slots.setIfInBounds i v = _
  rw [e, List.setIfInBounds_toArray]
theorem Wk.stI {x j : Int32} (k : Wk l Z R y bytes maxL ret n0 Xt s h cells slots pc Ls (.int x :: .int j :: .ref a :: st)) (A : AV Z h a .int vs) (i : Nat) (hj : j.toNatClampNeg = i) (h0 : ¬ j < 0) (hi : i < vs.length) (hg : n0 ≤ a) (hd : decode bytes pc = .ok (.iastore, 1)) :
    ∃ h', Keep h h' [a] ∧ AV Z h' a .int (vs.set i (.int (x))) ∧ Wk l Z R y bytes maxL ret n0 Xt s h' cells slots (pc + 1) Ls st := by
  obtain ⟨p, e, m, args, below, meth, c, S0, T, locs, F, X, eT, N, r, ex⟩ := k
  obtain ⟨hlen, cl, A, hcl⟩ := A
  obtain ⟨T', h', X', e', W1, q⟩ := RoadKit.stI X F.1 F.2.2.2.1 eT A (AV.inb hcl h0 hj hi) (g := mkF m pc Ls (.int x :: .int j :: .ref a :: st)) rfl rfl (hb F.2.1 hd)
  refine ⟨h', Keep.of_wr W1, ⟨by rw [List.length_set]; exact hlen, _, A.same W1, ?_⟩, mk F X' e' (Fr.snoc X' N hg) (fun t u => r t (q t u)) ex⟩
  rw [hj]; exact AV.set hcl
theorem Wk.stB {x j : Int32} (k : Wk l Z R y bytes maxL ret n0 Xt s h cells slots pc Ls (.int x :: .int j :: .ref a :: st)) (A : AV Z h a .byte vs) (i : Nat) (hj : j.toNatClampNeg = i) (h0 : ¬ j < 0) (hi : i < vs.length) (hg : n0 ≤ a) (hd : decode bytes pc = .ok (.bastore, 1)) :
    ∃ h', Keep h h' [a] ∧ AV Z h' a .byte (vs.set i (.int (nar .byte x))) ∧ Wk l Z R y bytes maxL ret n0 Xt s h' cells slots (pc + 1) Ls st := by
  obtain ⟨p, e, m, args, below, meth, c, S0, T, locs, F, X, eT, N, r, ex⟩ := k
  obtain ⟨hlen, cl, A, hcl⟩ := A
  obtain ⟨T', h', X', e', W1, q⟩ := RoadKit.stB X F.1 F.2.2.2.1 eT A (AV.inb hcl h0 hj hi) (g := mkF m pc Ls (.int x :: .int j :: .ref a :: st)) rfl rfl (hb F.2.1 hd)
  refine ⟨h', Keep.of_wr W1, ⟨by rw [List.length_set]; exact hlen, _, A.same W1, ?_⟩, mk F X' e' (Fr.snoc X' N hg) (fun t u => r t (q t u)) ex⟩
  rw [hj]; exact AV.set hcl
theorem Wk.stC {x j : Int32} (k : Wk l Z R y bytes maxL ret n0 Xt s h cells slots pc Ls (.int x :: .int j :: .ref a :: st)) (A : AV Z h a .char vs) (i : Nat) (hj : j.toNatClampNeg = i) (h0 : ¬ j < 0) (hi : i < vs.length) (hg : n0 ≤ a) (hd : decode bytes pc = .ok (.castore, 1)) :
    ∃ h', Keep h h' [a] ∧ AV Z h' a .char (vs.set i (.int (nar .char x))) ∧ Wk l Z R y bytes maxL ret n0 Xt s h' cells slots (pc + 1) Ls st := by
  obtain ⟨p, e, m, args, below, meth, c, S0, T, locs, F, X, eT, N, r, ex⟩ := k
  obtain ⟨hlen, cl, A, hcl⟩ := A
  obtain ⟨T', h', X', e', W1, q⟩ := RoadKit.stC X F.1 F.2.2.2.1 eT A (AV.inb hcl h0 hj hi) (g := mkF m pc Ls (.int x :: .int j :: .ref a :: st)) rfl rfl (hb F.2.1 hd)
  refine ⟨h', Keep.of_wr W1, ⟨by rw [List.length_set]; exact hlen, _, A.same W1, ?_⟩, mk F X' e' (Fr.snoc X' N hg) (fun t u => r t (q t u)) ex⟩
  rw [hj]; exact AV.set hcl
theorem Wk.ldI {j : Int32} {v : Value} (k : Wk l Z R y bytes maxL ret n0 Xt s h cells slots pc Ls (.int j :: .ref a :: st)) (A : AV Z h a .int vs) (h0 : ¬ j < 0) (hv : vs[j.toNatClampNeg]? = some v) (hd : decode bytes pc = .ok (.iaload, 1)) : Wk l Z R y bytes maxL ret n0 Xt s h cells slots (pc + 1) Ls (v :: st) := by
  obtain ⟨p, e, m, args, below, meth, c, S0, T, locs, F, X, eT, N, r, ex⟩ := k
  obtain ⟨hlen, cl, A, hcl⟩ := A
  have hi : j.toNatClampNeg < vs.length := (List.getElem?_eq_some_iff.mp hv).1
  exact mk F X eT N (fun t u => r t (X.iaload F.1 (j := j) (v := v) (by rw [eT]; exact A.1) (State.isArrayOf_alike F.2.2.2.1.alike A.2.1) A.2.2 (AV.inb hcl h0 rfl hi) (by rw [hcl, List.getElem?_toArray]; exact hv) (g := mkF m pc Ls (.int j :: .ref a :: st)) rfl rfl (hb F.2.1 hd) t u)) ex
theorem Wk.ldB {j : Int32} {v : Value} (k : Wk l Z R y bytes maxL ret n0 Xt s h cells slots pc Ls (.int j :: .ref a :: st)) (A : AV Z h a .byte vs) (h0 : ¬ j < 0) (hv : vs[j.toNatClampNeg]? = some v) (hd : decode bytes pc = .ok (.baload, 1)) : Wk l Z R y bytes maxL ret n0 Xt s h cells slots (pc + 1) Ls (v :: st) := by
  obtain ⟨p, e, m, args, below, meth, c, S0, T, locs, F, X, eT, N, r, ex⟩ := k
  obtain ⟨hlen, cl, A, hcl⟩ := A
  have hi : j.toNatClampNeg < vs.length := (List.getElem?_eq_some_iff.mp hv).1
  exact mk F X eT N (fun t u => r t (X.baloadBytes F.1 (j := j) (v := v) (by rw [eT]; exact A.1) (State.isArrayOf_alike F.2.2.2.1.alike A.2.1) A.2.2 (AV.inb hcl h0 rfl hi) (by rw [hcl, List.getElem?_toArray]; exact hv) (g := mkF m pc Ls (.int j :: .ref a :: st)) rfl rfl (hb F.2.1 hd) t u)) ex
theorem Wk.ldC {j : Int32} {v : Value} (k : Wk l Z R y bytes maxL ret n0 Xt s h cells slots pc Ls (.int j :: .ref a :: st)) (A : AV Z h a .char vs) (h0 : ¬ j < 0) (hv : vs[j.toNatClampNeg]? = some v) (hd : decode bytes pc = .ok (.caload, 1)) : Wk l Z R y bytes maxL ret n0 Xt s h cells slots (pc + 1) Ls (v :: st) := by
  obtain ⟨p, e, m, args, below, meth, c, S0, T, locs, F, X, eT, N, r, ex⟩ := k
  obtain ⟨hlen, cl, A, hcl⟩ := A
  have hi : j.toNatClampNeg < vs.length := (List.getElem?_eq_some_iff.mp hv).1
  exact mk F X eT N (fun t u => r t (X.caload F.1 (j := j) (v := v) (by rw [eT]; exact A.1) (State.isArrayOf_alike F.2.2.2.1.alike A.2.1) A.2.2 (AV.inb hcl h0 rfl hi) (by rw [hcl, List.getElem?_toArray]; exact hv) (g := mkF m pc Ls (.int j :: .ref a :: st)) rfl rfl (hb F.2.1 hd) t u)) ex
theorem Wk.len {n : Int32} (k : Wk l Z R y bytes maxL ret n0 Xt s h cells slots pc Ls (.ref a :: st)) (A : AV Z h a ty vs) (hn : vs.length.toInt32 = n) (hd : decode bytes pc = .ok (.arraylength, 1)) : Wk l Z R y bytes maxL ret n0 Xt s h cells slots (pc + 1) Ls (.int n :: st) := by
  obtain ⟨p, e, m, args, below, meth, c, S0, T, locs, F, X, eT, N, r, ex⟩ := k
  obtain ⟨hlen, cl, A, hcl⟩ := A
  have e : cl.slots.size.toInt32 = n := by rw [hcl, List.size_toArray]; exact hn
  exact mk F X eT N (fun t u => r t (X.arraylength F.1 (cell := cl) (by rw [eT]; exact A.1) (State.isArrayOf_alike F.2.2.2.1.alike A.2.1) (g := mkF m pc Ls (.ref a :: st)) rfl rfl (hb F.2.1 hd) t (by rw [e]; exact u))) ex
theorem Wk.callS {i : Nat} {y' : MethodName} {bytes' : ByteArray} {maxL' : Nat} {ret' : Option FieldType} {rm : Room} {P' : Option Value → Heap → Prop} {argsL rest : List Value} (k : Wk l Z R y bytes maxL ret n0 Xt s h cells slots pc Ls st) (wl : (Jvm.Cond.methodLink y.cls i y').before a0 Z = true) (wt : (Jvm.Cond.static y').before a0 Z = true) (wi : (Jvm.Cond.initialized y'.cls).before a0 Z = true) (wc : (Jvm.Cond.code y' bytes' maxL' ret').before a0 Z = true)
    (hy : y'.cls ≠ "java/lang/invoke/MethodHandle" ∧ y'.cls ≠ "java/lang/invoke/VarHandle") (hC : Con l Z y' bytes' maxL' ret' rm argsL.toArray h n0 P') (hlen : ∀ sig, parseMethodDescriptor y'.desc = some sig → argsL.length = sig.parameters.length)
    (hd : decode bytes pc = .ok (.invokestatic i, 3)) (hst : st = argsL.reverse ++ rest) (hL : Ls.size = maxL) (W0 : Nat) (hW : (rest.map fun v => v.category).sum ≤ W0) (hf : rm.frames + 1 ≤ R.frames) (hl : W0 + (maxL' + 11) + rm.locals ≤ R.locals) (hc : cells + rm.cells ≤ R.cells) (hs : slots + rm.slots ≤ R.slots) : ∃ v h', P' v h' ∧ Wk l Z R y bytes maxL ret n0 Xt s h' (cells + rm.cells) (slots + rm.slots) (pc + 3) Ls (v.toList ++ rest) := by
  obtain ⟨p, e, m, args, below, meth, c, S0, T, locs, F, X, eT, N, r, ex⟩ := k
  obtain ⟨v, vm₁, ⟨T', L', k', n'⟩, -, X', ⟨Lc, hQ, l1, y1, z1⟩, q⟩ := Jvm.LawKit.callS X F.1 (y := y') F.2.2.2.2.1 (mvT F.2.2.2.1 wl) (mvT F.2.2.2.1 wt) (mvT F.2.2.2.1 wi) (mvT F.2.2.2.1 wc) hy (backOf (W := W0) (Q := fun v h L => Fr n0 L ∧ P' v h) (hC []) F.2.2.2.1 wc wi hf hl) (g := mkF m pc Ls st) rfl (by rw [F.2.2.1]; exact hL) (argsL := argsL) (rest := rest) hlen hst (by show 2 * 0 + _ ≤ _; omega) (hb F.2.1 hd) (fun _ _ => ⟨rfl, eT, hc, hs⟩)
  dsimp only [Pt.U, Pt.locs, Pt.cells, Pt.slots] at X' l1 y1 z1 q hQ
  subst l1 y1 z1
  exact ⟨v, T'.heap, hQ.2, mk F X' rfl (Fr.app N hQ.1) (fun t u => r t (q t u)) ex⟩
theorem Wk.callSN {i : Nat} {y' : MethodName} {bytes' : ByteArray} {maxL' : Nat} {ret' : Option FieldType} {rm : Room} {P' : Option Value → Heap → Prop} {argsL rest : List Value} {host : String} (k : Wk l Z R y bytes maxL ret n0 Xt s h cells slots pc Ls st) (wl : (Jvm.Cond.methodLinkNest y.cls i y' host).before a0 Z = true) (wt : (Jvm.Cond.static y').before a0 Z = true) (wi : (Jvm.Cond.initialized y'.cls).before a0 Z = true) (wc : (Jvm.Cond.code y' bytes' maxL' ret').before a0 Z = true)
    (hy : y'.cls ≠ "java/lang/invoke/MethodHandle" ∧ y'.cls ≠ "java/lang/invoke/VarHandle") (hC : Con l Z y' bytes' maxL' ret' rm argsL.toArray h n0 P') (hlen : ∀ sig, parseMethodDescriptor y'.desc = some sig → argsL.length = sig.parameters.length)
    (hd : decode bytes pc = .ok (.invokestatic i, 3)) (hst : st = argsL.reverse ++ rest) (hL : Ls.size = maxL) (W0 : Nat) (hW : (rest.map fun v => v.category).sum ≤ W0) (hf : rm.frames + 1 ≤ R.frames) (hl : W0 + (maxL' + 11) + rm.locals ≤ R.locals) (hc : cells + rm.cells ≤ R.cells) (hs : slots + rm.slots ≤ R.slots) : ∃ v h', P' v h' ∧ Wk l Z R y bytes maxL ret n0 Xt s h' (cells + rm.cells) (slots + rm.slots) (pc + 3) Ls (v.toList ++ rest) := by
  obtain ⟨p, e, m, args, below, meth, c, S0, T, locs, F, X, eT, N, r, ex⟩ := k
  obtain ⟨v, vm₁, ⟨T', L', k', n'⟩, -, X', ⟨Lc, hQ, l1, y1, z1⟩, q⟩ := RoadKit.callSN X F.1 (y := y') F.2.2.2.2.1 (Jvm.Cond.methodLinkNest_wide F.2.2.2.1 wl :) (mvT F.2.2.2.1 wt) (mvT F.2.2.2.1 wi) (mvT F.2.2.2.1 wc) hy (backOf (W := W0) (Q := fun v h L => Fr n0 L ∧ P' v h) (hC []) F.2.2.2.1 wc wi hf hl) (g := mkF m pc Ls st) rfl (by rw [F.2.2.1]; exact hL) (argsL := argsL) (rest := rest) hlen hst (by show 2 * 0 + _ ≤ _; omega) (hb F.2.1 hd) (fun _ _ => ⟨rfl, eT, hc, hs⟩)
  dsimp only [Pt.U, Pt.locs, Pt.cells, Pt.slots] at X' l1 y1 z1 q hQ
  subst l1 y1 z1
  exact ⟨v, T'.heap, hQ.2, mk F X' rfl (Fr.app N hQ.1) (fun t u => r t (q.trans u)) ex⟩
theorem Wk.callN {i : Nat} {y' : MethodName} {bytes' : ByteArray} {maxL' : Nat} {rm : Room} {P' : Option Value → Heap → Prop} {argsL rest : List Value} (k : Wk l Z R y bytes maxL ret n0 Xt s h cells slots pc Ls st) (hy1 : y'.name = "<init>") (wl : (Jvm.Cond.methodLink y.cls i y').before a0 Z = true) (wm : (Jvm.Cond.instanceMethod y').before a0 Z = true) (wi : (Jvm.Cond.initialized y'.cls).before a0 Z = true) (wc : (Jvm.Cond.code y' bytes' maxL' none).before a0 Z = true)
    (hy : y'.cls ≠ "java/lang/invoke/MethodHandle" ∧ y'.cls ≠ "java/lang/invoke/VarHandle") (hC : Con l Z y' bytes' maxL' none rm (.ref a :: argsL).toArray h n0 P') (hlen : ∀ sig, parseMethodDescriptor y'.desc = some sig → argsL.length = sig.parameters.length)
    (hd : decode bytes pc = .ok (.invokespecial i, 3)) (hst : st = argsL.reverse ++ .ref a :: rest) (hL : Ls.size = maxL) (W0 : Nat) (hW : (rest.map fun v => v.category).sum ≤ W0) (hf : rm.frames + 1 ≤ R.frames) (hl : W0 + (maxL' + 11) + rm.locals ≤ R.locals) (hc : cells + rm.cells ≤ R.cells) (hs : slots + rm.slots ≤ R.slots) : ∃ v h', P' v h' ∧ Wk l Z R y bytes maxL ret n0 Xt s h' (cells + rm.cells) (slots + rm.slots) (pc + 3) Ls (v.toList ++ rest) := by
  obtain ⟨p, e, m, args, below, meth, c, S0, T, locs, F, X, eT, N, r, ex⟩ := k
  obtain ⟨v, vm₁, ⟨T', L', k', n'⟩, -, X', ⟨Lc, hQ, l1, y1, z1⟩, q⟩ := X.specialBack F.1 (y := y') hy1 F.2.2.2.2.1 (mvT F.2.2.2.1 wl) (mvT F.2.2.2.1 wm) (mvT F.2.2.2.1 wc) hy (backOf (W := W0) (Q := fun v h L => Fr n0 L ∧ P' v h) (hC []) F.2.2.2.1 wc wi hf hl) (g := mkF m pc Ls st) rfl (by rw [F.2.2.1]; exact hL) (Steps.refl _) (a := a) (argsL := argsL) (rest := rest) hlen hst (by show 2 * 0 + _ ≤ _; omega) (hb F.2.1 hd) (fun _ _ => ⟨rfl, eT, hc, hs⟩)
  dsimp only [Pt.U, Pt.locs, Pt.cells, Pt.slots] at X' l1 y1 z1 q hQ
  subst l1 y1 z1
  exact ⟨v, T'.heap, hQ.2, mk F X' rfl (Fr.app N hQ.1) (fun t u => r t (q.trans u)) ex⟩
theorem Wk.callV {i : Nat} {y' : MethodName} {bytes' : ByteArray} {maxL' : Nat} {ret' : Option FieldType} {rm : Room} {P' : Option Value → Heap → Prop} {argsL rest : List Value} {C : String} (k : Wk l Z R y bytes maxL ret n0 Xt s h cells slots pc Ls st) (wl : (Jvm.Cond.methodLink y.cls i y').before a0 Z = true) (wd : (Jvm.Cond.declares y').before a0 Z = true) (wm : (Jvm.Cond.instanceMethod y').before a0 Z = true) (wsl : (Jvm.Cond.selects C y' y').before a0 Z = true) (hCy : C = y'.cls) (wi : (Jvm.Cond.initialized y'.cls).before a0 Z = true) (wc : (Jvm.Cond.code y' bytes' maxL' ret').before a0 Z = true)
    (hy : y'.cls ≠ "java/lang/invoke/MethodHandle" ∧ y'.cls ≠ "java/lang/invoke/VarHandle") (E : Exa Z h a C) (hC : Con l Z y' bytes' maxL' ret' rm (.ref a :: argsL).toArray h n0 P') (hlen : ∀ sig, parseMethodDescriptor y'.desc = some sig → argsL.length = sig.parameters.length)
    (hd : decode bytes pc = .ok (.invokevirtual i, 3)) (hst : st = argsL.reverse ++ .ref a :: rest) (hL : Ls.size = maxL) (W0 : Nat) (hW : (rest.map fun v => v.category).sum ≤ W0) (hf : rm.frames + 1 ≤ R.frames) (hl : W0 + (maxL' + 11) + rm.locals ≤ R.locals) (hc : cells + rm.cells ≤ R.cells) (hs : slots + rm.slots ≤ R.slots) : ∃ v h', P' v h' ∧ Wk l Z R y bytes maxL ret n0 Xt s h' (cells + rm.cells) (slots + rm.slots) (pc + 3) Ls (v.toList ++ rest) := by
  obtain ⟨p, e, m, args, below, meth, c, S0, T, locs, F, X, eT, N, r, ex⟩ := k
  subst hCy
  obtain ⟨cq, kq, q1, q2, q3⟩ := isOf F.2.2.2.1 eT E
  obtain ⟨v, vm₁, ⟨T', L', k', n'⟩, -, X', ⟨Lc, hQ, l1, y1, z1⟩, q⟩ := X.virtualBack F.1 (y := y') (z := y') F.2.2.2.2.1 (mvT F.2.2.2.1 wl) (mvT F.2.2.2.1 wd) (notFace_of_selects (args := #[]) (mvT F.2.2.2.1 wsl)) (mvT F.2.2.2.1 wsl) (mvT F.2.2.2.1 wm) hy (backOf (W := W0) (Q := fun v h L => Fr n0 L ∧ P' v h) (hC []) F.2.2.2.1 wc wi hf hl) q1 q3 (g := mkF m pc Ls st) rfl (by rw [F.2.2.1]; exact hL) (Steps.refl _) (argsL := argsL) (rest := rest) hlen hst (by show 2 * 0 + _ ≤ _; omega) (hb F.2.1 hd) (fun _ _ => ⟨rfl, eT, hc, hs⟩)
  dsimp only [Pt.U, Pt.locs, Pt.cells, Pt.slots] at X' l1 y1 z1 q hQ
  subst l1 y1 z1
  exact ⟨v, T'.heap, hQ.2, mk F X' rfl (Fr.app N hQ.1) (fun t u => r t (q.trans u)) ex⟩
theorem Wk.callP {i : Nat} {y' : MethodName} {bytes' : ByteArray} {maxL' : Nat} {ret' : Option FieldType} {rm : Room} {P' : Option Value → Heap → Prop} {argsL rest : List Value} {z : MethodName} (k : Wk l Z R y bytes maxL ret n0 Xt s h cells slots pc Ls st) (wl : (Jvm.Cond.methodLink y.cls i y').before a0 Z = true) (wm : (Jvm.Cond.instanceMethod y').before a0 Z = true) (wp : (Jvm.Cond.privateMethod y').before a0 Z = true) (wz : (Jvm.Cond.selects y'.cls z z).before a0 Z = true) (hz : z.cls = y'.cls) (wi : (Jvm.Cond.initialized y'.cls).before a0 Z = true) (wc : (Jvm.Cond.code y' bytes' maxL' ret').before a0 Z = true)
    (hy : y'.cls ≠ "java/lang/invoke/MethodHandle" ∧ y'.cls ≠ "java/lang/invoke/VarHandle") (E : Exa Z h a y'.cls) (hC : Con l Z y' bytes' maxL' ret' rm (.ref a :: argsL).toArray h n0 P') (hlen : ∀ sig, parseMethodDescriptor y'.desc = some sig → argsL.length = sig.parameters.length)
    (hd : decode bytes pc = .ok (.invokevirtual i, 3)) (hst : st = argsL.reverse ++ .ref a :: rest) (hL : Ls.size = maxL) (W0 : Nat) (hW : (rest.map fun v => v.category).sum ≤ W0) (hf : rm.frames + 1 ≤ R.frames) (hl : W0 + (maxL' + 11) + rm.locals ≤ R.locals) (hc : cells + rm.cells ≤ R.cells) (hs : slots + rm.slots ≤ R.slots) : ∃ v h', P' v h' ∧ Wk l Z R y bytes maxL ret n0 Xt s h' (cells + rm.cells) (slots + rm.slots) (pc + 3) Ls (v.toList ++ rest) := by
  obtain ⟨p, e, m, args, below, meth, c, S0, T, locs, F, X, eT, N, r, ex⟩ := k
  obtain ⟨cq, q1, q2⟩ := E.cell
  have hsz : (Jvm.Cond.selects y'.cls z z).before args s = true := mvT F.2.2.2.1 wz
  have hpv : s.PrivateAt y' := Jvm.Cond.privateMethod_at (mvP F.2.2.2.1 wp (args := #[]))
  have hsel : (Jvm.Cond.selects y'.cls y' y').before args s = true := by
    obtain ⟨c2, r2, m2, u1, u2, u3, u4, kP, u5, u6⟩ := Jvm.Cond.selects_spec hsz
    have u7 : s.vm.findClass z.cls = some m2.cls := findClass_of_methodNamed u3
    rw [hz] at u7
    exact selects_self_of_private u7 u5 u6 hpv (mvT F.2.2.2.1 wm) hy
  obtain ⟨v, vm₁, ⟨T', L', k', n'⟩, -, X', ⟨Lc, hQ, l1, y1, z1⟩, q⟩ := X.privateBack F.1 (y := y') F.2.2.2.2.1 (mvT F.2.2.2.1 wl) (mvT F.2.2.2.1 wm) hsel hpv (mvT F.2.2.2.1 wc) hy (backOf (W := W0) (Q := fun v h L => Fr n0 L ∧ P' v h) (hC []) F.2.2.2.1 wc wi hf hl) (g := mkF m pc Ls st) rfl (by rw [F.2.2.1]; exact hL) (Steps.refl _) (a := a) (by rw [eT]; exact q1) q2 (argsL := argsL) (rest := rest) hlen hst (by show 2 * 0 + _ ≤ _; omega) (hb F.2.1 hd) (fun _ _ => ⟨rfl, eT, hc, hs⟩)
  dsimp only [Pt.U, Pt.locs, Pt.cells, Pt.slots] at X' l1 y1 z1 q hQ
  subst l1 y1 z1
  exact ⟨v, T'.heap, hQ.2, mk F X' rfl (Fr.app N hQ.1) (fun t u => r t (q.trans u)) ex⟩
theorem Wk.tswIn {x : Int32} {dflt low high : Int} {offs : Array Int} {len : Nat} {o : Int} {pc' : Nat} (k : Wk l Z R y bytes maxL ret n0 Xt s h cells slots pc Ls (.int x :: st)) (hd : decode bytes pc = .ok (.tableswitch dflt low high offs, len)) (hin : ¬ (x.toInt < low ∨ x.toInt > high)) (hoff : offs[(x.toInt - low).toNat]? = some o) (hp : 0 ≤ (pc : Int) + o ∧ ((pc : Int) + o).toNat = pc') : Wk l Z R y bytes maxL ret n0 Xt s h cells slots pc' Ls st := k.pure fun a hx hb' q => XS.tswIn a hx rfl (pc0 := pc) (pc' := pc') rfl (hb hb' hd) rfl hin hoff hp.1 hp.2 q
theorem Wk.tswOut {x : Int32} {dflt low high : Int} {offs : Array Int} {len : Nat} {pc' : Nat} (k : Wk l Z R y bytes maxL ret n0 Xt s h cells slots pc Ls (.int x :: st)) (hd : decode bytes pc = .ok (.tableswitch dflt low high offs, len)) (hout : x.toInt < low ∨ x.toInt > high) (hp : 0 ≤ (pc : Int) + dflt ∧ ((pc : Int) + dflt).toNat = pc') : Wk l Z R y bytes maxL ret n0 Xt s h cells slots pc' Ls st := k.pure fun a hx hb' q => XS.tswOut a hx rfl (pc0 := pc) (pc' := pc') rfl (hb hb' hd) rfl hout hp.1 hp.2 q
theorem Wk.out {t : FieldType} {w : Value} {i : Instr} (k : Wk l Z R y bytes maxL (some t) n0 (Ex s R n0 P G) s h cells slots pc Ls (w :: st)) (hn : narrow t w = w)
    (hi : (i = .ireturn ∧ (t = .int ∨ t = .boolean ∨ t = .byte ∨ t = .char ∨ t = .short) ∧ ∃ z, w = .int z) ∨ (i = .lreturn ∧ t = .long ∧ ∃ z, w = .long z) ∨ (i = .dreturn ∧ t = .double ∧ ∃ z, w = .double z) ∨ (i = .freturn ∧ t = .float ∧ ∃ z, w = .float z) ∨ (i = .areturn ∧ t.isReference = true ∧ w.isRef = true))
    (hd : decode bytes pc = .ok (i, 1)) (hc : cells ≤ R.cells) (hs : slots ≤ R.slots) (hP : P (some w) h) : G := by
  obtain ⟨p, e, m, args, below, meth, c, S0, T, locs, F, X, eT, N, r, ex⟩ := k
  have hlk : meth.locks = false := F.2.2.2.2.2.2.2
  obtain ⟨fs, hr, hrun, hended, hW, hsame⟩ := X.leave (v := some w) (fun z => by rw [F.2.2.2.2.2.2.1] at z; cases z)
  refine ex ⟨_, _, r _ (retOut X F.1 F.2.2.2.2.2.2.1 hn hi (hb F.2.1 hd) hr), hrun, hended, _, locs, rfl, ⟨N, ?_⟩, ⟨_, rfl⟩, hW, hsame.mono hc hs⟩
  show P (some w) T.heap
  rw [eT]; exact hP
theorem Wk.outN (k : Wk l Z R y bytes maxL none n0 (Ex s R n0 P G) s h cells slots pc Ls []) (hd : decode bytes pc = .ok (.return_, 1)) (hc : cells ≤ R.cells) (hs : slots ≤ R.slots) (hP : P none h) : G := by
  obtain ⟨p, e, m, args, below, meth, c, S0, T, locs, F, X, eT, N, r, ex⟩ := k
  have hlk : meth.locks = false := F.2.2.2.2.2.2.2
  obtain ⟨fs, hr, hrun, hended, hW, hsame⟩ := X.leave (v := none) (fun _ => rfl)
  refine ex ⟨_, _, r _ (X.returnOut F.1 F.2.2.2.2.2.2.1 (hb F.2.1 hd) hr), hrun, hended, _, locs, rfl, ⟨N, ?_⟩, ⟨_, rfl⟩, hW, hsame.mono hc hs⟩
  show P none T.heap
  rw [eT]; exact hP
theorem Wk.outI {z : Int32} (k : Wk l Z R y bytes maxL (some .int) n0 (Ex s R n0 P G) s h cells slots pc Ls (.int z :: st)) (hd : decode bytes pc = .ok (.ireturn, 1)) (hc : cells ≤ R.cells) (hs : slots ≤ R.slots) (hP : P (some (.int z)) h) : G := k.out rfl (Or.inl ⟨rfl, Or.inl rfl, z, rfl⟩) hd hc hs hP
theorem Wk.outZ {z : Int32} (k : Wk l Z R y bytes maxL (some .boolean) n0 (Ex s R n0 P G) s h cells slots pc Ls (.int z :: st)) (hz : z = 0 ∨ z = 1) (hd : decode bytes pc = .ok (.ireturn, 1)) (hc : cells ≤ R.cells) (hs : slots ≤ R.slots) (hP : P (some (.int z)) h) : G := k.out (by rcases hz with rfl | rfl <;> rfl) (Or.inl ⟨rfl, Or.inr (Or.inl rfl), z, rfl⟩) hd hc hs hP
theorem Wk.outC {z : Int32} (k : Wk l Z R y bytes maxL (some .char) n0 (Ex s R n0 P G) s h cells slots pc Ls (.int z :: st)) (hz : z.toUInt32.toUInt16.toUInt32.toInt32 = z) (hd : decode bytes pc = .ok (.ireturn, 1)) (hc : cells ≤ R.cells) (hs : slots ≤ R.slots) (hP : P (some (.int z)) h) : G := k.out (congrArg Value.int hz) (Or.inl ⟨rfl, Or.inr (Or.inr (Or.inr (Or.inl rfl))), z, rfl⟩) hd hc hs hP
theorem Wk.outB {z : Int32} (k : Wk l Z R y bytes maxL (some .byte) n0 (Ex s R n0 P G) s h cells slots pc Ls (.int z :: st)) (hz : z.toInt8.toInt32 = z) (hd : decode bytes pc = .ok (.ireturn, 1)) (hc : cells ≤ R.cells) (hs : slots ≤ R.slots) (hP : P (some (.int z)) h) : G := k.out (congrArg Value.int hz) (Or.inl ⟨rfl, Or.inr (Or.inr (Or.inl rfl)), z, rfl⟩) hd hc hs hP
theorem Wk.outJ {z : Int64} (k : Wk l Z R y bytes maxL (some .long) n0 (Ex s R n0 P G) s h cells slots pc Ls (.long z :: st)) (hd : decode bytes pc = .ok (.lreturn, 1)) (hc : cells ≤ R.cells) (hs : slots ≤ R.slots) (hP : P (some (.long z)) h) : G := k.out rfl (Or.inr (Or.inl ⟨rfl, rfl, z, rfl⟩)) hd hc hs hP
theorem Wk.outA {w : Value} {t : FieldType} (k : Wk l Z R y bytes maxL (some t) n0 (Ex s R n0 P G) s h cells slots pc Ls (w :: st)) (ht : t.isReference = true) (hw : w.isRef = true) (hd : decode bytes pc = .ok (.areturn, 1)) (hc : cells ≤ R.cells) (hs : slots ≤ R.slots) (hP : P (some w) h) : G := k.out (by cases t <;> first | rfl | cases ht) (Or.inr (Or.inr (Or.inr (Or.inr ⟨rfl, ht, hw⟩)))) hd hc hs hP
end L
end Jvm.Wk
namespace Jvm.Wk
open Sem ClassFile Op Lib Jvm.Stand Jvm.Free Jvm.LawKit Jvm.RoadKit
section L2
variable {l : Launch} {Z : State} {R : Room} {y : MethodName} {bytes : ByteArray} {maxL : Nat} {ret : Option FieldType} {n0 : Nat} {Xt : Program → Env → List Frame → State → Prop} {s : State} {h h' : Heap} {cells slots pc : Nat} {Ls : Array Slot} {st : List Value} {a0 : Array Value} {a b : Addr} {ty : FieldType} {vs vd : List Value} {ws : List Addr}
theorem nat32 {n : Nat} (h : n < 2 ^ 31) : n.toInt32.toNatClampNeg = n := by
  show n.toInt32.toInt.toNat = n
  rw [len_toInt h]; exact Int.toNat_natCast n
theorem getD_at {i : Nat} {d : Value} (hi : i < vs.length) : vs.getD i d = vs[i] := by
  rw [List.getD_eq_getElem?_getD, List.getElem?_eq_getElem hi]; rfl
theorem AV.arv (A : AV Z h a .int vs) (hv : vs.all (fits .int) = true) : ∃ k, Arv Z h a k .int vs.length.toInt32 vs (.int 0) := by
  obtain ⟨hn, c, A, e⟩ := A
  have hs : c.slots.size = vs.length := by rw [e, List.size_toArray]
  refine ⟨c.cls, c, A, rfl, by rw [hs, nat32 hn], ?_, ?_, ?_⟩
  · rw [Int32.lt_iff_toInt_lt, len_toInt hn]
    show ¬ (vs.length : Int) < 0
    omega
  · intro i hi
    rw [hs] at hi
    rw [e, List.getElem?_toArray, List.getElem?_eq_getElem hi, getD_at hi]
  · intro i hi
    rw [hs] at hi
    rw [getD_at hi]; exact List.all_eq_true.mp hv _ (List.getElem_mem hi)
theorem AV.of_arv {k : ClassId} {z : Int32} {d : Value} (B : Arv Z h a k ty z vs d) (hl : vs.length = z.toNatClampNeg) (hn : vs.length < 2 ^ 31) : AV Z h a ty vs := by
  obtain ⟨c, A, -, S, -, H, -⟩ := B
  refine ⟨hn, c, A, ?_⟩
  apply Array.ext
  · rw [S, List.size_toArray, hl]
  · intro i h1 h2
    have q := H i h1
    rw [Array.getElem?_eq_getElem h1] at q
    have hi : i < vs.length := by rw [hl, ← S]; exact h1
    rw [Option.some.inj q, getD_at hi]; rfl
theorem Wk.acopy {i : Nat} {nn : Int32} (k : Wk l Z R y bytes maxL ret n0 Xt s h cells slots pc Ls (.int nn :: .int (0 : Int32) :: .ref b :: .int (0 : Int32) :: .ref a :: st))
    (w1 : (Jvm.Cond.methodLink y.cls i Jvm.Stand.acN).before a0 Z = true) (w2 : (Jvm.Cond.native Jvm.Stand.acN).before a0 Z = true) (w3 : (Jvm.Cond.static Jvm.Stand.acN).before a0 Z = true) (w4 : (Jvm.Cond.initialized "java/lang/System").before a0 Z = true)
    (A : AV Z h a .int vs) (B : AV Z h b .int vd) (fa : vs.all (fits .int) = true) (fb : vd.all (fits .int) = true) (hn : nn = vs.length.toInt32) (hle : vs.length ≤ vd.length) (hg : n0 ≤ b) (hd : decode bytes pc = .ok (.invokestatic i, 3)) (hL : Ls.size = maxL)
    (hf : 1 ≤ R.frames) (W0 : Nat) (hW : (st.map fun v => v.category).sum ≤ W0) (hl : W0 + 18 ≤ R.locals) :
    ∃ h', Keep h h' [b] ∧ AV Z h' b .int (vs ++ vd.drop vs.length) ∧ Wk l Z R y bytes maxL ret n0 Xt s h' cells slots (pc + 3) Ls st := by
  obtain ⟨p, e, m, args, below, meth, c, S0, T, locs, F, X, eT, N, r, ex⟩ := k
  obtain ⟨ka, A'⟩ := A.arv fa
  obtain ⟨kb, B'⟩ := B.arv fb
  have la := A.1
  have lb := B.1
  subst hn
  have z0 : (0 : Int32).toNatClampNeg = 0 := rfl
  have na := nat32 la
  have nb := nat32 lb
  obtain ⟨T', h', L, X', e', N', K, B2, q⟩ := cpA X F.1 F.2.2.2.1 F.2.2.2.2.1 w1 w2 w3 w4 eT (us := vs) A' B' (Or.inl ⟨rfl, rfl⟩) (by decide) (by decide) (by rw [Int32.lt_iff_toInt_lt, len_toInt la]; show ¬ (vs.length : Int) < 0; omega)
    (by rw [z0, na]; omega) (by rw [z0, na, nb]; omega) (by
      rw [na, z0]
      apply List.ext_getElem
      · simp
      · intro j h1 h2
        simp only [List.getElem_map, List.getElem_range, Nat.zero_add]
        rw [getD_at h1]) (by rw [z0, na]; omega) N hg (g := mkF m pc Ls (.int vs.length.toInt32 :: .int (0 : Int32) :: .ref b :: .int (0 : Int32) :: .ref a :: st)) rfl (by rw [F.2.2.1]; exact hL) rfl (hb F.2.1 hd) hf (W := W0) (by show 2 * 0 + _ ≤ _; omega) (by have : nativeFrameWords "java/lang/System" "arraycopy" 5 = 7 := rfl; omega)
  refine ⟨h', K, ?_, mk F X' e' N' (fun t u => r t (q t u)) ex⟩
  rw [z0, na] at B2
  have B3 : Arv Z h' b kb .int vd.length.toInt32 (vs ++ vd.drop vs.length) (.int 0) := by simpa using B2
  exact AV.of_arv B3 (by rw [nb, List.length_append, List.length_drop]; omega) (by rw [List.length_append, List.length_drop]; omega)
end L2
end Jvm.Wk
namespace Jvm.Pilot.@@N@@
open Jvm Jvm.ClassFile Sem Op Lib Jvm.Free Jvm.Stand Jvm.LawKit Jvm.RoadKit Bundle Jvm.Wk Jvm.Pilot.@@N@@.Jvm.D
theorem own_cn (s : Int32) : (1 : Int32) + ((s &&& (255 : Int32)) % (7 : Int32)) = 1 ∨ (1 : Int32) + ((s &&& (255 : Int32)) % (7 : Int32)) = 2 ∨ (1 : Int32) + ((s &&& (255 : Int32)) % (7 : Int32)) = 3 ∨ (1 : Int32) + ((s &&& (255 : Int32)) % (7 : Int32)) = 4 ∨ (1 : Int32) + ((s &&& (255 : Int32)) % (7 : Int32)) = 5 ∨ (1 : Int32) + ((s &&& (255 : Int32)) % (7 : Int32)) = 6 ∨ (1 : Int32) + ((s &&& (255 : Int32)) % (7 : Int32)) = 7 := by
  have e1 : (s &&& (255 : Int32)).toInt = s.toInt % 2 ^ 8 := Jvm.Kit.i32_mask s 255 (k := 8) (by decide) (by decide)
  have e2 : ((s &&& (255 : Int32)) % (7 : Int32)).toInt = (s &&& (255 : Int32)).toInt % (7 : Int32).toInt := Jvm.Kit.i32_rem_nonneg (by omega)
  have e3 : (7 : Int32).toInt = 7 := rfl
  rw [e3] at e2
  generalize (s &&& (255 : Int32)) % (7 : Int32) = z at *
  rcases (show z.toInt = 0 ∨ z.toInt = 1 ∨ z.toInt = 2 ∨ z.toInt = 3 ∨ z.toInt = 4 ∨ z.toInt = 5 ∨ z.toInt = 6 by omega) with q | q | q | q | q | q | q
  · have q : z = (0 : Int32) := Int32.toInt_inj.mp (q.trans rfl)
    subst q; decide
  · have q : z = (1 : Int32) := Int32.toInt_inj.mp (q.trans rfl)
    subst q; decide
  · have q : z = (2 : Int32) := Int32.toInt_inj.mp (q.trans rfl)
    subst q; decide
  · have q : z = (3 : Int32) := Int32.toInt_inj.mp (q.trans rfl)
    subst q; decide
  · have q : z = (4 : Int32) := Int32.toInt_inj.mp (q.trans rfl)
    subst q; decide
  · have q : z = (5 : Int32) := Int32.toInt_inj.mp (q.trans rfl)
    subst q; decide
  · have q : z = (6 : Int32) := Int32.toInt_inj.mp (q.trans rfl)
    subst q; decide
theorem own_ix1 (s : Int32) : ((XT.ushr s (8 : Int32)) &&& (255 : Int32)) % (1 : Int32) = 0 := by
  have e1 : ((XT.ushr s (8 : Int32)) &&& (255 : Int32)).toInt = (XT.ushr s (8 : Int32)).toInt % 2 ^ 8 := Jvm.Kit.i32_mask _ 255 (k := 8) (by decide) (by decide)
  have e2 : (((XT.ushr s (8 : Int32)) &&& (255 : Int32)) % (1 : Int32)).toInt = ((XT.ushr s (8 : Int32)) &&& (255 : Int32)).toInt % (1 : Int32).toInt := Jvm.Kit.i32_rem_nonneg (by omega)
  have e3 : (1 : Int32).toInt = 1 := rfl
  rw [e3] at e2
  exact Int32.toInt_inj.mp ((show _ = (0 : Int) by omega).trans rfl)
theorem own_ix2 (s : Int32) : ((XT.ushr s (8 : Int32)) &&& (255 : Int32)) % (2 : Int32) = 0 ∨ ((XT.ushr s (8 : Int32)) &&& (255 : Int32)) % (2 : Int32) = 1 := by
  have e1 : ((XT.ushr s (8 : Int32)) &&& (255 : Int32)).toInt = (XT.ushr s (8 : Int32)).toInt % 2 ^ 8 := Jvm.Kit.i32_mask _ 255 (k := 8) (by decide) (by decide)
  have e2 : (((XT.ushr s (8 : Int32)) &&& (255 : Int32)) % (2 : Int32)).toInt = ((XT.ushr s (8 : Int32)) &&& (255 : Int32)).toInt % (2 : Int32).toInt := Jvm.Kit.i32_rem_nonneg (by omega)
  have e3 : (2 : Int32).toInt = 2 := rfl
  rw [e3] at e2
  generalize ((XT.ushr s (8 : Int32)) &&& (255 : Int32)) % (2 : Int32) = z at *
  rcases (show z.toInt = 0 ∨ z.toInt = 1 by omega) with q | q
  · exact Or.inl (Int32.toInt_inj.mp (q.trans rfl))
  · exact Or.inr ((Int32.toInt_inj.mp (q.trans rfl)))
theorem own_ix3 (s : Int32) : ((XT.ushr s (8 : Int32)) &&& (255 : Int32)) % (3 : Int32) = 0 ∨ ((XT.ushr s (8 : Int32)) &&& (255 : Int32)) % (3 : Int32) = 1 ∨ ((XT.ushr s (8 : Int32)) &&& (255 : Int32)) % (3 : Int32) = 2 := by
  have e1 : ((XT.ushr s (8 : Int32)) &&& (255 : Int32)).toInt = (XT.ushr s (8 : Int32)).toInt % 2 ^ 8 := Jvm.Kit.i32_mask _ 255 (k := 8) (by decide) (by decide)
  have e2 : (((XT.ushr s (8 : Int32)) &&& (255 : Int32)) % (3 : Int32)).toInt = ((XT.ushr s (8 : Int32)) &&& (255 : Int32)).toInt % (3 : Int32).toInt := Jvm.Kit.i32_rem_nonneg (by omega)
  have e3 : (3 : Int32).toInt = 3 := rfl
  rw [e3] at e2
  generalize ((XT.ushr s (8 : Int32)) &&& (255 : Int32)) % (3 : Int32) = z at *
  rcases (show z.toInt = 0 ∨ z.toInt = 1 ∨ z.toInt = 2 by omega) with q | q | q
  · exact Or.inl (Int32.toInt_inj.mp (q.trans rfl))
  · exact Or.inr (Or.inl (Int32.toInt_inj.mp (q.trans rfl)))
  · exact Or.inr (Or.inr ((Int32.toInt_inj.mp (q.trans rfl))))
theorem own_ix4 (s : Int32) : ((XT.ushr s (8 : Int32)) &&& (255 : Int32)) % (4 : Int32) = 0 ∨ ((XT.ushr s (8 : Int32)) &&& (255 : Int32)) % (4 : Int32) = 1 ∨ ((XT.ushr s (8 : Int32)) &&& (255 : Int32)) % (4 : Int32) = 2 ∨ ((XT.ushr s (8 : Int32)) &&& (255 : Int32)) % (4 : Int32) = 3 := by
  have e1 : ((XT.ushr s (8 : Int32)) &&& (255 : Int32)).toInt = (XT.ushr s (8 : Int32)).toInt % 2 ^ 8 := Jvm.Kit.i32_mask _ 255 (k := 8) (by decide) (by decide)
  have e2 : (((XT.ushr s (8 : Int32)) &&& (255 : Int32)) % (4 : Int32)).toInt = ((XT.ushr s (8 : Int32)) &&& (255 : Int32)).toInt % (4 : Int32).toInt := Jvm.Kit.i32_rem_nonneg (by omega)
  have e3 : (4 : Int32).toInt = 4 := rfl
  rw [e3] at e2
  generalize ((XT.ushr s (8 : Int32)) &&& (255 : Int32)) % (4 : Int32) = z at *
  rcases (show z.toInt = 0 ∨ z.toInt = 1 ∨ z.toInt = 2 ∨ z.toInt = 3 by omega) with q | q | q | q
  · exact Or.inl (Int32.toInt_inj.mp (q.trans rfl))
  · exact Or.inr (Or.inl (Int32.toInt_inj.mp (q.trans rfl)))
  · exact Or.inr (Or.inr (Or.inl (Int32.toInt_inj.mp (q.trans rfl))))
  · exact Or.inr (Or.inr (Or.inr ((Int32.toInt_inj.mp (q.trans rfl)))))
theorem own_ix5 (s : Int32) : ((XT.ushr s (8 : Int32)) &&& (255 : Int32)) % (5 : Int32) = 0 ∨ ((XT.ushr s (8 : Int32)) &&& (255 : Int32)) % (5 : Int32) = 1 ∨ ((XT.ushr s (8 : Int32)) &&& (255 : Int32)) % (5 : Int32) = 2 ∨ ((XT.ushr s (8 : Int32)) &&& (255 : Int32)) % (5 : Int32) = 3 ∨ ((XT.ushr s (8 : Int32)) &&& (255 : Int32)) % (5 : Int32) = 4 := by
  have e1 : ((XT.ushr s (8 : Int32)) &&& (255 : Int32)).toInt = (XT.ushr s (8 : Int32)).toInt % 2 ^ 8 := Jvm.Kit.i32_mask _ 255 (k := 8) (by decide) (by decide)
  have e2 : (((XT.ushr s (8 : Int32)) &&& (255 : Int32)) % (5 : Int32)).toInt = ((XT.ushr s (8 : Int32)) &&& (255 : Int32)).toInt % (5 : Int32).toInt := Jvm.Kit.i32_rem_nonneg (by omega)
  have e3 : (5 : Int32).toInt = 5 := rfl
  rw [e3] at e2
  generalize ((XT.ushr s (8 : Int32)) &&& (255 : Int32)) % (5 : Int32) = z at *
  rcases (show z.toInt = 0 ∨ z.toInt = 1 ∨ z.toInt = 2 ∨ z.toInt = 3 ∨ z.toInt = 4 by omega) with q | q | q | q | q
  · exact Or.inl (Int32.toInt_inj.mp (q.trans rfl))
  · exact Or.inr (Or.inl (Int32.toInt_inj.mp (q.trans rfl)))
  · exact Or.inr (Or.inr (Or.inl (Int32.toInt_inj.mp (q.trans rfl))))
  · exact Or.inr (Or.inr (Or.inr (Or.inl (Int32.toInt_inj.mp (q.trans rfl)))))
  · exact Or.inr (Or.inr (Or.inr (Or.inr ((Int32.toInt_inj.mp (q.trans rfl))))))
theorem own_ix6 (s : Int32) : ((XT.ushr s (8 : Int32)) &&& (255 : Int32)) % (6 : Int32) = 0 ∨ ((XT.ushr s (8 : Int32)) &&& (255 : Int32)) % (6 : Int32) = 1 ∨ ((XT.ushr s (8 : Int32)) &&& (255 : Int32)) % (6 : Int32) = 2 ∨ ((XT.ushr s (8 : Int32)) &&& (255 : Int32)) % (6 : Int32) = 3 ∨ ((XT.ushr s (8 : Int32)) &&& (255 : Int32)) % (6 : Int32) = 4 ∨ ((XT.ushr s (8 : Int32)) &&& (255 : Int32)) % (6 : Int32) = 5 := by
  have e1 : ((XT.ushr s (8 : Int32)) &&& (255 : Int32)).toInt = (XT.ushr s (8 : Int32)).toInt % 2 ^ 8 := Jvm.Kit.i32_mask _ 255 (k := 8) (by decide) (by decide)
  have e2 : (((XT.ushr s (8 : Int32)) &&& (255 : Int32)) % (6 : Int32)).toInt = ((XT.ushr s (8 : Int32)) &&& (255 : Int32)).toInt % (6 : Int32).toInt := Jvm.Kit.i32_rem_nonneg (by omega)
  have e3 : (6 : Int32).toInt = 6 := rfl
  rw [e3] at e2
  generalize ((XT.ushr s (8 : Int32)) &&& (255 : Int32)) % (6 : Int32) = z at *
  rcases (show z.toInt = 0 ∨ z.toInt = 1 ∨ z.toInt = 2 ∨ z.toInt = 3 ∨ z.toInt = 4 ∨ z.toInt = 5 by omega) with q | q | q | q | q | q
  · exact Or.inl (Int32.toInt_inj.mp (q.trans rfl))
  · exact Or.inr (Or.inl (Int32.toInt_inj.mp (q.trans rfl)))
  · exact Or.inr (Or.inr (Or.inl (Int32.toInt_inj.mp (q.trans rfl))))
  · exact Or.inr (Or.inr (Or.inr (Or.inl (Int32.toInt_inj.mp (q.trans rfl)))))
  · exact Or.inr (Or.inr (Or.inr (Or.inr (Or.inl (Int32.toInt_inj.mp (q.trans rfl))))))
  · exact Or.inr (Or.inr (Or.inr (Or.inr (Or.inr ((Int32.toInt_inj.mp (q.trans rfl)))))))
theorem own_ix7 (s : Int32) : ((XT.ushr s (8 : Int32)) &&& (255 : Int32)) % (7 : Int32) = 0 ∨ ((XT.ushr s (8 : Int32)) &&& (255 : Int32)) % (7 : Int32) = 1 ∨ ((XT.ushr s (8 : Int32)) &&& (255 : Int32)) % (7 : Int32) = 2 ∨ ((XT.ushr s (8 : Int32)) &&& (255 : Int32)) % (7 : Int32) = 3 ∨ ((XT.ushr s (8 : Int32)) &&& (255 : Int32)) % (7 : Int32) = 4 ∨ ((XT.ushr s (8 : Int32)) &&& (255 : Int32)) % (7 : Int32) = 5 ∨ ((XT.ushr s (8 : Int32)) &&& (255 : Int32)) % (7 : Int32) = 6 := by
  have e1 : ((XT.ushr s (8 : Int32)) &&& (255 : Int32)).toInt = (XT.ushr s (8 : Int32)).toInt % 2 ^ 8 := Jvm.Kit.i32_mask _ 255 (k := 8) (by decide) (by decide)
  have e2 : (((XT.ushr s (8 : Int32)) &&& (255 : Int32)) % (7 : Int32)).toInt = ((XT.ushr s (8 : Int32)) &&& (255 : Int32)).toInt % (7 : Int32).toInt := Jvm.Kit.i32_rem_nonneg (by omega)
  have e3 : (7 : Int32).toInt = 7 := rfl
  rw [e3] at e2
  generalize ((XT.ushr s (8 : Int32)) &&& (255 : Int32)) % (7 : Int32) = z at *
  rcases (show z.toInt = 0 ∨ z.toInt = 1 ∨ z.toInt = 2 ∨ z.toInt = 3 ∨ z.toInt = 4 ∨ z.toInt = 5 ∨ z.toInt = 6 by omega) with q | q | q | q | q | q | q
  · exact Or.inl (Int32.toInt_inj.mp (q.trans rfl))
  · exact Or.inr (Or.inl (Int32.toInt_inj.mp (q.trans rfl)))
  · exact Or.inr (Or.inr (Or.inl (Int32.toInt_inj.mp (q.trans rfl))))
  · exact Or.inr (Or.inr (Or.inr (Or.inl (Int32.toInt_inj.mp (q.trans rfl)))))
  · exact Or.inr (Or.inr (Or.inr (Or.inr (Or.inl (Int32.toInt_inj.mp (q.trans rfl))))))
  · exact Or.inr (Or.inr (Or.inr (Or.inr (Or.inr (Or.inl (Int32.toInt_inj.mp (q.trans rfl)))))))
  · exact Or.inr (Or.inr (Or.inr (Or.inr (Or.inr (Or.inr ((Int32.toInt_inj.mp (q.trans rfl))))))))
theorem d1_0 : decode prog_117_method_1_code 0 = .ok (.aload_n 0, 1) := by decide +kernel
theorem d1_1 : decode prog_117_method_1_code 1 = .ok (.invokespecial 1, 3) := by decide +kernel
theorem d1_4 : decode prog_117_method_1_code 4 = .ok (.return_, 1) := by decide +kernel
theorem pn1 : plainFor (⟨"com/example/sayso/sayso/Positions", "<init>", "()V"⟩ : MethodName) = true := plainFor_of_name (show plainName "com/example/sayso/sayso/Positions" = true by first | (simp [plainName, overriddenIn]; done) | decide +kernel)
theorem pd1 : parseMethodDescriptor "()V" = some ⟨[], none⟩ := by decide +kernel
abbrev W1 (l : Launch) (Z : State) (n0 : Nat) (P : Option Value → Heap → Prop) (G : Prop) (s : State) := Wk l Z ({ frames := 1, cells := 0, slots := 0, locals := 12 } : Room) (⟨"com/example/sayso/sayso/Positions", "<init>", "()V"⟩ : MethodName) prog_117_method_1_code 1 none n0 (Ex s ({ frames := 1, cells := 0, slots := 0, locals := 12 } : Room) n0 P G) s
abbrev Q1 (h0 : Heap) : Option Value → Heap → Prop := fun v h => h0 = h ∧ v = none
set_option maxRecDepth 65536 in
set_option maxHeartbeats 40000000 in
theorem con1 (l : Launch) (Z : State) (a0 : Array Value) (hw : ∀ d ∈ tables_1, d.before a0 Z = true) (a : Nat) (h0 : Heap) (n0 : Nat) : Con l Z (⟨"com/example/sayso/sayso/Positions", "<init>", "()V"⟩ : MethodName) prog_117_method_1_code 1 none ({ frames := 1, cells := 0, slots := 0, locals := 12 } : Room) #[.ref a] h0 n0 (Q1 h0) := by
  refine Con.of pn1 (Ls := #[.val (.ref a)]) (fun m => by first | (simp [entryFrame, mkF, argsToLocals, Value.category]; done) | rfl) ?_
  intro G s k
  have k : W1 l Z n0 (Q1 h0) G s h0 0 0 1 #[.val (.ref a)] [(.ref a)] := k.aloadN d1_0 rfl rfl
  have k : W1 l Z n0 (Q1 h0) G s h0 0 0 4 #[.val (.ref a)] [] := k.initO (hw _ (List.mem_of_getElem? (i := 7) rfl)) (hw _ (List.mem_of_getElem? (i := 8) rfl)) (hw _ (List.mem_of_getElem? (i := 9) rfl)) d1_1 rfl (by decide) 0 (Nat.le_of_eq rfl) (by decide)
  exact k.outN d1_4 (by decide) (by decide) ⟨rfl, rfl⟩
theorem d2_0 : decode jdk_29_method_69_code 0 = .ok (.iload_n 0, 1) := by decide +kernel
theorem d2_1 : decode jdk_29_method_69_code 1 = .ok (.iload_n 1, 1) := by decide +kernel
theorem d2_2 : decode jdk_29_method_69_code 2 = .ok (.if_icmp .gt 7, 3) := by decide +kernel
theorem d2_5 : decode jdk_29_method_69_code 5 = .ok (.iload_n 0, 1) := by decide +kernel
theorem d2_6 : decode jdk_29_method_69_code 6 = .ok (.goto 4, 3) := by decide +kernel
theorem d2_10 : decode jdk_29_method_69_code 10 = .ok (.ireturn, 1) := by decide +kernel
theorem pn2 : plainFor (⟨"java/lang/Math", "min", "(II)I"⟩ : MethodName) = true := by decide +kernel
theorem pd2 : parseMethodDescriptor "(II)I" = some ⟨[.int, .int], some .int⟩ := by decide +kernel
abbrev W2 (l : Launch) (Z : State) (n0 : Nat) (P : Option Value → Heap → Prop) (G : Prop) (s : State) := Wk l Z ({ frames := 0, cells := 0, slots := 0, locals := 0 } : Room) (⟨"java/lang/Math", "min", "(II)I"⟩ : MethodName) jdk_29_method_69_code 2 (some .int) n0 (Ex s ({ frames := 0, cells := 0, slots := 0, locals := 0 } : Room) n0 P G) s
abbrev Q2 (x0 : Int32) (h0 : Heap) : Option Value → Heap → Prop := fun v h => h0 = h ∧ v = some (.int x0)
set_option maxRecDepth 65536 in
set_option maxHeartbeats 40000000 in
theorem con2 (l : Launch) (Z : State) (a0 : Array Value) (hw : ∀ d ∈ tables_1, d.before a0 Z = true) (x0 y0 : Int32) (h0 : Heap) (n0 : Nat) (hxy : ¬ y0 < x0) : Con l Z (⟨"java/lang/Math", "min", "(II)I"⟩ : MethodName) jdk_29_method_69_code 2 (some .int) ({ frames := 0, cells := 0, slots := 0, locals := 0 } : Room) #[.int x0, .int y0] h0 n0 (Q2 x0 h0) := by
  refine Con.of pn2 (Ls := #[.val (.int x0), .val (.int y0)]) (fun m => by first | (simp [entryFrame, mkF, argsToLocals, Value.category]; done) | rfl) ?_
  intro G s k
  have k : W2 l Z n0 (Q2 x0 h0) G s h0 0 0 2 #[.val (.int x0), .val (.int y0)] [(.int y0), (.int x0)] := (k.iloadN d2_0 rfl).iloadN d2_1 rfl
  have k : W2 l Z n0 (Q2 x0 h0) G s h0 0 0 5 #[.val (.int x0), .val (.int y0)] [] := k.icF d2_2 (XT.ii_gt_f hxy)
  have k : W2 l Z n0 (Q2 x0 h0) G s h0 0 0 10 #[.val (.int x0), .val (.int y0)] [(.int x0)] := (k.iloadN d2_5 rfl).goto (pc' := 10) d2_6 (by decide)
  exact k.outI d2_10 (by decide) (by decide) ⟨rfl, rfl⟩
theorem d3_0 : decode jdk_65_method_123_code 0 = .ok (.iload_n 1, 1) := by decide +kernel
theorem d3_1 : decode jdk_65_method_123_code 1 = .ok (.aload_n 0, 1) := by decide +kernel
theorem d3_2 : decode jdk_65_method_123_code 2 = .ok (.arraylength, 1) := by decide +kernel
theorem d3_3 : decode jdk_65_method_123_code 3 = .ok (.if_icmp .ne 11, 3) := by decide +kernel
theorem d3_14 : decode jdk_65_method_123_code 14 = .ok (.iload_n 1, 1) := by decide +kernel
theorem d3_15 : decode jdk_65_method_123_code 15 = .ok (.newarray .int, 2) := by decide +kernel
theorem d3_17 : decode jdk_65_method_123_code 17 = .ok (.astore_n 2, 1) := by decide +kernel
theorem d3_18 : decode jdk_65_method_123_code 18 = .ok (.aload_n 0, 1) := by decide +kernel
theorem d3_19 : decode jdk_65_method_123_code 19 = .ok (.iconst 0, 1) := by decide +kernel
theorem d3_20 : decode jdk_65_method_123_code 20 = .ok (.aload_n 2, 1) := by decide +kernel
theorem d3_21 : decode jdk_65_method_123_code 21 = .ok (.iconst 0, 1) := by decide +kernel
theorem d3_22 : decode jdk_65_method_123_code 22 = .ok (.aload_n 0, 1) := by decide +kernel
theorem d3_23 : decode jdk_65_method_123_code 23 = .ok (.arraylength, 1) := by decide +kernel
theorem d3_24 : decode jdk_65_method_123_code 24 = .ok (.iload_n 1, 1) := by decide +kernel
theorem d3_25 : decode jdk_65_method_123_code 25 = .ok (.invokestatic 304, 3) := by decide +kernel
theorem d3_28 : decode jdk_65_method_123_code 28 = .ok (.invokestatic 150, 3) := by decide +kernel
theorem d3_31 : decode jdk_65_method_123_code 31 = .ok (.aload_n 2, 1) := by decide +kernel
theorem d3_32 : decode jdk_65_method_123_code 32 = .ok (.areturn, 1) := by decide +kernel
theorem pn3 : plainFor (⟨"java/util/Arrays", "copyOf", "([II)[I"⟩ : MethodName) = true := plainFor_of_name (show plainName "java/util/Arrays" = true by first | (simp [plainName, overriddenIn]; done) | decide +kernel)
theorem pd3 : parseMethodDescriptor "([II)[I" = some ⟨[(.array .int), .int], some (.array .int)⟩ := by decide +kernel
abbrev W32 (l : Launch) (Z : State) (n0 : Nat) (P : Option Value → Heap → Prop) (G : Prop) (s : State) := Wk l Z ({ frames := 1, cells := 1, slots := 4, locals := 24 } : Room) (⟨"java/util/Arrays", "copyOf", "([II)[I"⟩ : MethodName) jdk_65_method_123_code 3 (some (.array .int)) n0 (Ex s ({ frames := 1, cells := 1, slots := 4, locals := 24 } : Room) n0 P G) s
abbrev Q32 (Z : State) (x0 x1 : Int32) (h0 : Heap) : Option Value → Heap → Prop := fun v h => ∃ m : Nat, v = some (.ref m) ∧ h0.size ≤ m ∧ Keep h0 h [] ∧ AV Z h m .int [(.int x0), (.int x1), (.int (0 : Int32)), (.int (0 : Int32))]
set_option maxRecDepth 65536 in
set_option maxHeartbeats 40000000 in
theorem con32 (l : Launch) (Z : State) (a0 : Array Value) (hw : ∀ d ∈ tables_1, d.before a0 Z = true) (a : Nat) (x0 x1 : Int32) (h0 : Heap) (n0 : Nat) (s_h0 : n0 ≤ h0.size) (A : AV Z h0 a .int [(.int x0), (.int x1)]) : Con l Z (⟨"java/util/Arrays", "copyOf", "([II)[I"⟩ : MethodName) jdk_65_method_123_code 3 (some (.array .int)) ({ frames := 1, cells := 1, slots := 4, locals := 24 } : Room) #[.ref a, .int (4 : Int32)] h0 n0 (Q32 Z x0 x1 h0) := by
  refine Con.of pn3 (Ls := #[.val (.ref a), .val (.int (4 : Int32)), .unset]) (fun m => by first | (simp [entryFrame, mkF, argsToLocals, Value.category]; done) | rfl) ?_
  intro G s k
  have KK : Keep h0 h0 [] := Keep.refl _ _
  have sk := KK.1
  have k : W32 l Z n0 (Q32 Z x0 x1 h0) G s h0 0 0 14 #[.val (.ref a), .val (.int (4 : Int32)), .unset] [] := (((k.iloadN d3_0 rfl).aloadN d3_1 rfl rfl).len (n := 2) A rfl d3_2).icT (pc' := 14) d3_3 (XT.ii_ne_t (by decide)) (by decide)
  have k : W32 l Z n0 (Q32 Z x0 x1 h0) G s h0 0 0 15 #[.val (.ref a), .val (.int (4 : Int32)), .unset] [(.int (4 : Int32))] := k.iloadN d3_14 rfl
  obtain ⟨h1, K1, A1, k⟩ := k.newA (hw _ (List.mem_of_getElem? (i := 0) rfl)) d3_15 4 rfl (by decide) (by decide) (by decide) (by decide)
  obtain ⟨a1, ea1⟩ : ∃ z, z = h0.size := ⟨_, rfl⟩
  rw [← ea1] at A1 k
  have n_a1 : n0 ≤ a1 := by omega
  have o_a_a1 : a < a1 := by have q : a < h0.size := A.lt; omega
  have KK : Keep h0 _ [] := KK.trans K1 all0
  have sk := KK.1
  have A := A.keep K1 nin0
  have A1 : AV Z h1 a1 .int [(.int (0 : Int32)), (.int (0 : Int32)), (.int (0 : Int32)), (.int (0 : Int32))] := A1
  have s_h1 : n0 ≤ h1.size := Nat.le_trans (by omega) K1.1
  have k : W32 l Z n0 (Q32 Z x0 x1 h0) G s h1 1 4 17 #[.val (.ref a), .val (.int (4 : Int32)), .unset] [(.ref a1)] := k
  have k : W32 l Z n0 (Q32 Z x0 x1 h0) G s h1 1 4 23 #[.val (.ref a), .val (.int (4 : Int32)), .val (.ref a1)] [(.ref a), (.int (0 : Int32)), (.ref a1), (.int (0 : Int32)), (.ref a)] := (((((k.astoreN d3_17 rfl (Ls' := #[.val (.ref a), .val (.int (4 : Int32)), .val (.ref a1)]) rfl).aloadN d3_18 rfl rfl).iconst (0) d3_19 rfl).aloadN d3_20 rfl rfl).iconst (0) d3_21 rfl).aloadN d3_22 rfl rfl
  have k : W32 l Z n0 (Q32 Z x0 x1 h0) G s h1 1 4 25 #[.val (.ref a), .val (.int (4 : Int32)), .val (.ref a1)] [(.int (4 : Int32)), (.int (2 : Int32)), (.int (0 : Int32)), (.ref a1), (.int (0 : Int32)), (.ref a)] := (k.len (n := 2) A rfl d3_23).iloadN d3_24 rfl
  obtain ⟨v2, h2, ⟨rfl, rfl⟩, k⟩ := k.callS (hw _ (List.mem_of_getElem? (i := 25) rfl)) (hw _ (List.mem_of_getElem? (i := 26) rfl)) (hw _ (List.mem_of_getElem? (i := 27) rfl)) (hw _ (List.mem_of_getElem? (i := 28) rfl)) (by decide) (con2 l Z a0 hw (2 : Int32) (4 : Int32) h1 n0 (by decide)) (argsL := [(.int (2 : Int32)), (.int (4 : Int32))]) (rest := [(.int (0 : Int32)), (.ref a1), (.int (0 : Int32)), (.ref a)]) (lenOf pd2 rfl) d3_25 rfl rfl 4 (Nat.le_of_eq rfl) (by decide) (by decide) (by decide) (by decide)
  have k : W32 l Z n0 (Q32 Z x0 x1 h0) G s h1 1 4 28 #[.val (.ref a), .val (.int (4 : Int32)), .val (.ref a1)] [(.int (2 : Int32)), (.int (0 : Int32)), (.ref a1), (.int (0 : Int32)), (.ref a)] := k
  obtain ⟨h3, K3, B3, k⟩ := k.acopy (hw _ (List.mem_of_getElem? (i := 29) rfl)) (hw _ (List.mem_of_getElem? (i := 32) rfl)) (hw _ (List.mem_of_getElem? (i := 30) rfl)) (hw _ (List.mem_of_getElem? (i := 31) rfl)) A A1 rfl rfl rfl (by simp) n_a1 d3_28 rfl (by decide) 0 (Nat.le_of_eq rfl) (by decide)
  have KK : Keep h0 _ [] := KK.trans K3 (allS (Or.inr (by omega)) all0)
  have sk := KK.1
  have A := A.keep K3 (nS (by omega) nin0)
  have B3 : AV Z h3 a1 .int [(.int x0), (.int x1), (.int (0 : Int32)), (.int (0 : Int32))] := B3
  have k : W32 l Z n0 (Q32 Z x0 x1 h0) G s h3 1 4 31 #[.val (.ref a), .val (.int (4 : Int32)), .val (.ref a1)] [] := k
  have k : W32 l Z n0 (Q32 Z x0 x1 h0) G s h3 1 4 32 #[.val (.ref a), .val (.int (4 : Int32)), .val (.ref a1)] [(.ref a1)] := k.aloadN d3_31 rfl rfl
  exact k.outA rfl rfl d3_32 (by decide) (by decide) ⟨a1, rfl, by omega, KK, B3⟩
abbrev W34 (l : Launch) (Z : State) (n0 : Nat) (P : Option Value → Heap → Prop) (G : Prop) (s : State) := Wk l Z ({ frames := 1, cells := 1, slots := 8, locals := 24 } : Room) (⟨"java/util/Arrays", "copyOf", "([II)[I"⟩ : MethodName) jdk_65_method_123_code 3 (some (.array .int)) n0 (Ex s ({ frames := 1, cells := 1, slots := 8, locals := 24 } : Room) n0 P G) s
abbrev Q34 (Z : State) (x0 x1 x2 x3 : Int32) (h0 : Heap) : Option Value → Heap → Prop := fun v h => ∃ m : Nat, v = some (.ref m) ∧ h0.size ≤ m ∧ Keep h0 h [] ∧ AV Z h m .int [(.int x0), (.int x1), (.int x2), (.int x3), (.int (0 : Int32)), (.int (0 : Int32)), (.int (0 : Int32)), (.int (0 : Int32))]
set_option maxRecDepth 65536 in
set_option maxHeartbeats 40000000 in
theorem con34 (l : Launch) (Z : State) (a0 : Array Value) (hw : ∀ d ∈ tables_1, d.before a0 Z = true) (a : Nat) (x0 x1 x2 x3 : Int32) (h0 : Heap) (n0 : Nat) (s_h0 : n0 ≤ h0.size) (A : AV Z h0 a .int [(.int x0), (.int x1), (.int x2), (.int x3)]) : Con l Z (⟨"java/util/Arrays", "copyOf", "([II)[I"⟩ : MethodName) jdk_65_method_123_code 3 (some (.array .int)) ({ frames := 1, cells := 1, slots := 8, locals := 24 } : Room) #[.ref a, .int (8 : Int32)] h0 n0 (Q34 Z x0 x1 x2 x3 h0) := by
  refine Con.of pn3 (Ls := #[.val (.ref a), .val (.int (8 : Int32)), .unset]) (fun m => by first | (simp [entryFrame, mkF, argsToLocals, Value.category]; done) | rfl) ?_
  intro G s k
  have KK : Keep h0 h0 [] := Keep.refl _ _
  have sk := KK.1
  have k : W34 l Z n0 (Q34 Z x0 x1 x2 x3 h0) G s h0 0 0 14 #[.val (.ref a), .val (.int (8 : Int32)), .unset] [] := (((k.iloadN d3_0 rfl).aloadN d3_1 rfl rfl).len (n := 4) A rfl d3_2).icT (pc' := 14) d3_3 (XT.ii_ne_t (by decide)) (by decide)
  have k : W34 l Z n0 (Q34 Z x0 x1 x2 x3 h0) G s h0 0 0 15 #[.val (.ref a), .val (.int (8 : Int32)), .unset] [(.int (8 : Int32))] := k.iloadN d3_14 rfl
  obtain ⟨h4, K4, A4, k⟩ := k.newA (hw _ (List.mem_of_getElem? (i := 0) rfl)) d3_15 8 rfl (by decide) (by decide) (by decide) (by decide)
  obtain ⟨a4, ea4⟩ : ∃ z, z = h0.size := ⟨_, rfl⟩
  rw [← ea4] at A4 k
  have n_a4 : n0 ≤ a4 := by omega
  have o_a_a4 : a < a4 := by have q : a < h0.size := A.lt; omega
  have KK : Keep h0 _ [] := KK.trans K4 all0
  have sk := KK.1
  have A := A.keep K4 nin0
  have A4 : AV Z h4 a4 .int [(.int (0 : Int32)), (.int (0 : Int32)), (.int (0 : Int32)), (.int (0 : Int32)), (.int (0 : Int32)), (.int (0 : Int32)), (.int (0 : Int32)), (.int (0 : Int32))] := A4
  have s_h4 : n0 ≤ h4.size := Nat.le_trans (by omega) K4.1
  have k : W34 l Z n0 (Q34 Z x0 x1 x2 x3 h0) G s h4 1 8 17 #[.val (.ref a), .val (.int (8 : Int32)), .unset] [(.ref a4)] := k
  have k : W34 l Z n0 (Q34 Z x0 x1 x2 x3 h0) G s h4 1 8 23 #[.val (.ref a), .val (.int (8 : Int32)), .val (.ref a4)] [(.ref a), (.int (0 : Int32)), (.ref a4), (.int (0 : Int32)), (.ref a)] := (((((k.astoreN d3_17 rfl (Ls' := #[.val (.ref a), .val (.int (8 : Int32)), .val (.ref a4)]) rfl).aloadN d3_18 rfl rfl).iconst (0) d3_19 rfl).aloadN d3_20 rfl rfl).iconst (0) d3_21 rfl).aloadN d3_22 rfl rfl
  have k : W34 l Z n0 (Q34 Z x0 x1 x2 x3 h0) G s h4 1 8 25 #[.val (.ref a), .val (.int (8 : Int32)), .val (.ref a4)] [(.int (8 : Int32)), (.int (4 : Int32)), (.int (0 : Int32)), (.ref a4), (.int (0 : Int32)), (.ref a)] := (k.len (n := 4) A rfl d3_23).iloadN d3_24 rfl
  obtain ⟨v5, h5, ⟨rfl, rfl⟩, k⟩ := k.callS (hw _ (List.mem_of_getElem? (i := 25) rfl)) (hw _ (List.mem_of_getElem? (i := 26) rfl)) (hw _ (List.mem_of_getElem? (i := 27) rfl)) (hw _ (List.mem_of_getElem? (i := 28) rfl)) (by decide) (con2 l Z a0 hw (4 : Int32) (8 : Int32) h4 n0 (by decide)) (argsL := [(.int (4 : Int32)), (.int (8 : Int32))]) (rest := [(.int (0 : Int32)), (.ref a4), (.int (0 : Int32)), (.ref a)]) (lenOf pd2 rfl) d3_25 rfl rfl 4 (Nat.le_of_eq rfl) (by decide) (by decide) (by decide) (by decide)
  have k : W34 l Z n0 (Q34 Z x0 x1 x2 x3 h0) G s h4 1 8 28 #[.val (.ref a), .val (.int (8 : Int32)), .val (.ref a4)] [(.int (4 : Int32)), (.int (0 : Int32)), (.ref a4), (.int (0 : Int32)), (.ref a)] := k
  obtain ⟨h6, K6, B6, k⟩ := k.acopy (hw _ (List.mem_of_getElem? (i := 29) rfl)) (hw _ (List.mem_of_getElem? (i := 32) rfl)) (hw _ (List.mem_of_getElem? (i := 30) rfl)) (hw _ (List.mem_of_getElem? (i := 31) rfl)) A A4 rfl rfl rfl (by simp) n_a4 d3_28 rfl (by decide) 0 (Nat.le_of_eq rfl) (by decide)
  have KK : Keep h0 _ [] := KK.trans K6 (allS (Or.inr (by omega)) all0)
  have sk := KK.1
  have A := A.keep K6 (nS (by omega) nin0)
  have B6 : AV Z h6 a4 .int [(.int x0), (.int x1), (.int x2), (.int x3), (.int (0 : Int32)), (.int (0 : Int32)), (.int (0 : Int32)), (.int (0 : Int32))] := B6
  have k : W34 l Z n0 (Q34 Z x0 x1 x2 x3 h0) G s h6 1 8 31 #[.val (.ref a), .val (.int (8 : Int32)), .val (.ref a4)] [] := k
  have k : W34 l Z n0 (Q34 Z x0 x1 x2 x3 h0) G s h6 1 8 32 #[.val (.ref a), .val (.int (8 : Int32)), .val (.ref a4)] [(.ref a4)] := k.aloadN d3_31 rfl rfl
  exact k.outA rfl rfl d3_32 (by decide) (by decide) ⟨a4, rfl, by omega, KK, B6⟩
theorem d4_0 : decode prog_117_method_2_code 0 = .ok (.aload_n 0, 1) := by decide +kernel
theorem d4_1 : decode prog_117_method_2_code 1 = .ok (.getfield 7, 3) := by decide +kernel
theorem d4_4 : decode prog_117_method_2_code 4 = .ok (.ifCond .ne 11, 3) := by decide +kernel
theorem d4_7 : decode prog_117_method_2_code 7 = .ok (.aload_n 0, 1) := by decide +kernel
theorem d4_8 : decode prog_117_method_2_code 8 = .ok (.iload_n 1, 1) := by decide +kernel
theorem d4_9 : decode prog_117_method_2_code 9 = .ok (.putfield 13, 3) := by decide +kernel
theorem d4_12 : decode prog_117_method_2_code 12 = .ok (.goto 72, 3) := by decide +kernel
theorem d4_15 : decode prog_117_method_2_code 15 = .ok (.aload_n 0, 1) := by decide +kernel
theorem d4_16 : decode prog_117_method_2_code 16 = .ok (.getfield 16, 3) := by decide +kernel
theorem d4_19 : decode prog_117_method_2_code 19 = .ok (.ifnonnull 21, 3) := by decide +kernel
theorem d4_22 : decode prog_117_method_2_code 22 = .ok (.aload_n 0, 1) := by decide +kernel
theorem d4_23 : decode prog_117_method_2_code 23 = .ok (.iconst 2, 1) := by decide +kernel
theorem d4_24 : decode prog_117_method_2_code 24 = .ok (.newarray .int, 2) := by decide +kernel
theorem d4_26 : decode prog_117_method_2_code 26 = .ok (.dup, 1) := by decide +kernel
theorem d4_27 : decode prog_117_method_2_code 27 = .ok (.iconst 0, 1) := by decide +kernel
theorem d4_28 : decode prog_117_method_2_code 28 = .ok (.iload_n 1, 1) := by decide +kernel
theorem d4_29 : decode prog_117_method_2_code 29 = .ok (.iastore, 1) := by decide +kernel
theorem d4_30 : decode prog_117_method_2_code 30 = .ok (.dup, 1) := by decide +kernel
theorem d4_31 : decode prog_117_method_2_code 31 = .ok (.iconst 1, 1) := by decide +kernel
theorem d4_32 : decode prog_117_method_2_code 32 = .ok (.iconst 0, 1) := by decide +kernel
theorem d4_33 : decode prog_117_method_2_code 33 = .ok (.iastore, 1) := by decide +kernel
theorem d4_34 : decode prog_117_method_2_code 34 = .ok (.putfield 16, 3) := by decide +kernel
theorem d4_37 : decode prog_117_method_2_code 37 = .ok (.goto 47, 3) := by decide +kernel
theorem d4_40 : decode prog_117_method_2_code 40 = .ok (.aload_n 0, 1) := by decide +kernel
theorem d4_41 : decode prog_117_method_2_code 41 = .ok (.getfield 7, 3) := by decide +kernel
theorem d4_44 : decode prog_117_method_2_code 44 = .ok (.iconst 1, 1) := by decide +kernel
theorem d4_45 : decode prog_117_method_2_code 45 = .ok (.isub, 1) := by decide +kernel
theorem d4_46 : decode prog_117_method_2_code 46 = .ok (.aload_n 0, 1) := by decide +kernel
theorem d4_47 : decode prog_117_method_2_code 47 = .ok (.getfield 16, 3) := by decide +kernel
theorem d4_50 : decode prog_117_method_2_code 50 = .ok (.arraylength, 1) := by decide +kernel
theorem d4_51 : decode prog_117_method_2_code 51 = .ok (.if_icmp .ne 21, 3) := by decide +kernel
theorem d4_54 : decode prog_117_method_2_code 54 = .ok (.aload_n 0, 1) := by decide +kernel
theorem d4_55 : decode prog_117_method_2_code 55 = .ok (.aload_n 0, 1) := by decide +kernel
theorem d4_56 : decode prog_117_method_2_code 56 = .ok (.getfield 16, 3) := by decide +kernel
theorem d4_59 : decode prog_117_method_2_code 59 = .ok (.aload_n 0, 1) := by decide +kernel
theorem d4_60 : decode prog_117_method_2_code 60 = .ok (.getfield 16, 3) := by decide +kernel
theorem d4_63 : decode prog_117_method_2_code 63 = .ok (.arraylength, 1) := by decide +kernel
theorem d4_64 : decode prog_117_method_2_code 64 = .ok (.iconst 2, 1) := by decide +kernel
theorem d4_65 : decode prog_117_method_2_code 65 = .ok (.imul, 1) := by decide +kernel
theorem d4_66 : decode prog_117_method_2_code 66 = .ok (.invokestatic 20, 3) := by decide +kernel
theorem d4_69 : decode prog_117_method_2_code 69 = .ok (.putfield 16, 3) := by decide +kernel
theorem d4_72 : decode prog_117_method_2_code 72 = .ok (.aload_n 0, 1) := by decide +kernel
theorem d4_73 : decode prog_117_method_2_code 73 = .ok (.getfield 16, 3) := by decide +kernel
theorem d4_76 : decode prog_117_method_2_code 76 = .ok (.aload_n 0, 1) := by decide +kernel
theorem d4_77 : decode prog_117_method_2_code 77 = .ok (.getfield 7, 3) := by decide +kernel
theorem d4_80 : decode prog_117_method_2_code 80 = .ok (.iconst 1, 1) := by decide +kernel
theorem d4_81 : decode prog_117_method_2_code 81 = .ok (.isub, 1) := by decide +kernel
theorem d4_82 : decode prog_117_method_2_code 82 = .ok (.iload_n 1, 1) := by decide +kernel
theorem d4_83 : decode prog_117_method_2_code 83 = .ok (.iastore, 1) := by decide +kernel
theorem d4_84 : decode prog_117_method_2_code 84 = .ok (.aload_n 0, 1) := by decide +kernel
theorem d4_85 : decode prog_117_method_2_code 85 = .ok (.dup, 1) := by decide +kernel
theorem d4_86 : decode prog_117_method_2_code 86 = .ok (.getfield 7, 3) := by decide +kernel
theorem d4_89 : decode prog_117_method_2_code 89 = .ok (.iconst 1, 1) := by decide +kernel
theorem d4_90 : decode prog_117_method_2_code 90 = .ok (.iadd, 1) := by decide +kernel
theorem d4_91 : decode prog_117_method_2_code 91 = .ok (.putfield 7, 3) := by decide +kernel
theorem d4_94 : decode prog_117_method_2_code 94 = .ok (.return_, 1) := by decide +kernel
theorem pn4 : plainFor (⟨"com/example/sayso/sayso/Positions", "add", "(I)V"⟩ : MethodName) = true := plainFor_of_name (show plainName "com/example/sayso/sayso/Positions" = true by first | (simp [plainName, overriddenIn]; done) | decide +kernel)
theorem pd4 : parseMethodDescriptor "(I)V" = some ⟨[.int], none⟩ := by decide +kernel
abbrev W41 (l : Launch) (Z : State) (n0 : Nat) (P : Option Value → Heap → Prop) (G : Prop) (s : State) := Wk l Z ({ frames := 0, cells := 0, slots := 0, locals := 0 } : Room) (⟨"com/example/sayso/sayso/Positions", "add", "(I)V"⟩ : MethodName) prog_117_method_2_code 2 none n0 (Ex s ({ frames := 0, cells := 0, slots := 0, locals := 0 } : Room) n0 P G) s
abbrev Q41 (Z : State) (p : Nat) (x0 : Int32) (h0 : Heap) : Option Value → Heap → Prop := fun v h => v = none ∧ Keep h0 h [p] ∧ Exa Z h p "com/example/sayso/sayso/Positions" ∧ Fld Z h p "com/example/sayso/sayso/Positions" "size" "I" (.int (1 : Int32)) ∧ Fld Z h p "com/example/sayso/sayso/Positions" "first" "I" (.int x0) ∧ Fld Z h p "com/example/sayso/sayso/Positions" "more" "[I" .null
set_option maxRecDepth 65536 in
set_option maxHeartbeats 40000000 in
theorem con41 (l : Launch) (Z : State) (a0 : Array Value) (hw : ∀ d ∈ tables_1, d.before a0 Z = true) (p : Nat) (x0 : Int32) (h0 : Heap) (n0 : Nat) (s_h0 : n0 ≤ h0.size) (n_p : n0 ≤ p) (E : Exa Z h0 p "com/example/sayso/sayso/Positions") (F1 : Fld Z h0 p "com/example/sayso/sayso/Positions" "size" "I" (.int (0 : Int32))) (F2 : Fld Z h0 p "com/example/sayso/sayso/Positions" "first" "I" (.int (0 : Int32))) (F3 : Fld Z h0 p "com/example/sayso/sayso/Positions" "more" "[I" .null) : Con l Z (⟨"com/example/sayso/sayso/Positions", "add", "(I)V"⟩ : MethodName) prog_117_method_2_code 2 none ({ frames := 0, cells := 0, slots := 0, locals := 0 } : Room) #[.ref p, .int x0] h0 n0 (Q41 Z p x0 h0) := by
  refine Con.of pn4 (Ls := #[.val (.ref p), .val (.int x0)]) (fun m => by first | (simp [entryFrame, mkF, argsToLocals, Value.category]; done) | rfl) ?_
  intro G s k
  have KK : Keep h0 h0 [p] := Keep.refl _ _
  have sk := KK.1
  have lp : p < h0.size := F1.lt
  have k : W41 l Z n0 (Q41 Z p x0 h0) G s h0 0 0 7 #[.val (.ref p), .val (.int x0)] [] := ((k.aloadN d4_0 rfl rfl).getF (hw _ (List.mem_of_getElem? (i := 15) rfl)) F1 d4_1).ifF d4_4 (XT.i0_ne_f (by decide))
  have k : W41 l Z n0 (Q41 Z p x0 h0) G s h0 0 0 9 #[.val (.ref p), .val (.int x0)] [(.int x0), (.ref p)] := (k.aloadN d4_7 rfl rfl).iloadN d4_8 rfl
  obtain ⟨h7, W7, K7, F2', E', k⟩ := k.putF (ty := .int) (hw _ (List.mem_of_getElem? (i := 17) rfl)) F2 E (Or.inl (hw _ (List.mem_of_getElem? (i := 18) rfl))) (hw _ (List.mem_of_getElem? (i := 2) rfl)) (by decide) rfl rfl n_p d4_9
  have F1 := Fld.other W7 F1 (Or.inr (slot_ne (C := "com/example/sayso/sayso/Positions") (Or.inl (hw _ (List.mem_of_getElem? (i := 16) rfl))) (Or.inl (hw _ (List.mem_of_getElem? (i := 18) rfl))) (by decide) (t := .int) (t' := .int) (by decide) (by decide)))
  have F3 := Fld.other W7 F3 (Or.inr (slot_ne (C := "com/example/sayso/sayso/Positions") (Or.inl (hw _ (List.mem_of_getElem? (i := 20) rfl))) (Or.inl (hw _ (List.mem_of_getElem? (i := 18) rfl))) (by decide) (t := (.array .int)) (t' := .int) (by decide) (by decide)))
  have KK : Keep h0 _ [p] := KK.trans K7 (allS (Or.inl (by simp)) all0)
  have sk := KK.1
  have F2 := F2'
  have E := E'
  have s_h7 : n0 ≤ h7.size := Nat.le_trans (by omega) K7.1
  have k : W41 l Z n0 (Q41 Z p x0 h0) G s h7 0 0 12 #[.val (.ref p), .val (.int x0)] [] := k
  have k : W41 l Z n0 (Q41 Z p x0 h0) G s h7 0 0 84 #[.val (.ref p), .val (.int x0)] [] := k.goto (pc' := 84) d4_12 (by decide)
  have k : W41 l Z n0 (Q41 Z p x0 h0) G s h7 0 0 91 #[.val (.ref p), .val (.int x0)] [(.int ((0 : Int32) + (1 : Int32))), (.ref p)] := ((((k.aloadN d4_84 rfl rfl).dup d4_85 rfl).getF (hw _ (List.mem_of_getElem? (i := 15) rfl)) F1 d4_86).iconst (1) d4_89 rfl).iadd d4_90
  rw [show ((0 : Int32) + (1 : Int32) : Int32) = (1 : Int32) from by decide] at k
  obtain ⟨h8, W8, K8, F1', E', k⟩ := k.putF (ty := .int) (hw _ (List.mem_of_getElem? (i := 15) rfl)) F1 E (Or.inl (hw _ (List.mem_of_getElem? (i := 16) rfl))) (hw _ (List.mem_of_getElem? (i := 2) rfl)) (by decide) rfl rfl n_p d4_91
  have F2 := Fld.other W8 F2 (Or.inr (slot_ne (C := "com/example/sayso/sayso/Positions") (Or.inl (hw _ (List.mem_of_getElem? (i := 18) rfl))) (Or.inl (hw _ (List.mem_of_getElem? (i := 16) rfl))) (by decide) (t := .int) (t' := .int) (by decide) (by decide)))
  have F3 := Fld.other W8 F3 (Or.inr (slot_ne (C := "com/example/sayso/sayso/Positions") (Or.inl (hw _ (List.mem_of_getElem? (i := 20) rfl))) (Or.inl (hw _ (List.mem_of_getElem? (i := 16) rfl))) (by decide) (t := (.array .int)) (t' := .int) (by decide) (by decide)))
  have KK : Keep h0 _ [p] := KK.trans K8 (allS (Or.inl (by simp)) all0)
  have sk := KK.1
  have F1 := F1'
  have E := E'
  have s_h8 : n0 ≤ h8.size := Nat.le_trans (by omega) K8.1
  have k : W41 l Z n0 (Q41 Z p x0 h0) G s h8 0 0 94 #[.val (.ref p), .val (.int x0)] [] := k
  exact k.outN d4_94 (by decide) (by decide) ⟨rfl, KK, E, F1, F2, F3⟩
abbrev W42 (l : Launch) (Z : State) (n0 : Nat) (P : Option Value → Heap → Prop) (G : Prop) (s : State) := Wk l Z ({ frames := 0, cells := 1, slots := 2, locals := 0 } : Room) (⟨"com/example/sayso/sayso/Positions", "add", "(I)V"⟩ : MethodName) prog_117_method_2_code 2 none n0 (Ex s ({ frames := 0, cells := 1, slots := 2, locals := 0 } : Room) n0 P G) s
abbrev Q42 (Z : State) (p : Nat) (x0 x1 : Int32) (h0 : Heap) : Option Value → Heap → Prop := fun v h => v = none ∧ ∃ m : Nat, h0.size ≤ m ∧ Keep h0 h [p] ∧ Exa Z h p "com/example/sayso/sayso/Positions" ∧ Fld Z h p "com/example/sayso/sayso/Positions" "size" "I" (.int (2 : Int32)) ∧ Fld Z h p "com/example/sayso/sayso/Positions" "first" "I" (.int x0) ∧ Fld Z h p "com/example/sayso/sayso/Positions" "more" "[I" (.ref m) ∧ AV Z h m .int [(.int x1), (.int (0 : Int32))]
set_option maxRecDepth 65536 in
set_option maxHeartbeats 40000000 in
theorem con42 (l : Launch) (Z : State) (a0 : Array Value) (hw : ∀ d ∈ tables_1, d.before a0 Z = true) (p : Nat) (x0 x1 : Int32) (h0 : Heap) (n0 : Nat) (s_h0 : n0 ≤ h0.size) (n_p : n0 ≤ p) (E : Exa Z h0 p "com/example/sayso/sayso/Positions") (F1 : Fld Z h0 p "com/example/sayso/sayso/Positions" "size" "I" (.int (1 : Int32))) (F2 : Fld Z h0 p "com/example/sayso/sayso/Positions" "first" "I" (.int x0)) (F3 : Fld Z h0 p "com/example/sayso/sayso/Positions" "more" "[I" .null) : Con l Z (⟨"com/example/sayso/sayso/Positions", "add", "(I)V"⟩ : MethodName) prog_117_method_2_code 2 none ({ frames := 0, cells := 1, slots := 2, locals := 0 } : Room) #[.ref p, .int x1] h0 n0 (Q42 Z p x0 x1 h0) := by
  refine Con.of pn4 (Ls := #[.val (.ref p), .val (.int x1)]) (fun m => by first | (simp [entryFrame, mkF, argsToLocals, Value.category]; done) | rfl) ?_
  intro G s k
  have KK : Keep h0 h0 [p] := Keep.refl _ _
  have sk := KK.1
  have lp : p < h0.size := F1.lt
  have k : W42 l Z n0 (Q42 Z p x0 x1 h0) G s h0 0 0 15 #[.val (.ref p), .val (.int x1)] [] := ((k.aloadN d4_0 rfl rfl).getF (hw _ (List.mem_of_getElem? (i := 15) rfl)) F1 d4_1).ifT (pc' := 15) d4_4 (XT.i0_ne_t (by decide)) (by decide)
  have k : W42 l Z n0 (Q42 Z p x0 x1 h0) G s h0 0 0 22 #[.val (.ref p), .val (.int x1)] [] := ((k.aloadN d4_15 rfl rfl).getF (hw _ (List.mem_of_getElem? (i := 19) rfl)) F3 d4_16).nnF d4_19
  have k : W42 l Z n0 (Q42 Z p x0 x1 h0) G s h0 0 0 24 #[.val (.ref p), .val (.int x1)] [(.int (2 : Int32)), (.ref p)] := (k.aloadN d4_22 rfl rfl).iconst (2) d4_23 rfl
  obtain ⟨h9, K9, A9, k⟩ := k.newA (hw _ (List.mem_of_getElem? (i := 0) rfl)) d4_24 2 rfl (by decide) (by decide) (by decide) (by decide)
  obtain ⟨a9, ea9⟩ : ∃ z, z = h0.size := ⟨_, rfl⟩
  rw [← ea9] at A9 k
  have n_a9 : n0 ≤ a9 := by omega
  have o_p_a9 : p < a9 := by have q : p < h0.size := E.lt; omega
  have KK : Keep h0 _ [p] := KK.trans K9 all0
  have sk := KK.1
  have E := E.keep K9
  have F1 := F1.keep K9 nin0
  have F2 := F2.keep K9 nin0
  have F3 := F3.keep K9 nin0
  have A9 : AV Z h9 a9 .int [(.int (0 : Int32)), (.int (0 : Int32))] := A9
  have s_h9 : n0 ≤ h9.size := Nat.le_trans (by omega) K9.1
  have k : W42 l Z n0 (Q42 Z p x0 x1 h0) G s h9 1 2 26 #[.val (.ref p), .val (.int x1)] [(.ref a9), (.ref p)] := k
  have k : W42 l Z n0 (Q42 Z p x0 x1 h0) G s h9 1 2 29 #[.val (.ref p), .val (.int x1)] [(.int x1), (.int (0 : Int32)), (.ref a9), (.ref a9), (.ref p)] := ((k.dup d4_26 rfl).iconst (0) d4_27 rfl).iloadN d4_28 rfl
  obtain ⟨h10, K10, A9', k⟩ := k.stI A9 0 rfl (by decide) (by simp) n_a9 d4_29
  have KK : Keep h0 _ [p] := KK.trans K10 (allS (Or.inr (by omega)) all0)
  have sk := KK.1
  have E := E.keep K10
  have F1 := F1.keep K10 (nS (by omega) nin0)
  have F2 := F2.keep K10 (nS (by omega) nin0)
  have F3 := F3.keep K10 (nS (by omega) nin0)
  have A9 : AV Z h10 a9 .int [(.int x1), (.int (0 : Int32))] := A9'
  have s_h10 : n0 ≤ h10.size := Nat.le_trans (by omega) K10.1
  have k : W42 l Z n0 (Q42 Z p x0 x1 h0) G s h10 1 2 30 #[.val (.ref p), .val (.int x1)] [(.ref a9), (.ref p)] := k
  have k : W42 l Z n0 (Q42 Z p x0 x1 h0) G s h10 1 2 33 #[.val (.ref p), .val (.int x1)] [(.int (0 : Int32)), (.int (1 : Int32)), (.ref a9), (.ref a9), (.ref p)] := ((k.dup d4_30 rfl).iconst (1) d4_31 rfl).iconst (0) d4_32 rfl
  obtain ⟨h11, K11, A9', k⟩ := k.stI A9 1 rfl (by decide) (by simp) n_a9 d4_33
  have KK : Keep h0 _ [p] := KK.trans K11 (allS (Or.inr (by omega)) all0)
  have sk := KK.1
  have E := E.keep K11
  have F1 := F1.keep K11 (nS (by omega) nin0)
  have F2 := F2.keep K11 (nS (by omega) nin0)
  have F3 := F3.keep K11 (nS (by omega) nin0)
  have A9 : AV Z h11 a9 .int [(.int x1), (.int (0 : Int32))] := A9'
  have s_h11 : n0 ≤ h11.size := Nat.le_trans (by omega) K11.1
  have k : W42 l Z n0 (Q42 Z p x0 x1 h0) G s h11 1 2 34 #[.val (.ref p), .val (.int x1)] [(.ref a9), (.ref p)] := k
  obtain ⟨h12, W12, K12, F3', E', k⟩ := k.putF (ty := (.array .int)) (hw _ (List.mem_of_getElem? (i := 19) rfl)) F3 E (Or.inl (hw _ (List.mem_of_getElem? (i := 20) rfl))) (hw _ (List.mem_of_getElem? (i := 2) rfl)) (by decide) rfl rfl n_p d4_34
  have F1 := Fld.other W12 F1 (Or.inr (slot_ne (C := "com/example/sayso/sayso/Positions") (Or.inl (hw _ (List.mem_of_getElem? (i := 16) rfl))) (Or.inl (hw _ (List.mem_of_getElem? (i := 20) rfl))) (by decide) (t := .int) (t' := (.array .int)) (by decide) (by decide)))
  have F2 := Fld.other W12 F2 (Or.inr (slot_ne (C := "com/example/sayso/sayso/Positions") (Or.inl (hw _ (List.mem_of_getElem? (i := 18) rfl))) (Or.inl (hw _ (List.mem_of_getElem? (i := 20) rfl))) (by decide) (t := .int) (t' := (.array .int)) (by decide) (by decide)))
  have KK : Keep h0 _ [p] := KK.trans K12 (allS (Or.inl (by simp)) all0)
  have sk := KK.1
  have A9 := A9.keep K12 (nS (by omega) nin0)
  have F3 := F3'
  have E := E'
  have s_h12 : n0 ≤ h12.size := Nat.le_trans (by omega) K12.1
  have k : W42 l Z n0 (Q42 Z p x0 x1 h0) G s h12 1 2 37 #[.val (.ref p), .val (.int x1)] [] := k
  have k : W42 l Z n0 (Q42 Z p x0 x1 h0) G s h12 1 2 84 #[.val (.ref p), .val (.int x1)] [] := k.goto (pc' := 84) d4_37 (by decide)
  have k : W42 l Z n0 (Q42 Z p x0 x1 h0) G s h12 1 2 91 #[.val (.ref p), .val (.int x1)] [(.int ((1 : Int32) + (1 : Int32))), (.ref p)] := ((((k.aloadN d4_84 rfl rfl).dup d4_85 rfl).getF (hw _ (List.mem_of_getElem? (i := 15) rfl)) F1 d4_86).iconst (1) d4_89 rfl).iadd d4_90
  rw [show ((1 : Int32) + (1 : Int32) : Int32) = (2 : Int32) from by decide] at k
  obtain ⟨h13, W13, K13, F1', E', k⟩ := k.putF (ty := .int) (hw _ (List.mem_of_getElem? (i := 15) rfl)) F1 E (Or.inl (hw _ (List.mem_of_getElem? (i := 16) rfl))) (hw _ (List.mem_of_getElem? (i := 2) rfl)) (by decide) rfl rfl n_p d4_91
  have F2 := Fld.other W13 F2 (Or.inr (slot_ne (C := "com/example/sayso/sayso/Positions") (Or.inl (hw _ (List.mem_of_getElem? (i := 18) rfl))) (Or.inl (hw _ (List.mem_of_getElem? (i := 16) rfl))) (by decide) (t := .int) (t' := .int) (by decide) (by decide)))
  have F3 := Fld.other W13 F3 (Or.inr (slot_ne (C := "com/example/sayso/sayso/Positions") (Or.inl (hw _ (List.mem_of_getElem? (i := 20) rfl))) (Or.inl (hw _ (List.mem_of_getElem? (i := 16) rfl))) (by decide) (t := (.array .int)) (t' := .int) (by decide) (by decide)))
  have KK : Keep h0 _ [p] := KK.trans K13 (allS (Or.inl (by simp)) all0)
  have sk := KK.1
  have A9 := A9.keep K13 (nS (by omega) nin0)
  have F1 := F1'
  have E := E'
  have s_h13 : n0 ≤ h13.size := Nat.le_trans (by omega) K13.1
  have k : W42 l Z n0 (Q42 Z p x0 x1 h0) G s h13 1 2 94 #[.val (.ref p), .val (.int x1)] [] := k
  exact k.outN d4_94 (by decide) (by decide) ⟨rfl, a9, by omega, KK, E, F1, F2, F3, A9⟩
abbrev W43 (l : Launch) (Z : State) (n0 : Nat) (P : Option Value → Heap → Prop) (G : Prop) (s : State) := Wk l Z ({ frames := 0, cells := 0, slots := 0, locals := 0 } : Room) (⟨"com/example/sayso/sayso/Positions", "add", "(I)V"⟩ : MethodName) prog_117_method_2_code 2 none n0 (Ex s ({ frames := 0, cells := 0, slots := 0, locals := 0 } : Room) n0 P G) s
abbrev Q43 (Z : State) (p m : Nat) (x0 x1 x2 : Int32) (h0 : Heap) : Option Value → Heap → Prop := fun v h => v = none ∧ Keep h0 h [p, m] ∧ Exa Z h p "com/example/sayso/sayso/Positions" ∧ Fld Z h p "com/example/sayso/sayso/Positions" "size" "I" (.int (3 : Int32)) ∧ Fld Z h p "com/example/sayso/sayso/Positions" "first" "I" (.int x0) ∧ Fld Z h p "com/example/sayso/sayso/Positions" "more" "[I" (.ref m) ∧ AV Z h m .int [(.int x1), (.int x2)]
set_option maxRecDepth 65536 in
set_option maxHeartbeats 40000000 in
theorem con43 (l : Launch) (Z : State) (a0 : Array Value) (hw : ∀ d ∈ tables_1, d.before a0 Z = true) (p m : Nat) (x0 x1 x2 : Int32) (h0 : Heap) (n0 : Nat) (s_h0 : n0 ≤ h0.size) (n_p : n0 ≤ p) (E : Exa Z h0 p "com/example/sayso/sayso/Positions") (F1 : Fld Z h0 p "com/example/sayso/sayso/Positions" "size" "I" (.int (2 : Int32))) (F2 : Fld Z h0 p "com/example/sayso/sayso/Positions" "first" "I" (.int x0)) (F3 : Fld Z h0 p "com/example/sayso/sayso/Positions" "more" "[I" (.ref m)) (A : AV Z h0 m .int [(.int x1), (.int (0 : Int32))]) (ne : m ≠ p) (n_m : n0 ≤ m) : Con l Z (⟨"com/example/sayso/sayso/Positions", "add", "(I)V"⟩ : MethodName) prog_117_method_2_code 2 none ({ frames := 0, cells := 0, slots := 0, locals := 0 } : Room) #[.ref p, .int x2] h0 n0 (Q43 Z p m x0 x1 x2 h0) := by
  refine Con.of pn4 (Ls := #[.val (.ref p), .val (.int x2)]) (fun m => by first | (simp [entryFrame, mkF, argsToLocals, Value.category]; done) | rfl) ?_
  intro G s k
  have KK : Keep h0 h0 [p, m] := Keep.refl _ _
  have sk := KK.1
  have lp : p < h0.size := F1.lt
  have k : W43 l Z n0 (Q43 Z p m x0 x1 x2 h0) G s h0 0 0 15 #[.val (.ref p), .val (.int x2)] [] := ((k.aloadN d4_0 rfl rfl).getF (hw _ (List.mem_of_getElem? (i := 15) rfl)) F1 d4_1).ifT (pc' := 15) d4_4 (XT.i0_ne_t (by decide)) (by decide)
  have k : W43 l Z n0 (Q43 Z p m x0 x1 x2 h0) G s h0 0 0 40 #[.val (.ref p), .val (.int x2)] [] := ((k.aloadN d4_15 rfl rfl).getF (hw _ (List.mem_of_getElem? (i := 19) rfl)) F3 d4_16).nnT (pc' := 40) d4_19 (by decide)
  have k : W43 l Z n0 (Q43 Z p m x0 x1 x2 h0) G s h0 0 0 46 #[.val (.ref p), .val (.int x2)] [(.int ((2 : Int32) - (1 : Int32)))] := (((k.aloadN d4_40 rfl rfl).getF (hw _ (List.mem_of_getElem? (i := 15) rfl)) F1 d4_41).iconst (1) d4_44 rfl).isub d4_45
  rw [show ((2 : Int32) - (1 : Int32) : Int32) = (1 : Int32) from by decide] at k
  have k : W43 l Z n0 (Q43 Z p m x0 x1 x2 h0) G s h0 0 0 72 #[.val (.ref p), .val (.int x2)] [] := (((k.aloadN d4_46 rfl rfl).getF (hw _ (List.mem_of_getElem? (i := 19) rfl)) F3 d4_47).len (n := 2) A rfl d4_50).icT (pc' := 72) d4_51 (XT.ii_ne_t (by decide)) (by decide)
  have k : W43 l Z n0 (Q43 Z p m x0 x1 x2 h0) G s h0 0 0 82 #[.val (.ref p), .val (.int x2)] [(.int ((2 : Int32) - (1 : Int32))), (.ref m)] := (((((k.aloadN d4_72 rfl rfl).getF (hw _ (List.mem_of_getElem? (i := 19) rfl)) F3 d4_73).aloadN d4_76 rfl rfl).getF (hw _ (List.mem_of_getElem? (i := 15) rfl)) F1 d4_77).iconst (1) d4_80 rfl).isub d4_81
  rw [show ((2 : Int32) - (1 : Int32) : Int32) = (1 : Int32) from by decide] at k
  have k : W43 l Z n0 (Q43 Z p m x0 x1 x2 h0) G s h0 0 0 83 #[.val (.ref p), .val (.int x2)] [(.int x2), (.int (1 : Int32)), (.ref m)] := k.iloadN d4_82 rfl
  obtain ⟨h14, K14, A', k⟩ := k.stI A 1 rfl (by decide) (by simp) n_m d4_83
  have KK : Keep h0 _ [p, m] := KK.trans K14 (allS (Or.inl (by simp)) all0)
  have sk := KK.1
  have E := E.keep K14
  have F1 := F1.keep K14 (nS (by omega) nin0)
  have F2 := F2.keep K14 (nS (by omega) nin0)
  have F3 := F3.keep K14 (nS (by omega) nin0)
  have A : AV Z h14 m .int [(.int x1), (.int x2)] := A'
  have s_h14 : n0 ≤ h14.size := Nat.le_trans (by omega) K14.1
  have k : W43 l Z n0 (Q43 Z p m x0 x1 x2 h0) G s h14 0 0 84 #[.val (.ref p), .val (.int x2)] [] := k
  have k : W43 l Z n0 (Q43 Z p m x0 x1 x2 h0) G s h14 0 0 91 #[.val (.ref p), .val (.int x2)] [(.int ((2 : Int32) + (1 : Int32))), (.ref p)] := ((((k.aloadN d4_84 rfl rfl).dup d4_85 rfl).getF (hw _ (List.mem_of_getElem? (i := 15) rfl)) F1 d4_86).iconst (1) d4_89 rfl).iadd d4_90
  rw [show ((2 : Int32) + (1 : Int32) : Int32) = (3 : Int32) from by decide] at k
  obtain ⟨h15, W15, K15, F1', E', k⟩ := k.putF (ty := .int) (hw _ (List.mem_of_getElem? (i := 15) rfl)) F1 E (Or.inl (hw _ (List.mem_of_getElem? (i := 16) rfl))) (hw _ (List.mem_of_getElem? (i := 2) rfl)) (by decide) rfl rfl n_p d4_91
  have F2 := Fld.other W15 F2 (Or.inr (slot_ne (C := "com/example/sayso/sayso/Positions") (Or.inl (hw _ (List.mem_of_getElem? (i := 18) rfl))) (Or.inl (hw _ (List.mem_of_getElem? (i := 16) rfl))) (by decide) (t := .int) (t' := .int) (by decide) (by decide)))
  have F3 := Fld.other W15 F3 (Or.inr (slot_ne (C := "com/example/sayso/sayso/Positions") (Or.inl (hw _ (List.mem_of_getElem? (i := 20) rfl))) (Or.inl (hw _ (List.mem_of_getElem? (i := 16) rfl))) (by decide) (t := (.array .int)) (t' := .int) (by decide) (by decide)))
  have KK : Keep h0 _ [p, m] := KK.trans K15 (allS (Or.inl (by simp)) all0)
  have sk := KK.1
  have A := A.keep K15 (nS (by omega) nin0)
  have F1 := F1'
  have E := E'
  have s_h15 : n0 ≤ h15.size := Nat.le_trans (by omega) K15.1
  have k : W43 l Z n0 (Q43 Z p m x0 x1 x2 h0) G s h15 0 0 94 #[.val (.ref p), .val (.int x2)] [] := k
  exact k.outN d4_94 (by decide) (by decide) ⟨rfl, KK, E, F1, F2, F3, A⟩
abbrev W44 (l : Launch) (Z : State) (n0 : Nat) (P : Option Value → Heap → Prop) (G : Prop) (s : State) := Wk l Z ({ frames := 2, cells := 1, slots := 4, locals := 60 } : Room) (⟨"com/example/sayso/sayso/Positions", "add", "(I)V"⟩ : MethodName) prog_117_method_2_code 2 none n0 (Ex s ({ frames := 2, cells := 1, slots := 4, locals := 60 } : Room) n0 P G) s
abbrev Q44 (Z : State) (p : Nat) (x0 x1 x2 x3 : Int32) (h0 : Heap) : Option Value → Heap → Prop := fun v h => v = none ∧ ∃ m : Nat, h0.size ≤ m ∧ Keep h0 h [p] ∧ Exa Z h p "com/example/sayso/sayso/Positions" ∧ Fld Z h p "com/example/sayso/sayso/Positions" "size" "I" (.int (4 : Int32)) ∧ Fld Z h p "com/example/sayso/sayso/Positions" "first" "I" (.int x0) ∧ Fld Z h p "com/example/sayso/sayso/Positions" "more" "[I" (.ref m) ∧ AV Z h m .int [(.int x1), (.int x2), (.int x3), (.int (0 : Int32))]
set_option maxRecDepth 65536 in
set_option maxHeartbeats 40000000 in
theorem con44 (l : Launch) (Z : State) (a0 : Array Value) (hw : ∀ d ∈ tables_1, d.before a0 Z = true) (p m : Nat) (x0 x1 x2 x3 : Int32) (h0 : Heap) (n0 : Nat) (s_h0 : n0 ≤ h0.size) (n_p : n0 ≤ p) (E : Exa Z h0 p "com/example/sayso/sayso/Positions") (F1 : Fld Z h0 p "com/example/sayso/sayso/Positions" "size" "I" (.int (3 : Int32))) (F2 : Fld Z h0 p "com/example/sayso/sayso/Positions" "first" "I" (.int x0)) (F3 : Fld Z h0 p "com/example/sayso/sayso/Positions" "more" "[I" (.ref m)) (A : AV Z h0 m .int [(.int x1), (.int x2)]) (ne : m ≠ p) (n_m : n0 ≤ m) : Con l Z (⟨"com/example/sayso/sayso/Positions", "add", "(I)V"⟩ : MethodName) prog_117_method_2_code 2 none ({ frames := 2, cells := 1, slots := 4, locals := 60 } : Room) #[.ref p, .int x3] h0 n0 (Q44 Z p x0 x1 x2 x3 h0) := by
  refine Con.of pn4 (Ls := #[.val (.ref p), .val (.int x3)]) (fun m => by first | (simp [entryFrame, mkF, argsToLocals, Value.category]; done) | rfl) ?_
  intro G s k
  have KK : Keep h0 h0 [p] := Keep.refl _ _
  have sk := KK.1
  have lp : p < h0.size := F1.lt
  have k : W44 l Z n0 (Q44 Z p x0 x1 x2 x3 h0) G s h0 0 0 15 #[.val (.ref p), .val (.int x3)] [] := ((k.aloadN d4_0 rfl rfl).getF (hw _ (List.mem_of_getElem? (i := 15) rfl)) F1 d4_1).ifT (pc' := 15) d4_4 (XT.i0_ne_t (by decide)) (by decide)
  have k : W44 l Z n0 (Q44 Z p x0 x1 x2 x3 h0) G s h0 0 0 40 #[.val (.ref p), .val (.int x3)] [] := ((k.aloadN d4_15 rfl rfl).getF (hw _ (List.mem_of_getElem? (i := 19) rfl)) F3 d4_16).nnT (pc' := 40) d4_19 (by decide)
  have k : W44 l Z n0 (Q44 Z p x0 x1 x2 x3 h0) G s h0 0 0 46 #[.val (.ref p), .val (.int x3)] [(.int ((3 : Int32) - (1 : Int32)))] := (((k.aloadN d4_40 rfl rfl).getF (hw _ (List.mem_of_getElem? (i := 15) rfl)) F1 d4_41).iconst (1) d4_44 rfl).isub d4_45
  rw [show ((3 : Int32) - (1 : Int32) : Int32) = (2 : Int32) from by decide] at k
  have k : W44 l Z n0 (Q44 Z p x0 x1 x2 x3 h0) G s h0 0 0 54 #[.val (.ref p), .val (.int x3)] [] := (((k.aloadN d4_46 rfl rfl).getF (hw _ (List.mem_of_getElem? (i := 19) rfl)) F3 d4_47).len (n := 2) A rfl d4_50).icF d4_51 (XT.ii_ne_f (by decide))
  have k : W44 l Z n0 (Q44 Z p x0 x1 x2 x3 h0) G s h0 0 0 64 #[.val (.ref p), .val (.int x3)] [(.int (2 : Int32)), (.ref m), (.ref p)] := (((((k.aloadN d4_54 rfl rfl).aloadN d4_55 rfl rfl).getF (hw _ (List.mem_of_getElem? (i := 19) rfl)) F3 d4_56).aloadN d4_59 rfl rfl).getF (hw _ (List.mem_of_getElem? (i := 19) rfl)) F3 d4_60).len (n := 2) A rfl d4_63
  have k : W44 l Z n0 (Q44 Z p x0 x1 x2 x3 h0) G s h0 0 0 66 #[.val (.ref p), .val (.int x3)] [(.int ((2 : Int32) * (2 : Int32))), (.ref m), (.ref p)] := (k.iconst (2) d4_64 rfl).imul d4_65
  rw [show ((2 : Int32) * (2 : Int32) : Int32) = (4 : Int32) from by decide] at k
  obtain ⟨v16, h16, ⟨m16, rfl, g16, K16, B16⟩, k⟩ := k.callS (hw _ (List.mem_of_getElem? (i := 21) rfl)) (hw _ (List.mem_of_getElem? (i := 22) rfl)) (hw _ (List.mem_of_getElem? (i := 23) rfl)) (hw _ (List.mem_of_getElem? (i := 24) rfl)) (by decide) (con32 l Z a0 hw m x1 x2 h0 n0 (by omega) A) (argsL := [(.ref m), (.int (4 : Int32))]) (rest := [(.ref p)]) (lenOf pd3 rfl) d4_66 rfl rfl 1 (Nat.le_of_eq rfl) (by decide) (by decide) (by decide) (by decide)
  have KK : Keep h0 _ [p] := KK.trans K16 all0
  have sk := KK.1
  have E := E.keep K16
  have F1 := F1.keep K16 nin0
  have F2 := F2.keep K16 nin0
  have F3 := F3.keep K16 nin0
  have A := A.keep K16 nin0
  have s_h16 : n0 ≤ h16.size := Nat.le_trans (by omega) K16.1
  have k : W44 l Z n0 (Q44 Z p x0 x1 x2 x3 h0) G s h16 1 4 69 #[.val (.ref p), .val (.int x3)] [(.ref m16), (.ref p)] := k
  have n_m16 : n0 ≤ m16 := by omega
  have o_m16 : p < m16 := by omega
  obtain ⟨h17, W17, K17, F3', E', k⟩ := k.putF (ty := (.array .int)) (hw _ (List.mem_of_getElem? (i := 19) rfl)) F3 E (Or.inl (hw _ (List.mem_of_getElem? (i := 20) rfl))) (hw _ (List.mem_of_getElem? (i := 2) rfl)) (by decide) rfl rfl n_p d4_69
  have F1 := Fld.other W17 F1 (Or.inr (slot_ne (C := "com/example/sayso/sayso/Positions") (Or.inl (hw _ (List.mem_of_getElem? (i := 16) rfl))) (Or.inl (hw _ (List.mem_of_getElem? (i := 20) rfl))) (by decide) (t := .int) (t' := (.array .int)) (by decide) (by decide)))
  have F2 := Fld.other W17 F2 (Or.inr (slot_ne (C := "com/example/sayso/sayso/Positions") (Or.inl (hw _ (List.mem_of_getElem? (i := 18) rfl))) (Or.inl (hw _ (List.mem_of_getElem? (i := 20) rfl))) (by decide) (t := .int) (t' := (.array .int)) (by decide) (by decide)))
  have KK : Keep h0 _ [p] := KK.trans K17 (allS (Or.inl (by simp)) all0)
  have sk := KK.1
  have B16 := B16.keep K17 (nS (by omega) nin0)
  have F3 := F3'
  have E := E'
  have s_h17 : n0 ≤ h17.size := Nat.le_trans (by omega) K17.1
  have k : W44 l Z n0 (Q44 Z p x0 x1 x2 x3 h0) G s h17 1 4 72 #[.val (.ref p), .val (.int x3)] [] := k
  have k : W44 l Z n0 (Q44 Z p x0 x1 x2 x3 h0) G s h17 1 4 82 #[.val (.ref p), .val (.int x3)] [(.int ((3 : Int32) - (1 : Int32))), (.ref m16)] := (((((k.aloadN d4_72 rfl rfl).getF (hw _ (List.mem_of_getElem? (i := 19) rfl)) F3 d4_73).aloadN d4_76 rfl rfl).getF (hw _ (List.mem_of_getElem? (i := 15) rfl)) F1 d4_77).iconst (1) d4_80 rfl).isub d4_81
  rw [show ((3 : Int32) - (1 : Int32) : Int32) = (2 : Int32) from by decide] at k
  have k : W44 l Z n0 (Q44 Z p x0 x1 x2 x3 h0) G s h17 1 4 83 #[.val (.ref p), .val (.int x3)] [(.int x3), (.int (2 : Int32)), (.ref m16)] := k.iloadN d4_82 rfl
  obtain ⟨h18, K18, B16', k⟩ := k.stI B16 2 rfl (by decide) (by simp) n_m16 d4_83
  have KK : Keep h0 _ [p] := KK.trans K18 (allS (Or.inr (by omega)) all0)
  have sk := KK.1
  have E := E.keep K18
  have F1 := F1.keep K18 (nS (by omega) nin0)
  have F2 := F2.keep K18 (nS (by omega) nin0)
  have F3 := F3.keep K18 (nS (by omega) nin0)
  have B16 : AV Z h18 m16 .int [(.int x1), (.int x2), (.int x3), (.int (0 : Int32))] := B16'
  have s_h18 : n0 ≤ h18.size := Nat.le_trans (by omega) K18.1
  have k : W44 l Z n0 (Q44 Z p x0 x1 x2 x3 h0) G s h18 1 4 84 #[.val (.ref p), .val (.int x3)] [] := k
  have k : W44 l Z n0 (Q44 Z p x0 x1 x2 x3 h0) G s h18 1 4 91 #[.val (.ref p), .val (.int x3)] [(.int ((3 : Int32) + (1 : Int32))), (.ref p)] := ((((k.aloadN d4_84 rfl rfl).dup d4_85 rfl).getF (hw _ (List.mem_of_getElem? (i := 15) rfl)) F1 d4_86).iconst (1) d4_89 rfl).iadd d4_90
  rw [show ((3 : Int32) + (1 : Int32) : Int32) = (4 : Int32) from by decide] at k
  obtain ⟨h19, W19, K19, F1', E', k⟩ := k.putF (ty := .int) (hw _ (List.mem_of_getElem? (i := 15) rfl)) F1 E (Or.inl (hw _ (List.mem_of_getElem? (i := 16) rfl))) (hw _ (List.mem_of_getElem? (i := 2) rfl)) (by decide) rfl rfl n_p d4_91
  have F2 := Fld.other W19 F2 (Or.inr (slot_ne (C := "com/example/sayso/sayso/Positions") (Or.inl (hw _ (List.mem_of_getElem? (i := 18) rfl))) (Or.inl (hw _ (List.mem_of_getElem? (i := 16) rfl))) (by decide) (t := .int) (t' := .int) (by decide) (by decide)))
  have F3 := Fld.other W19 F3 (Or.inr (slot_ne (C := "com/example/sayso/sayso/Positions") (Or.inl (hw _ (List.mem_of_getElem? (i := 20) rfl))) (Or.inl (hw _ (List.mem_of_getElem? (i := 16) rfl))) (by decide) (t := (.array .int)) (t' := .int) (by decide) (by decide)))
  have KK : Keep h0 _ [p] := KK.trans K19 (allS (Or.inl (by simp)) all0)
  have sk := KK.1
  have B16 := B16.keep K19 (nS (by omega) nin0)
  have F1 := F1'
  have E := E'
  have s_h19 : n0 ≤ h19.size := Nat.le_trans (by omega) K19.1
  have k : W44 l Z n0 (Q44 Z p x0 x1 x2 x3 h0) G s h19 1 4 94 #[.val (.ref p), .val (.int x3)] [] := k
  exact k.outN d4_94 (by decide) (by decide) ⟨rfl, m16, by omega, KK, E, F1, F2, F3, B16⟩
abbrev W45 (l : Launch) (Z : State) (n0 : Nat) (P : Option Value → Heap → Prop) (G : Prop) (s : State) := Wk l Z ({ frames := 0, cells := 0, slots := 0, locals := 0 } : Room) (⟨"com/example/sayso/sayso/Positions", "add", "(I)V"⟩ : MethodName) prog_117_method_2_code 2 none n0 (Ex s ({ frames := 0, cells := 0, slots := 0, locals := 0 } : Room) n0 P G) s
abbrev Q45 (Z : State) (p m : Nat) (x0 x1 x2 x3 x4 : Int32) (h0 : Heap) : Option Value → Heap → Prop := fun v h => v = none ∧ Keep h0 h [p, m] ∧ Exa Z h p "com/example/sayso/sayso/Positions" ∧ Fld Z h p "com/example/sayso/sayso/Positions" "size" "I" (.int (5 : Int32)) ∧ Fld Z h p "com/example/sayso/sayso/Positions" "first" "I" (.int x0) ∧ Fld Z h p "com/example/sayso/sayso/Positions" "more" "[I" (.ref m) ∧ AV Z h m .int [(.int x1), (.int x2), (.int x3), (.int x4)]
set_option maxRecDepth 65536 in
set_option maxHeartbeats 40000000 in
theorem con45 (l : Launch) (Z : State) (a0 : Array Value) (hw : ∀ d ∈ tables_1, d.before a0 Z = true) (p m : Nat) (x0 x1 x2 x3 x4 : Int32) (h0 : Heap) (n0 : Nat) (s_h0 : n0 ≤ h0.size) (n_p : n0 ≤ p) (E : Exa Z h0 p "com/example/sayso/sayso/Positions") (F1 : Fld Z h0 p "com/example/sayso/sayso/Positions" "size" "I" (.int (4 : Int32))) (F2 : Fld Z h0 p "com/example/sayso/sayso/Positions" "first" "I" (.int x0)) (F3 : Fld Z h0 p "com/example/sayso/sayso/Positions" "more" "[I" (.ref m)) (A : AV Z h0 m .int [(.int x1), (.int x2), (.int x3), (.int (0 : Int32))]) (ne : m ≠ p) (n_m : n0 ≤ m) : Con l Z (⟨"com/example/sayso/sayso/Positions", "add", "(I)V"⟩ : MethodName) prog_117_method_2_code 2 none ({ frames := 0, cells := 0, slots := 0, locals := 0 } : Room) #[.ref p, .int x4] h0 n0 (Q45 Z p m x0 x1 x2 x3 x4 h0) := by
  refine Con.of pn4 (Ls := #[.val (.ref p), .val (.int x4)]) (fun m => by first | (simp [entryFrame, mkF, argsToLocals, Value.category]; done) | rfl) ?_
  intro G s k
  have KK : Keep h0 h0 [p, m] := Keep.refl _ _
  have sk := KK.1
  have lp : p < h0.size := F1.lt
  have k : W45 l Z n0 (Q45 Z p m x0 x1 x2 x3 x4 h0) G s h0 0 0 15 #[.val (.ref p), .val (.int x4)] [] := ((k.aloadN d4_0 rfl rfl).getF (hw _ (List.mem_of_getElem? (i := 15) rfl)) F1 d4_1).ifT (pc' := 15) d4_4 (XT.i0_ne_t (by decide)) (by decide)
  have k : W45 l Z n0 (Q45 Z p m x0 x1 x2 x3 x4 h0) G s h0 0 0 40 #[.val (.ref p), .val (.int x4)] [] := ((k.aloadN d4_15 rfl rfl).getF (hw _ (List.mem_of_getElem? (i := 19) rfl)) F3 d4_16).nnT (pc' := 40) d4_19 (by decide)
  have k : W45 l Z n0 (Q45 Z p m x0 x1 x2 x3 x4 h0) G s h0 0 0 46 #[.val (.ref p), .val (.int x4)] [(.int ((4 : Int32) - (1 : Int32)))] := (((k.aloadN d4_40 rfl rfl).getF (hw _ (List.mem_of_getElem? (i := 15) rfl)) F1 d4_41).iconst (1) d4_44 rfl).isub d4_45
  rw [show ((4 : Int32) - (1 : Int32) : Int32) = (3 : Int32) from by decide] at k
  have k : W45 l Z n0 (Q45 Z p m x0 x1 x2 x3 x4 h0) G s h0 0 0 72 #[.val (.ref p), .val (.int x4)] [] := (((k.aloadN d4_46 rfl rfl).getF (hw _ (List.mem_of_getElem? (i := 19) rfl)) F3 d4_47).len (n := 4) A rfl d4_50).icT (pc' := 72) d4_51 (XT.ii_ne_t (by decide)) (by decide)
  have k : W45 l Z n0 (Q45 Z p m x0 x1 x2 x3 x4 h0) G s h0 0 0 82 #[.val (.ref p), .val (.int x4)] [(.int ((4 : Int32) - (1 : Int32))), (.ref m)] := (((((k.aloadN d4_72 rfl rfl).getF (hw _ (List.mem_of_getElem? (i := 19) rfl)) F3 d4_73).aloadN d4_76 rfl rfl).getF (hw _ (List.mem_of_getElem? (i := 15) rfl)) F1 d4_77).iconst (1) d4_80 rfl).isub d4_81
  rw [show ((4 : Int32) - (1 : Int32) : Int32) = (3 : Int32) from by decide] at k
  have k : W45 l Z n0 (Q45 Z p m x0 x1 x2 x3 x4 h0) G s h0 0 0 83 #[.val (.ref p), .val (.int x4)] [(.int x4), (.int (3 : Int32)), (.ref m)] := k.iloadN d4_82 rfl
  obtain ⟨h20, K20, A', k⟩ := k.stI A 3 rfl (by decide) (by simp) n_m d4_83
  have KK : Keep h0 _ [p, m] := KK.trans K20 (allS (Or.inl (by simp)) all0)
  have sk := KK.1
  have E := E.keep K20
  have F1 := F1.keep K20 (nS (by omega) nin0)
  have F2 := F2.keep K20 (nS (by omega) nin0)
  have F3 := F3.keep K20 (nS (by omega) nin0)
  have A : AV Z h20 m .int [(.int x1), (.int x2), (.int x3), (.int x4)] := A'
  have s_h20 : n0 ≤ h20.size := Nat.le_trans (by omega) K20.1
  have k : W45 l Z n0 (Q45 Z p m x0 x1 x2 x3 x4 h0) G s h20 0 0 84 #[.val (.ref p), .val (.int x4)] [] := k
  have k : W45 l Z n0 (Q45 Z p m x0 x1 x2 x3 x4 h0) G s h20 0 0 91 #[.val (.ref p), .val (.int x4)] [(.int ((4 : Int32) + (1 : Int32))), (.ref p)] := ((((k.aloadN d4_84 rfl rfl).dup d4_85 rfl).getF (hw _ (List.mem_of_getElem? (i := 15) rfl)) F1 d4_86).iconst (1) d4_89 rfl).iadd d4_90
  rw [show ((4 : Int32) + (1 : Int32) : Int32) = (5 : Int32) from by decide] at k
  obtain ⟨h21, W21, K21, F1', E', k⟩ := k.putF (ty := .int) (hw _ (List.mem_of_getElem? (i := 15) rfl)) F1 E (Or.inl (hw _ (List.mem_of_getElem? (i := 16) rfl))) (hw _ (List.mem_of_getElem? (i := 2) rfl)) (by decide) rfl rfl n_p d4_91
  have F2 := Fld.other W21 F2 (Or.inr (slot_ne (C := "com/example/sayso/sayso/Positions") (Or.inl (hw _ (List.mem_of_getElem? (i := 18) rfl))) (Or.inl (hw _ (List.mem_of_getElem? (i := 16) rfl))) (by decide) (t := .int) (t' := .int) (by decide) (by decide)))
  have F3 := Fld.other W21 F3 (Or.inr (slot_ne (C := "com/example/sayso/sayso/Positions") (Or.inl (hw _ (List.mem_of_getElem? (i := 20) rfl))) (Or.inl (hw _ (List.mem_of_getElem? (i := 16) rfl))) (by decide) (t := (.array .int)) (t' := .int) (by decide) (by decide)))
  have KK : Keep h0 _ [p, m] := KK.trans K21 (allS (Or.inl (by simp)) all0)
  have sk := KK.1
  have A := A.keep K21 (nS (by omega) nin0)
  have F1 := F1'
  have E := E'
  have s_h21 : n0 ≤ h21.size := Nat.le_trans (by omega) K21.1
  have k : W45 l Z n0 (Q45 Z p m x0 x1 x2 x3 x4 h0) G s h21 0 0 94 #[.val (.ref p), .val (.int x4)] [] := k
  exact k.outN d4_94 (by decide) (by decide) ⟨rfl, KK, E, F1, F2, F3, A⟩
abbrev W46 (l : Launch) (Z : State) (n0 : Nat) (P : Option Value → Heap → Prop) (G : Prop) (s : State) := Wk l Z ({ frames := 2, cells := 1, slots := 8, locals := 60 } : Room) (⟨"com/example/sayso/sayso/Positions", "add", "(I)V"⟩ : MethodName) prog_117_method_2_code 2 none n0 (Ex s ({ frames := 2, cells := 1, slots := 8, locals := 60 } : Room) n0 P G) s
abbrev Q46 (Z : State) (p : Nat) (x0 x1 x2 x3 x4 x5 : Int32) (h0 : Heap) : Option Value → Heap → Prop := fun v h => v = none ∧ ∃ m : Nat, h0.size ≤ m ∧ Keep h0 h [p] ∧ Exa Z h p "com/example/sayso/sayso/Positions" ∧ Fld Z h p "com/example/sayso/sayso/Positions" "size" "I" (.int (6 : Int32)) ∧ Fld Z h p "com/example/sayso/sayso/Positions" "first" "I" (.int x0) ∧ Fld Z h p "com/example/sayso/sayso/Positions" "more" "[I" (.ref m) ∧ AV Z h m .int [(.int x1), (.int x2), (.int x3), (.int x4), (.int x5), (.int (0 : Int32)), (.int (0 : Int32)), (.int (0 : Int32))]
set_option maxRecDepth 65536 in
set_option maxHeartbeats 40000000 in
theorem con46 (l : Launch) (Z : State) (a0 : Array Value) (hw : ∀ d ∈ tables_1, d.before a0 Z = true) (p m : Nat) (x0 x1 x2 x3 x4 x5 : Int32) (h0 : Heap) (n0 : Nat) (s_h0 : n0 ≤ h0.size) (n_p : n0 ≤ p) (E : Exa Z h0 p "com/example/sayso/sayso/Positions") (F1 : Fld Z h0 p "com/example/sayso/sayso/Positions" "size" "I" (.int (5 : Int32))) (F2 : Fld Z h0 p "com/example/sayso/sayso/Positions" "first" "I" (.int x0)) (F3 : Fld Z h0 p "com/example/sayso/sayso/Positions" "more" "[I" (.ref m)) (A : AV Z h0 m .int [(.int x1), (.int x2), (.int x3), (.int x4)]) (ne : m ≠ p) (n_m : n0 ≤ m) : Con l Z (⟨"com/example/sayso/sayso/Positions", "add", "(I)V"⟩ : MethodName) prog_117_method_2_code 2 none ({ frames := 2, cells := 1, slots := 8, locals := 60 } : Room) #[.ref p, .int x5] h0 n0 (Q46 Z p x0 x1 x2 x3 x4 x5 h0) := by
  refine Con.of pn4 (Ls := #[.val (.ref p), .val (.int x5)]) (fun m => by first | (simp [entryFrame, mkF, argsToLocals, Value.category]; done) | rfl) ?_
  intro G s k
  have KK : Keep h0 h0 [p] := Keep.refl _ _
  have sk := KK.1
  have lp : p < h0.size := F1.lt
  have k : W46 l Z n0 (Q46 Z p x0 x1 x2 x3 x4 x5 h0) G s h0 0 0 15 #[.val (.ref p), .val (.int x5)] [] := ((k.aloadN d4_0 rfl rfl).getF (hw _ (List.mem_of_getElem? (i := 15) rfl)) F1 d4_1).ifT (pc' := 15) d4_4 (XT.i0_ne_t (by decide)) (by decide)
  have k : W46 l Z n0 (Q46 Z p x0 x1 x2 x3 x4 x5 h0) G s h0 0 0 40 #[.val (.ref p), .val (.int x5)] [] := ((k.aloadN d4_15 rfl rfl).getF (hw _ (List.mem_of_getElem? (i := 19) rfl)) F3 d4_16).nnT (pc' := 40) d4_19 (by decide)
  have k : W46 l Z n0 (Q46 Z p x0 x1 x2 x3 x4 x5 h0) G s h0 0 0 46 #[.val (.ref p), .val (.int x5)] [(.int ((5 : Int32) - (1 : Int32)))] := (((k.aloadN d4_40 rfl rfl).getF (hw _ (List.mem_of_getElem? (i := 15) rfl)) F1 d4_41).iconst (1) d4_44 rfl).isub d4_45
  rw [show ((5 : Int32) - (1 : Int32) : Int32) = (4 : Int32) from by decide] at k
  have k : W46 l Z n0 (Q46 Z p x0 x1 x2 x3 x4 x5 h0) G s h0 0 0 54 #[.val (.ref p), .val (.int x5)] [] := (((k.aloadN d4_46 rfl rfl).getF (hw _ (List.mem_of_getElem? (i := 19) rfl)) F3 d4_47).len (n := 4) A rfl d4_50).icF d4_51 (XT.ii_ne_f (by decide))
  have k : W46 l Z n0 (Q46 Z p x0 x1 x2 x3 x4 x5 h0) G s h0 0 0 64 #[.val (.ref p), .val (.int x5)] [(.int (4 : Int32)), (.ref m), (.ref p)] := (((((k.aloadN d4_54 rfl rfl).aloadN d4_55 rfl rfl).getF (hw _ (List.mem_of_getElem? (i := 19) rfl)) F3 d4_56).aloadN d4_59 rfl rfl).getF (hw _ (List.mem_of_getElem? (i := 19) rfl)) F3 d4_60).len (n := 4) A rfl d4_63
  have k : W46 l Z n0 (Q46 Z p x0 x1 x2 x3 x4 x5 h0) G s h0 0 0 66 #[.val (.ref p), .val (.int x5)] [(.int ((4 : Int32) * (2 : Int32))), (.ref m), (.ref p)] := (k.iconst (2) d4_64 rfl).imul d4_65
  rw [show ((4 : Int32) * (2 : Int32) : Int32) = (8 : Int32) from by decide] at k
  obtain ⟨v22, h22, ⟨m22, rfl, g22, K22, B22⟩, k⟩ := k.callS (hw _ (List.mem_of_getElem? (i := 21) rfl)) (hw _ (List.mem_of_getElem? (i := 22) rfl)) (hw _ (List.mem_of_getElem? (i := 23) rfl)) (hw _ (List.mem_of_getElem? (i := 24) rfl)) (by decide) (con34 l Z a0 hw m x1 x2 x3 x4 h0 n0 (by omega) A) (argsL := [(.ref m), (.int (8 : Int32))]) (rest := [(.ref p)]) (lenOf pd3 rfl) d4_66 rfl rfl 1 (Nat.le_of_eq rfl) (by decide) (by decide) (by decide) (by decide)
  have KK : Keep h0 _ [p] := KK.trans K22 all0
  have sk := KK.1
  have E := E.keep K22
  have F1 := F1.keep K22 nin0
  have F2 := F2.keep K22 nin0
  have F3 := F3.keep K22 nin0
  have A := A.keep K22 nin0
  have s_h22 : n0 ≤ h22.size := Nat.le_trans (by omega) K22.1
  have k : W46 l Z n0 (Q46 Z p x0 x1 x2 x3 x4 x5 h0) G s h22 1 8 69 #[.val (.ref p), .val (.int x5)] [(.ref m22), (.ref p)] := k
  have n_m22 : n0 ≤ m22 := by omega
  have o_m22 : p < m22 := by omega
  obtain ⟨h23, W23, K23, F3', E', k⟩ := k.putF (ty := (.array .int)) (hw _ (List.mem_of_getElem? (i := 19) rfl)) F3 E (Or.inl (hw _ (List.mem_of_getElem? (i := 20) rfl))) (hw _ (List.mem_of_getElem? (i := 2) rfl)) (by decide) rfl rfl n_p d4_69
  have F1 := Fld.other W23 F1 (Or.inr (slot_ne (C := "com/example/sayso/sayso/Positions") (Or.inl (hw _ (List.mem_of_getElem? (i := 16) rfl))) (Or.inl (hw _ (List.mem_of_getElem? (i := 20) rfl))) (by decide) (t := .int) (t' := (.array .int)) (by decide) (by decide)))
  have F2 := Fld.other W23 F2 (Or.inr (slot_ne (C := "com/example/sayso/sayso/Positions") (Or.inl (hw _ (List.mem_of_getElem? (i := 18) rfl))) (Or.inl (hw _ (List.mem_of_getElem? (i := 20) rfl))) (by decide) (t := .int) (t' := (.array .int)) (by decide) (by decide)))
  have KK : Keep h0 _ [p] := KK.trans K23 (allS (Or.inl (by simp)) all0)
  have sk := KK.1
  have B22 := B22.keep K23 (nS (by omega) nin0)
  have F3 := F3'
  have E := E'
  have s_h23 : n0 ≤ h23.size := Nat.le_trans (by omega) K23.1
  have k : W46 l Z n0 (Q46 Z p x0 x1 x2 x3 x4 x5 h0) G s h23 1 8 72 #[.val (.ref p), .val (.int x5)] [] := k
  have k : W46 l Z n0 (Q46 Z p x0 x1 x2 x3 x4 x5 h0) G s h23 1 8 82 #[.val (.ref p), .val (.int x5)] [(.int ((5 : Int32) - (1 : Int32))), (.ref m22)] := (((((k.aloadN d4_72 rfl rfl).getF (hw _ (List.mem_of_getElem? (i := 19) rfl)) F3 d4_73).aloadN d4_76 rfl rfl).getF (hw _ (List.mem_of_getElem? (i := 15) rfl)) F1 d4_77).iconst (1) d4_80 rfl).isub d4_81
  rw [show ((5 : Int32) - (1 : Int32) : Int32) = (4 : Int32) from by decide] at k
  have k : W46 l Z n0 (Q46 Z p x0 x1 x2 x3 x4 x5 h0) G s h23 1 8 83 #[.val (.ref p), .val (.int x5)] [(.int x5), (.int (4 : Int32)), (.ref m22)] := k.iloadN d4_82 rfl
  obtain ⟨h24, K24, B22', k⟩ := k.stI B22 4 rfl (by decide) (by simp) n_m22 d4_83
  have KK : Keep h0 _ [p] := KK.trans K24 (allS (Or.inr (by omega)) all0)
  have sk := KK.1
  have E := E.keep K24
  have F1 := F1.keep K24 (nS (by omega) nin0)
  have F2 := F2.keep K24 (nS (by omega) nin0)
  have F3 := F3.keep K24 (nS (by omega) nin0)
  have B22 : AV Z h24 m22 .int [(.int x1), (.int x2), (.int x3), (.int x4), (.int x5), (.int (0 : Int32)), (.int (0 : Int32)), (.int (0 : Int32))] := B22'
  have s_h24 : n0 ≤ h24.size := Nat.le_trans (by omega) K24.1
  have k : W46 l Z n0 (Q46 Z p x0 x1 x2 x3 x4 x5 h0) G s h24 1 8 84 #[.val (.ref p), .val (.int x5)] [] := k
  have k : W46 l Z n0 (Q46 Z p x0 x1 x2 x3 x4 x5 h0) G s h24 1 8 91 #[.val (.ref p), .val (.int x5)] [(.int ((5 : Int32) + (1 : Int32))), (.ref p)] := ((((k.aloadN d4_84 rfl rfl).dup d4_85 rfl).getF (hw _ (List.mem_of_getElem? (i := 15) rfl)) F1 d4_86).iconst (1) d4_89 rfl).iadd d4_90
  rw [show ((5 : Int32) + (1 : Int32) : Int32) = (6 : Int32) from by decide] at k
  obtain ⟨h25, W25, K25, F1', E', k⟩ := k.putF (ty := .int) (hw _ (List.mem_of_getElem? (i := 15) rfl)) F1 E (Or.inl (hw _ (List.mem_of_getElem? (i := 16) rfl))) (hw _ (List.mem_of_getElem? (i := 2) rfl)) (by decide) rfl rfl n_p d4_91
  have F2 := Fld.other W25 F2 (Or.inr (slot_ne (C := "com/example/sayso/sayso/Positions") (Or.inl (hw _ (List.mem_of_getElem? (i := 18) rfl))) (Or.inl (hw _ (List.mem_of_getElem? (i := 16) rfl))) (by decide) (t := .int) (t' := .int) (by decide) (by decide)))
  have F3 := Fld.other W25 F3 (Or.inr (slot_ne (C := "com/example/sayso/sayso/Positions") (Or.inl (hw _ (List.mem_of_getElem? (i := 20) rfl))) (Or.inl (hw _ (List.mem_of_getElem? (i := 16) rfl))) (by decide) (t := (.array .int)) (t' := .int) (by decide) (by decide)))
  have KK : Keep h0 _ [p] := KK.trans K25 (allS (Or.inl (by simp)) all0)
  have sk := KK.1
  have B22 := B22.keep K25 (nS (by omega) nin0)
  have F1 := F1'
  have E := E'
  have s_h25 : n0 ≤ h25.size := Nat.le_trans (by omega) K25.1
  have k : W46 l Z n0 (Q46 Z p x0 x1 x2 x3 x4 x5 h0) G s h25 1 8 94 #[.val (.ref p), .val (.int x5)] [] := k
  exact k.outN d4_94 (by decide) (by decide) ⟨rfl, m22, by omega, KK, E, F1, F2, F3, B22⟩
abbrev W47 (l : Launch) (Z : State) (n0 : Nat) (P : Option Value → Heap → Prop) (G : Prop) (s : State) := Wk l Z ({ frames := 0, cells := 0, slots := 0, locals := 0 } : Room) (⟨"com/example/sayso/sayso/Positions", "add", "(I)V"⟩ : MethodName) prog_117_method_2_code 2 none n0 (Ex s ({ frames := 0, cells := 0, slots := 0, locals := 0 } : Room) n0 P G) s
abbrev Q47 (Z : State) (p m : Nat) (x0 x1 x2 x3 x4 x5 x6 : Int32) (h0 : Heap) : Option Value → Heap → Prop := fun v h => v = none ∧ Keep h0 h [p, m] ∧ Exa Z h p "com/example/sayso/sayso/Positions" ∧ Fld Z h p "com/example/sayso/sayso/Positions" "size" "I" (.int (7 : Int32)) ∧ Fld Z h p "com/example/sayso/sayso/Positions" "first" "I" (.int x0) ∧ Fld Z h p "com/example/sayso/sayso/Positions" "more" "[I" (.ref m) ∧ AV Z h m .int [(.int x1), (.int x2), (.int x3), (.int x4), (.int x5), (.int x6), (.int (0 : Int32)), (.int (0 : Int32))]
set_option maxRecDepth 65536 in
set_option maxHeartbeats 40000000 in
theorem con47 (l : Launch) (Z : State) (a0 : Array Value) (hw : ∀ d ∈ tables_1, d.before a0 Z = true) (p m : Nat) (x0 x1 x2 x3 x4 x5 x6 : Int32) (h0 : Heap) (n0 : Nat) (s_h0 : n0 ≤ h0.size) (n_p : n0 ≤ p) (E : Exa Z h0 p "com/example/sayso/sayso/Positions") (F1 : Fld Z h0 p "com/example/sayso/sayso/Positions" "size" "I" (.int (6 : Int32))) (F2 : Fld Z h0 p "com/example/sayso/sayso/Positions" "first" "I" (.int x0)) (F3 : Fld Z h0 p "com/example/sayso/sayso/Positions" "more" "[I" (.ref m)) (A : AV Z h0 m .int [(.int x1), (.int x2), (.int x3), (.int x4), (.int x5), (.int (0 : Int32)), (.int (0 : Int32)), (.int (0 : Int32))]) (ne : m ≠ p) (n_m : n0 ≤ m) : Con l Z (⟨"com/example/sayso/sayso/Positions", "add", "(I)V"⟩ : MethodName) prog_117_method_2_code 2 none ({ frames := 0, cells := 0, slots := 0, locals := 0 } : Room) #[.ref p, .int x6] h0 n0 (Q47 Z p m x0 x1 x2 x3 x4 x5 x6 h0) := by
  refine Con.of pn4 (Ls := #[.val (.ref p), .val (.int x6)]) (fun m => by first | (simp [entryFrame, mkF, argsToLocals, Value.category]; done) | rfl) ?_
  intro G s k
  have KK : Keep h0 h0 [p, m] := Keep.refl _ _
  have sk := KK.1
  have lp : p < h0.size := F1.lt
  have k : W47 l Z n0 (Q47 Z p m x0 x1 x2 x3 x4 x5 x6 h0) G s h0 0 0 15 #[.val (.ref p), .val (.int x6)] [] := ((k.aloadN d4_0 rfl rfl).getF (hw _ (List.mem_of_getElem? (i := 15) rfl)) F1 d4_1).ifT (pc' := 15) d4_4 (XT.i0_ne_t (by decide)) (by decide)
  have k : W47 l Z n0 (Q47 Z p m x0 x1 x2 x3 x4 x5 x6 h0) G s h0 0 0 40 #[.val (.ref p), .val (.int x6)] [] := ((k.aloadN d4_15 rfl rfl).getF (hw _ (List.mem_of_getElem? (i := 19) rfl)) F3 d4_16).nnT (pc' := 40) d4_19 (by decide)
  have k : W47 l Z n0 (Q47 Z p m x0 x1 x2 x3 x4 x5 x6 h0) G s h0 0 0 46 #[.val (.ref p), .val (.int x6)] [(.int ((6 : Int32) - (1 : Int32)))] := (((k.aloadN d4_40 rfl rfl).getF (hw _ (List.mem_of_getElem? (i := 15) rfl)) F1 d4_41).iconst (1) d4_44 rfl).isub d4_45
  rw [show ((6 : Int32) - (1 : Int32) : Int32) = (5 : Int32) from by decide] at k
  have k : W47 l Z n0 (Q47 Z p m x0 x1 x2 x3 x4 x5 x6 h0) G s h0 0 0 72 #[.val (.ref p), .val (.int x6)] [] := (((k.aloadN d4_46 rfl rfl).getF (hw _ (List.mem_of_getElem? (i := 19) rfl)) F3 d4_47).len (n := 8) A rfl d4_50).icT (pc' := 72) d4_51 (XT.ii_ne_t (by decide)) (by decide)
  have k : W47 l Z n0 (Q47 Z p m x0 x1 x2 x3 x4 x5 x6 h0) G s h0 0 0 82 #[.val (.ref p), .val (.int x6)] [(.int ((6 : Int32) - (1 : Int32))), (.ref m)] := (((((k.aloadN d4_72 rfl rfl).getF (hw _ (List.mem_of_getElem? (i := 19) rfl)) F3 d4_73).aloadN d4_76 rfl rfl).getF (hw _ (List.mem_of_getElem? (i := 15) rfl)) F1 d4_77).iconst (1) d4_80 rfl).isub d4_81
  rw [show ((6 : Int32) - (1 : Int32) : Int32) = (5 : Int32) from by decide] at k
  have k : W47 l Z n0 (Q47 Z p m x0 x1 x2 x3 x4 x5 x6 h0) G s h0 0 0 83 #[.val (.ref p), .val (.int x6)] [(.int x6), (.int (5 : Int32)), (.ref m)] := k.iloadN d4_82 rfl
  obtain ⟨h26, K26, A', k⟩ := k.stI A 5 rfl (by decide) (by simp) n_m d4_83
  have KK : Keep h0 _ [p, m] := KK.trans K26 (allS (Or.inl (by simp)) all0)
  have sk := KK.1
  have E := E.keep K26
  have F1 := F1.keep K26 (nS (by omega) nin0)
  have F2 := F2.keep K26 (nS (by omega) nin0)
  have F3 := F3.keep K26 (nS (by omega) nin0)
  have A : AV Z h26 m .int [(.int x1), (.int x2), (.int x3), (.int x4), (.int x5), (.int x6), (.int (0 : Int32)), (.int (0 : Int32))] := A'
  have s_h26 : n0 ≤ h26.size := Nat.le_trans (by omega) K26.1
  have k : W47 l Z n0 (Q47 Z p m x0 x1 x2 x3 x4 x5 x6 h0) G s h26 0 0 84 #[.val (.ref p), .val (.int x6)] [] := k
  have k : W47 l Z n0 (Q47 Z p m x0 x1 x2 x3 x4 x5 x6 h0) G s h26 0 0 91 #[.val (.ref p), .val (.int x6)] [(.int ((6 : Int32) + (1 : Int32))), (.ref p)] := ((((k.aloadN d4_84 rfl rfl).dup d4_85 rfl).getF (hw _ (List.mem_of_getElem? (i := 15) rfl)) F1 d4_86).iconst (1) d4_89 rfl).iadd d4_90
  rw [show ((6 : Int32) + (1 : Int32) : Int32) = (7 : Int32) from by decide] at k
  obtain ⟨h27, W27, K27, F1', E', k⟩ := k.putF (ty := .int) (hw _ (List.mem_of_getElem? (i := 15) rfl)) F1 E (Or.inl (hw _ (List.mem_of_getElem? (i := 16) rfl))) (hw _ (List.mem_of_getElem? (i := 2) rfl)) (by decide) rfl rfl n_p d4_91
  have F2 := Fld.other W27 F2 (Or.inr (slot_ne (C := "com/example/sayso/sayso/Positions") (Or.inl (hw _ (List.mem_of_getElem? (i := 18) rfl))) (Or.inl (hw _ (List.mem_of_getElem? (i := 16) rfl))) (by decide) (t := .int) (t' := .int) (by decide) (by decide)))
  have F3 := Fld.other W27 F3 (Or.inr (slot_ne (C := "com/example/sayso/sayso/Positions") (Or.inl (hw _ (List.mem_of_getElem? (i := 20) rfl))) (Or.inl (hw _ (List.mem_of_getElem? (i := 16) rfl))) (by decide) (t := (.array .int)) (t' := .int) (by decide) (by decide)))
  have KK : Keep h0 _ [p, m] := KK.trans K27 (allS (Or.inl (by simp)) all0)
  have sk := KK.1
  have A := A.keep K27 (nS (by omega) nin0)
  have F1 := F1'
  have E := E'
  have s_h27 : n0 ≤ h27.size := Nat.le_trans (by omega) K27.1
  have k : W47 l Z n0 (Q47 Z p m x0 x1 x2 x3 x4 x5 x6 h0) G s h27 0 0 94 #[.val (.ref p), .val (.int x6)] [] := k
  exact k.outN d4_94 (by decide) (by decide) ⟨rfl, KK, E, F1, F2, F3, A⟩
theorem d5_0 : decode prog_117_method_4_code 0 = .ok (.iload_n 1, 1) := by decide +kernel
theorem d5_1 : decode prog_117_method_4_code 1 = .ok (.ifCond .ne 10, 3) := by decide +kernel
theorem d5_4 : decode prog_117_method_4_code 4 = .ok (.aload_n 0, 1) := by decide +kernel
theorem d5_5 : decode prog_117_method_4_code 5 = .ok (.getfield 13, 3) := by decide +kernel
theorem d5_8 : decode prog_117_method_4_code 8 = .ok (.goto 11, 3) := by decide +kernel
theorem d5_11 : decode prog_117_method_4_code 11 = .ok (.aload_n 0, 1) := by decide +kernel
theorem d5_12 : decode prog_117_method_4_code 12 = .ok (.getfield 16, 3) := by decide +kernel
theorem d5_15 : decode prog_117_method_4_code 15 = .ok (.iload_n 1, 1) := by decide +kernel
theorem d5_16 : decode prog_117_method_4_code 16 = .ok (.iconst 1, 1) := by decide +kernel
theorem d5_17 : decode prog_117_method_4_code 17 = .ok (.isub, 1) := by decide +kernel
theorem d5_18 : decode prog_117_method_4_code 18 = .ok (.iaload, 1) := by decide +kernel
theorem d5_19 : decode prog_117_method_4_code 19 = .ok (.ireturn, 1) := by decide +kernel
theorem pn5 : plainFor (⟨"com/example/sayso/sayso/Positions", "get", "(I)I"⟩ : MethodName) = true := plainFor_of_name (show plainName "com/example/sayso/sayso/Positions" = true by first | (simp [plainName, overriddenIn]; done) | decide +kernel)
theorem pd5 : parseMethodDescriptor "(I)I" = some ⟨[.int], some .int⟩ := by decide +kernel
abbrev W5 (l : Launch) (Z : State) (n0 : Nat) (P : Option Value → Heap → Prop) (G : Prop) (s : State) := Wk l Z ({ frames := 0, cells := 0, slots := 0, locals := 0 } : Room) (⟨"com/example/sayso/sayso/Positions", "get", "(I)I"⟩ : MethodName) prog_117_method_4_code 2 (some .int) n0 (Ex s ({ frames := 0, cells := 0, slots := 0, locals := 0 } : Room) n0 P G) s
abbrev Q5 (r : Int32) (h0 : Heap) : Option Value → Heap → Prop := fun v h => h0 = h ∧ v = some (.int r)
set_option maxRecDepth 65536 in
set_option maxHeartbeats 40000000 in
theorem con5a (l : Launch) (Z : State) (a0 : Array Value) (hw : ∀ d ∈ tables_1, d.before a0 Z = true) (p : Nat) (x0 : Int32) (h0 : Heap) (n0 : Nat) (F2 : Fld Z h0 p "com/example/sayso/sayso/Positions" "first" "I" (.int x0)) : Con l Z (⟨"com/example/sayso/sayso/Positions", "get", "(I)I"⟩ : MethodName) prog_117_method_4_code 2 (some .int) ({ frames := 0, cells := 0, slots := 0, locals := 0 } : Room) #[.ref p, .int (0 : Int32)] h0 n0 (Q5 x0 h0) := by
  refine Con.of pn5 (Ls := #[.val (.ref p), .val (.int (0 : Int32))]) (fun m => by first | (simp [entryFrame, mkF, argsToLocals, Value.category]; done) | rfl) ?_
  intro G s k
  have k : W5 l Z n0 (Q5 x0 h0) G s h0 0 0 4 #[.val (.ref p), .val (.int (0 : Int32))] [] := (k.iloadN d5_0 rfl).ifF d5_1 (XT.i0_ne_f (by decide))
  have k : W5 l Z n0 (Q5 x0 h0) G s h0 0 0 19 #[.val (.ref p), .val (.int (0 : Int32))] [(.int x0)] := ((k.aloadN d5_4 rfl rfl).getF (hw _ (List.mem_of_getElem? (i := 17) rfl)) F2 d5_5).goto (pc' := 19) d5_8 (by decide)
  exact k.outI d5_19 (by decide) (by decide) ⟨rfl, rfl⟩
set_option maxRecDepth 65536 in
set_option maxHeartbeats 40000000 in
theorem con5b (l : Launch) (Z : State) (a0 : Array Value) (hw : ∀ d ∈ tables_1, d.before a0 Z = true) (p m : Nat) (i r : Int32) (vs : List Value) (h0 : Heap) (n0 : Nat) (F3 : Fld Z h0 p "com/example/sayso/sayso/Positions" "more" "[I" (.ref m)) (A : AV Z h0 m .int vs) (hi : ¬ i = 0) (g0 : ¬ i - (1 : Int32) < 0) (g1 : vs[(i - (1 : Int32)).toNatClampNeg]? = some (.int r)) : Con l Z (⟨"com/example/sayso/sayso/Positions", "get", "(I)I"⟩ : MethodName) prog_117_method_4_code 2 (some .int) ({ frames := 0, cells := 0, slots := 0, locals := 0 } : Room) #[.ref p, .int i] h0 n0 (Q5 r h0) := by
  refine Con.of pn5 (Ls := #[.val (.ref p), .val (.int i)]) (fun m => by first | (simp [entryFrame, mkF, argsToLocals, Value.category]; done) | rfl) ?_
  intro G s k
  have k : W5 l Z n0 (Q5 r h0) G s h0 0 0 1 #[.val (.ref p), .val (.int i)] [(.int i)] := k.iloadN d5_0 rfl
  have k : W5 l Z n0 (Q5 r h0) G s h0 0 0 11 #[.val (.ref p), .val (.int i)] [] := k.ifT (pc' := 11) d5_1 (XT.i0_ne_t hi) (by decide)
  have k : W5 l Z n0 (Q5 r h0) G s h0 0 0 18 #[.val (.ref p), .val (.int i)] [(.int (i - (1 : Int32))), (.ref m)] := ((((k.aloadN d5_11 rfl rfl).getF (hw _ (List.mem_of_getElem? (i := 19) rfl)) F3 d5_12).iloadN d5_15 rfl).iconst (1) d5_16 rfl).isub d5_17
  have k : W5 l Z n0 (Q5 r h0) G s h0 0 0 19 #[.val (.ref p), .val (.int i)] [(.int r)] := k.ldI A g0 g1 d5_18
  exact k.outI d5_19 (by decide) (by decide) ⟨rfl, rfl⟩
theorem pn0 : plainFor x = true := plainFor_of_name (show plainName "com/example/sayso/sayso/PositionsGetPinLaw" = true by first | (simp [plainName, overriddenIn]; done) | decide +kernel)
abbrev W0 (l : Launch) (Z : State) (n0 : Nat) (P : Option Value → Heap → Prop) (G : Prop) (s : State) := Wk l Z room_1 x code maxLocals ret n0 (Ex s room_1 n0 P G) s
abbrev Q0 : Option Value → Heap → Prop := fun v h => v = some (.int 1)
set_option maxRecDepth 65536 in
set_option maxHeartbeats 40000000 in
theorem con0 (l : Launch) (Z : State) (a0 : Array Value) (hw : ∀ d ∈ tables_1, d.before a0 Z = true) (p0 p1 p2 p3 p4 p5 : Int32) (h0 : Heap) (n0 : Nat) (Z0 : n0 ≤ h0.size) : Con l Z x code maxLocals ret room_1 #[.int p0, .int p1, .int p2, .int p3, .int p4, .int p5] h0 n0 Q0 := by
  refine Con.of pn0 (Ls := #[.val (.int p0), .val (.int p1), .val (.int p2), .val (.int p3), .val (.int p4), .val (.int p5), .unset, .unset, .unset, .unset]) (fun m => by first | (simp [entryFrame, mkF, argsToLocals, Value.category, maxLocals]; done) | rfl) ?_
  intro G s k
  have k : W0 l Z n0 Q0 G s h0 0 0 2 #[.val (.int p0), .val (.int p1), .val (.int p2), .val (.int p3), .val (.int p4), .val (.int p5), .unset, .unset, .unset, .unset] [(.int (7 : Int32))] := k.bipush (7) at_0 rfl
  obtain ⟨h28, K28, A28, k⟩ := k.newA (hw _ (List.mem_of_getElem? (i := 0) rfl)) at_2 7 rfl (by decide) (by decide) (by decide) (by decide)
  obtain ⟨a28, ea28⟩ : ∃ z, z = h0.size := ⟨_, rfl⟩
  rw [← ea28] at A28 k
  have n_a28 : n0 ≤ a28 := by omega
  have A28 : AV Z h28 a28 .int [(.int (0 : Int32)), (.int (0 : Int32)), (.int (0 : Int32)), (.int (0 : Int32)), (.int (0 : Int32)), (.int (0 : Int32)), (.int (0 : Int32))] := A28
  have s_h28 : n0 ≤ h28.size := Nat.le_trans (by omega) K28.1
  have k : W0 l Z n0 Q0 G s h28 1 7 4 #[.val (.int p0), .val (.int p1), .val (.int p2), .val (.int p3), .val (.int p4), .val (.int p5), .unset, .unset, .unset, .unset] [(.ref a28)] := k
  have k : W0 l Z n0 Q0 G s h28 1 7 7 #[.val (.int p0), .val (.int p1), .val (.int p2), .val (.int p3), .val (.int p4), .val (.int p5), .unset, .unset, .unset, .unset] [(.int p0), (.int (0 : Int32)), (.ref a28), (.ref a28)] := ((k.dup at_4 rfl).iconst (0) at_5 rfl).iloadN at_6 rfl
  obtain ⟨h29, K29, A28', k⟩ := k.stI A28 0 rfl (by decide) (by simp) n_a28 at_7
  have A28 : AV Z h29 a28 .int [(.int p0), (.int (0 : Int32)), (.int (0 : Int32)), (.int (0 : Int32)), (.int (0 : Int32)), (.int (0 : Int32)), (.int (0 : Int32))] := A28'
  have s_h29 : n0 ≤ h29.size := Nat.le_trans (by omega) K29.1
  have k : W0 l Z n0 Q0 G s h29 1 7 8 #[.val (.int p0), .val (.int p1), .val (.int p2), .val (.int p3), .val (.int p4), .val (.int p5), .unset, .unset, .unset, .unset] [(.ref a28)] := k
  have k : W0 l Z n0 Q0 G s h29 1 7 11 #[.val (.int p0), .val (.int p1), .val (.int p2), .val (.int p3), .val (.int p4), .val (.int p5), .unset, .unset, .unset, .unset] [(.int p1), (.int (1 : Int32)), (.ref a28), (.ref a28)] := ((k.dup at_8 rfl).iconst (1) at_9 rfl).iloadN at_10 rfl
  obtain ⟨h30, K30, A28', k⟩ := k.stI A28 1 rfl (by decide) (by simp) n_a28 at_11
  have A28 : AV Z h30 a28 .int [(.int p0), (.int p1), (.int (0 : Int32)), (.int (0 : Int32)), (.int (0 : Int32)), (.int (0 : Int32)), (.int (0 : Int32))] := A28'
  have s_h30 : n0 ≤ h30.size := Nat.le_trans (by omega) K30.1
  have k : W0 l Z n0 Q0 G s h30 1 7 12 #[.val (.int p0), .val (.int p1), .val (.int p2), .val (.int p3), .val (.int p4), .val (.int p5), .unset, .unset, .unset, .unset] [(.ref a28)] := k
  have k : W0 l Z n0 Q0 G s h30 1 7 15 #[.val (.int p0), .val (.int p1), .val (.int p2), .val (.int p3), .val (.int p4), .val (.int p5), .unset, .unset, .unset, .unset] [(.int p2), (.int (2 : Int32)), (.ref a28), (.ref a28)] := ((k.dup at_12 rfl).iconst (2) at_13 rfl).iloadN at_14 rfl
  obtain ⟨h31, K31, A28', k⟩ := k.stI A28 2 rfl (by decide) (by simp) n_a28 at_15
  have A28 : AV Z h31 a28 .int [(.int p0), (.int p1), (.int p2), (.int (0 : Int32)), (.int (0 : Int32)), (.int (0 : Int32)), (.int (0 : Int32))] := A28'
  have s_h31 : n0 ≤ h31.size := Nat.le_trans (by omega) K31.1
  have k : W0 l Z n0 Q0 G s h31 1 7 16 #[.val (.int p0), .val (.int p1), .val (.int p2), .val (.int p3), .val (.int p4), .val (.int p5), .unset, .unset, .unset, .unset] [(.ref a28)] := k
  have k : W0 l Z n0 Q0 G s h31 1 7 19 #[.val (.int p0), .val (.int p1), .val (.int p2), .val (.int p3), .val (.int p4), .val (.int p5), .unset, .unset, .unset, .unset] [(.int p3), (.int (3 : Int32)), (.ref a28), (.ref a28)] := ((k.dup at_16 rfl).iconst (3) at_17 rfl).iloadN at_18 rfl
  obtain ⟨h32, K32, A28', k⟩ := k.stI A28 3 rfl (by decide) (by simp) n_a28 at_19
  have A28 : AV Z h32 a28 .int [(.int p0), (.int p1), (.int p2), (.int p3), (.int (0 : Int32)), (.int (0 : Int32)), (.int (0 : Int32))] := A28'
  have s_h32 : n0 ≤ h32.size := Nat.le_trans (by omega) K32.1
  have k : W0 l Z n0 Q0 G s h32 1 7 20 #[.val (.int p0), .val (.int p1), .val (.int p2), .val (.int p3), .val (.int p4), .val (.int p5), .unset, .unset, .unset, .unset] [(.ref a28)] := k
  have k : W0 l Z n0 Q0 G s h32 1 7 24 #[.val (.int p0), .val (.int p1), .val (.int p2), .val (.int p3), .val (.int p4), .val (.int p5), .unset, .unset, .unset, .unset] [(.int p4), (.int (4 : Int32)), (.ref a28), (.ref a28)] := ((k.dup at_20 rfl).iconst (4) at_21 rfl).iload at_22 rfl
  obtain ⟨h33, K33, A28', k⟩ := k.stI A28 4 rfl (by decide) (by simp) n_a28 at_24
  have A28 : AV Z h33 a28 .int [(.int p0), (.int p1), (.int p2), (.int p3), (.int p4), (.int (0 : Int32)), (.int (0 : Int32))] := A28'
  have s_h33 : n0 ≤ h33.size := Nat.le_trans (by omega) K33.1
  have k : W0 l Z n0 Q0 G s h33 1 7 25 #[.val (.int p0), .val (.int p1), .val (.int p2), .val (.int p3), .val (.int p4), .val (.int p5), .unset, .unset, .unset, .unset] [(.ref a28)] := k
  have k : W0 l Z n0 Q0 G s h33 1 7 30 #[.val (.int p0), .val (.int p1), .val (.int p2), .val (.int p3), .val (.int p4), .val (.int p5), .unset, .unset, .unset, .unset] [(.int (p0 ^^^ (-1 : Int32))), (.int (5 : Int32)), (.ref a28), (.ref a28)] := ((((k.dup at_25 rfl).iconst (5) at_26 rfl).iloadN at_27 rfl).iconst (-1) at_28 rfl).ixor at_29
  obtain ⟨h34, K34, A28', k⟩ := k.stI A28 5 rfl (by decide) (by simp) n_a28 at_30
  have A28 : AV Z h34 a28 .int [(.int p0), (.int p1), (.int p2), (.int p3), (.int p4), (.int (p0 ^^^ (-1 : Int32))), (.int (0 : Int32))] := A28'
  have s_h34 : n0 ≤ h34.size := Nat.le_trans (by omega) K34.1
  have k : W0 l Z n0 Q0 G s h34 1 7 31 #[.val (.int p0), .val (.int p1), .val (.int p2), .val (.int p3), .val (.int p4), .val (.int p5), .unset, .unset, .unset, .unset] [(.ref a28)] := k
  have k : W0 l Z n0 Q0 G s h34 1 7 37 #[.val (.int p0), .val (.int p1), .val (.int p2), .val (.int p3), .val (.int p4), .val (.int p5), .unset, .unset, .unset, .unset] [(.int (p1 ^^^ (-1 : Int32))), (.int (6 : Int32)), (.ref a28), (.ref a28)] := ((((k.dup at_31 rfl).bipush (6) at_32 rfl).iloadN at_34 rfl).iconst (-1) at_35 rfl).ixor at_36
  obtain ⟨h35, K35, A28', k⟩ := k.stI A28 6 rfl (by decide) (by simp) n_a28 at_37
  have A28 : AV Z h35 a28 .int [(.int p0), (.int p1), (.int p2), (.int p3), (.int p4), (.int (p0 ^^^ (-1 : Int32))), (.int (p1 ^^^ (-1 : Int32)))] := A28'
  have s_h35 : n0 ≤ h35.size := Nat.le_trans (by omega) K35.1
  have k : W0 l Z n0 Q0 G s h35 1 7 38 #[.val (.int p0), .val (.int p1), .val (.int p2), .val (.int p3), .val (.int p4), .val (.int p5), .unset, .unset, .unset, .unset] [(.ref a28)] := k
  have k : W0 l Z n0 Q0 G s h35 1 7 49 #[.val (.int p0), .val (.int p1), .val (.int p2), .val (.int p3), .val (.int p4), .val (.int p5), .val (.ref a28), .unset, .unset, .unset] [(.int (7 : Int32)), (.int (p5 &&& (255 : Int32))), (.int (1 : Int32))] := (((((k.astore at_38 rfl (Ls' := #[.val (.int p0), .val (.int p1), .val (.int p2), .val (.int p3), .val (.int p4), .val (.int p5), .val (.ref a28), .unset, .unset, .unset]) rfl).iconst (1) at_40 rfl).iload at_41 rfl).sipush (255) at_43 rfl).iand at_46).bipush (7) at_47 rfl
  have k : W0 l Z n0 Q0 G s h35 1 7 51 #[.val (.int p0), .val (.int p1), .val (.int p2), .val (.int p3), .val (.int p4), .val (.int p5), .val (.ref a28), .unset, .unset, .unset] [(.int ((1 : Int32) + ((p5 &&& (255 : Int32)) % (7 : Int32))))] := (k.irem at_49 (by decide)).iadd at_50
  obtain ⟨cn, hcn⟩ : ∃ z : Int32, z = (1 : Int32) + ((p5 &&& (255 : Int32)) % (7 : Int32)) := ⟨_, rfl⟩
  rw [← hcn] at k
  have hc : cn = 1 ∨ cn = 2 ∨ cn = 3 ∨ cn = 4 ∨ cn = 5 ∨ cn = 6 ∨ cn = 7 := by rw [hcn]; exact own_cn p5
  have k : W0 l Z n0 Q0 G s h35 1 7 62 #[.val (.int p0), .val (.int p1), .val (.int p2), .val (.int p3), .val (.int p4), .val (.int p5), .val (.ref a28), .val (.int cn), .unset, .unset] [(.int ((XT.ushr p5 (8 : Int32)) &&& (255 : Int32)))] := (((((k.istore at_51 (Ls' := #[.val (.int p0), .val (.int p1), .val (.int p2), .val (.int p3), .val (.int p4), .val (.int p5), .val (.ref a28), .val (.int cn), .unset, .unset]) rfl).iload at_53 rfl).bipush (8) at_55 rfl).iushr at_57).sipush (255) at_58 rfl).iand at_61
  have k : W0 l Z n0 Q0 G s h35 1 7 65 #[.val (.int p0), .val (.int p1), .val (.int p2), .val (.int p3), .val (.int p4), .val (.int p5), .val (.ref a28), .val (.int cn), .unset, .unset] [(.int (((XT.ushr p5 (8 : Int32)) &&& (255 : Int32)) % cn))] := (k.iload at_62 rfl).irem at_64 (by rcases hc with rfl | rfl | rfl | rfl | rfl | rfl | rfl <;> decide)
  obtain ⟨ix, hix⟩ : ∃ z : Int32, z = ((XT.ushr p5 (8 : Int32)) &&& (255 : Int32)) % cn := ⟨_, rfl⟩
  rw [← hix] at k
  have k : W0 l Z n0 Q0 G s h35 1 7 67 #[.val (.int p0), .val (.int p1), .val (.int p2), .val (.int p3), .val (.int p4), .val (.int p5), .val (.ref a28), .val (.int cn), .val (.int ix), .unset] [] := k.istore at_65 (Ls' := #[.val (.int p0), .val (.int p1), .val (.int p2), .val (.int p3), .val (.int p4), .val (.int p5), .val (.ref a28), .val (.int cn), .val (.int ix), .unset]) rfl
  obtain ⟨h36, K36, E36, D36, k⟩ := k.newO (hw _ (List.mem_of_getElem? (i := 1) rfl)) (hw _ (List.mem_of_getElem? (i := 2) rfl)) (hw _ (List.mem_of_getElem? (i := 3) rfl)) at_67 (by decide) (by decide)
  obtain ⟨a36, ea36⟩ : ∃ z, z = h35.size := ⟨_, rfl⟩
  rw [← ea36] at E36 D36 k
  have n_a36 : n0 ≤ a36 := by omega
  have o_a28_a36 : a28 < a36 := by have q : a28 < h35.size := A28.lt; omega
  have A28 := A28.keep K36 nin0
  have F36_size : Fld Z h36 a36 "com/example/sayso/sayso/Positions" "size" "I" (.int (0 : Int32)) := D36 (Or.inl (hw _ (List.mem_of_getElem? (i := 16) rfl))) (ty := .int) (by decide)
  have F36_first : Fld Z h36 a36 "com/example/sayso/sayso/Positions" "first" "I" (.int (0 : Int32)) := D36 (Or.inl (hw _ (List.mem_of_getElem? (i := 18) rfl))) (ty := .int) (by decide)
  have F36_more : Fld Z h36 a36 "com/example/sayso/sayso/Positions" "more" "[I" .null := D36 (Or.inl (hw _ (List.mem_of_getElem? (i := 20) rfl))) (ty := (.array .int)) (by decide)
  have s_h36 : n0 ≤ h36.size := Nat.le_trans (by omega) K36.1
  have k : W0 l Z n0 Q0 G s h36 2 10 70 #[.val (.int p0), .val (.int p1), .val (.int p2), .val (.int p3), .val (.int p4), .val (.int p5), .val (.ref a28), .val (.int cn), .val (.int ix), .unset] [(.ref a36)] := k
  have k : W0 l Z n0 Q0 G s h36 2 10 71 #[.val (.int p0), .val (.int p1), .val (.int p2), .val (.int p3), .val (.int p4), .val (.int p5), .val (.ref a28), .val (.int cn), .val (.int ix), .unset] [(.ref a36), (.ref a36)] := k.dup at_70 rfl
  obtain ⟨v37, h37, ⟨rfl, rfl⟩, k⟩ := k.callN rfl (hw _ (List.mem_of_getElem? (i := 4) rfl)) (hw _ (List.mem_of_getElem? (i := 5) rfl)) (hw _ (List.mem_of_getElem? (i := 3) rfl)) (hw _ (List.mem_of_getElem? (i := 6) rfl)) (by decide) (con1 l Z a0 hw a36 h36 n0) (argsL := []) (rest := [(.ref a36)]) (lenOf pd1 rfl) at_71 rfl rfl 1 (Nat.le_of_eq rfl) (by decide) (by decide) (by decide) (by decide)
  have k : W0 l Z n0 Q0 G s h36 2 10 74 #[.val (.int p0), .val (.int p1), .val (.int p2), .val (.int p3), .val (.int p4), .val (.int p5), .val (.ref a28), .val (.int cn), .val (.int ix), .unset] [(.ref a36)] := k
  have k : W0 l Z n0 Q0 G s h36 2 10 82 #[.val (.int p0), .val (.int p1), .val (.int p2), .val (.int p3), .val (.int p4), .val (.int p5), .val (.ref a28), .val (.int cn), .val (.int ix), .val (.ref a36)] [(.int p0), (.ref a36)] := ((((k.astore at_74 rfl (Ls' := #[.val (.int p0), .val (.int p1), .val (.int p2), .val (.int p3), .val (.int p4), .val (.int p5), .val (.ref a28), .val (.int cn), .val (.int ix), .val (.ref a36)]) rfl).aload at_76 rfl rfl).aload at_78 rfl rfl).iconst (0) at_80 rfl).ldI A28 (by decide) rfl at_81
  obtain ⟨v38, h38, ⟨rfl, K38, E38, FS38, FF38, FM38⟩, k⟩ := k.callV (hw _ (List.mem_of_getElem? (i := 10) rfl)) (hw _ (List.mem_of_getElem? (i := 11) rfl)) (hw _ (List.mem_of_getElem? (i := 12) rfl)) (hw _ (List.mem_of_getElem? (i := 13) rfl)) rfl (hw _ (List.mem_of_getElem? (i := 3) rfl)) (hw _ (List.mem_of_getElem? (i := 14) rfl)) (by decide) E36 (con41 l Z a0 hw a36 p0 h36 n0 (by omega) n_a36 E36 F36_size F36_first F36_more) (argsL := [(.int p0)]) (rest := []) (lenOf pd4 rfl) at_82 rfl rfl 0 (Nat.le_of_eq rfl) (by decide) (by decide) (by decide) (by decide)
  have A28 := A28.keep K38 (nS (by omega) nin0)
  have s_h38 : n0 ≤ h38.size := Nat.le_trans (by omega) K38.1
  have k : W0 l Z n0 Q0 G s h38 2 10 85 #[.val (.int p0), .val (.int p1), .val (.int p2), .val (.int p3), .val (.int p4), .val (.int p5), .val (.ref a28), .val (.int cn), .val (.int ix), .val (.ref a36)] [] := k
  have k : W0 l Z n0 Q0 G s h38 2 10 88 #[.val (.int p0), .val (.int p1), .val (.int p2), .val (.int p3), .val (.int p4), .val (.int p5), .val (.ref a28), .val (.int cn), .val (.int ix), .val (.ref a36)] [(.int (1 : Int32)), (.int cn)] := (k.iload at_85 rfl).iconst (1) at_87 rfl
  rcases hc with rfl | hc
  · have k : W0 l Z n0 Q0 G s h38 2 10 88 #[.val (.int p0), .val (.int p1), .val (.int p2), .val (.int p3), .val (.int p4), .val (.int p5), .val (.ref a28), .val (.int (1 : Int32)), .val (.int ix), .val (.ref a36)] [(.int (1 : Int32)), (.int (1 : Int32))] := k
    have k : W0 l Z n0 Q0 G s h38 2 10 100 #[.val (.int p0), .val (.int p1), .val (.int p2), .val (.int p3), .val (.int p4), .val (.int p5), .val (.ref a28), .val (.int (1 : Int32)), .val (.int ix), .val (.ref a36)] [] := k.icT (pc' := 100) at_88 (XT.ii_le_t (by decide)) (by decide)
    have k : W0 l Z n0 Q0 G s h38 2 10 115 #[.val (.int p0), .val (.int p1), .val (.int p2), .val (.int p3), .val (.int p4), .val (.int p5), .val (.ref a28), .val (.int (1 : Int32)), .val (.int ix), .val (.ref a36)] [] := ((k.iload at_100 rfl).iconst (2) at_102 rfl).icT (pc' := 115) at_103 (XT.ii_le_t (by decide)) (by decide)
    have k : W0 l Z n0 Q0 G s h38 2 10 130 #[.val (.int p0), .val (.int p1), .val (.int p2), .val (.int p3), .val (.int p4), .val (.int p5), .val (.ref a28), .val (.int (1 : Int32)), .val (.int ix), .val (.ref a36)] [] := ((k.iload at_115 rfl).iconst (3) at_117 rfl).icT (pc' := 130) at_118 (XT.ii_le_t (by decide)) (by decide)
    have k : W0 l Z n0 Q0 G s h38 2 10 145 #[.val (.int p0), .val (.int p1), .val (.int p2), .val (.int p3), .val (.int p4), .val (.int p5), .val (.ref a28), .val (.int (1 : Int32)), .val (.int ix), .val (.ref a36)] [] := ((k.iload at_130 rfl).iconst (4) at_132 rfl).icT (pc' := 145) at_133 (XT.ii_le_t (by decide)) (by decide)
    have k : W0 l Z n0 Q0 G s h38 2 10 160 #[.val (.int p0), .val (.int p1), .val (.int p2), .val (.int p3), .val (.int p4), .val (.int p5), .val (.ref a28), .val (.int (1 : Int32)), .val (.int ix), .val (.ref a36)] [] := ((k.iload at_145 rfl).iconst (5) at_147 rfl).icT (pc' := 160) at_148 (XT.ii_le_t (by decide)) (by decide)
    have k : W0 l Z n0 Q0 G s h38 2 10 177 #[.val (.int p0), .val (.int p1), .val (.int p2), .val (.int p3), .val (.int p4), .val (.int p5), .val (.ref a28), .val (.int (1 : Int32)), .val (.int ix), .val (.ref a36)] [] := ((k.iload at_160 rfl).bipush (6) at_162 rfl).icT (pc' := 177) at_164 (XT.ii_le_t (by decide)) (by decide)
    have dx : ix = 0 := by rw [hix]; exact own_ix1 p5
    rcases dx with rfl
    · have k : W0 l Z n0 Q0 G s h38 2 10 177 #[.val (.int p0), .val (.int p1), .val (.int p2), .val (.int p3), .val (.int p4), .val (.int p5), .val (.ref a28), .val (.int (1 : Int32)), .val (.int (0 : Int32)), .val (.ref a36)] [] := k
      have k : W0 l Z n0 Q0 G s h38 2 10 181 #[.val (.int p0), .val (.int p1), .val (.int p2), .val (.int p3), .val (.int p4), .val (.int p5), .val (.ref a28), .val (.int (1 : Int32)), .val (.int (0 : Int32)), .val (.ref a36)] [(.int (0 : Int32)), (.ref a36)] := (k.aload at_177 rfl rfl).iload at_179 rfl
      obtain ⟨v39, h39, ⟨rfl, rfl⟩, k⟩ := k.callV (hw _ (List.mem_of_getElem? (i := 33) rfl)) (hw _ (List.mem_of_getElem? (i := 34) rfl)) (hw _ (List.mem_of_getElem? (i := 35) rfl)) (hw _ (List.mem_of_getElem? (i := 36) rfl)) rfl (hw _ (List.mem_of_getElem? (i := 3) rfl)) (hw _ (List.mem_of_getElem? (i := 37) rfl)) (by decide) E38 (con5a l Z a0 hw a36 p0 h38 n0 FF38) (argsL := [(.int (0 : Int32))]) (rest := []) (lenOf pd5 rfl) at_181 rfl rfl 0 (Nat.le_of_eq rfl) (by decide) (by decide) (by decide) (by decide)
      have k : W0 l Z n0 Q0 G s h38 2 10 184 #[.val (.int p0), .val (.int p1), .val (.int p2), .val (.int p3), .val (.int p4), .val (.int p5), .val (.ref a28), .val (.int (1 : Int32)), .val (.int (0 : Int32)), .val (.ref a36)] [(.int p0)] := k
      have k : W0 l Z n0 Q0 G s h38 2 10 189 #[.val (.int p0), .val (.int p1), .val (.int p2), .val (.int p3), .val (.int p4), .val (.int p5), .val (.ref a28), .val (.int (1 : Int32)), .val (.int (0 : Int32)), .val (.ref a36)] [(.int p0), (.int p0)] := ((k.aload at_184 rfl rfl).iload at_186 rfl).ldI A28 (by decide) rfl at_188
      have k : W0 l Z n0 Q0 G s h38 2 10 192 #[.val (.int p0), .val (.int p1), .val (.int p2), .val (.int p3), .val (.int p4), .val (.int p5), .val (.ref a28), .val (.int (1 : Int32)), .val (.int (0 : Int32)), .val (.ref a36)] [] := k.icF at_189 (XT.ii_ne_f rfl)
      have k : W0 l Z n0 Q0 G s h38 2 10 197 #[.val (.int p0), .val (.int p1), .val (.int p2), .val (.int p3), .val (.int p4), .val (.int p5), .val (.ref a28), .val (.int (1 : Int32)), .val (.int (0 : Int32)), .val (.ref a36)] [(.int (1 : Int32))] := (k.iconst (1) at_192 rfl).goto (pc' := 197) at_193 (by decide)
      exact k.outZ (Or.inr rfl) at_197 (by decide) (by decide) rfl
  · have k : W0 l Z n0 Q0 G s h38 2 10 91 #[.val (.int p0), .val (.int p1), .val (.int p2), .val (.int p3), .val (.int p4), .val (.int p5), .val (.ref a28), .val (.int cn), .val (.int ix), .val (.ref a36)] [] := k.icF at_88 (XT.ii_le_f (show (1 : Int32) < cn by rcases hc with rfl | rfl | rfl | rfl | rfl | rfl <;> decide))
    have k : W0 l Z n0 Q0 G s h38 2 10 97 #[.val (.int p0), .val (.int p1), .val (.int p2), .val (.int p3), .val (.int p4), .val (.int p5), .val (.ref a28), .val (.int cn), .val (.int ix), .val (.ref a36)] [(.int p1), (.ref a36)] := (((k.aload at_91 rfl rfl).aload at_93 rfl rfl).iconst (1) at_95 rfl).ldI A28 (by decide) rfl at_96
    have lv2 : a28 < h38.size := A28.lt
    have lp2 : a36 < h38.size := FS38.lt
    obtain ⟨v40, h40, ⟨rfl, m40, g40, K40, E40, FS40, FF40, FM40, B40⟩, k⟩ := k.callV (hw _ (List.mem_of_getElem? (i := 10) rfl)) (hw _ (List.mem_of_getElem? (i := 11) rfl)) (hw _ (List.mem_of_getElem? (i := 12) rfl)) (hw _ (List.mem_of_getElem? (i := 13) rfl)) rfl (hw _ (List.mem_of_getElem? (i := 3) rfl)) (hw _ (List.mem_of_getElem? (i := 14) rfl)) (by decide) E38 (con42 l Z a0 hw a36 p0 p1 h38 n0 (by omega) n_a36 E38 FS38 FF38 FM38) (argsL := [(.int p1)]) (rest := []) (lenOf pd4 rfl) at_97 rfl rfl 0 (Nat.le_of_eq rfl) (by decide) (by decide) (by decide) (by decide)
    have A28 := A28.keep K40 (nS (by omega) nin0)
    have s_h40 : n0 ≤ h40.size := Nat.le_trans (by omega) K40.1
    have k : W0 l Z n0 Q0 G s h40 3 12 100 #[.val (.int p0), .val (.int p1), .val (.int p2), .val (.int p3), .val (.int p4), .val (.int p5), .val (.ref a28), .val (.int cn), .val (.int ix), .val (.ref a36)] [] := k
    have n_m40 : n0 ≤ m40 := by omega
    have o1_m40 : a36 < m40 := by omega
    have o2_m40 : a28 < m40 := by omega
    have k : W0 l Z n0 Q0 G s h40 3 12 103 #[.val (.int p0), .val (.int p1), .val (.int p2), .val (.int p3), .val (.int p4), .val (.int p5), .val (.ref a28), .val (.int cn), .val (.int ix), .val (.ref a36)] [(.int (2 : Int32)), (.int cn)] := (k.iload at_100 rfl).iconst (2) at_102 rfl
    rcases hc with rfl | hc
    · have k : W0 l Z n0 Q0 G s h40 3 12 103 #[.val (.int p0), .val (.int p1), .val (.int p2), .val (.int p3), .val (.int p4), .val (.int p5), .val (.ref a28), .val (.int (2 : Int32)), .val (.int ix), .val (.ref a36)] [(.int (2 : Int32)), (.int (2 : Int32))] := k
      have k : W0 l Z n0 Q0 G s h40 3 12 115 #[.val (.int p0), .val (.int p1), .val (.int p2), .val (.int p3), .val (.int p4), .val (.int p5), .val (.ref a28), .val (.int (2 : Int32)), .val (.int ix), .val (.ref a36)] [] := k.icT (pc' := 115) at_103 (XT.ii_le_t (by decide)) (by decide)
      have k : W0 l Z n0 Q0 G s h40 3 12 130 #[.val (.int p0), .val (.int p1), .val (.int p2), .val (.int p3), .val (.int p4), .val (.int p5), .val (.ref a28), .val (.int (2 : Int32)), .val (.int ix), .val (.ref a36)] [] := ((k.iload at_115 rfl).iconst (3) at_117 rfl).icT (pc' := 130) at_118 (XT.ii_le_t (by decide)) (by decide)
      have k : W0 l Z n0 Q0 G s h40 3 12 145 #[.val (.int p0), .val (.int p1), .val (.int p2), .val (.int p3), .val (.int p4), .val (.int p5), .val (.ref a28), .val (.int (2 : Int32)), .val (.int ix), .val (.ref a36)] [] := ((k.iload at_130 rfl).iconst (4) at_132 rfl).icT (pc' := 145) at_133 (XT.ii_le_t (by decide)) (by decide)
      have k : W0 l Z n0 Q0 G s h40 3 12 160 #[.val (.int p0), .val (.int p1), .val (.int p2), .val (.int p3), .val (.int p4), .val (.int p5), .val (.ref a28), .val (.int (2 : Int32)), .val (.int ix), .val (.ref a36)] [] := ((k.iload at_145 rfl).iconst (5) at_147 rfl).icT (pc' := 160) at_148 (XT.ii_le_t (by decide)) (by decide)
      have k : W0 l Z n0 Q0 G s h40 3 12 177 #[.val (.int p0), .val (.int p1), .val (.int p2), .val (.int p3), .val (.int p4), .val (.int p5), .val (.ref a28), .val (.int (2 : Int32)), .val (.int ix), .val (.ref a36)] [] := ((k.iload at_160 rfl).bipush (6) at_162 rfl).icT (pc' := 177) at_164 (XT.ii_le_t (by decide)) (by decide)
      have dx : ix = 0 ∨ ix = 1 := by rw [hix]; exact own_ix2 p5
      rcases dx with rfl | rfl
      · have k : W0 l Z n0 Q0 G s h40 3 12 177 #[.val (.int p0), .val (.int p1), .val (.int p2), .val (.int p3), .val (.int p4), .val (.int p5), .val (.ref a28), .val (.int (2 : Int32)), .val (.int (0 : Int32)), .val (.ref a36)] [] := k
        have k : W0 l Z n0 Q0 G s h40 3 12 181 #[.val (.int p0), .val (.int p1), .val (.int p2), .val (.int p3), .val (.int p4), .val (.int p5), .val (.ref a28), .val (.int (2 : Int32)), .val (.int (0 : Int32)), .val (.ref a36)] [(.int (0 : Int32)), (.ref a36)] := (k.aload at_177 rfl rfl).iload at_179 rfl
        obtain ⟨v41, h41, ⟨rfl, rfl⟩, k⟩ := k.callV (hw _ (List.mem_of_getElem? (i := 33) rfl)) (hw _ (List.mem_of_getElem? (i := 34) rfl)) (hw _ (List.mem_of_getElem? (i := 35) rfl)) (hw _ (List.mem_of_getElem? (i := 36) rfl)) rfl (hw _ (List.mem_of_getElem? (i := 3) rfl)) (hw _ (List.mem_of_getElem? (i := 37) rfl)) (by decide) E40 (con5a l Z a0 hw a36 p0 h40 n0 FF40) (argsL := [(.int (0 : Int32))]) (rest := []) (lenOf pd5 rfl) at_181 rfl rfl 0 (Nat.le_of_eq rfl) (by decide) (by decide) (by decide) (by decide)
        have k : W0 l Z n0 Q0 G s h40 3 12 184 #[.val (.int p0), .val (.int p1), .val (.int p2), .val (.int p3), .val (.int p4), .val (.int p5), .val (.ref a28), .val (.int (2 : Int32)), .val (.int (0 : Int32)), .val (.ref a36)] [(.int p0)] := k
        have k : W0 l Z n0 Q0 G s h40 3 12 189 #[.val (.int p0), .val (.int p1), .val (.int p2), .val (.int p3), .val (.int p4), .val (.int p5), .val (.ref a28), .val (.int (2 : Int32)), .val (.int (0 : Int32)), .val (.ref a36)] [(.int p0), (.int p0)] := ((k.aload at_184 rfl rfl).iload at_186 rfl).ldI A28 (by decide) rfl at_188
        have k : W0 l Z n0 Q0 G s h40 3 12 192 #[.val (.int p0), .val (.int p1), .val (.int p2), .val (.int p3), .val (.int p4), .val (.int p5), .val (.ref a28), .val (.int (2 : Int32)), .val (.int (0 : Int32)), .val (.ref a36)] [] := k.icF at_189 (XT.ii_ne_f rfl)
        have k : W0 l Z n0 Q0 G s h40 3 12 197 #[.val (.int p0), .val (.int p1), .val (.int p2), .val (.int p3), .val (.int p4), .val (.int p5), .val (.ref a28), .val (.int (2 : Int32)), .val (.int (0 : Int32)), .val (.ref a36)] [(.int (1 : Int32))] := (k.iconst (1) at_192 rfl).goto (pc' := 197) at_193 (by decide)
        exact k.outZ (Or.inr rfl) at_197 (by decide) (by decide) rfl
      · have k : W0 l Z n0 Q0 G s h40 3 12 177 #[.val (.int p0), .val (.int p1), .val (.int p2), .val (.int p3), .val (.int p4), .val (.int p5), .val (.ref a28), .val (.int (2 : Int32)), .val (.int (1 : Int32)), .val (.ref a36)] [] := k
        have k : W0 l Z n0 Q0 G s h40 3 12 181 #[.val (.int p0), .val (.int p1), .val (.int p2), .val (.int p3), .val (.int p4), .val (.int p5), .val (.ref a28), .val (.int (2 : Int32)), .val (.int (1 : Int32)), .val (.ref a36)] [(.int (1 : Int32)), (.ref a36)] := (k.aload at_177 rfl rfl).iload at_179 rfl
        obtain ⟨v42, h42, ⟨rfl, rfl⟩, k⟩ := k.callV (hw _ (List.mem_of_getElem? (i := 33) rfl)) (hw _ (List.mem_of_getElem? (i := 34) rfl)) (hw _ (List.mem_of_getElem? (i := 35) rfl)) (hw _ (List.mem_of_getElem? (i := 36) rfl)) rfl (hw _ (List.mem_of_getElem? (i := 3) rfl)) (hw _ (List.mem_of_getElem? (i := 37) rfl)) (by decide) E40 (con5b l Z a0 hw a36 m40 (1 : Int32) p1 _ h40 n0 FM40 B40 (by decide) (by decide) rfl) (argsL := [(.int (1 : Int32))]) (rest := []) (lenOf pd5 rfl) at_181 rfl rfl 0 (Nat.le_of_eq rfl) (by decide) (by decide) (by decide) (by decide)
        have k : W0 l Z n0 Q0 G s h40 3 12 184 #[.val (.int p0), .val (.int p1), .val (.int p2), .val (.int p3), .val (.int p4), .val (.int p5), .val (.ref a28), .val (.int (2 : Int32)), .val (.int (1 : Int32)), .val (.ref a36)] [(.int p1)] := k
        have k : W0 l Z n0 Q0 G s h40 3 12 189 #[.val (.int p0), .val (.int p1), .val (.int p2), .val (.int p3), .val (.int p4), .val (.int p5), .val (.ref a28), .val (.int (2 : Int32)), .val (.int (1 : Int32)), .val (.ref a36)] [(.int p1), (.int p1)] := ((k.aload at_184 rfl rfl).iload at_186 rfl).ldI A28 (by decide) rfl at_188
        have k : W0 l Z n0 Q0 G s h40 3 12 192 #[.val (.int p0), .val (.int p1), .val (.int p2), .val (.int p3), .val (.int p4), .val (.int p5), .val (.ref a28), .val (.int (2 : Int32)), .val (.int (1 : Int32)), .val (.ref a36)] [] := k.icF at_189 (XT.ii_ne_f rfl)
        have k : W0 l Z n0 Q0 G s h40 3 12 197 #[.val (.int p0), .val (.int p1), .val (.int p2), .val (.int p3), .val (.int p4), .val (.int p5), .val (.ref a28), .val (.int (2 : Int32)), .val (.int (1 : Int32)), .val (.ref a36)] [(.int (1 : Int32))] := (k.iconst (1) at_192 rfl).goto (pc' := 197) at_193 (by decide)
        exact k.outZ (Or.inr rfl) at_197 (by decide) (by decide) rfl
    · have k : W0 l Z n0 Q0 G s h40 3 12 106 #[.val (.int p0), .val (.int p1), .val (.int p2), .val (.int p3), .val (.int p4), .val (.int p5), .val (.ref a28), .val (.int cn), .val (.int ix), .val (.ref a36)] [] := k.icF at_103 (XT.ii_le_f (show (2 : Int32) < cn by rcases hc with rfl | rfl | rfl | rfl | rfl <;> decide))
      have k : W0 l Z n0 Q0 G s h40 3 12 112 #[.val (.int p0), .val (.int p1), .val (.int p2), .val (.int p3), .val (.int p4), .val (.int p5), .val (.ref a28), .val (.int cn), .val (.int ix), .val (.ref a36)] [(.int p2), (.ref a36)] := (((k.aload at_106 rfl rfl).aload at_108 rfl rfl).iconst (2) at_110 rfl).ldI A28 (by decide) rfl at_111
      obtain ⟨v43, h43, ⟨rfl, K43, E43, FS43, FF43, FM43, B43⟩, k⟩ := k.callV (hw _ (List.mem_of_getElem? (i := 10) rfl)) (hw _ (List.mem_of_getElem? (i := 11) rfl)) (hw _ (List.mem_of_getElem? (i := 12) rfl)) (hw _ (List.mem_of_getElem? (i := 13) rfl)) rfl (hw _ (List.mem_of_getElem? (i := 3) rfl)) (hw _ (List.mem_of_getElem? (i := 14) rfl)) (by decide) E40 (con43 l Z a0 hw a36 m40 p0 p1 p2 h40 n0 (by omega) n_a36 E40 FS40 FF40 FM40 B40 (by omega) n_m40) (argsL := [(.int p2)]) (rest := []) (lenOf pd4 rfl) at_112 rfl rfl 0 (Nat.le_of_eq rfl) (by decide) (by decide) (by decide) (by decide)
      have A28 := A28.keep K43 (nS (by omega) (nS (by omega) nin0))
      have s_h43 : n0 ≤ h43.size := Nat.le_trans (by omega) K43.1
      have k : W0 l Z n0 Q0 G s h43 3 12 115 #[.val (.int p0), .val (.int p1), .val (.int p2), .val (.int p3), .val (.int p4), .val (.int p5), .val (.ref a28), .val (.int cn), .val (.int ix), .val (.ref a36)] [] := k
      have k : W0 l Z n0 Q0 G s h43 3 12 118 #[.val (.int p0), .val (.int p1), .val (.int p2), .val (.int p3), .val (.int p4), .val (.int p5), .val (.ref a28), .val (.int cn), .val (.int ix), .val (.ref a36)] [(.int (3 : Int32)), (.int cn)] := (k.iload at_115 rfl).iconst (3) at_117 rfl
      rcases hc with rfl | hc
      · have k : W0 l Z n0 Q0 G s h43 3 12 118 #[.val (.int p0), .val (.int p1), .val (.int p2), .val (.int p3), .val (.int p4), .val (.int p5), .val (.ref a28), .val (.int (3 : Int32)), .val (.int ix), .val (.ref a36)] [(.int (3 : Int32)), (.int (3 : Int32))] := k
        have k : W0 l Z n0 Q0 G s h43 3 12 130 #[.val (.int p0), .val (.int p1), .val (.int p2), .val (.int p3), .val (.int p4), .val (.int p5), .val (.ref a28), .val (.int (3 : Int32)), .val (.int ix), .val (.ref a36)] [] := k.icT (pc' := 130) at_118 (XT.ii_le_t (by decide)) (by decide)
        have k : W0 l Z n0 Q0 G s h43 3 12 145 #[.val (.int p0), .val (.int p1), .val (.int p2), .val (.int p3), .val (.int p4), .val (.int p5), .val (.ref a28), .val (.int (3 : Int32)), .val (.int ix), .val (.ref a36)] [] := ((k.iload at_130 rfl).iconst (4) at_132 rfl).icT (pc' := 145) at_133 (XT.ii_le_t (by decide)) (by decide)
        have k : W0 l Z n0 Q0 G s h43 3 12 160 #[.val (.int p0), .val (.int p1), .val (.int p2), .val (.int p3), .val (.int p4), .val (.int p5), .val (.ref a28), .val (.int (3 : Int32)), .val (.int ix), .val (.ref a36)] [] := ((k.iload at_145 rfl).iconst (5) at_147 rfl).icT (pc' := 160) at_148 (XT.ii_le_t (by decide)) (by decide)
        have k : W0 l Z n0 Q0 G s h43 3 12 177 #[.val (.int p0), .val (.int p1), .val (.int p2), .val (.int p3), .val (.int p4), .val (.int p5), .val (.ref a28), .val (.int (3 : Int32)), .val (.int ix), .val (.ref a36)] [] := ((k.iload at_160 rfl).bipush (6) at_162 rfl).icT (pc' := 177) at_164 (XT.ii_le_t (by decide)) (by decide)
        have dx : ix = 0 ∨ ix = 1 ∨ ix = 2 := by rw [hix]; exact own_ix3 p5
        rcases dx with rfl | rfl | rfl
        · have k : W0 l Z n0 Q0 G s h43 3 12 177 #[.val (.int p0), .val (.int p1), .val (.int p2), .val (.int p3), .val (.int p4), .val (.int p5), .val (.ref a28), .val (.int (3 : Int32)), .val (.int (0 : Int32)), .val (.ref a36)] [] := k
          have k : W0 l Z n0 Q0 G s h43 3 12 181 #[.val (.int p0), .val (.int p1), .val (.int p2), .val (.int p3), .val (.int p4), .val (.int p5), .val (.ref a28), .val (.int (3 : Int32)), .val (.int (0 : Int32)), .val (.ref a36)] [(.int (0 : Int32)), (.ref a36)] := (k.aload at_177 rfl rfl).iload at_179 rfl
          obtain ⟨v44, h44, ⟨rfl, rfl⟩, k⟩ := k.callV (hw _ (List.mem_of_getElem? (i := 33) rfl)) (hw _ (List.mem_of_getElem? (i := 34) rfl)) (hw _ (List.mem_of_getElem? (i := 35) rfl)) (hw _ (List.mem_of_getElem? (i := 36) rfl)) rfl (hw _ (List.mem_of_getElem? (i := 3) rfl)) (hw _ (List.mem_of_getElem? (i := 37) rfl)) (by decide) E43 (con5a l Z a0 hw a36 p0 h43 n0 FF43) (argsL := [(.int (0 : Int32))]) (rest := []) (lenOf pd5 rfl) at_181 rfl rfl 0 (Nat.le_of_eq rfl) (by decide) (by decide) (by decide) (by decide)
          have k : W0 l Z n0 Q0 G s h43 3 12 184 #[.val (.int p0), .val (.int p1), .val (.int p2), .val (.int p3), .val (.int p4), .val (.int p5), .val (.ref a28), .val (.int (3 : Int32)), .val (.int (0 : Int32)), .val (.ref a36)] [(.int p0)] := k
          have k : W0 l Z n0 Q0 G s h43 3 12 189 #[.val (.int p0), .val (.int p1), .val (.int p2), .val (.int p3), .val (.int p4), .val (.int p5), .val (.ref a28), .val (.int (3 : Int32)), .val (.int (0 : Int32)), .val (.ref a36)] [(.int p0), (.int p0)] := ((k.aload at_184 rfl rfl).iload at_186 rfl).ldI A28 (by decide) rfl at_188
          have k : W0 l Z n0 Q0 G s h43 3 12 192 #[.val (.int p0), .val (.int p1), .val (.int p2), .val (.int p3), .val (.int p4), .val (.int p5), .val (.ref a28), .val (.int (3 : Int32)), .val (.int (0 : Int32)), .val (.ref a36)] [] := k.icF at_189 (XT.ii_ne_f rfl)
          have k : W0 l Z n0 Q0 G s h43 3 12 197 #[.val (.int p0), .val (.int p1), .val (.int p2), .val (.int p3), .val (.int p4), .val (.int p5), .val (.ref a28), .val (.int (3 : Int32)), .val (.int (0 : Int32)), .val (.ref a36)] [(.int (1 : Int32))] := (k.iconst (1) at_192 rfl).goto (pc' := 197) at_193 (by decide)
          exact k.outZ (Or.inr rfl) at_197 (by decide) (by decide) rfl
        · have k : W0 l Z n0 Q0 G s h43 3 12 177 #[.val (.int p0), .val (.int p1), .val (.int p2), .val (.int p3), .val (.int p4), .val (.int p5), .val (.ref a28), .val (.int (3 : Int32)), .val (.int (1 : Int32)), .val (.ref a36)] [] := k
          have k : W0 l Z n0 Q0 G s h43 3 12 181 #[.val (.int p0), .val (.int p1), .val (.int p2), .val (.int p3), .val (.int p4), .val (.int p5), .val (.ref a28), .val (.int (3 : Int32)), .val (.int (1 : Int32)), .val (.ref a36)] [(.int (1 : Int32)), (.ref a36)] := (k.aload at_177 rfl rfl).iload at_179 rfl
          obtain ⟨v45, h45, ⟨rfl, rfl⟩, k⟩ := k.callV (hw _ (List.mem_of_getElem? (i := 33) rfl)) (hw _ (List.mem_of_getElem? (i := 34) rfl)) (hw _ (List.mem_of_getElem? (i := 35) rfl)) (hw _ (List.mem_of_getElem? (i := 36) rfl)) rfl (hw _ (List.mem_of_getElem? (i := 3) rfl)) (hw _ (List.mem_of_getElem? (i := 37) rfl)) (by decide) E43 (con5b l Z a0 hw a36 m40 (1 : Int32) p1 _ h43 n0 FM43 B43 (by decide) (by decide) rfl) (argsL := [(.int (1 : Int32))]) (rest := []) (lenOf pd5 rfl) at_181 rfl rfl 0 (Nat.le_of_eq rfl) (by decide) (by decide) (by decide) (by decide)
          have k : W0 l Z n0 Q0 G s h43 3 12 184 #[.val (.int p0), .val (.int p1), .val (.int p2), .val (.int p3), .val (.int p4), .val (.int p5), .val (.ref a28), .val (.int (3 : Int32)), .val (.int (1 : Int32)), .val (.ref a36)] [(.int p1)] := k
          have k : W0 l Z n0 Q0 G s h43 3 12 189 #[.val (.int p0), .val (.int p1), .val (.int p2), .val (.int p3), .val (.int p4), .val (.int p5), .val (.ref a28), .val (.int (3 : Int32)), .val (.int (1 : Int32)), .val (.ref a36)] [(.int p1), (.int p1)] := ((k.aload at_184 rfl rfl).iload at_186 rfl).ldI A28 (by decide) rfl at_188
          have k : W0 l Z n0 Q0 G s h43 3 12 192 #[.val (.int p0), .val (.int p1), .val (.int p2), .val (.int p3), .val (.int p4), .val (.int p5), .val (.ref a28), .val (.int (3 : Int32)), .val (.int (1 : Int32)), .val (.ref a36)] [] := k.icF at_189 (XT.ii_ne_f rfl)
          have k : W0 l Z n0 Q0 G s h43 3 12 197 #[.val (.int p0), .val (.int p1), .val (.int p2), .val (.int p3), .val (.int p4), .val (.int p5), .val (.ref a28), .val (.int (3 : Int32)), .val (.int (1 : Int32)), .val (.ref a36)] [(.int (1 : Int32))] := (k.iconst (1) at_192 rfl).goto (pc' := 197) at_193 (by decide)
          exact k.outZ (Or.inr rfl) at_197 (by decide) (by decide) rfl
        · have k : W0 l Z n0 Q0 G s h43 3 12 177 #[.val (.int p0), .val (.int p1), .val (.int p2), .val (.int p3), .val (.int p4), .val (.int p5), .val (.ref a28), .val (.int (3 : Int32)), .val (.int (2 : Int32)), .val (.ref a36)] [] := k
          have k : W0 l Z n0 Q0 G s h43 3 12 181 #[.val (.int p0), .val (.int p1), .val (.int p2), .val (.int p3), .val (.int p4), .val (.int p5), .val (.ref a28), .val (.int (3 : Int32)), .val (.int (2 : Int32)), .val (.ref a36)] [(.int (2 : Int32)), (.ref a36)] := (k.aload at_177 rfl rfl).iload at_179 rfl
          obtain ⟨v46, h46, ⟨rfl, rfl⟩, k⟩ := k.callV (hw _ (List.mem_of_getElem? (i := 33) rfl)) (hw _ (List.mem_of_getElem? (i := 34) rfl)) (hw _ (List.mem_of_getElem? (i := 35) rfl)) (hw _ (List.mem_of_getElem? (i := 36) rfl)) rfl (hw _ (List.mem_of_getElem? (i := 3) rfl)) (hw _ (List.mem_of_getElem? (i := 37) rfl)) (by decide) E43 (con5b l Z a0 hw a36 m40 (2 : Int32) p2 _ h43 n0 FM43 B43 (by decide) (by decide) rfl) (argsL := [(.int (2 : Int32))]) (rest := []) (lenOf pd5 rfl) at_181 rfl rfl 0 (Nat.le_of_eq rfl) (by decide) (by decide) (by decide) (by decide)
          have k : W0 l Z n0 Q0 G s h43 3 12 184 #[.val (.int p0), .val (.int p1), .val (.int p2), .val (.int p3), .val (.int p4), .val (.int p5), .val (.ref a28), .val (.int (3 : Int32)), .val (.int (2 : Int32)), .val (.ref a36)] [(.int p2)] := k
          have k : W0 l Z n0 Q0 G s h43 3 12 189 #[.val (.int p0), .val (.int p1), .val (.int p2), .val (.int p3), .val (.int p4), .val (.int p5), .val (.ref a28), .val (.int (3 : Int32)), .val (.int (2 : Int32)), .val (.ref a36)] [(.int p2), (.int p2)] := ((k.aload at_184 rfl rfl).iload at_186 rfl).ldI A28 (by decide) rfl at_188
          have k : W0 l Z n0 Q0 G s h43 3 12 192 #[.val (.int p0), .val (.int p1), .val (.int p2), .val (.int p3), .val (.int p4), .val (.int p5), .val (.ref a28), .val (.int (3 : Int32)), .val (.int (2 : Int32)), .val (.ref a36)] [] := k.icF at_189 (XT.ii_ne_f rfl)
          have k : W0 l Z n0 Q0 G s h43 3 12 197 #[.val (.int p0), .val (.int p1), .val (.int p2), .val (.int p3), .val (.int p4), .val (.int p5), .val (.ref a28), .val (.int (3 : Int32)), .val (.int (2 : Int32)), .val (.ref a36)] [(.int (1 : Int32))] := (k.iconst (1) at_192 rfl).goto (pc' := 197) at_193 (by decide)
          exact k.outZ (Or.inr rfl) at_197 (by decide) (by decide) rfl
      · have k : W0 l Z n0 Q0 G s h43 3 12 121 #[.val (.int p0), .val (.int p1), .val (.int p2), .val (.int p3), .val (.int p4), .val (.int p5), .val (.ref a28), .val (.int cn), .val (.int ix), .val (.ref a36)] [] := k.icF at_118 (XT.ii_le_f (show (3 : Int32) < cn by rcases hc with rfl | rfl | rfl | rfl <;> decide))
        have k : W0 l Z n0 Q0 G s h43 3 12 127 #[.val (.int p0), .val (.int p1), .val (.int p2), .val (.int p3), .val (.int p4), .val (.int p5), .val (.ref a28), .val (.int cn), .val (.int ix), .val (.ref a36)] [(.int p3), (.ref a36)] := (((k.aload at_121 rfl rfl).aload at_123 rfl rfl).iconst (3) at_125 rfl).ldI A28 (by decide) rfl at_126
        have lv4 : a28 < h43.size := A28.lt
        have lp4 : a36 < h43.size := FS43.lt
        obtain ⟨v47, h47, ⟨rfl, m47, g47, K47, E47, FS47, FF47, FM47, B47⟩, k⟩ := k.callV (hw _ (List.mem_of_getElem? (i := 10) rfl)) (hw _ (List.mem_of_getElem? (i := 11) rfl)) (hw _ (List.mem_of_getElem? (i := 12) rfl)) (hw _ (List.mem_of_getElem? (i := 13) rfl)) rfl (hw _ (List.mem_of_getElem? (i := 3) rfl)) (hw _ (List.mem_of_getElem? (i := 14) rfl)) (by decide) E43 (con44 l Z a0 hw a36 m40 p0 p1 p2 p3 h43 n0 (by omega) n_a36 E43 FS43 FF43 FM43 B43 (by omega) n_m40) (argsL := [(.int p3)]) (rest := []) (lenOf pd4 rfl) at_127 rfl rfl 0 (Nat.le_of_eq rfl) (by decide) (by decide) (by decide) (by decide)
        have A28 := A28.keep K47 (nS (by omega) nin0)
        have s_h47 : n0 ≤ h47.size := Nat.le_trans (by omega) K47.1
        have k : W0 l Z n0 Q0 G s h47 4 16 130 #[.val (.int p0), .val (.int p1), .val (.int p2), .val (.int p3), .val (.int p4), .val (.int p5), .val (.ref a28), .val (.int cn), .val (.int ix), .val (.ref a36)] [] := k
        have n_m47 : n0 ≤ m47 := by omega
        have o1_m47 : a36 < m47 := by omega
        have o2_m47 : a28 < m47 := by omega
        have k : W0 l Z n0 Q0 G s h47 4 16 133 #[.val (.int p0), .val (.int p1), .val (.int p2), .val (.int p3), .val (.int p4), .val (.int p5), .val (.ref a28), .val (.int cn), .val (.int ix), .val (.ref a36)] [(.int (4 : Int32)), (.int cn)] := (k.iload at_130 rfl).iconst (4) at_132 rfl
        rcases hc with rfl | hc
        · have k : W0 l Z n0 Q0 G s h47 4 16 133 #[.val (.int p0), .val (.int p1), .val (.int p2), .val (.int p3), .val (.int p4), .val (.int p5), .val (.ref a28), .val (.int (4 : Int32)), .val (.int ix), .val (.ref a36)] [(.int (4 : Int32)), (.int (4 : Int32))] := k
          have k : W0 l Z n0 Q0 G s h47 4 16 145 #[.val (.int p0), .val (.int p1), .val (.int p2), .val (.int p3), .val (.int p4), .val (.int p5), .val (.ref a28), .val (.int (4 : Int32)), .val (.int ix), .val (.ref a36)] [] := k.icT (pc' := 145) at_133 (XT.ii_le_t (by decide)) (by decide)
          have k : W0 l Z n0 Q0 G s h47 4 16 160 #[.val (.int p0), .val (.int p1), .val (.int p2), .val (.int p3), .val (.int p4), .val (.int p5), .val (.ref a28), .val (.int (4 : Int32)), .val (.int ix), .val (.ref a36)] [] := ((k.iload at_145 rfl).iconst (5) at_147 rfl).icT (pc' := 160) at_148 (XT.ii_le_t (by decide)) (by decide)
          have k : W0 l Z n0 Q0 G s h47 4 16 177 #[.val (.int p0), .val (.int p1), .val (.int p2), .val (.int p3), .val (.int p4), .val (.int p5), .val (.ref a28), .val (.int (4 : Int32)), .val (.int ix), .val (.ref a36)] [] := ((k.iload at_160 rfl).bipush (6) at_162 rfl).icT (pc' := 177) at_164 (XT.ii_le_t (by decide)) (by decide)
          have dx : ix = 0 ∨ ix = 1 ∨ ix = 2 ∨ ix = 3 := by rw [hix]; exact own_ix4 p5
          rcases dx with rfl | rfl | rfl | rfl
          · have k : W0 l Z n0 Q0 G s h47 4 16 177 #[.val (.int p0), .val (.int p1), .val (.int p2), .val (.int p3), .val (.int p4), .val (.int p5), .val (.ref a28), .val (.int (4 : Int32)), .val (.int (0 : Int32)), .val (.ref a36)] [] := k
            have k : W0 l Z n0 Q0 G s h47 4 16 181 #[.val (.int p0), .val (.int p1), .val (.int p2), .val (.int p3), .val (.int p4), .val (.int p5), .val (.ref a28), .val (.int (4 : Int32)), .val (.int (0 : Int32)), .val (.ref a36)] [(.int (0 : Int32)), (.ref a36)] := (k.aload at_177 rfl rfl).iload at_179 rfl
            obtain ⟨v48, h48, ⟨rfl, rfl⟩, k⟩ := k.callV (hw _ (List.mem_of_getElem? (i := 33) rfl)) (hw _ (List.mem_of_getElem? (i := 34) rfl)) (hw _ (List.mem_of_getElem? (i := 35) rfl)) (hw _ (List.mem_of_getElem? (i := 36) rfl)) rfl (hw _ (List.mem_of_getElem? (i := 3) rfl)) (hw _ (List.mem_of_getElem? (i := 37) rfl)) (by decide) E47 (con5a l Z a0 hw a36 p0 h47 n0 FF47) (argsL := [(.int (0 : Int32))]) (rest := []) (lenOf pd5 rfl) at_181 rfl rfl 0 (Nat.le_of_eq rfl) (by decide) (by decide) (by decide) (by decide)
            have k : W0 l Z n0 Q0 G s h47 4 16 184 #[.val (.int p0), .val (.int p1), .val (.int p2), .val (.int p3), .val (.int p4), .val (.int p5), .val (.ref a28), .val (.int (4 : Int32)), .val (.int (0 : Int32)), .val (.ref a36)] [(.int p0)] := k
            have k : W0 l Z n0 Q0 G s h47 4 16 189 #[.val (.int p0), .val (.int p1), .val (.int p2), .val (.int p3), .val (.int p4), .val (.int p5), .val (.ref a28), .val (.int (4 : Int32)), .val (.int (0 : Int32)), .val (.ref a36)] [(.int p0), (.int p0)] := ((k.aload at_184 rfl rfl).iload at_186 rfl).ldI A28 (by decide) rfl at_188
            have k : W0 l Z n0 Q0 G s h47 4 16 192 #[.val (.int p0), .val (.int p1), .val (.int p2), .val (.int p3), .val (.int p4), .val (.int p5), .val (.ref a28), .val (.int (4 : Int32)), .val (.int (0 : Int32)), .val (.ref a36)] [] := k.icF at_189 (XT.ii_ne_f rfl)
            have k : W0 l Z n0 Q0 G s h47 4 16 197 #[.val (.int p0), .val (.int p1), .val (.int p2), .val (.int p3), .val (.int p4), .val (.int p5), .val (.ref a28), .val (.int (4 : Int32)), .val (.int (0 : Int32)), .val (.ref a36)] [(.int (1 : Int32))] := (k.iconst (1) at_192 rfl).goto (pc' := 197) at_193 (by decide)
            exact k.outZ (Or.inr rfl) at_197 (by decide) (by decide) rfl
          · have k : W0 l Z n0 Q0 G s h47 4 16 177 #[.val (.int p0), .val (.int p1), .val (.int p2), .val (.int p3), .val (.int p4), .val (.int p5), .val (.ref a28), .val (.int (4 : Int32)), .val (.int (1 : Int32)), .val (.ref a36)] [] := k
            have k : W0 l Z n0 Q0 G s h47 4 16 181 #[.val (.int p0), .val (.int p1), .val (.int p2), .val (.int p3), .val (.int p4), .val (.int p5), .val (.ref a28), .val (.int (4 : Int32)), .val (.int (1 : Int32)), .val (.ref a36)] [(.int (1 : Int32)), (.ref a36)] := (k.aload at_177 rfl rfl).iload at_179 rfl
            obtain ⟨v49, h49, ⟨rfl, rfl⟩, k⟩ := k.callV (hw _ (List.mem_of_getElem? (i := 33) rfl)) (hw _ (List.mem_of_getElem? (i := 34) rfl)) (hw _ (List.mem_of_getElem? (i := 35) rfl)) (hw _ (List.mem_of_getElem? (i := 36) rfl)) rfl (hw _ (List.mem_of_getElem? (i := 3) rfl)) (hw _ (List.mem_of_getElem? (i := 37) rfl)) (by decide) E47 (con5b l Z a0 hw a36 m47 (1 : Int32) p1 _ h47 n0 FM47 B47 (by decide) (by decide) rfl) (argsL := [(.int (1 : Int32))]) (rest := []) (lenOf pd5 rfl) at_181 rfl rfl 0 (Nat.le_of_eq rfl) (by decide) (by decide) (by decide) (by decide)
            have k : W0 l Z n0 Q0 G s h47 4 16 184 #[.val (.int p0), .val (.int p1), .val (.int p2), .val (.int p3), .val (.int p4), .val (.int p5), .val (.ref a28), .val (.int (4 : Int32)), .val (.int (1 : Int32)), .val (.ref a36)] [(.int p1)] := k
            have k : W0 l Z n0 Q0 G s h47 4 16 189 #[.val (.int p0), .val (.int p1), .val (.int p2), .val (.int p3), .val (.int p4), .val (.int p5), .val (.ref a28), .val (.int (4 : Int32)), .val (.int (1 : Int32)), .val (.ref a36)] [(.int p1), (.int p1)] := ((k.aload at_184 rfl rfl).iload at_186 rfl).ldI A28 (by decide) rfl at_188
            have k : W0 l Z n0 Q0 G s h47 4 16 192 #[.val (.int p0), .val (.int p1), .val (.int p2), .val (.int p3), .val (.int p4), .val (.int p5), .val (.ref a28), .val (.int (4 : Int32)), .val (.int (1 : Int32)), .val (.ref a36)] [] := k.icF at_189 (XT.ii_ne_f rfl)
            have k : W0 l Z n0 Q0 G s h47 4 16 197 #[.val (.int p0), .val (.int p1), .val (.int p2), .val (.int p3), .val (.int p4), .val (.int p5), .val (.ref a28), .val (.int (4 : Int32)), .val (.int (1 : Int32)), .val (.ref a36)] [(.int (1 : Int32))] := (k.iconst (1) at_192 rfl).goto (pc' := 197) at_193 (by decide)
            exact k.outZ (Or.inr rfl) at_197 (by decide) (by decide) rfl
          · have k : W0 l Z n0 Q0 G s h47 4 16 177 #[.val (.int p0), .val (.int p1), .val (.int p2), .val (.int p3), .val (.int p4), .val (.int p5), .val (.ref a28), .val (.int (4 : Int32)), .val (.int (2 : Int32)), .val (.ref a36)] [] := k
            have k : W0 l Z n0 Q0 G s h47 4 16 181 #[.val (.int p0), .val (.int p1), .val (.int p2), .val (.int p3), .val (.int p4), .val (.int p5), .val (.ref a28), .val (.int (4 : Int32)), .val (.int (2 : Int32)), .val (.ref a36)] [(.int (2 : Int32)), (.ref a36)] := (k.aload at_177 rfl rfl).iload at_179 rfl
            obtain ⟨v50, h50, ⟨rfl, rfl⟩, k⟩ := k.callV (hw _ (List.mem_of_getElem? (i := 33) rfl)) (hw _ (List.mem_of_getElem? (i := 34) rfl)) (hw _ (List.mem_of_getElem? (i := 35) rfl)) (hw _ (List.mem_of_getElem? (i := 36) rfl)) rfl (hw _ (List.mem_of_getElem? (i := 3) rfl)) (hw _ (List.mem_of_getElem? (i := 37) rfl)) (by decide) E47 (con5b l Z a0 hw a36 m47 (2 : Int32) p2 _ h47 n0 FM47 B47 (by decide) (by decide) rfl) (argsL := [(.int (2 : Int32))]) (rest := []) (lenOf pd5 rfl) at_181 rfl rfl 0 (Nat.le_of_eq rfl) (by decide) (by decide) (by decide) (by decide)
            have k : W0 l Z n0 Q0 G s h47 4 16 184 #[.val (.int p0), .val (.int p1), .val (.int p2), .val (.int p3), .val (.int p4), .val (.int p5), .val (.ref a28), .val (.int (4 : Int32)), .val (.int (2 : Int32)), .val (.ref a36)] [(.int p2)] := k
            have k : W0 l Z n0 Q0 G s h47 4 16 189 #[.val (.int p0), .val (.int p1), .val (.int p2), .val (.int p3), .val (.int p4), .val (.int p5), .val (.ref a28), .val (.int (4 : Int32)), .val (.int (2 : Int32)), .val (.ref a36)] [(.int p2), (.int p2)] := ((k.aload at_184 rfl rfl).iload at_186 rfl).ldI A28 (by decide) rfl at_188
            have k : W0 l Z n0 Q0 G s h47 4 16 192 #[.val (.int p0), .val (.int p1), .val (.int p2), .val (.int p3), .val (.int p4), .val (.int p5), .val (.ref a28), .val (.int (4 : Int32)), .val (.int (2 : Int32)), .val (.ref a36)] [] := k.icF at_189 (XT.ii_ne_f rfl)
            have k : W0 l Z n0 Q0 G s h47 4 16 197 #[.val (.int p0), .val (.int p1), .val (.int p2), .val (.int p3), .val (.int p4), .val (.int p5), .val (.ref a28), .val (.int (4 : Int32)), .val (.int (2 : Int32)), .val (.ref a36)] [(.int (1 : Int32))] := (k.iconst (1) at_192 rfl).goto (pc' := 197) at_193 (by decide)
            exact k.outZ (Or.inr rfl) at_197 (by decide) (by decide) rfl
          · have k : W0 l Z n0 Q0 G s h47 4 16 177 #[.val (.int p0), .val (.int p1), .val (.int p2), .val (.int p3), .val (.int p4), .val (.int p5), .val (.ref a28), .val (.int (4 : Int32)), .val (.int (3 : Int32)), .val (.ref a36)] [] := k
            have k : W0 l Z n0 Q0 G s h47 4 16 181 #[.val (.int p0), .val (.int p1), .val (.int p2), .val (.int p3), .val (.int p4), .val (.int p5), .val (.ref a28), .val (.int (4 : Int32)), .val (.int (3 : Int32)), .val (.ref a36)] [(.int (3 : Int32)), (.ref a36)] := (k.aload at_177 rfl rfl).iload at_179 rfl
            obtain ⟨v51, h51, ⟨rfl, rfl⟩, k⟩ := k.callV (hw _ (List.mem_of_getElem? (i := 33) rfl)) (hw _ (List.mem_of_getElem? (i := 34) rfl)) (hw _ (List.mem_of_getElem? (i := 35) rfl)) (hw _ (List.mem_of_getElem? (i := 36) rfl)) rfl (hw _ (List.mem_of_getElem? (i := 3) rfl)) (hw _ (List.mem_of_getElem? (i := 37) rfl)) (by decide) E47 (con5b l Z a0 hw a36 m47 (3 : Int32) p3 _ h47 n0 FM47 B47 (by decide) (by decide) rfl) (argsL := [(.int (3 : Int32))]) (rest := []) (lenOf pd5 rfl) at_181 rfl rfl 0 (Nat.le_of_eq rfl) (by decide) (by decide) (by decide) (by decide)
            have k : W0 l Z n0 Q0 G s h47 4 16 184 #[.val (.int p0), .val (.int p1), .val (.int p2), .val (.int p3), .val (.int p4), .val (.int p5), .val (.ref a28), .val (.int (4 : Int32)), .val (.int (3 : Int32)), .val (.ref a36)] [(.int p3)] := k
            have k : W0 l Z n0 Q0 G s h47 4 16 189 #[.val (.int p0), .val (.int p1), .val (.int p2), .val (.int p3), .val (.int p4), .val (.int p5), .val (.ref a28), .val (.int (4 : Int32)), .val (.int (3 : Int32)), .val (.ref a36)] [(.int p3), (.int p3)] := ((k.aload at_184 rfl rfl).iload at_186 rfl).ldI A28 (by decide) rfl at_188
            have k : W0 l Z n0 Q0 G s h47 4 16 192 #[.val (.int p0), .val (.int p1), .val (.int p2), .val (.int p3), .val (.int p4), .val (.int p5), .val (.ref a28), .val (.int (4 : Int32)), .val (.int (3 : Int32)), .val (.ref a36)] [] := k.icF at_189 (XT.ii_ne_f rfl)
            have k : W0 l Z n0 Q0 G s h47 4 16 197 #[.val (.int p0), .val (.int p1), .val (.int p2), .val (.int p3), .val (.int p4), .val (.int p5), .val (.ref a28), .val (.int (4 : Int32)), .val (.int (3 : Int32)), .val (.ref a36)] [(.int (1 : Int32))] := (k.iconst (1) at_192 rfl).goto (pc' := 197) at_193 (by decide)
            exact k.outZ (Or.inr rfl) at_197 (by decide) (by decide) rfl
        · have k : W0 l Z n0 Q0 G s h47 4 16 136 #[.val (.int p0), .val (.int p1), .val (.int p2), .val (.int p3), .val (.int p4), .val (.int p5), .val (.ref a28), .val (.int cn), .val (.int ix), .val (.ref a36)] [] := k.icF at_133 (XT.ii_le_f (show (4 : Int32) < cn by rcases hc with rfl | rfl | rfl <;> decide))
          have k : W0 l Z n0 Q0 G s h47 4 16 142 #[.val (.int p0), .val (.int p1), .val (.int p2), .val (.int p3), .val (.int p4), .val (.int p5), .val (.ref a28), .val (.int cn), .val (.int ix), .val (.ref a36)] [(.int p4), (.ref a36)] := (((k.aload at_136 rfl rfl).aload at_138 rfl rfl).iconst (4) at_140 rfl).ldI A28 (by decide) rfl at_141
          obtain ⟨v52, h52, ⟨rfl, K52, E52, FS52, FF52, FM52, B52⟩, k⟩ := k.callV (hw _ (List.mem_of_getElem? (i := 10) rfl)) (hw _ (List.mem_of_getElem? (i := 11) rfl)) (hw _ (List.mem_of_getElem? (i := 12) rfl)) (hw _ (List.mem_of_getElem? (i := 13) rfl)) rfl (hw _ (List.mem_of_getElem? (i := 3) rfl)) (hw _ (List.mem_of_getElem? (i := 14) rfl)) (by decide) E47 (con45 l Z a0 hw a36 m47 p0 p1 p2 p3 p4 h47 n0 (by omega) n_a36 E47 FS47 FF47 FM47 B47 (by omega) n_m47) (argsL := [(.int p4)]) (rest := []) (lenOf pd4 rfl) at_142 rfl rfl 0 (Nat.le_of_eq rfl) (by decide) (by decide) (by decide) (by decide)
          have A28 := A28.keep K52 (nS (by omega) (nS (by omega) nin0))
          have s_h52 : n0 ≤ h52.size := Nat.le_trans (by omega) K52.1
          have k : W0 l Z n0 Q0 G s h52 4 16 145 #[.val (.int p0), .val (.int p1), .val (.int p2), .val (.int p3), .val (.int p4), .val (.int p5), .val (.ref a28), .val (.int cn), .val (.int ix), .val (.ref a36)] [] := k
          have k : W0 l Z n0 Q0 G s h52 4 16 148 #[.val (.int p0), .val (.int p1), .val (.int p2), .val (.int p3), .val (.int p4), .val (.int p5), .val (.ref a28), .val (.int cn), .val (.int ix), .val (.ref a36)] [(.int (5 : Int32)), (.int cn)] := (k.iload at_145 rfl).iconst (5) at_147 rfl
          rcases hc with rfl | hc
          · have k : W0 l Z n0 Q0 G s h52 4 16 148 #[.val (.int p0), .val (.int p1), .val (.int p2), .val (.int p3), .val (.int p4), .val (.int p5), .val (.ref a28), .val (.int (5 : Int32)), .val (.int ix), .val (.ref a36)] [(.int (5 : Int32)), (.int (5 : Int32))] := k
            have k : W0 l Z n0 Q0 G s h52 4 16 160 #[.val (.int p0), .val (.int p1), .val (.int p2), .val (.int p3), .val (.int p4), .val (.int p5), .val (.ref a28), .val (.int (5 : Int32)), .val (.int ix), .val (.ref a36)] [] := k.icT (pc' := 160) at_148 (XT.ii_le_t (by decide)) (by decide)
            have k : W0 l Z n0 Q0 G s h52 4 16 177 #[.val (.int p0), .val (.int p1), .val (.int p2), .val (.int p3), .val (.int p4), .val (.int p5), .val (.ref a28), .val (.int (5 : Int32)), .val (.int ix), .val (.ref a36)] [] := ((k.iload at_160 rfl).bipush (6) at_162 rfl).icT (pc' := 177) at_164 (XT.ii_le_t (by decide)) (by decide)
            have dx : ix = 0 ∨ ix = 1 ∨ ix = 2 ∨ ix = 3 ∨ ix = 4 := by rw [hix]; exact own_ix5 p5
            rcases dx with rfl | rfl | rfl | rfl | rfl
            · have k : W0 l Z n0 Q0 G s h52 4 16 177 #[.val (.int p0), .val (.int p1), .val (.int p2), .val (.int p3), .val (.int p4), .val (.int p5), .val (.ref a28), .val (.int (5 : Int32)), .val (.int (0 : Int32)), .val (.ref a36)] [] := k
              have k : W0 l Z n0 Q0 G s h52 4 16 181 #[.val (.int p0), .val (.int p1), .val (.int p2), .val (.int p3), .val (.int p4), .val (.int p5), .val (.ref a28), .val (.int (5 : Int32)), .val (.int (0 : Int32)), .val (.ref a36)] [(.int (0 : Int32)), (.ref a36)] := (k.aload at_177 rfl rfl).iload at_179 rfl
              obtain ⟨v53, h53, ⟨rfl, rfl⟩, k⟩ := k.callV (hw _ (List.mem_of_getElem? (i := 33) rfl)) (hw _ (List.mem_of_getElem? (i := 34) rfl)) (hw _ (List.mem_of_getElem? (i := 35) rfl)) (hw _ (List.mem_of_getElem? (i := 36) rfl)) rfl (hw _ (List.mem_of_getElem? (i := 3) rfl)) (hw _ (List.mem_of_getElem? (i := 37) rfl)) (by decide) E52 (con5a l Z a0 hw a36 p0 h52 n0 FF52) (argsL := [(.int (0 : Int32))]) (rest := []) (lenOf pd5 rfl) at_181 rfl rfl 0 (Nat.le_of_eq rfl) (by decide) (by decide) (by decide) (by decide)
              have k : W0 l Z n0 Q0 G s h52 4 16 184 #[.val (.int p0), .val (.int p1), .val (.int p2), .val (.int p3), .val (.int p4), .val (.int p5), .val (.ref a28), .val (.int (5 : Int32)), .val (.int (0 : Int32)), .val (.ref a36)] [(.int p0)] := k
              have k : W0 l Z n0 Q0 G s h52 4 16 189 #[.val (.int p0), .val (.int p1), .val (.int p2), .val (.int p3), .val (.int p4), .val (.int p5), .val (.ref a28), .val (.int (5 : Int32)), .val (.int (0 : Int32)), .val (.ref a36)] [(.int p0), (.int p0)] := ((k.aload at_184 rfl rfl).iload at_186 rfl).ldI A28 (by decide) rfl at_188
              have k : W0 l Z n0 Q0 G s h52 4 16 192 #[.val (.int p0), .val (.int p1), .val (.int p2), .val (.int p3), .val (.int p4), .val (.int p5), .val (.ref a28), .val (.int (5 : Int32)), .val (.int (0 : Int32)), .val (.ref a36)] [] := k.icF at_189 (XT.ii_ne_f rfl)
              have k : W0 l Z n0 Q0 G s h52 4 16 197 #[.val (.int p0), .val (.int p1), .val (.int p2), .val (.int p3), .val (.int p4), .val (.int p5), .val (.ref a28), .val (.int (5 : Int32)), .val (.int (0 : Int32)), .val (.ref a36)] [(.int (1 : Int32))] := (k.iconst (1) at_192 rfl).goto (pc' := 197) at_193 (by decide)
              exact k.outZ (Or.inr rfl) at_197 (by decide) (by decide) rfl
            · have k : W0 l Z n0 Q0 G s h52 4 16 177 #[.val (.int p0), .val (.int p1), .val (.int p2), .val (.int p3), .val (.int p4), .val (.int p5), .val (.ref a28), .val (.int (5 : Int32)), .val (.int (1 : Int32)), .val (.ref a36)] [] := k
              have k : W0 l Z n0 Q0 G s h52 4 16 181 #[.val (.int p0), .val (.int p1), .val (.int p2), .val (.int p3), .val (.int p4), .val (.int p5), .val (.ref a28), .val (.int (5 : Int32)), .val (.int (1 : Int32)), .val (.ref a36)] [(.int (1 : Int32)), (.ref a36)] := (k.aload at_177 rfl rfl).iload at_179 rfl
              obtain ⟨v54, h54, ⟨rfl, rfl⟩, k⟩ := k.callV (hw _ (List.mem_of_getElem? (i := 33) rfl)) (hw _ (List.mem_of_getElem? (i := 34) rfl)) (hw _ (List.mem_of_getElem? (i := 35) rfl)) (hw _ (List.mem_of_getElem? (i := 36) rfl)) rfl (hw _ (List.mem_of_getElem? (i := 3) rfl)) (hw _ (List.mem_of_getElem? (i := 37) rfl)) (by decide) E52 (con5b l Z a0 hw a36 m47 (1 : Int32) p1 _ h52 n0 FM52 B52 (by decide) (by decide) rfl) (argsL := [(.int (1 : Int32))]) (rest := []) (lenOf pd5 rfl) at_181 rfl rfl 0 (Nat.le_of_eq rfl) (by decide) (by decide) (by decide) (by decide)
              have k : W0 l Z n0 Q0 G s h52 4 16 184 #[.val (.int p0), .val (.int p1), .val (.int p2), .val (.int p3), .val (.int p4), .val (.int p5), .val (.ref a28), .val (.int (5 : Int32)), .val (.int (1 : Int32)), .val (.ref a36)] [(.int p1)] := k
              have k : W0 l Z n0 Q0 G s h52 4 16 189 #[.val (.int p0), .val (.int p1), .val (.int p2), .val (.int p3), .val (.int p4), .val (.int p5), .val (.ref a28), .val (.int (5 : Int32)), .val (.int (1 : Int32)), .val (.ref a36)] [(.int p1), (.int p1)] := ((k.aload at_184 rfl rfl).iload at_186 rfl).ldI A28 (by decide) rfl at_188
              have k : W0 l Z n0 Q0 G s h52 4 16 192 #[.val (.int p0), .val (.int p1), .val (.int p2), .val (.int p3), .val (.int p4), .val (.int p5), .val (.ref a28), .val (.int (5 : Int32)), .val (.int (1 : Int32)), .val (.ref a36)] [] := k.icF at_189 (XT.ii_ne_f rfl)
              have k : W0 l Z n0 Q0 G s h52 4 16 197 #[.val (.int p0), .val (.int p1), .val (.int p2), .val (.int p3), .val (.int p4), .val (.int p5), .val (.ref a28), .val (.int (5 : Int32)), .val (.int (1 : Int32)), .val (.ref a36)] [(.int (1 : Int32))] := (k.iconst (1) at_192 rfl).goto (pc' := 197) at_193 (by decide)
              exact k.outZ (Or.inr rfl) at_197 (by decide) (by decide) rfl
            · have k : W0 l Z n0 Q0 G s h52 4 16 177 #[.val (.int p0), .val (.int p1), .val (.int p2), .val (.int p3), .val (.int p4), .val (.int p5), .val (.ref a28), .val (.int (5 : Int32)), .val (.int (2 : Int32)), .val (.ref a36)] [] := k
              have k : W0 l Z n0 Q0 G s h52 4 16 181 #[.val (.int p0), .val (.int p1), .val (.int p2), .val (.int p3), .val (.int p4), .val (.int p5), .val (.ref a28), .val (.int (5 : Int32)), .val (.int (2 : Int32)), .val (.ref a36)] [(.int (2 : Int32)), (.ref a36)] := (k.aload at_177 rfl rfl).iload at_179 rfl
              obtain ⟨v55, h55, ⟨rfl, rfl⟩, k⟩ := k.callV (hw _ (List.mem_of_getElem? (i := 33) rfl)) (hw _ (List.mem_of_getElem? (i := 34) rfl)) (hw _ (List.mem_of_getElem? (i := 35) rfl)) (hw _ (List.mem_of_getElem? (i := 36) rfl)) rfl (hw _ (List.mem_of_getElem? (i := 3) rfl)) (hw _ (List.mem_of_getElem? (i := 37) rfl)) (by decide) E52 (con5b l Z a0 hw a36 m47 (2 : Int32) p2 _ h52 n0 FM52 B52 (by decide) (by decide) rfl) (argsL := [(.int (2 : Int32))]) (rest := []) (lenOf pd5 rfl) at_181 rfl rfl 0 (Nat.le_of_eq rfl) (by decide) (by decide) (by decide) (by decide)
              have k : W0 l Z n0 Q0 G s h52 4 16 184 #[.val (.int p0), .val (.int p1), .val (.int p2), .val (.int p3), .val (.int p4), .val (.int p5), .val (.ref a28), .val (.int (5 : Int32)), .val (.int (2 : Int32)), .val (.ref a36)] [(.int p2)] := k
              have k : W0 l Z n0 Q0 G s h52 4 16 189 #[.val (.int p0), .val (.int p1), .val (.int p2), .val (.int p3), .val (.int p4), .val (.int p5), .val (.ref a28), .val (.int (5 : Int32)), .val (.int (2 : Int32)), .val (.ref a36)] [(.int p2), (.int p2)] := ((k.aload at_184 rfl rfl).iload at_186 rfl).ldI A28 (by decide) rfl at_188
              have k : W0 l Z n0 Q0 G s h52 4 16 192 #[.val (.int p0), .val (.int p1), .val (.int p2), .val (.int p3), .val (.int p4), .val (.int p5), .val (.ref a28), .val (.int (5 : Int32)), .val (.int (2 : Int32)), .val (.ref a36)] [] := k.icF at_189 (XT.ii_ne_f rfl)
              have k : W0 l Z n0 Q0 G s h52 4 16 197 #[.val (.int p0), .val (.int p1), .val (.int p2), .val (.int p3), .val (.int p4), .val (.int p5), .val (.ref a28), .val (.int (5 : Int32)), .val (.int (2 : Int32)), .val (.ref a36)] [(.int (1 : Int32))] := (k.iconst (1) at_192 rfl).goto (pc' := 197) at_193 (by decide)
              exact k.outZ (Or.inr rfl) at_197 (by decide) (by decide) rfl
            · have k : W0 l Z n0 Q0 G s h52 4 16 177 #[.val (.int p0), .val (.int p1), .val (.int p2), .val (.int p3), .val (.int p4), .val (.int p5), .val (.ref a28), .val (.int (5 : Int32)), .val (.int (3 : Int32)), .val (.ref a36)] [] := k
              have k : W0 l Z n0 Q0 G s h52 4 16 181 #[.val (.int p0), .val (.int p1), .val (.int p2), .val (.int p3), .val (.int p4), .val (.int p5), .val (.ref a28), .val (.int (5 : Int32)), .val (.int (3 : Int32)), .val (.ref a36)] [(.int (3 : Int32)), (.ref a36)] := (k.aload at_177 rfl rfl).iload at_179 rfl
              obtain ⟨v56, h56, ⟨rfl, rfl⟩, k⟩ := k.callV (hw _ (List.mem_of_getElem? (i := 33) rfl)) (hw _ (List.mem_of_getElem? (i := 34) rfl)) (hw _ (List.mem_of_getElem? (i := 35) rfl)) (hw _ (List.mem_of_getElem? (i := 36) rfl)) rfl (hw _ (List.mem_of_getElem? (i := 3) rfl)) (hw _ (List.mem_of_getElem? (i := 37) rfl)) (by decide) E52 (con5b l Z a0 hw a36 m47 (3 : Int32) p3 _ h52 n0 FM52 B52 (by decide) (by decide) rfl) (argsL := [(.int (3 : Int32))]) (rest := []) (lenOf pd5 rfl) at_181 rfl rfl 0 (Nat.le_of_eq rfl) (by decide) (by decide) (by decide) (by decide)
              have k : W0 l Z n0 Q0 G s h52 4 16 184 #[.val (.int p0), .val (.int p1), .val (.int p2), .val (.int p3), .val (.int p4), .val (.int p5), .val (.ref a28), .val (.int (5 : Int32)), .val (.int (3 : Int32)), .val (.ref a36)] [(.int p3)] := k
              have k : W0 l Z n0 Q0 G s h52 4 16 189 #[.val (.int p0), .val (.int p1), .val (.int p2), .val (.int p3), .val (.int p4), .val (.int p5), .val (.ref a28), .val (.int (5 : Int32)), .val (.int (3 : Int32)), .val (.ref a36)] [(.int p3), (.int p3)] := ((k.aload at_184 rfl rfl).iload at_186 rfl).ldI A28 (by decide) rfl at_188
              have k : W0 l Z n0 Q0 G s h52 4 16 192 #[.val (.int p0), .val (.int p1), .val (.int p2), .val (.int p3), .val (.int p4), .val (.int p5), .val (.ref a28), .val (.int (5 : Int32)), .val (.int (3 : Int32)), .val (.ref a36)] [] := k.icF at_189 (XT.ii_ne_f rfl)
              have k : W0 l Z n0 Q0 G s h52 4 16 197 #[.val (.int p0), .val (.int p1), .val (.int p2), .val (.int p3), .val (.int p4), .val (.int p5), .val (.ref a28), .val (.int (5 : Int32)), .val (.int (3 : Int32)), .val (.ref a36)] [(.int (1 : Int32))] := (k.iconst (1) at_192 rfl).goto (pc' := 197) at_193 (by decide)
              exact k.outZ (Or.inr rfl) at_197 (by decide) (by decide) rfl
            · have k : W0 l Z n0 Q0 G s h52 4 16 177 #[.val (.int p0), .val (.int p1), .val (.int p2), .val (.int p3), .val (.int p4), .val (.int p5), .val (.ref a28), .val (.int (5 : Int32)), .val (.int (4 : Int32)), .val (.ref a36)] [] := k
              have k : W0 l Z n0 Q0 G s h52 4 16 181 #[.val (.int p0), .val (.int p1), .val (.int p2), .val (.int p3), .val (.int p4), .val (.int p5), .val (.ref a28), .val (.int (5 : Int32)), .val (.int (4 : Int32)), .val (.ref a36)] [(.int (4 : Int32)), (.ref a36)] := (k.aload at_177 rfl rfl).iload at_179 rfl
              obtain ⟨v57, h57, ⟨rfl, rfl⟩, k⟩ := k.callV (hw _ (List.mem_of_getElem? (i := 33) rfl)) (hw _ (List.mem_of_getElem? (i := 34) rfl)) (hw _ (List.mem_of_getElem? (i := 35) rfl)) (hw _ (List.mem_of_getElem? (i := 36) rfl)) rfl (hw _ (List.mem_of_getElem? (i := 3) rfl)) (hw _ (List.mem_of_getElem? (i := 37) rfl)) (by decide) E52 (con5b l Z a0 hw a36 m47 (4 : Int32) p4 _ h52 n0 FM52 B52 (by decide) (by decide) rfl) (argsL := [(.int (4 : Int32))]) (rest := []) (lenOf pd5 rfl) at_181 rfl rfl 0 (Nat.le_of_eq rfl) (by decide) (by decide) (by decide) (by decide)
              have k : W0 l Z n0 Q0 G s h52 4 16 184 #[.val (.int p0), .val (.int p1), .val (.int p2), .val (.int p3), .val (.int p4), .val (.int p5), .val (.ref a28), .val (.int (5 : Int32)), .val (.int (4 : Int32)), .val (.ref a36)] [(.int p4)] := k
              have k : W0 l Z n0 Q0 G s h52 4 16 189 #[.val (.int p0), .val (.int p1), .val (.int p2), .val (.int p3), .val (.int p4), .val (.int p5), .val (.ref a28), .val (.int (5 : Int32)), .val (.int (4 : Int32)), .val (.ref a36)] [(.int p4), (.int p4)] := ((k.aload at_184 rfl rfl).iload at_186 rfl).ldI A28 (by decide) rfl at_188
              have k : W0 l Z n0 Q0 G s h52 4 16 192 #[.val (.int p0), .val (.int p1), .val (.int p2), .val (.int p3), .val (.int p4), .val (.int p5), .val (.ref a28), .val (.int (5 : Int32)), .val (.int (4 : Int32)), .val (.ref a36)] [] := k.icF at_189 (XT.ii_ne_f rfl)
              have k : W0 l Z n0 Q0 G s h52 4 16 197 #[.val (.int p0), .val (.int p1), .val (.int p2), .val (.int p3), .val (.int p4), .val (.int p5), .val (.ref a28), .val (.int (5 : Int32)), .val (.int (4 : Int32)), .val (.ref a36)] [(.int (1 : Int32))] := (k.iconst (1) at_192 rfl).goto (pc' := 197) at_193 (by decide)
              exact k.outZ (Or.inr rfl) at_197 (by decide) (by decide) rfl
          · have k : W0 l Z n0 Q0 G s h52 4 16 151 #[.val (.int p0), .val (.int p1), .val (.int p2), .val (.int p3), .val (.int p4), .val (.int p5), .val (.ref a28), .val (.int cn), .val (.int ix), .val (.ref a36)] [] := k.icF at_148 (XT.ii_le_f (show (5 : Int32) < cn by rcases hc with rfl | rfl <;> decide))
            have k : W0 l Z n0 Q0 G s h52 4 16 157 #[.val (.int p0), .val (.int p1), .val (.int p2), .val (.int p3), .val (.int p4), .val (.int p5), .val (.ref a28), .val (.int cn), .val (.int ix), .val (.ref a36)] [(.int (p0 ^^^ (-1 : Int32))), (.ref a36)] := (((k.aload at_151 rfl rfl).aload at_153 rfl rfl).iconst (5) at_155 rfl).ldI A28 (by decide) rfl at_156
            have lv6 : a28 < h52.size := A28.lt
            have lp6 : a36 < h52.size := FS52.lt
            obtain ⟨v58, h58, ⟨rfl, m58, g58, K58, E58, FS58, FF58, FM58, B58⟩, k⟩ := k.callV (hw _ (List.mem_of_getElem? (i := 10) rfl)) (hw _ (List.mem_of_getElem? (i := 11) rfl)) (hw _ (List.mem_of_getElem? (i := 12) rfl)) (hw _ (List.mem_of_getElem? (i := 13) rfl)) rfl (hw _ (List.mem_of_getElem? (i := 3) rfl)) (hw _ (List.mem_of_getElem? (i := 14) rfl)) (by decide) E52 (con46 l Z a0 hw a36 m47 p0 p1 p2 p3 p4 (p0 ^^^ (-1 : Int32)) h52 n0 (by omega) n_a36 E52 FS52 FF52 FM52 B52 (by omega) n_m47) (argsL := [(.int (p0 ^^^ (-1 : Int32)))]) (rest := []) (lenOf pd4 rfl) at_157 rfl rfl 0 (Nat.le_of_eq rfl) (by decide) (by decide) (by decide) (by decide)
            have A28 := A28.keep K58 (nS (by omega) nin0)
            have s_h58 : n0 ≤ h58.size := Nat.le_trans (by omega) K58.1
            have k : W0 l Z n0 Q0 G s h58 5 24 160 #[.val (.int p0), .val (.int p1), .val (.int p2), .val (.int p3), .val (.int p4), .val (.int p5), .val (.ref a28), .val (.int cn), .val (.int ix), .val (.ref a36)] [] := k
            have n_m58 : n0 ≤ m58 := by omega
            have o1_m58 : a36 < m58 := by omega
            have o2_m58 : a28 < m58 := by omega
            have k : W0 l Z n0 Q0 G s h58 5 24 164 #[.val (.int p0), .val (.int p1), .val (.int p2), .val (.int p3), .val (.int p4), .val (.int p5), .val (.ref a28), .val (.int cn), .val (.int ix), .val (.ref a36)] [(.int (6 : Int32)), (.int cn)] := (k.iload at_160 rfl).bipush (6) at_162 rfl
            rcases hc with rfl | hc
            · have k : W0 l Z n0 Q0 G s h58 5 24 164 #[.val (.int p0), .val (.int p1), .val (.int p2), .val (.int p3), .val (.int p4), .val (.int p5), .val (.ref a28), .val (.int (6 : Int32)), .val (.int ix), .val (.ref a36)] [(.int (6 : Int32)), (.int (6 : Int32))] := k
              have k : W0 l Z n0 Q0 G s h58 5 24 177 #[.val (.int p0), .val (.int p1), .val (.int p2), .val (.int p3), .val (.int p4), .val (.int p5), .val (.ref a28), .val (.int (6 : Int32)), .val (.int ix), .val (.ref a36)] [] := k.icT (pc' := 177) at_164 (XT.ii_le_t (by decide)) (by decide)
              have dx : ix = 0 ∨ ix = 1 ∨ ix = 2 ∨ ix = 3 ∨ ix = 4 ∨ ix = 5 := by rw [hix]; exact own_ix6 p5
              rcases dx with rfl | rfl | rfl | rfl | rfl | rfl
              · have k : W0 l Z n0 Q0 G s h58 5 24 177 #[.val (.int p0), .val (.int p1), .val (.int p2), .val (.int p3), .val (.int p4), .val (.int p5), .val (.ref a28), .val (.int (6 : Int32)), .val (.int (0 : Int32)), .val (.ref a36)] [] := k
                have k : W0 l Z n0 Q0 G s h58 5 24 181 #[.val (.int p0), .val (.int p1), .val (.int p2), .val (.int p3), .val (.int p4), .val (.int p5), .val (.ref a28), .val (.int (6 : Int32)), .val (.int (0 : Int32)), .val (.ref a36)] [(.int (0 : Int32)), (.ref a36)] := (k.aload at_177 rfl rfl).iload at_179 rfl
                obtain ⟨v59, h59, ⟨rfl, rfl⟩, k⟩ := k.callV (hw _ (List.mem_of_getElem? (i := 33) rfl)) (hw _ (List.mem_of_getElem? (i := 34) rfl)) (hw _ (List.mem_of_getElem? (i := 35) rfl)) (hw _ (List.mem_of_getElem? (i := 36) rfl)) rfl (hw _ (List.mem_of_getElem? (i := 3) rfl)) (hw _ (List.mem_of_getElem? (i := 37) rfl)) (by decide) E58 (con5a l Z a0 hw a36 p0 h58 n0 FF58) (argsL := [(.int (0 : Int32))]) (rest := []) (lenOf pd5 rfl) at_181 rfl rfl 0 (Nat.le_of_eq rfl) (by decide) (by decide) (by decide) (by decide)
                have k : W0 l Z n0 Q0 G s h58 5 24 184 #[.val (.int p0), .val (.int p1), .val (.int p2), .val (.int p3), .val (.int p4), .val (.int p5), .val (.ref a28), .val (.int (6 : Int32)), .val (.int (0 : Int32)), .val (.ref a36)] [(.int p0)] := k
                have k : W0 l Z n0 Q0 G s h58 5 24 189 #[.val (.int p0), .val (.int p1), .val (.int p2), .val (.int p3), .val (.int p4), .val (.int p5), .val (.ref a28), .val (.int (6 : Int32)), .val (.int (0 : Int32)), .val (.ref a36)] [(.int p0), (.int p0)] := ((k.aload at_184 rfl rfl).iload at_186 rfl).ldI A28 (by decide) rfl at_188
                have k : W0 l Z n0 Q0 G s h58 5 24 192 #[.val (.int p0), .val (.int p1), .val (.int p2), .val (.int p3), .val (.int p4), .val (.int p5), .val (.ref a28), .val (.int (6 : Int32)), .val (.int (0 : Int32)), .val (.ref a36)] [] := k.icF at_189 (XT.ii_ne_f rfl)
                have k : W0 l Z n0 Q0 G s h58 5 24 197 #[.val (.int p0), .val (.int p1), .val (.int p2), .val (.int p3), .val (.int p4), .val (.int p5), .val (.ref a28), .val (.int (6 : Int32)), .val (.int (0 : Int32)), .val (.ref a36)] [(.int (1 : Int32))] := (k.iconst (1) at_192 rfl).goto (pc' := 197) at_193 (by decide)
                exact k.outZ (Or.inr rfl) at_197 (by decide) (by decide) rfl
              · have k : W0 l Z n0 Q0 G s h58 5 24 177 #[.val (.int p0), .val (.int p1), .val (.int p2), .val (.int p3), .val (.int p4), .val (.int p5), .val (.ref a28), .val (.int (6 : Int32)), .val (.int (1 : Int32)), .val (.ref a36)] [] := k
                have k : W0 l Z n0 Q0 G s h58 5 24 181 #[.val (.int p0), .val (.int p1), .val (.int p2), .val (.int p3), .val (.int p4), .val (.int p5), .val (.ref a28), .val (.int (6 : Int32)), .val (.int (1 : Int32)), .val (.ref a36)] [(.int (1 : Int32)), (.ref a36)] := (k.aload at_177 rfl rfl).iload at_179 rfl
                obtain ⟨v60, h60, ⟨rfl, rfl⟩, k⟩ := k.callV (hw _ (List.mem_of_getElem? (i := 33) rfl)) (hw _ (List.mem_of_getElem? (i := 34) rfl)) (hw _ (List.mem_of_getElem? (i := 35) rfl)) (hw _ (List.mem_of_getElem? (i := 36) rfl)) rfl (hw _ (List.mem_of_getElem? (i := 3) rfl)) (hw _ (List.mem_of_getElem? (i := 37) rfl)) (by decide) E58 (con5b l Z a0 hw a36 m58 (1 : Int32) p1 _ h58 n0 FM58 B58 (by decide) (by decide) rfl) (argsL := [(.int (1 : Int32))]) (rest := []) (lenOf pd5 rfl) at_181 rfl rfl 0 (Nat.le_of_eq rfl) (by decide) (by decide) (by decide) (by decide)
                have k : W0 l Z n0 Q0 G s h58 5 24 184 #[.val (.int p0), .val (.int p1), .val (.int p2), .val (.int p3), .val (.int p4), .val (.int p5), .val (.ref a28), .val (.int (6 : Int32)), .val (.int (1 : Int32)), .val (.ref a36)] [(.int p1)] := k
                have k : W0 l Z n0 Q0 G s h58 5 24 189 #[.val (.int p0), .val (.int p1), .val (.int p2), .val (.int p3), .val (.int p4), .val (.int p5), .val (.ref a28), .val (.int (6 : Int32)), .val (.int (1 : Int32)), .val (.ref a36)] [(.int p1), (.int p1)] := ((k.aload at_184 rfl rfl).iload at_186 rfl).ldI A28 (by decide) rfl at_188
                have k : W0 l Z n0 Q0 G s h58 5 24 192 #[.val (.int p0), .val (.int p1), .val (.int p2), .val (.int p3), .val (.int p4), .val (.int p5), .val (.ref a28), .val (.int (6 : Int32)), .val (.int (1 : Int32)), .val (.ref a36)] [] := k.icF at_189 (XT.ii_ne_f rfl)
                have k : W0 l Z n0 Q0 G s h58 5 24 197 #[.val (.int p0), .val (.int p1), .val (.int p2), .val (.int p3), .val (.int p4), .val (.int p5), .val (.ref a28), .val (.int (6 : Int32)), .val (.int (1 : Int32)), .val (.ref a36)] [(.int (1 : Int32))] := (k.iconst (1) at_192 rfl).goto (pc' := 197) at_193 (by decide)
                exact k.outZ (Or.inr rfl) at_197 (by decide) (by decide) rfl
              · have k : W0 l Z n0 Q0 G s h58 5 24 177 #[.val (.int p0), .val (.int p1), .val (.int p2), .val (.int p3), .val (.int p4), .val (.int p5), .val (.ref a28), .val (.int (6 : Int32)), .val (.int (2 : Int32)), .val (.ref a36)] [] := k
                have k : W0 l Z n0 Q0 G s h58 5 24 181 #[.val (.int p0), .val (.int p1), .val (.int p2), .val (.int p3), .val (.int p4), .val (.int p5), .val (.ref a28), .val (.int (6 : Int32)), .val (.int (2 : Int32)), .val (.ref a36)] [(.int (2 : Int32)), (.ref a36)] := (k.aload at_177 rfl rfl).iload at_179 rfl
                obtain ⟨v61, h61, ⟨rfl, rfl⟩, k⟩ := k.callV (hw _ (List.mem_of_getElem? (i := 33) rfl)) (hw _ (List.mem_of_getElem? (i := 34) rfl)) (hw _ (List.mem_of_getElem? (i := 35) rfl)) (hw _ (List.mem_of_getElem? (i := 36) rfl)) rfl (hw _ (List.mem_of_getElem? (i := 3) rfl)) (hw _ (List.mem_of_getElem? (i := 37) rfl)) (by decide) E58 (con5b l Z a0 hw a36 m58 (2 : Int32) p2 _ h58 n0 FM58 B58 (by decide) (by decide) rfl) (argsL := [(.int (2 : Int32))]) (rest := []) (lenOf pd5 rfl) at_181 rfl rfl 0 (Nat.le_of_eq rfl) (by decide) (by decide) (by decide) (by decide)
                have k : W0 l Z n0 Q0 G s h58 5 24 184 #[.val (.int p0), .val (.int p1), .val (.int p2), .val (.int p3), .val (.int p4), .val (.int p5), .val (.ref a28), .val (.int (6 : Int32)), .val (.int (2 : Int32)), .val (.ref a36)] [(.int p2)] := k
                have k : W0 l Z n0 Q0 G s h58 5 24 189 #[.val (.int p0), .val (.int p1), .val (.int p2), .val (.int p3), .val (.int p4), .val (.int p5), .val (.ref a28), .val (.int (6 : Int32)), .val (.int (2 : Int32)), .val (.ref a36)] [(.int p2), (.int p2)] := ((k.aload at_184 rfl rfl).iload at_186 rfl).ldI A28 (by decide) rfl at_188
                have k : W0 l Z n0 Q0 G s h58 5 24 192 #[.val (.int p0), .val (.int p1), .val (.int p2), .val (.int p3), .val (.int p4), .val (.int p5), .val (.ref a28), .val (.int (6 : Int32)), .val (.int (2 : Int32)), .val (.ref a36)] [] := k.icF at_189 (XT.ii_ne_f rfl)
                have k : W0 l Z n0 Q0 G s h58 5 24 197 #[.val (.int p0), .val (.int p1), .val (.int p2), .val (.int p3), .val (.int p4), .val (.int p5), .val (.ref a28), .val (.int (6 : Int32)), .val (.int (2 : Int32)), .val (.ref a36)] [(.int (1 : Int32))] := (k.iconst (1) at_192 rfl).goto (pc' := 197) at_193 (by decide)
                exact k.outZ (Or.inr rfl) at_197 (by decide) (by decide) rfl
              · have k : W0 l Z n0 Q0 G s h58 5 24 177 #[.val (.int p0), .val (.int p1), .val (.int p2), .val (.int p3), .val (.int p4), .val (.int p5), .val (.ref a28), .val (.int (6 : Int32)), .val (.int (3 : Int32)), .val (.ref a36)] [] := k
                have k : W0 l Z n0 Q0 G s h58 5 24 181 #[.val (.int p0), .val (.int p1), .val (.int p2), .val (.int p3), .val (.int p4), .val (.int p5), .val (.ref a28), .val (.int (6 : Int32)), .val (.int (3 : Int32)), .val (.ref a36)] [(.int (3 : Int32)), (.ref a36)] := (k.aload at_177 rfl rfl).iload at_179 rfl
                obtain ⟨v62, h62, ⟨rfl, rfl⟩, k⟩ := k.callV (hw _ (List.mem_of_getElem? (i := 33) rfl)) (hw _ (List.mem_of_getElem? (i := 34) rfl)) (hw _ (List.mem_of_getElem? (i := 35) rfl)) (hw _ (List.mem_of_getElem? (i := 36) rfl)) rfl (hw _ (List.mem_of_getElem? (i := 3) rfl)) (hw _ (List.mem_of_getElem? (i := 37) rfl)) (by decide) E58 (con5b l Z a0 hw a36 m58 (3 : Int32) p3 _ h58 n0 FM58 B58 (by decide) (by decide) rfl) (argsL := [(.int (3 : Int32))]) (rest := []) (lenOf pd5 rfl) at_181 rfl rfl 0 (Nat.le_of_eq rfl) (by decide) (by decide) (by decide) (by decide)
                have k : W0 l Z n0 Q0 G s h58 5 24 184 #[.val (.int p0), .val (.int p1), .val (.int p2), .val (.int p3), .val (.int p4), .val (.int p5), .val (.ref a28), .val (.int (6 : Int32)), .val (.int (3 : Int32)), .val (.ref a36)] [(.int p3)] := k
                have k : W0 l Z n0 Q0 G s h58 5 24 189 #[.val (.int p0), .val (.int p1), .val (.int p2), .val (.int p3), .val (.int p4), .val (.int p5), .val (.ref a28), .val (.int (6 : Int32)), .val (.int (3 : Int32)), .val (.ref a36)] [(.int p3), (.int p3)] := ((k.aload at_184 rfl rfl).iload at_186 rfl).ldI A28 (by decide) rfl at_188
                have k : W0 l Z n0 Q0 G s h58 5 24 192 #[.val (.int p0), .val (.int p1), .val (.int p2), .val (.int p3), .val (.int p4), .val (.int p5), .val (.ref a28), .val (.int (6 : Int32)), .val (.int (3 : Int32)), .val (.ref a36)] [] := k.icF at_189 (XT.ii_ne_f rfl)
                have k : W0 l Z n0 Q0 G s h58 5 24 197 #[.val (.int p0), .val (.int p1), .val (.int p2), .val (.int p3), .val (.int p4), .val (.int p5), .val (.ref a28), .val (.int (6 : Int32)), .val (.int (3 : Int32)), .val (.ref a36)] [(.int (1 : Int32))] := (k.iconst (1) at_192 rfl).goto (pc' := 197) at_193 (by decide)
                exact k.outZ (Or.inr rfl) at_197 (by decide) (by decide) rfl
              · have k : W0 l Z n0 Q0 G s h58 5 24 177 #[.val (.int p0), .val (.int p1), .val (.int p2), .val (.int p3), .val (.int p4), .val (.int p5), .val (.ref a28), .val (.int (6 : Int32)), .val (.int (4 : Int32)), .val (.ref a36)] [] := k
                have k : W0 l Z n0 Q0 G s h58 5 24 181 #[.val (.int p0), .val (.int p1), .val (.int p2), .val (.int p3), .val (.int p4), .val (.int p5), .val (.ref a28), .val (.int (6 : Int32)), .val (.int (4 : Int32)), .val (.ref a36)] [(.int (4 : Int32)), (.ref a36)] := (k.aload at_177 rfl rfl).iload at_179 rfl
                obtain ⟨v63, h63, ⟨rfl, rfl⟩, k⟩ := k.callV (hw _ (List.mem_of_getElem? (i := 33) rfl)) (hw _ (List.mem_of_getElem? (i := 34) rfl)) (hw _ (List.mem_of_getElem? (i := 35) rfl)) (hw _ (List.mem_of_getElem? (i := 36) rfl)) rfl (hw _ (List.mem_of_getElem? (i := 3) rfl)) (hw _ (List.mem_of_getElem? (i := 37) rfl)) (by decide) E58 (con5b l Z a0 hw a36 m58 (4 : Int32) p4 _ h58 n0 FM58 B58 (by decide) (by decide) rfl) (argsL := [(.int (4 : Int32))]) (rest := []) (lenOf pd5 rfl) at_181 rfl rfl 0 (Nat.le_of_eq rfl) (by decide) (by decide) (by decide) (by decide)
                have k : W0 l Z n0 Q0 G s h58 5 24 184 #[.val (.int p0), .val (.int p1), .val (.int p2), .val (.int p3), .val (.int p4), .val (.int p5), .val (.ref a28), .val (.int (6 : Int32)), .val (.int (4 : Int32)), .val (.ref a36)] [(.int p4)] := k
                have k : W0 l Z n0 Q0 G s h58 5 24 189 #[.val (.int p0), .val (.int p1), .val (.int p2), .val (.int p3), .val (.int p4), .val (.int p5), .val (.ref a28), .val (.int (6 : Int32)), .val (.int (4 : Int32)), .val (.ref a36)] [(.int p4), (.int p4)] := ((k.aload at_184 rfl rfl).iload at_186 rfl).ldI A28 (by decide) rfl at_188
                have k : W0 l Z n0 Q0 G s h58 5 24 192 #[.val (.int p0), .val (.int p1), .val (.int p2), .val (.int p3), .val (.int p4), .val (.int p5), .val (.ref a28), .val (.int (6 : Int32)), .val (.int (4 : Int32)), .val (.ref a36)] [] := k.icF at_189 (XT.ii_ne_f rfl)
                have k : W0 l Z n0 Q0 G s h58 5 24 197 #[.val (.int p0), .val (.int p1), .val (.int p2), .val (.int p3), .val (.int p4), .val (.int p5), .val (.ref a28), .val (.int (6 : Int32)), .val (.int (4 : Int32)), .val (.ref a36)] [(.int (1 : Int32))] := (k.iconst (1) at_192 rfl).goto (pc' := 197) at_193 (by decide)
                exact k.outZ (Or.inr rfl) at_197 (by decide) (by decide) rfl
              · have k : W0 l Z n0 Q0 G s h58 5 24 177 #[.val (.int p0), .val (.int p1), .val (.int p2), .val (.int p3), .val (.int p4), .val (.int p5), .val (.ref a28), .val (.int (6 : Int32)), .val (.int (5 : Int32)), .val (.ref a36)] [] := k
                have k : W0 l Z n0 Q0 G s h58 5 24 181 #[.val (.int p0), .val (.int p1), .val (.int p2), .val (.int p3), .val (.int p4), .val (.int p5), .val (.ref a28), .val (.int (6 : Int32)), .val (.int (5 : Int32)), .val (.ref a36)] [(.int (5 : Int32)), (.ref a36)] := (k.aload at_177 rfl rfl).iload at_179 rfl
                obtain ⟨v64, h64, ⟨rfl, rfl⟩, k⟩ := k.callV (hw _ (List.mem_of_getElem? (i := 33) rfl)) (hw _ (List.mem_of_getElem? (i := 34) rfl)) (hw _ (List.mem_of_getElem? (i := 35) rfl)) (hw _ (List.mem_of_getElem? (i := 36) rfl)) rfl (hw _ (List.mem_of_getElem? (i := 3) rfl)) (hw _ (List.mem_of_getElem? (i := 37) rfl)) (by decide) E58 (con5b l Z a0 hw a36 m58 (5 : Int32) (p0 ^^^ (-1 : Int32)) _ h58 n0 FM58 B58 (by decide) (by decide) rfl) (argsL := [(.int (5 : Int32))]) (rest := []) (lenOf pd5 rfl) at_181 rfl rfl 0 (Nat.le_of_eq rfl) (by decide) (by decide) (by decide) (by decide)
                have k : W0 l Z n0 Q0 G s h58 5 24 184 #[.val (.int p0), .val (.int p1), .val (.int p2), .val (.int p3), .val (.int p4), .val (.int p5), .val (.ref a28), .val (.int (6 : Int32)), .val (.int (5 : Int32)), .val (.ref a36)] [(.int (p0 ^^^ (-1 : Int32)))] := k
                have k : W0 l Z n0 Q0 G s h58 5 24 189 #[.val (.int p0), .val (.int p1), .val (.int p2), .val (.int p3), .val (.int p4), .val (.int p5), .val (.ref a28), .val (.int (6 : Int32)), .val (.int (5 : Int32)), .val (.ref a36)] [(.int (p0 ^^^ (-1 : Int32))), (.int (p0 ^^^ (-1 : Int32)))] := ((k.aload at_184 rfl rfl).iload at_186 rfl).ldI A28 (by decide) rfl at_188
                have k : W0 l Z n0 Q0 G s h58 5 24 192 #[.val (.int p0), .val (.int p1), .val (.int p2), .val (.int p3), .val (.int p4), .val (.int p5), .val (.ref a28), .val (.int (6 : Int32)), .val (.int (5 : Int32)), .val (.ref a36)] [] := k.icF at_189 (XT.ii_ne_f rfl)
                have k : W0 l Z n0 Q0 G s h58 5 24 197 #[.val (.int p0), .val (.int p1), .val (.int p2), .val (.int p3), .val (.int p4), .val (.int p5), .val (.ref a28), .val (.int (6 : Int32)), .val (.int (5 : Int32)), .val (.ref a36)] [(.int (1 : Int32))] := (k.iconst (1) at_192 rfl).goto (pc' := 197) at_193 (by decide)
                exact k.outZ (Or.inr rfl) at_197 (by decide) (by decide) rfl
            · have k : W0 l Z n0 Q0 G s h58 5 24 167 #[.val (.int p0), .val (.int p1), .val (.int p2), .val (.int p3), .val (.int p4), .val (.int p5), .val (.ref a28), .val (.int cn), .val (.int ix), .val (.ref a36)] [] := k.icF at_164 (XT.ii_le_f (show (6 : Int32) < cn by subst hc; decide))
              have k : W0 l Z n0 Q0 G s h58 5 24 174 #[.val (.int p0), .val (.int p1), .val (.int p2), .val (.int p3), .val (.int p4), .val (.int p5), .val (.ref a28), .val (.int cn), .val (.int ix), .val (.ref a36)] [(.int (p1 ^^^ (-1 : Int32))), (.ref a36)] := (((k.aload at_167 rfl rfl).aload at_169 rfl rfl).bipush (6) at_171 rfl).ldI A28 (by decide) rfl at_173
              obtain ⟨v65, h65, ⟨rfl, K65, E65, FS65, FF65, FM65, B65⟩, k⟩ := k.callV (hw _ (List.mem_of_getElem? (i := 10) rfl)) (hw _ (List.mem_of_getElem? (i := 11) rfl)) (hw _ (List.mem_of_getElem? (i := 12) rfl)) (hw _ (List.mem_of_getElem? (i := 13) rfl)) rfl (hw _ (List.mem_of_getElem? (i := 3) rfl)) (hw _ (List.mem_of_getElem? (i := 14) rfl)) (by decide) E58 (con47 l Z a0 hw a36 m58 p0 p1 p2 p3 p4 (p0 ^^^ (-1 : Int32)) (p1 ^^^ (-1 : Int32)) h58 n0 (by omega) n_a36 E58 FS58 FF58 FM58 B58 (by omega) n_m58) (argsL := [(.int (p1 ^^^ (-1 : Int32)))]) (rest := []) (lenOf pd4 rfl) at_174 rfl rfl 0 (Nat.le_of_eq rfl) (by decide) (by decide) (by decide) (by decide)
              have A28 := A28.keep K65 (nS (by omega) (nS (by omega) nin0))
              have s_h65 : n0 ≤ h65.size := Nat.le_trans (by omega) K65.1
              have k : W0 l Z n0 Q0 G s h65 5 24 177 #[.val (.int p0), .val (.int p1), .val (.int p2), .val (.int p3), .val (.int p4), .val (.int p5), .val (.ref a28), .val (.int cn), .val (.int ix), .val (.ref a36)] [] := k
              subst hc
              have k : W0 l Z n0 Q0 G s h65 5 24 177 #[.val (.int p0), .val (.int p1), .val (.int p2), .val (.int p3), .val (.int p4), .val (.int p5), .val (.ref a28), .val (.int (7 : Int32)), .val (.int ix), .val (.ref a36)] [] := k
              have dx : ix = 0 ∨ ix = 1 ∨ ix = 2 ∨ ix = 3 ∨ ix = 4 ∨ ix = 5 ∨ ix = 6 := by rw [hix]; exact own_ix7 p5
              rcases dx with rfl | rfl | rfl | rfl | rfl | rfl | rfl
              · have k : W0 l Z n0 Q0 G s h65 5 24 177 #[.val (.int p0), .val (.int p1), .val (.int p2), .val (.int p3), .val (.int p4), .val (.int p5), .val (.ref a28), .val (.int (7 : Int32)), .val (.int (0 : Int32)), .val (.ref a36)] [] := k
                have k : W0 l Z n0 Q0 G s h65 5 24 181 #[.val (.int p0), .val (.int p1), .val (.int p2), .val (.int p3), .val (.int p4), .val (.int p5), .val (.ref a28), .val (.int (7 : Int32)), .val (.int (0 : Int32)), .val (.ref a36)] [(.int (0 : Int32)), (.ref a36)] := (k.aload at_177 rfl rfl).iload at_179 rfl
                obtain ⟨v66, h66, ⟨rfl, rfl⟩, k⟩ := k.callV (hw _ (List.mem_of_getElem? (i := 33) rfl)) (hw _ (List.mem_of_getElem? (i := 34) rfl)) (hw _ (List.mem_of_getElem? (i := 35) rfl)) (hw _ (List.mem_of_getElem? (i := 36) rfl)) rfl (hw _ (List.mem_of_getElem? (i := 3) rfl)) (hw _ (List.mem_of_getElem? (i := 37) rfl)) (by decide) E65 (con5a l Z a0 hw a36 p0 h65 n0 FF65) (argsL := [(.int (0 : Int32))]) (rest := []) (lenOf pd5 rfl) at_181 rfl rfl 0 (Nat.le_of_eq rfl) (by decide) (by decide) (by decide) (by decide)
                have k : W0 l Z n0 Q0 G s h65 5 24 184 #[.val (.int p0), .val (.int p1), .val (.int p2), .val (.int p3), .val (.int p4), .val (.int p5), .val (.ref a28), .val (.int (7 : Int32)), .val (.int (0 : Int32)), .val (.ref a36)] [(.int p0)] := k
                have k : W0 l Z n0 Q0 G s h65 5 24 189 #[.val (.int p0), .val (.int p1), .val (.int p2), .val (.int p3), .val (.int p4), .val (.int p5), .val (.ref a28), .val (.int (7 : Int32)), .val (.int (0 : Int32)), .val (.ref a36)] [(.int p0), (.int p0)] := ((k.aload at_184 rfl rfl).iload at_186 rfl).ldI A28 (by decide) rfl at_188
                have k : W0 l Z n0 Q0 G s h65 5 24 192 #[.val (.int p0), .val (.int p1), .val (.int p2), .val (.int p3), .val (.int p4), .val (.int p5), .val (.ref a28), .val (.int (7 : Int32)), .val (.int (0 : Int32)), .val (.ref a36)] [] := k.icF at_189 (XT.ii_ne_f rfl)
                have k : W0 l Z n0 Q0 G s h65 5 24 197 #[.val (.int p0), .val (.int p1), .val (.int p2), .val (.int p3), .val (.int p4), .val (.int p5), .val (.ref a28), .val (.int (7 : Int32)), .val (.int (0 : Int32)), .val (.ref a36)] [(.int (1 : Int32))] := (k.iconst (1) at_192 rfl).goto (pc' := 197) at_193 (by decide)
                exact k.outZ (Or.inr rfl) at_197 (by decide) (by decide) rfl
              · have k : W0 l Z n0 Q0 G s h65 5 24 177 #[.val (.int p0), .val (.int p1), .val (.int p2), .val (.int p3), .val (.int p4), .val (.int p5), .val (.ref a28), .val (.int (7 : Int32)), .val (.int (1 : Int32)), .val (.ref a36)] [] := k
                have k : W0 l Z n0 Q0 G s h65 5 24 181 #[.val (.int p0), .val (.int p1), .val (.int p2), .val (.int p3), .val (.int p4), .val (.int p5), .val (.ref a28), .val (.int (7 : Int32)), .val (.int (1 : Int32)), .val (.ref a36)] [(.int (1 : Int32)), (.ref a36)] := (k.aload at_177 rfl rfl).iload at_179 rfl
                obtain ⟨v67, h67, ⟨rfl, rfl⟩, k⟩ := k.callV (hw _ (List.mem_of_getElem? (i := 33) rfl)) (hw _ (List.mem_of_getElem? (i := 34) rfl)) (hw _ (List.mem_of_getElem? (i := 35) rfl)) (hw _ (List.mem_of_getElem? (i := 36) rfl)) rfl (hw _ (List.mem_of_getElem? (i := 3) rfl)) (hw _ (List.mem_of_getElem? (i := 37) rfl)) (by decide) E65 (con5b l Z a0 hw a36 m58 (1 : Int32) p1 _ h65 n0 FM65 B65 (by decide) (by decide) rfl) (argsL := [(.int (1 : Int32))]) (rest := []) (lenOf pd5 rfl) at_181 rfl rfl 0 (Nat.le_of_eq rfl) (by decide) (by decide) (by decide) (by decide)
                have k : W0 l Z n0 Q0 G s h65 5 24 184 #[.val (.int p0), .val (.int p1), .val (.int p2), .val (.int p3), .val (.int p4), .val (.int p5), .val (.ref a28), .val (.int (7 : Int32)), .val (.int (1 : Int32)), .val (.ref a36)] [(.int p1)] := k
                have k : W0 l Z n0 Q0 G s h65 5 24 189 #[.val (.int p0), .val (.int p1), .val (.int p2), .val (.int p3), .val (.int p4), .val (.int p5), .val (.ref a28), .val (.int (7 : Int32)), .val (.int (1 : Int32)), .val (.ref a36)] [(.int p1), (.int p1)] := ((k.aload at_184 rfl rfl).iload at_186 rfl).ldI A28 (by decide) rfl at_188
                have k : W0 l Z n0 Q0 G s h65 5 24 192 #[.val (.int p0), .val (.int p1), .val (.int p2), .val (.int p3), .val (.int p4), .val (.int p5), .val (.ref a28), .val (.int (7 : Int32)), .val (.int (1 : Int32)), .val (.ref a36)] [] := k.icF at_189 (XT.ii_ne_f rfl)
                have k : W0 l Z n0 Q0 G s h65 5 24 197 #[.val (.int p0), .val (.int p1), .val (.int p2), .val (.int p3), .val (.int p4), .val (.int p5), .val (.ref a28), .val (.int (7 : Int32)), .val (.int (1 : Int32)), .val (.ref a36)] [(.int (1 : Int32))] := (k.iconst (1) at_192 rfl).goto (pc' := 197) at_193 (by decide)
                exact k.outZ (Or.inr rfl) at_197 (by decide) (by decide) rfl
              · have k : W0 l Z n0 Q0 G s h65 5 24 177 #[.val (.int p0), .val (.int p1), .val (.int p2), .val (.int p3), .val (.int p4), .val (.int p5), .val (.ref a28), .val (.int (7 : Int32)), .val (.int (2 : Int32)), .val (.ref a36)] [] := k
                have k : W0 l Z n0 Q0 G s h65 5 24 181 #[.val (.int p0), .val (.int p1), .val (.int p2), .val (.int p3), .val (.int p4), .val (.int p5), .val (.ref a28), .val (.int (7 : Int32)), .val (.int (2 : Int32)), .val (.ref a36)] [(.int (2 : Int32)), (.ref a36)] := (k.aload at_177 rfl rfl).iload at_179 rfl
                obtain ⟨v68, h68, ⟨rfl, rfl⟩, k⟩ := k.callV (hw _ (List.mem_of_getElem? (i := 33) rfl)) (hw _ (List.mem_of_getElem? (i := 34) rfl)) (hw _ (List.mem_of_getElem? (i := 35) rfl)) (hw _ (List.mem_of_getElem? (i := 36) rfl)) rfl (hw _ (List.mem_of_getElem? (i := 3) rfl)) (hw _ (List.mem_of_getElem? (i := 37) rfl)) (by decide) E65 (con5b l Z a0 hw a36 m58 (2 : Int32) p2 _ h65 n0 FM65 B65 (by decide) (by decide) rfl) (argsL := [(.int (2 : Int32))]) (rest := []) (lenOf pd5 rfl) at_181 rfl rfl 0 (Nat.le_of_eq rfl) (by decide) (by decide) (by decide) (by decide)
                have k : W0 l Z n0 Q0 G s h65 5 24 184 #[.val (.int p0), .val (.int p1), .val (.int p2), .val (.int p3), .val (.int p4), .val (.int p5), .val (.ref a28), .val (.int (7 : Int32)), .val (.int (2 : Int32)), .val (.ref a36)] [(.int p2)] := k
                have k : W0 l Z n0 Q0 G s h65 5 24 189 #[.val (.int p0), .val (.int p1), .val (.int p2), .val (.int p3), .val (.int p4), .val (.int p5), .val (.ref a28), .val (.int (7 : Int32)), .val (.int (2 : Int32)), .val (.ref a36)] [(.int p2), (.int p2)] := ((k.aload at_184 rfl rfl).iload at_186 rfl).ldI A28 (by decide) rfl at_188
                have k : W0 l Z n0 Q0 G s h65 5 24 192 #[.val (.int p0), .val (.int p1), .val (.int p2), .val (.int p3), .val (.int p4), .val (.int p5), .val (.ref a28), .val (.int (7 : Int32)), .val (.int (2 : Int32)), .val (.ref a36)] [] := k.icF at_189 (XT.ii_ne_f rfl)
                have k : W0 l Z n0 Q0 G s h65 5 24 197 #[.val (.int p0), .val (.int p1), .val (.int p2), .val (.int p3), .val (.int p4), .val (.int p5), .val (.ref a28), .val (.int (7 : Int32)), .val (.int (2 : Int32)), .val (.ref a36)] [(.int (1 : Int32))] := (k.iconst (1) at_192 rfl).goto (pc' := 197) at_193 (by decide)
                exact k.outZ (Or.inr rfl) at_197 (by decide) (by decide) rfl
              · have k : W0 l Z n0 Q0 G s h65 5 24 177 #[.val (.int p0), .val (.int p1), .val (.int p2), .val (.int p3), .val (.int p4), .val (.int p5), .val (.ref a28), .val (.int (7 : Int32)), .val (.int (3 : Int32)), .val (.ref a36)] [] := k
                have k : W0 l Z n0 Q0 G s h65 5 24 181 #[.val (.int p0), .val (.int p1), .val (.int p2), .val (.int p3), .val (.int p4), .val (.int p5), .val (.ref a28), .val (.int (7 : Int32)), .val (.int (3 : Int32)), .val (.ref a36)] [(.int (3 : Int32)), (.ref a36)] := (k.aload at_177 rfl rfl).iload at_179 rfl
                obtain ⟨v69, h69, ⟨rfl, rfl⟩, k⟩ := k.callV (hw _ (List.mem_of_getElem? (i := 33) rfl)) (hw _ (List.mem_of_getElem? (i := 34) rfl)) (hw _ (List.mem_of_getElem? (i := 35) rfl)) (hw _ (List.mem_of_getElem? (i := 36) rfl)) rfl (hw _ (List.mem_of_getElem? (i := 3) rfl)) (hw _ (List.mem_of_getElem? (i := 37) rfl)) (by decide) E65 (con5b l Z a0 hw a36 m58 (3 : Int32) p3 _ h65 n0 FM65 B65 (by decide) (by decide) rfl) (argsL := [(.int (3 : Int32))]) (rest := []) (lenOf pd5 rfl) at_181 rfl rfl 0 (Nat.le_of_eq rfl) (by decide) (by decide) (by decide) (by decide)
                have k : W0 l Z n0 Q0 G s h65 5 24 184 #[.val (.int p0), .val (.int p1), .val (.int p2), .val (.int p3), .val (.int p4), .val (.int p5), .val (.ref a28), .val (.int (7 : Int32)), .val (.int (3 : Int32)), .val (.ref a36)] [(.int p3)] := k
                have k : W0 l Z n0 Q0 G s h65 5 24 189 #[.val (.int p0), .val (.int p1), .val (.int p2), .val (.int p3), .val (.int p4), .val (.int p5), .val (.ref a28), .val (.int (7 : Int32)), .val (.int (3 : Int32)), .val (.ref a36)] [(.int p3), (.int p3)] := ((k.aload at_184 rfl rfl).iload at_186 rfl).ldI A28 (by decide) rfl at_188
                have k : W0 l Z n0 Q0 G s h65 5 24 192 #[.val (.int p0), .val (.int p1), .val (.int p2), .val (.int p3), .val (.int p4), .val (.int p5), .val (.ref a28), .val (.int (7 : Int32)), .val (.int (3 : Int32)), .val (.ref a36)] [] := k.icF at_189 (XT.ii_ne_f rfl)
                have k : W0 l Z n0 Q0 G s h65 5 24 197 #[.val (.int p0), .val (.int p1), .val (.int p2), .val (.int p3), .val (.int p4), .val (.int p5), .val (.ref a28), .val (.int (7 : Int32)), .val (.int (3 : Int32)), .val (.ref a36)] [(.int (1 : Int32))] := (k.iconst (1) at_192 rfl).goto (pc' := 197) at_193 (by decide)
                exact k.outZ (Or.inr rfl) at_197 (by decide) (by decide) rfl
              · have k : W0 l Z n0 Q0 G s h65 5 24 177 #[.val (.int p0), .val (.int p1), .val (.int p2), .val (.int p3), .val (.int p4), .val (.int p5), .val (.ref a28), .val (.int (7 : Int32)), .val (.int (4 : Int32)), .val (.ref a36)] [] := k
                have k : W0 l Z n0 Q0 G s h65 5 24 181 #[.val (.int p0), .val (.int p1), .val (.int p2), .val (.int p3), .val (.int p4), .val (.int p5), .val (.ref a28), .val (.int (7 : Int32)), .val (.int (4 : Int32)), .val (.ref a36)] [(.int (4 : Int32)), (.ref a36)] := (k.aload at_177 rfl rfl).iload at_179 rfl
                obtain ⟨v70, h70, ⟨rfl, rfl⟩, k⟩ := k.callV (hw _ (List.mem_of_getElem? (i := 33) rfl)) (hw _ (List.mem_of_getElem? (i := 34) rfl)) (hw _ (List.mem_of_getElem? (i := 35) rfl)) (hw _ (List.mem_of_getElem? (i := 36) rfl)) rfl (hw _ (List.mem_of_getElem? (i := 3) rfl)) (hw _ (List.mem_of_getElem? (i := 37) rfl)) (by decide) E65 (con5b l Z a0 hw a36 m58 (4 : Int32) p4 _ h65 n0 FM65 B65 (by decide) (by decide) rfl) (argsL := [(.int (4 : Int32))]) (rest := []) (lenOf pd5 rfl) at_181 rfl rfl 0 (Nat.le_of_eq rfl) (by decide) (by decide) (by decide) (by decide)
                have k : W0 l Z n0 Q0 G s h65 5 24 184 #[.val (.int p0), .val (.int p1), .val (.int p2), .val (.int p3), .val (.int p4), .val (.int p5), .val (.ref a28), .val (.int (7 : Int32)), .val (.int (4 : Int32)), .val (.ref a36)] [(.int p4)] := k
                have k : W0 l Z n0 Q0 G s h65 5 24 189 #[.val (.int p0), .val (.int p1), .val (.int p2), .val (.int p3), .val (.int p4), .val (.int p5), .val (.ref a28), .val (.int (7 : Int32)), .val (.int (4 : Int32)), .val (.ref a36)] [(.int p4), (.int p4)] := ((k.aload at_184 rfl rfl).iload at_186 rfl).ldI A28 (by decide) rfl at_188
                have k : W0 l Z n0 Q0 G s h65 5 24 192 #[.val (.int p0), .val (.int p1), .val (.int p2), .val (.int p3), .val (.int p4), .val (.int p5), .val (.ref a28), .val (.int (7 : Int32)), .val (.int (4 : Int32)), .val (.ref a36)] [] := k.icF at_189 (XT.ii_ne_f rfl)
                have k : W0 l Z n0 Q0 G s h65 5 24 197 #[.val (.int p0), .val (.int p1), .val (.int p2), .val (.int p3), .val (.int p4), .val (.int p5), .val (.ref a28), .val (.int (7 : Int32)), .val (.int (4 : Int32)), .val (.ref a36)] [(.int (1 : Int32))] := (k.iconst (1) at_192 rfl).goto (pc' := 197) at_193 (by decide)
                exact k.outZ (Or.inr rfl) at_197 (by decide) (by decide) rfl
              · have k : W0 l Z n0 Q0 G s h65 5 24 177 #[.val (.int p0), .val (.int p1), .val (.int p2), .val (.int p3), .val (.int p4), .val (.int p5), .val (.ref a28), .val (.int (7 : Int32)), .val (.int (5 : Int32)), .val (.ref a36)] [] := k
                have k : W0 l Z n0 Q0 G s h65 5 24 181 #[.val (.int p0), .val (.int p1), .val (.int p2), .val (.int p3), .val (.int p4), .val (.int p5), .val (.ref a28), .val (.int (7 : Int32)), .val (.int (5 : Int32)), .val (.ref a36)] [(.int (5 : Int32)), (.ref a36)] := (k.aload at_177 rfl rfl).iload at_179 rfl
                obtain ⟨v71, h71, ⟨rfl, rfl⟩, k⟩ := k.callV (hw _ (List.mem_of_getElem? (i := 33) rfl)) (hw _ (List.mem_of_getElem? (i := 34) rfl)) (hw _ (List.mem_of_getElem? (i := 35) rfl)) (hw _ (List.mem_of_getElem? (i := 36) rfl)) rfl (hw _ (List.mem_of_getElem? (i := 3) rfl)) (hw _ (List.mem_of_getElem? (i := 37) rfl)) (by decide) E65 (con5b l Z a0 hw a36 m58 (5 : Int32) (p0 ^^^ (-1 : Int32)) _ h65 n0 FM65 B65 (by decide) (by decide) rfl) (argsL := [(.int (5 : Int32))]) (rest := []) (lenOf pd5 rfl) at_181 rfl rfl 0 (Nat.le_of_eq rfl) (by decide) (by decide) (by decide) (by decide)
                have k : W0 l Z n0 Q0 G s h65 5 24 184 #[.val (.int p0), .val (.int p1), .val (.int p2), .val (.int p3), .val (.int p4), .val (.int p5), .val (.ref a28), .val (.int (7 : Int32)), .val (.int (5 : Int32)), .val (.ref a36)] [(.int (p0 ^^^ (-1 : Int32)))] := k
                have k : W0 l Z n0 Q0 G s h65 5 24 189 #[.val (.int p0), .val (.int p1), .val (.int p2), .val (.int p3), .val (.int p4), .val (.int p5), .val (.ref a28), .val (.int (7 : Int32)), .val (.int (5 : Int32)), .val (.ref a36)] [(.int (p0 ^^^ (-1 : Int32))), (.int (p0 ^^^ (-1 : Int32)))] := ((k.aload at_184 rfl rfl).iload at_186 rfl).ldI A28 (by decide) rfl at_188
                have k : W0 l Z n0 Q0 G s h65 5 24 192 #[.val (.int p0), .val (.int p1), .val (.int p2), .val (.int p3), .val (.int p4), .val (.int p5), .val (.ref a28), .val (.int (7 : Int32)), .val (.int (5 : Int32)), .val (.ref a36)] [] := k.icF at_189 (XT.ii_ne_f rfl)
                have k : W0 l Z n0 Q0 G s h65 5 24 197 #[.val (.int p0), .val (.int p1), .val (.int p2), .val (.int p3), .val (.int p4), .val (.int p5), .val (.ref a28), .val (.int (7 : Int32)), .val (.int (5 : Int32)), .val (.ref a36)] [(.int (1 : Int32))] := (k.iconst (1) at_192 rfl).goto (pc' := 197) at_193 (by decide)
                exact k.outZ (Or.inr rfl) at_197 (by decide) (by decide) rfl
              · have k : W0 l Z n0 Q0 G s h65 5 24 177 #[.val (.int p0), .val (.int p1), .val (.int p2), .val (.int p3), .val (.int p4), .val (.int p5), .val (.ref a28), .val (.int (7 : Int32)), .val (.int (6 : Int32)), .val (.ref a36)] [] := k
                have k : W0 l Z n0 Q0 G s h65 5 24 181 #[.val (.int p0), .val (.int p1), .val (.int p2), .val (.int p3), .val (.int p4), .val (.int p5), .val (.ref a28), .val (.int (7 : Int32)), .val (.int (6 : Int32)), .val (.ref a36)] [(.int (6 : Int32)), (.ref a36)] := (k.aload at_177 rfl rfl).iload at_179 rfl
                obtain ⟨v72, h72, ⟨rfl, rfl⟩, k⟩ := k.callV (hw _ (List.mem_of_getElem? (i := 33) rfl)) (hw _ (List.mem_of_getElem? (i := 34) rfl)) (hw _ (List.mem_of_getElem? (i := 35) rfl)) (hw _ (List.mem_of_getElem? (i := 36) rfl)) rfl (hw _ (List.mem_of_getElem? (i := 3) rfl)) (hw _ (List.mem_of_getElem? (i := 37) rfl)) (by decide) E65 (con5b l Z a0 hw a36 m58 (6 : Int32) (p1 ^^^ (-1 : Int32)) _ h65 n0 FM65 B65 (by decide) (by decide) rfl) (argsL := [(.int (6 : Int32))]) (rest := []) (lenOf pd5 rfl) at_181 rfl rfl 0 (Nat.le_of_eq rfl) (by decide) (by decide) (by decide) (by decide)
                have k : W0 l Z n0 Q0 G s h65 5 24 184 #[.val (.int p0), .val (.int p1), .val (.int p2), .val (.int p3), .val (.int p4), .val (.int p5), .val (.ref a28), .val (.int (7 : Int32)), .val (.int (6 : Int32)), .val (.ref a36)] [(.int (p1 ^^^ (-1 : Int32)))] := k
                have k : W0 l Z n0 Q0 G s h65 5 24 189 #[.val (.int p0), .val (.int p1), .val (.int p2), .val (.int p3), .val (.int p4), .val (.int p5), .val (.ref a28), .val (.int (7 : Int32)), .val (.int (6 : Int32)), .val (.ref a36)] [(.int (p1 ^^^ (-1 : Int32))), (.int (p1 ^^^ (-1 : Int32)))] := ((k.aload at_184 rfl rfl).iload at_186 rfl).ldI A28 (by decide) rfl at_188
                have k : W0 l Z n0 Q0 G s h65 5 24 192 #[.val (.int p0), .val (.int p1), .val (.int p2), .val (.int p3), .val (.int p4), .val (.int p5), .val (.ref a28), .val (.int (7 : Int32)), .val (.int (6 : Int32)), .val (.ref a36)] [] := k.icF at_189 (XT.ii_ne_f rfl)
                have k : W0 l Z n0 Q0 G s h65 5 24 197 #[.val (.int p0), .val (.int p1), .val (.int p2), .val (.int p3), .val (.int p4), .val (.int p5), .val (.ref a28), .val (.int (7 : Int32)), .val (.int (6 : Int32)), .val (.ref a36)] [(.int (1 : Int32))] := (k.iconst (1) at_192 rfl).goto (pc' := 197) at_193 (by decide)
                exact k.outZ (Or.inr rfl) at_197 (by decide) (by decide) rfl
set_option maxRecDepth 65536 in
set_option maxHeartbeats 40000000 in
theorem comes_1 {Post : Tables → Env → Array Value → State → Outcome → State → Prop} (hpost : ∀ tb e args s v u, (limb_1_1.after args s (.returned v) u = true ∧ limb_1_2.after args s (.returned v) u = true ∧ True) → FrameEnd s (.returned v) u (Jvm.fieldLocs frame_1_writes args s ++ Jvm.arrayLocs frame_1_arrays args s ++ Jvm.staticLocs frame_1_statics s) 24 128 → Post tb e args s (.returned v) u) :
    ArmFor flags0 classFile x code maxLocals ret World_1 tables_1 room_1 Calls_1 rest_1 Pre_1 Post := by
  intro l hfl _ _ p e ha hc hk s m args below hf hA hF happ hP
  obtain ⟨hcalls, hrest, hpre⟩ := hP
  obtain ⟨-, -, -, hnamed, -, -, -, hat⟩ := (Spec.applies_iff hf).mp happ
  obtain ⟨hg, hn⟩ := and_e (Cond.before_iff.mp (show (Jvm.Cond.and given_1 narrow_1).before args s = true from hpre))
  obtain ⟨h1, g0⟩ := and_e hg
  obtain ⟨w0, w1, w2, w3, w4, w5, rfl⟩ : ∃ w0 w1 w2 w3 w4 w5 : Value, args = #[w0, w1, w2, w3, w4, w5] := by
    have hs : args.size = 6 := by simpa [Cond.value, given_1] using h1
    obtain ⟨L⟩ := args
    match L, hs with
    | [w0, w1, w2, w3, w4, w5], _ => exact ⟨w0, w1, w2, w3, w4, w5, rfl⟩
  have hw := fun d (hd : d ∈ tables_1) => atoms_spec (ws := Jvm.Cond.code x code maxLocals ret :: tables_1) hat d (List.mem_cons_of_mem _ hd)
  obtain ⟨q0, g1⟩ := and_e g0
  obtain ⟨i0, e0⟩ := is_v q0
  obtain rfl : w0 = (.int i0) := Option.some.inj e0
  obtain ⟨q1, g2⟩ := and_e g1
  obtain ⟨i1, e1⟩ := is_v q1
  obtain rfl : w1 = (.int i1) := Option.some.inj e1
  obtain ⟨q2, g3⟩ := and_e g2
  obtain ⟨i2, e2⟩ := is_v q2
  obtain rfl : w2 = (.int i2) := Option.some.inj e2
  obtain ⟨q3, g4⟩ := and_e g3
  obtain ⟨i3, e3⟩ := is_v q3
  obtain rfl : w3 = (.int i3) := Option.some.inj e3
  obtain ⟨q4, g5⟩ := and_e g4
  obtain ⟨i4, e4⟩ := is_v q4
  obtain rfl : w4 = (.int i4) := Option.some.inj e4
  have q5 := g5
  obtain ⟨i5, e5⟩ := is_v q5
  obtain rfl : w5 = (.int i5) := Option.some.inj e5
  obtain ⟨n, o, h1, h2, h3, _, L, rfl, ⟨N, rfl⟩, hq⟩ := con0 l s _ hw i0 i1 i2 i3 i4 i5 s.heap s.heap.size (Nat.le_refl _) tables_1 p e ha hc hk s m _ below hf ((Spec.applies_iff_loose hf).mp happ).1 ⟨rfl, State.Warmed39.refl s, rfl⟩ trivial
  refine ⟨n, _, h1, h2, h3, hpost _ _ _ _ _ _ ⟨Cond.after_iff.mpr rfl, Cond.after_iff.mpr (eq_i res_at (Term.int_eval (1)) rfl), trivial⟩ ⟨hq.1, hq.2.1, (hq.2.2.sift fun y hy => Or.inr (N y hy)).mono (by decide) (by decide)⟩⟩
theorem main_1_1 : Claimed_1_1 := comes_1 fun _ _ _ _ _ _ h hF => ⟨h.1, hF⟩
theorem main_1_2 : Claimed_1_2 := comes_1 fun _ _ _ _ _ _ h hF => ⟨h.2.1, hF⟩
end Jvm.Pilot.@@N@@
namespace Jvm.Pilot.@@N@@
open Jvm Jvm.ClassFile Sem Op Lib Jvm.Free Jvm.Stand Jvm.Pilot.@@N@@.Jvm.D
/-! MADE BY PROGRAM (witnessworld.py) out of the Statement's table words and the real class files: 12 classes; the members and pool entries that the words name. The judged class is class 1, her method 1. -/
namespace start1
open Jvm.ClassFile
def u (s : String) : CpInfo := .utf8 (stringToUtf16 s)
/-- a pool by its gaps: so many unusable entries, then the entry; so many at the end -/
def gap : Nat → List CpInfo → List CpInfo
  | 0, r => r
  | n + 1, r => .unusable :: gap n r
def poolList (es : List (Nat × CpInfo)) (last : Nat) : List CpInfo := es.foldr (fun e r => gap e.1 (e.2 :: r)) (gap last [])
def pool (es : List (Nat × CpInfo)) (last : Nat) : Array CpInfo := ⟨poolList es last⟩
def fileOf (pool : Array CpInfo) (this : Nat) (attrs : Array Attribute := #[]) (ms : Array MethodInfo := #[]) (fl : Nat := 33) (sup : Nat := 0) (ifs : Array Nat := #[]) (fds : Array FieldInfo := #[]) : ClassFile where
  minorVersion := 0
  majorVersion := 65
  constantPool := pool
  accessFlags := fl
  thisClass := this
  superClass := sup
  interfaces := ifs
  fields := fds
  methods := ms
  attributes := attrs
def plain (name : String) (sup : Option ClassId) : Class where
  name := name
  kind := .ordinary
  loader := none
  accessFlags := 33
  super := sup
  interfaces := #[]
  cf := none
  fields := #[]
  methods := #[]
  instanceTypes := #[]
  staticTypes := #[]
  resolved := #[]
  callSites := []
  init := .initialized
  statics := none
  mirror := none

def pool0 : Array CpInfo := pool [(5, u "<init>"), (0, u "()V"), (1, .class_ 10), (1, u "java/lang/Object")] 113

def k0c0 : Code := { maxStack := 0, maxLocals := 1, code := object_method_1_code, exceptionTable := #[], attributes := #[] }
def k0m0 : Method := { name := "<init>", desc := "()V", sig := { parameters := [], returnType := none }, accessFlags := 1, code := some k0c0 }
/-- java/lang/Object -/
def k0 : Class := { plain "java/lang/Object" none with
  accessFlags := 33
  interfaces := #[]
  cf := some (fileOf pool0 8 #[] #[{ accessFlags := 1, nameIndex := 5, descriptorIndex := 6, attributes := #[] }] 33 0 #[] #[])
  fields := #[]
  methods := #[k0m0]
  instanceTypes := #[]
  staticTypes := #[]
  resolved := Array.replicate 124 none
  statics := none }

def pool1 : Array CpInfo := pool [(2, .class_ 4), (0, .nameAndType 5 6), (0, u "java/lang/Object"), (0, u "<init>"), (0, u "()V"), (0, .class_ 8), (0, u "com/example/sayso/sayso/Positions"), (0, .methodref 7 3), (0, .methodref 7 11), (0, .nameAndType 12 13), (0, u "add"), (0, u "(I)V"), (0, .methodref 7 15), (0, .nameAndType 16 17), (0, u "get"), (0, u "(I)I"), (0, .class_ 19), (0, u "com/example/sayso/sayso/PositionsGetPinLaw"), (2, u "law"), (0, u "(IIIIII)Z")] 5

def k1m0 : Method := { name := "<init>", desc := "()V", sig := { parameters := [], returnType := none }, accessFlags := 1, code := none }
def k1c1 : Code := { maxStack := 5, maxLocals := 10, code := code, exceptionTable := #[], attributes := #[] }
def k1m1 : Method := { name := "law", desc := "(IIIIII)Z", sig := { parameters := [.int, .int, .int, .int, .int, .int], returnType := some .boolean }, accessFlags := 9, code := some k1c1 }
/-- com/example/sayso/sayso/PositionsGetPinLaw -/
def k1 : Class := { plain "com/example/sayso/sayso/PositionsGetPinLaw" (some 0) with
  accessFlags := 49
  interfaces := #[]
  cf := some (fileOf pool1 18 #[] #[{ accessFlags := 1, nameIndex := 5, descriptorIndex := 6, attributes := #[] }, { accessFlags := 9, nameIndex := 22, descriptorIndex := 23, attributes := #[] }] 49 2 #[] #[])
  fields := #[]
  methods := #[k1m0, k1m1]
  instanceTypes := #[]
  staticTypes := #[]
  resolved := Array.replicate 29 none
  statics := none }

def pool2 : Array CpInfo := pool [(1, .methodref 2 3), (0, .class_ 4), (0, .nameAndType 5 6), (0, u "java/lang/Object"), (0, u "<init>"), (0, u "()V"), (0, .fieldref 8 9), (0, .class_ 10), (0, .nameAndType 11 12), (0, u "com/example/sayso/sayso/Positions"), (0, u "size"), (0, u "I"), (0, .fieldref 8 14), (0, .nameAndType 15 12), (0, u "first"), (0, .fieldref 8 17), (0, .nameAndType 18 19), (0, u "more"), (0, u "[I"), (0, .methodref 21 22), (0, .class_ 23), (0, .nameAndType 24 25), (0, u "java/util/Arrays"), (0, u "copyOf"), (0, u "([II)[I"), (2, u "get"), (0, u "(I)I"), (2, u "add"), (0, u "(I)V")] 5

def k2c0 : Code := { maxStack := 1, maxLocals := 1, code := prog_117_method_1_code, exceptionTable := #[], attributes := #[] }
def k2m0 : Method := { name := "<init>", desc := "()V", sig := { parameters := [], returnType := none }, accessFlags := 0, code := some k2c0 }
def k2c1 : Code := { maxStack := 5, maxLocals := 2, code := prog_117_method_2_code, exceptionTable := #[], attributes := #[] }
def k2m1 : Method := { name := "add", desc := "(I)V", sig := { parameters := [.int], returnType := none }, accessFlags := 0, code := some k2c1 }
def k2c2 : Code := { maxStack := 3, maxLocals := 2, code := prog_117_method_4_code, exceptionTable := #[], attributes := #[] }
def k2m2 : Method := { name := "get", desc := "(I)I", sig := { parameters := [.int], returnType := some .int }, accessFlags := 0, code := some k2c2 }
/-- com/example/sayso/sayso/Positions -/
def k2 : Class := { plain "com/example/sayso/sayso/Positions" (some 0) with
  accessFlags := 48
  interfaces := #[]
  cf := some (fileOf pool2 8 #[] #[{ accessFlags := 0, nameIndex := 5, descriptorIndex := 6, attributes := #[] }, { accessFlags := 0, nameIndex := 32, descriptorIndex := 33, attributes := #[] }, { accessFlags := 0, nameIndex := 28, descriptorIndex := 29, attributes := #[] }] 48 2 #[] #[{ accessFlags := 2, nameIndex := 15, descriptorIndex := 12, attributes := #[] }, { accessFlags := 2, nameIndex := 18, descriptorIndex := 19, attributes := #[] }, { accessFlags := 2, nameIndex := 11, descriptorIndex := 12, attributes := #[] }])
  fields := #[{ name := "first", type := .int, accessFlags := 2, slot := 0, constantValue := 0 }, { name := "more", type := (.array .int), accessFlags := 2, slot := 1, constantValue := 0 }, { name := "size", type := .int, accessFlags := 2, slot := 2, constantValue := 0 }]
  methods := #[k2m0, k2m1, k2m2]
  instanceTypes := #[.int, (.array .int), .int]
  staticTypes := #[]
  resolved := Array.replicate 39 none
  statics := none }

def pool3 : Array CpInfo := pool [(2, .class_ 4), (1, u "java/lang/Object"), (0, u "<init>"), (0, u "()V"), (7, .class_ 16), (1, u "java/util/Arrays"), (57, .class_ 76), (1, u "java/util/Arrays$NaturalOrder"), (36, .class_ 115), (1, u "java/util/Arrays$LegacyMergeSort"), (1, u "Z"), (32, .methodref 151 152), (0, .class_ 153), (0, .nameAndType 154 155), (0, u "java/lang/System"), (0, u "arraycopy"), (0, u "(Ljava/lang/Object;ILjava/lang/Object;II)V"), (146, u "copyOf"), (1, .methodref 305 306), (0, .class_ 307), (0, .nameAndType 308 309), (0, u "java/lang/Math"), (0, u "min"), (0, u "(II)I"), (65, .class_ 376), (0, u "java/util/Arrays$ArrayList"), (68, u "$assertionsDisabled"), (269, u "MIN_ARRAY_SORT_GRAN"), (0, u "I"), (2, u "INSERTIONSORT_THRESHOLD"), (151, u "([II)[I"), (103, .class_ 976), (0, u "java/util/Arrays$ArrayItr")] 52

def k3m0 : Method := { name := "<init>", desc := "()V", sig := { parameters := [], returnType := none }, accessFlags := 2, code := none }
def k3c1 : Code := { maxStack := 6, maxLocals := 3, code := jdk_65_method_123_code, exceptionTable := #[], attributes := #[] }
def k3m1 : Method := { name := "copyOf", desc := "([II)[I", sig := { parameters := [(.array .int), .int], returnType := some (.array .int) }, accessFlags := 9, code := some k3c1 }
/-- java/util/Arrays -/
def k3 : Class := { plain "java/util/Arrays" (some 0) with
  accessFlags := 49
  interfaces := #[]
  cf := some (fileOf pool3 14 #[.nestMembers #[975, 375, 113, 74]] #[{ accessFlags := 2, nameIndex := 5, descriptorIndex := 6, attributes := #[] }, { accessFlags := 9, nameIndex := 302, descriptorIndex := 871, attributes := #[] }] 49 2 #[] #[{ accessFlags := 26, nameIndex := 715, descriptorIndex := 716, attributes := #[] }, { accessFlags := 26, nameIndex := 719, descriptorIndex := 716, attributes := #[] }, { accessFlags := 4120, nameIndex := 445, descriptorIndex := 117, attributes := #[] }])
  fields := #[{ name := "MIN_ARRAY_SORT_GRAN", type := .int, accessFlags := 26, slot := 0, constantValue := 0 }, { name := "INSERTIONSORT_THRESHOLD", type := .int, accessFlags := 26, slot := 1, constantValue := 0 }, { name := "$assertionsDisabled", type := .boolean, accessFlags := 4120, slot := 2, constantValue := 0 }]
  methods := #[k3m0, k3m1]
  instanceTypes := #[]
  staticTypes := #[.int, .int, .boolean]
  resolved := Array.replicate 1029 none
  statics := none }

def pool4 : Array CpInfo := pool [(1, .class_ 2), (0, u "java/lang/Math"), (1, .class_ 6), (1, u "java/lang/Object"), (0, u "<init>"), (0, u "()V"), (89, .class_ 100), (1, u "java/lang/Math$RandomNumberGeneratorHolder"), (71, u "negativeZeroFloatBits"), (0, u "J"), (2, u "negativeZeroDoubleBits"), (24, u "min"), (43, u "$assertionsDisabled"), (0, u "Z"), (88, u "(II)I"), (2, u "twoToTheDoubleScaleDown"), (0, u "D"), (4, u "twoToTheDoubleScaleUp"), (9, u "E"), (3, u "PI"), (2, u "TAU"), (2, u "DEGREES_TO_RADIANS"), (0, u "RADIANS_TO_DEGREES")] 94

def k4m0 : Method := { name := "<init>", desc := "()V", sig := { parameters := [], returnType := none }, accessFlags := 2, code := none }
def k4c1 : Code := { maxStack := 2, maxLocals := 2, code := jdk_29_method_69_code, exceptionTable := #[], attributes := #[] }
def k4m1 : Method := { name := "min", desc := "(II)I", sig := { parameters := [.int, .int], returnType := some .int }, accessFlags := 9, code := some k4c1 }
/-- java/lang/Math -/
def k4 : Class := { plain "java/lang/Math" (some 0) with
  accessFlags := 49
  interfaces := #[]
  cf := some (fileOf pool4 1 #[.nestMembers #[98]] #[{ accessFlags := 2, nameIndex := 7, descriptorIndex := 8, attributes := #[] }, { accessFlags := 9, nameIndex := 201, descriptorIndex := 335, attributes := #[] }] 49 4 #[] #[{ accessFlags := 25, nameIndex := 354, descriptorIndex := 339, attributes := #[] }, { accessFlags := 25, nameIndex := 358, descriptorIndex := 339, attributes := #[] }, { accessFlags := 25, nameIndex := 361, descriptorIndex := 339, attributes := #[] }, { accessFlags := 26, nameIndex := 364, descriptorIndex := 339, attributes := #[] }, { accessFlags := 26, nameIndex := 365, descriptorIndex := 339, attributes := #[] }, { accessFlags := 26, nameIndex := 172, descriptorIndex := 173, attributes := #[] }, { accessFlags := 26, nameIndex := 176, descriptorIndex := 173, attributes := #[] }, { accessFlags := 8, nameIndex := 344, descriptorIndex := 339, attributes := #[] }, { accessFlags := 8, nameIndex := 338, descriptorIndex := 339, attributes := #[] }, { accessFlags := 4120, nameIndex := 245, descriptorIndex := 246, attributes := #[] }])
  fields := #[{ name := "E", type := .double, accessFlags := 25, slot := 0, constantValue := 0 }, { name := "PI", type := .double, accessFlags := 25, slot := 1, constantValue := 0 }, { name := "TAU", type := .double, accessFlags := 25, slot := 2, constantValue := 0 }, { name := "DEGREES_TO_RADIANS", type := .double, accessFlags := 26, slot := 3, constantValue := 0 }, { name := "RADIANS_TO_DEGREES", type := .double, accessFlags := 26, slot := 4, constantValue := 0 }, { name := "negativeZeroFloatBits", type := .long, accessFlags := 26, slot := 5, constantValue := 0 }, { name := "negativeZeroDoubleBits", type := .long, accessFlags := 26, slot := 6, constantValue := 0 }, { name := "twoToTheDoubleScaleUp", type := .double, accessFlags := 8, slot := 7, constantValue := 0 }, { name := "twoToTheDoubleScaleDown", type := .double, accessFlags := 8, slot := 8, constantValue := 0 }, { name := "$assertionsDisabled", type := .boolean, accessFlags := 4120, slot := 9, constantValue := 0 }]
  methods := #[k4m0, k4m1]
  instanceTypes := #[]
  staticTypes := #[.double, .double, .double, .double, .double, .long, .long, .double, .double, .boolean]
  resolved := Array.replicate 460 none
  statics := none }

def pool5 : Array CpInfo := pool [(2, .class_ 4), (1, u "java/lang/Object"), (0, u "<init>"), (0, u "()V"), (1, .class_ 10), (1, u "java/lang/System"), (0, u "allowSecurityManager"), (0, u "I"), (16, u "cons"), (0, u "Ljava/io/Console;"), (77, .class_ 110), (1, u "java/lang/System$CallersHolder"), (43, u "initialErrStream"), (0, u "Ljava/io/PrintStream;"), (19, u "security"), (0, u "Ljava/lang/SecurityManager;"), (31, .class_ 209), (0, u "java/lang/System$1"), (7, u "props"), (0, u "Ljava/util/Properties;"), (2, u "lineSeparator"), (0, u "Ljava/lang/String;"), (96, .class_ 321), (1, u "java/lang/System$LoggerFinder"), (5, .class_ 328), (0, u "java/lang/System$Logger"), (67, u "err"), (2, u "out"), (91, u "notSupportedJnuEncoding"), (15, u "in"), (17, u "initialIn"), (0, u "Ljava/io/InputStream;"), (35, u "bootLayer"), (0, u "Ljava/lang/ModuleLayer;"), (99, .class_ 664), (0, u "java/lang/System$2"), (9, u "NEVER"), (2, u "MAYBE"), (49, u "arraycopy"), (0, u "(Ljava/lang/Object;ILjava/lang/Object;II)V"), (72, .class_ 802), (0, u "java/lang/System$Logger$Level")] 31

def k5m0 : Method := { name := "<init>", desc := "()V", sig := { parameters := [], returnType := none }, accessFlags := 2, code := none }
def k5m1 : Method := { name := "arraycopy", desc := "(Ljava/lang/Object;ILjava/lang/Object;II)V", sig := { parameters := [(.object "java/lang/Object"), .int, (.object "java/lang/Object"), .int, .int], returnType := none }, accessFlags := 265, code := none }
/-- java/lang/System -/
def k5 : Class := { plain "java/lang/System" (some 0) with
  accessFlags := 49
  interfaces := #[]
  cf := some (fileOf pool5 8 #[.nestMembers #[319, 327, 801, 108, 663, 208]] #[{ accessFlags := 2, nameIndex := 5, descriptorIndex := 6, attributes := #[] }, { accessFlags := 265, nameIndex := 727, descriptorIndex := 728, attributes := #[] }] 49 2 #[] #[{ accessFlags := 25, nameIndex := 507, descriptorIndex := 526, attributes := #[] }, { accessFlags := 25, nameIndex := 399, descriptorIndex := 155, attributes := #[] }, { accessFlags := 25, nameIndex := 396, descriptorIndex := 155, attributes := #[] }, { accessFlags := 10, nameIndex := 525, descriptorIndex := 526, attributes := #[] }, { accessFlags := 26, nameIndex := 674, descriptorIndex := 12, attributes := #[] }, { accessFlags := 26, nameIndex := 677, descriptorIndex := 12, attributes := #[] }, { accessFlags := 10, nameIndex := 11, descriptorIndex := 12, attributes := #[] }, { accessFlags := 74, nameIndex := 175, descriptorIndex := 176, attributes := #[] }, { accessFlags := 10, nameIndex := 491, descriptorIndex := 222, attributes := #[] }, { accessFlags := 74, nameIndex := 29, descriptorIndex := 30, attributes := #[] }, { accessFlags := 74, nameIndex := 154, descriptorIndex := 155, attributes := #[] }, { accessFlags := 10, nameIndex := 217, descriptorIndex := 218, attributes := #[] }, { accessFlags := 10, nameIndex := 221, descriptorIndex := 222, attributes := #[] }, { accessFlags := 8, nameIndex := 562, descriptorIndex := 563, attributes := #[] }])
  fields := #[{ name := "in", type := (.object "java/io/InputStream"), accessFlags := 25, slot := 0, constantValue := 0 }, { name := "out", type := (.object "java/io/PrintStream"), accessFlags := 25, slot := 1, constantValue := 0 }, { name := "err", type := (.object "java/io/PrintStream"), accessFlags := 25, slot := 2, constantValue := 0 }, { name := "initialIn", type := (.object "java/io/InputStream"), accessFlags := 10, slot := 3, constantValue := 0 }, { name := "NEVER", type := .int, accessFlags := 26, slot := 4, constantValue := 0 }, { name := "MAYBE", type := .int, accessFlags := 26, slot := 5, constantValue := 0 }, { name := "allowSecurityManager", type := .int, accessFlags := 10, slot := 6, constantValue := 0 }, { name := "security", type := (.object "java/lang/SecurityManager"), accessFlags := 74, slot := 7, constantValue := 0 }, { name := "notSupportedJnuEncoding", type := (.object "java/lang/String"), accessFlags := 10, slot := 8, constantValue := 0 }, { name := "cons", type := (.object "java/io/Console"), accessFlags := 74, slot := 9, constantValue := 0 }, { name := "initialErrStream", type := (.object "java/io/PrintStream"), accessFlags := 74, slot := 10, constantValue := 0 }, { name := "props", type := (.object "java/util/Properties"), accessFlags := 10, slot := 11, constantValue := 0 }, { name := "lineSeparator", type := (.object "java/lang/String"), accessFlags := 10, slot := 12, constantValue := 0 }, { name := "bootLayer", type := (.object "java/lang/ModuleLayer"), accessFlags := 8, slot := 13, constantValue := 0 }]
  methods := #[k5m0, k5m1]
  instanceTypes := #[]
  staticTypes := #[(.object "java/io/InputStream"), (.object "java/io/PrintStream"), (.object "java/io/PrintStream"), (.object "java/io/InputStream"), .int, .int, .int, (.object "java/lang/SecurityManager"), (.object "java/lang/String"), (.object "java/io/Console"), (.object "java/io/PrintStream"), (.object "java/util/Properties"), (.object "java/lang/String"), (.object "java/lang/ModuleLayer")]
  resolved := Array.replicate 834 none
  statics := none }

def pool6 : Array CpInfo := pool [(1, u "java/lang/Cloneable"), (0, .class_ 1), (0, u "java/lang/Object"), (0, .class_ 3)] 3

/-- java/lang/Cloneable -/
def k6 : Class := { plain "java/lang/Cloneable" (some 0) with
  accessFlags := 1537
  interfaces := #[]
  cf := some (fileOf pool6 2 #[] #[] 1537 4 #[] #[])
  fields := #[]
  methods := #[]
  instanceTypes := #[]
  staticTypes := #[]
  resolved := Array.replicate 8 none
  statics := none }

def pool7 : Array CpInfo := pool [(1, u "java/io/Serializable"), (0, .class_ 1), (0, u "java/lang/Object"), (0, .class_ 3)] 3

/-- java/io/Serializable -/
def k7 : Class := { plain "java/io/Serializable" (some 0) with
  accessFlags := 1537
  interfaces := #[]
  cf := some (fileOf pool7 2 #[] #[] 1537 4 #[] #[])
  fields := #[]
  methods := #[]
  instanceTypes := #[]
  staticTypes := #[]
  resolved := Array.replicate 8 none
  statics := none }

/-- the primitive byte -/
def k8 : Class := { plain "byte" none with kind := .primitive 'B', accessFlags := 0x411 }
/-- [B -/
def k9 : Class := { plain "[B" (some 0) with kind := .array 8 .byte, interfaces := #[6, 7], accessFlags := 1041 }

/-- the primitive int -/
def k10 : Class := { plain "int" none with kind := .primitive 'I', accessFlags := 0x411 }
/-- [I -/
def k11 : Class := { plain "[I" (some 0) with kind := .array 10 .int, interfaces := #[6, 7], accessFlags := 1041 }

def heap : Heap := #[]
def classes : Array Class := #[k0, k1, k2, k3, k4, k5, k6, k7, k8, k9, k10, k11]
def interned : List (Array UInt16 × Addr) := []
def slotsUsed : Nat := 0
def theMethod : MethodId := ⟨1, 1⟩
def args0 : Array Value := #[.int 5, .int 7, .int 9, .int 1, .int 2, .int 3]
def aboutOver (below : List Frame) : State where
  vm := { classes := classes, interned := interned.toArray }
  heap := heap
  slotsUsed := slotsUsed
  threads := #[{ frames := .invoking theMethod args0 :: below }]
def below0 : List Frame := [.native { method := ⟨0, 0⟩, args := #[] }]
def about1 : State := aboutOver below0
def p0 : Program := .bare "" "" ""
def e0 : Env := launch0.env 0 0 0
theorem w_frames : about1.frames = Frame.invoking theMethod args0 :: below0 := rfl
set_option maxRecDepth 65536 in
theorem w_args : argsFit about1.vm theMethod args0 = true := by decide +kernel
set_option maxRecDepth 65536 in
theorem w_heap : heapFits about1 = true := by decide +kernel
set_option maxRecDepth 65536 in
theorem w_runnable : about1.curStatus? = some .runnable := by decide +kernel
set_option maxRecDepth 65536 in
theorem w_alone : about1.alone = true := by decide +kernel
set_option maxRecDepth 65536 in
theorem w_named : about1.methodNamed? x = some theMethod := by decide +kernel
set_option maxRecDepth 65536 in
theorem w_hears : about1.hears theMethod below0 = true := by decide +kernel
set_option maxRecDepth 65536 in
theorem w_ripe : about1.ripe theMethod args0 below0 = true := by decide +kernel
theorem w_running : about1.status = .running := rfl
set_option maxRecDepth 65536 in
theorem w_room : about1.hasRoom e0.platform room_1 = true :=
  launch0.hasRoom_least _ room_1 (by decide +kernel) (by decide +kernel) (by decide +kernel) (by decide +kernel) (by decide +kernel) (by decide +kernel)
theorem allAtoms_all (ts : List Jvm.Cond) (a : Array Jvm.Value) (st : Jvm.State) : (allAtoms ts).before a st = ts.all (fun c => c.before a st) := by
  induction ts with
  | nil => rfl
  | cons c t ih =>
    show (Jvm.Cond.and c (allAtoms t)).before a st = _
    rw [Jvm.Cond.before_and, ih, List.all_cons]
def words1 : List Jvm.Cond := Jvm.Cond.code x code maxLocals ret :: tables_1
/-- a 'code' word, met by the world's own term for the bytes: nothing is compared byte by byte -/
theorem code_word {y : MethodName} {bytes : ByteArray} {mx : Nat} {rt : Option FieldType} {a : Array Value} {s : State} {m : MethodId} {meth : Method} {c : Code} (h1 : s.methodNamed? y = some m) (h2 : s.vm.method? m = some meth) (h3 : meth.code = some c) (h4 : c.code = bytes)
    (h5 : (c.maxLocals == mx && c.exceptionTable.isEmpty && decide (c.maxStack ≤ mostOperands) && decide (meth.sig.returnType = rt) && !meth.locks && decide (parseMethodDescriptor y.desc = some meth.sig)) = true) : (Jvm.Cond.code y bytes mx rt).before a s = true := by
  simp only [Bool.and_eq_true, beq_iff_eq, Bool.not_eq_true', decide_eq_true_eq] at h5
  obtain ⟨⟨⟨⟨⟨g1, g2⟩, g3⟩, g4⟩, g5⟩, g6⟩ := h5
  simp [Cond.before, Cond.holds, Cond.value, h1, h2, h3, h4, g1, g2, g3, g4, g5, g6]
def isCode : Jvm.Cond → Bool
  | .code _ _ _ _ => true
  | _ => false
theorem all_split {L : List Jvm.Cond} {P : Jvm.Cond → Bool} (h1 : L.all (fun c => isCode c || P c) = true) (h2 : ∀ c ∈ L.filter isCode, P c = true) : L.all P = true := by
  refine List.all_eq_true.mpr fun c hc => ?_
  have h := List.all_eq_true.mp h1 c hc
  rcases Bool.eq_false_or_eq_true (isCode c) with hi | hi
  · exact h2 c (List.mem_filter.mpr ⟨hc, hi⟩)
  · simpa [hi] using h
set_option maxRecDepth 65536 in
theorem w_c0 : (Jvm.Cond.code x code maxLocals ret).before args0 about1 = true := code_word (m := ⟨1, 1⟩) (meth := k1m1) (c := k1c1) (by decide +kernel) rfl rfl rfl (by decide +kernel)
set_option maxRecDepth 65536 in
theorem w_c1 : (Jvm.Cond.code ({ cls := "com/example/sayso/sayso/Positions", name := "<init>", desc := "()V" } : Jvm.MethodName) prog_117_method_1_code (1 : Nat) (Option.none : Option Jvm.ClassFile.FieldType)).before args0 about1 = true := code_word (m := ⟨2, 0⟩) (meth := k2m0) (c := k2c0) (by decide +kernel) rfl rfl rfl (by decide +kernel)
set_option maxRecDepth 65536 in
theorem w_c2 : (Jvm.Cond.code ({ cls := "java/lang/Object", name := "<init>", desc := "()V" } : Jvm.MethodName) object_method_1_code (1 : Nat) (Option.none : Option Jvm.ClassFile.FieldType)).before args0 about1 = true := code_word (m := ⟨0, 0⟩) (meth := k0m0) (c := k0c0) (by decide +kernel) rfl rfl rfl (by decide +kernel)
set_option maxRecDepth 65536 in
theorem w_c3 : (Jvm.Cond.code ({ cls := "com/example/sayso/sayso/Positions", name := "add", desc := "(I)V" } : Jvm.MethodName) prog_117_method_2_code (2 : Nat) (Option.none : Option Jvm.ClassFile.FieldType)).before args0 about1 = true := code_word (m := ⟨2, 1⟩) (meth := k2m1) (c := k2c1) (by decide +kernel) rfl rfl rfl (by decide +kernel)
set_option maxRecDepth 65536 in
theorem w_c4 : (Jvm.Cond.code ({ cls := "java/util/Arrays", name := "copyOf", desc := "([II)[I" } : Jvm.MethodName) jdk_65_method_123_code (3 : Nat) (Option.some (Jvm.ClassFile.FieldType.array Jvm.ClassFile.FieldType.int))).before args0 about1 = true := code_word (m := ⟨3, 1⟩) (meth := k3m1) (c := k3c1) (by decide +kernel) rfl rfl rfl (by decide +kernel)
set_option maxRecDepth 65536 in
theorem w_c5 : (Jvm.Cond.code ({ cls := "java/lang/Math", name := "min", desc := "(II)I" } : Jvm.MethodName) jdk_29_method_69_code (2 : Nat) (Option.some Jvm.ClassFile.FieldType.int)).before args0 about1 = true := code_word (m := ⟨4, 1⟩) (meth := k4m1) (c := k4c1) (by decide +kernel) rfl rfl rfl (by decide +kernel)
set_option maxRecDepth 65536 in
theorem w_c6 : (Jvm.Cond.code ({ cls := "com/example/sayso/sayso/Positions", name := "get", desc := "(I)I" } : Jvm.MethodName) prog_117_method_4_code (2 : Nat) (Option.some Jvm.ClassFile.FieldType.int)).before args0 about1 = true := code_word (m := ⟨2, 2⟩) (meth := k2m2) (c := k2c2) (by decide +kernel) rfl rfl rfl (by decide +kernel)
def codes1 : List Jvm.Cond := [Jvm.Cond.code x code maxLocals ret, Jvm.Cond.code ({ cls := "com/example/sayso/sayso/Positions", name := "<init>", desc := "()V" } : Jvm.MethodName) prog_117_method_1_code (1 : Nat) (Option.none : Option Jvm.ClassFile.FieldType), Jvm.Cond.code ({ cls := "java/lang/Object", name := "<init>", desc := "()V" } : Jvm.MethodName) object_method_1_code (1 : Nat) (Option.none : Option Jvm.ClassFile.FieldType), Jvm.Cond.code ({ cls := "com/example/sayso/sayso/Positions", name := "add", desc := "(I)V" } : Jvm.MethodName) prog_117_method_2_code (2 : Nat) (Option.none : Option Jvm.ClassFile.FieldType), Jvm.Cond.code ({ cls := "java/util/Arrays", name := "copyOf", desc := "([II)[I" } : Jvm.MethodName) jdk_65_method_123_code (3 : Nat) (Option.some (Jvm.ClassFile.FieldType.array Jvm.ClassFile.FieldType.int)), Jvm.Cond.code ({ cls := "java/lang/Math", name := "min", desc := "(II)I" } : Jvm.MethodName) jdk_29_method_69_code (2 : Nat) (Option.some Jvm.ClassFile.FieldType.int), Jvm.Cond.code ({ cls := "com/example/sayso/sayso/Positions", name := "get", desc := "(I)I" } : Jvm.MethodName) prog_117_method_4_code (2 : Nat) (Option.some Jvm.ClassFile.FieldType.int)]
set_option maxRecDepth 65536 in
theorem codes_eq : words1.filter isCode = codes1 := rfl
theorem w_codes : ∀ c ∈ words1.filter isCode, c.before args0 about1 = true := by
  rw [codes_eq]
  intro c hc
  simp only [codes1, List.mem_cons, List.not_mem_nil, or_false] at hc
  rcases hc with rfl | rfl | rfl | rfl | rfl | rfl | rfl
  · exact w_c0
  · exact w_c1
  · exact w_c2
  · exact w_c3
  · exact w_c4
  · exact w_c5
  · exact w_c6
set_option maxRecDepth 65536 in
theorem w_t1 : (words1.take 24).all (fun c => isCode c || c.before args0 about1) = true := by decide +kernel
set_option maxRecDepth 65536 in
theorem w_t2 : (words1.drop 24).all (fun c => isCode c || c.before args0 about1) = true := by decide +kernel
theorem w_tables : (allAtoms (Jvm.Cond.code x code maxLocals ret :: tables_1)).before args0 about1 = true := by
  rw [allAtoms_all]
  show words1.all (fun c => c.before args0 about1) = true
  refine all_split ?_ w_codes
  rw [← List.take_append_drop 24 words1, List.all_append, w_t1, w_t2]
  rfl
set_option maxRecDepth 65536 in
theorem w_case : (Jvm.Cond.and given_1 narrow_1).before args0 about1 = true := by decide +kernel
theorem w_applies : (headSpec (Jvm.Cond.code x code maxLocals ret :: tables_1) room_1).applies x e0.platform about1 = true :=
  (Spec.applies_iff w_frames).mpr ⟨w_running, w_runnable, w_alone, w_named, w_hears, w_ripe, w_room, w_tables⟩
theorem atStart : AtStart classFile x code maxLocals ret World_1 tables_1 room_1 Calls_1 rest_1 Pre_1 launch0 p0 e0 about1 theMethod args0 below0 :=
  ⟨lists_1, trivial, launch0.admits_env _ _ _, launch0.least_env, fairChoices_fair.cas, fairChoices_fair.clock, w_frames, w_args, w_heap, w_applies, trivial, trivial, w_case⟩
end start1
theorem witness_1 : WitnessClaimed_1 := ⟨start1.p0, start1.e0, start1.about1, start1.theMethod, start1.args0, start1.below0, start1.atStart⟩
end Jvm.Pilot.@@N@@
