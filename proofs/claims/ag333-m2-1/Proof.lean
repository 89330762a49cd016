import JvmDerived
import JvmDerived.Pilot.@@N@@Statement
import JvmDerived.Pilot.@@N@@Code
set_option linter.unusedVariables false
set_option linter.unusedSimpArgs false
@@BLOCK:NumsL.lean.txt@@
@@BLOCK:Masks.lean.txt@@
namespace Jvm.Wk
open Sem ClassFile Op Lib Jvm.Stand Jvm.Free Jvm.LawKit Jvm.RoadKit
def Fin_ (p : Program) (e : Env) (s : State) (below : List Frame) (R : Room) (n0 : Nat) (P : Option Value → Heap → Prop) (S0 : State) : Prop :=
  ∃ s₂ o, Steps p.tables e below S0 s₂ ∧ s₂.status = .running ∧ Ended s₂ below o ∧ ∃ v L, o = .returned v ∧ (Fr n0 L ∧ P v s₂.heap) ∧ FrameEnd s o s₂ L R.cells R.slots
def Fa (Z : State) (y : MethodName) (bytes : ByteArray) (maxL : Nat) (ret : Option FieldType) (p : Program) (s : State) (m : MethodId) (meth : Method) (c : Code) : Prop :=
  p.tables.exec = Jvm.exec ∧ c.code = bytes ∧ c.maxLocals = maxL ∧ Z.Warmed39 s.vm ∧ s.vm.findClass y.cls = some m.cls ∧ meth.name = y.name ∧ meth.sig.returnType = ret ∧ meth.locks = false
/-- a walk that has come to pc with these locals and this operand stack over the heap h; G: what it is walked for -/
def Wk (l : Launch) (Z : State) (R : Room) (y : MethodName) (bytes : ByteArray) (maxL : Nat) (ret : Option FieldType) (n0 : Nat) (Xt : Program → Env → List Frame → State → Prop) (s : State) (h : Heap) (cells slots pc : Nat) (Ls : Array Slot) (st : List Value) : Prop :=
  ∃ (p : Program) (e : Env) (m : MethodId) (args : Array Value) (below : List Frame) (meth : Method) (c : Code) (S0 T : State) (locs : List Loc), Fa Z y bytes maxL ret p s m meth c ∧
    Stand p l e R s m args below meth c T locs cells slots ∧ T.heap = h ∧ Fr n0 locs ∧ (∀ t, Steps p.tables e below (T.setTop (mkF m pc Ls st)) t → Steps p.tables e below S0 t) ∧ Xt p e below S0
/-- how a walk of a contract ends: G is what it is walked for -/
abbrev Ex (s : State) (R : Room) (n0 : Nat) (P : Option Value → Heap → Prop) (G : Prop) : Program → Env → List Frame → State → Prop := fun p e below S0 => Fin_ p e s below R n0 P S0 → G
/-- a callee's contract: entered with the arguments as' over the heap h0 it returns; P says what and over which heap -/
def Con (l : Launch) (Z : State) (y : MethodName) (bytes : ByteArray) (maxL : Nat) (ret : Option FieldType) (rm : Room) (as' : Array Value) (h0 : Heap) (n0 : Nat) (P : Option Value → Heap → Prop) : Prop :=
  ∀ ws : List Jvm.Cond, MetFree l y (head1 (Jvm.Cond.code y bytes maxL ret :: ws) rm) (fun a U => a = as' ∧ Z.Warmed39 U.vm ∧ U.heap = h0) (fun _ _ _ _ _ => True) (fun _ U o U' => ∃ v L, o = .returned v ∧ (Fr n0 L ∧ P v U'.heap) ∧ FrameEnd U o U' L rm.cells rm.slots)
/-- an array of the component type ty that holds vs -/
def AV (Z : State) (h : Heap) (a : Addr) (ty : FieldType) (vs : List Value) : Prop := vs.length < 2 ^ 31 ∧ ∃ c : Cell, Arr Z h a c ty ∧ c.slots = vs.toArray
section L
variable {l : Launch} {Z : State} {R : Room} {y : MethodName} {bytes : ByteArray} {maxL : Nat} {ret : Option FieldType} {n0 : Nat} {P : Option Value → Heap → Prop} {G : Prop} {Xt : Program → Env → List Frame → State → Prop} {s : State} {h h' : Heap} {cells slots pc : Nat} {Ls : Array Slot} {st : List Value} {a0 : Array Value} {a : Addr} {ty : FieldType} {vs : List Value} {ws : List Addr}
theorem AV.lt (A : AV Z h a ty vs) : a < h.size := by obtain ⟨-, c, A, -⟩ := A; exact A.lt
theorem AV.keep (A : AV Z h a ty vs) (K : Keep h h' ws) (q : a ∉ ws) : AV Z h' a ty vs := by obtain ⟨n, c, A, r⟩ := A; exact ⟨n, c, ⟨K.2.1 a c A.1 q, A.2⟩, r⟩
theorem nS {x y : Nat} {L : List Addr} (q : ¬ x = y) (r : (x : Addr) ∉ L) : (x : Addr) ∉ (y : Addr) :: L := ninS q r
theorem Keep.of_ext (E : Ext h h') : Keep h h' [] := (Keep.refl h []).ext E
theorem mk {p : Program} {e : Env} {m : MethodId} {args : Array Value} {below : List Frame} {meth : Method} {c : Code} {S0 T : State} {locs : List Loc} (F : Fa Z y bytes maxL ret p s m meth c)
    (X : Stand p l e R s m args below meth c T locs cells slots) (eT : T.heap = h) (N : Fr n0 locs) (r : ∀ t, Steps p.tables e below (T.setTop (mkF m pc Ls st)) t → Steps p.tables e below S0 t) (ex : Xt p e below S0) : Wk l Z R y bytes maxL ret n0 Xt s h cells slots pc Ls st :=
  Exists.intro p ⟨e, m, args, below, meth, c, S0, T, locs, F, X, eT, N, r, ex⟩
theorem Con.of {as' : Array Value} (hpn : plainFor y = true) (hef : ∀ m, entryFrame m as' maxL = mkF m 0 Ls []) (body : ∀ (G : Prop) (s : State), Wk l Z R y bytes maxL ret n0 (Ex s R n0 P G) s h 0 0 0 Ls [] → G) : Con l Z y bytes maxL ret R as' h n0 P := by
  intro ws
  refine MetFree.of_bodySF hpn hisR ?_
  intro p e s m args below meth c s₁ Bd hml0 hP hK
  obtain ⟨rfl, hZ, hh⟩ := hP
  refine body _ s ?_
  have X0 : Stand p l e R s m args below meth c s₁ [] 0 0 := Stand.of_body Bd
  exact mk (S0 := s₁.setTop (entryFrame m args maxL)) ⟨Bd.exec, Bd.bytes, hml0, hZ, findClass_of_methodNamed Bd.named, (name_of_methodNamed Bd.named Bd.method).1, Bd.returns, Bd.notSynchronized⟩ X0 (by rw [← hh, Bd.state]; rfl) (Fr.nil n0) (fun t k => castTop (hef m) k) (fun q => q)
theorem Wk.pure {pc' : Nat} {Ls' : Array Slot} {st' : List Value} (k : Wk l Z R y bytes maxL ret n0 Xt s h cells slots pc Ls st) (f : ∀ {tb : Tables} [Ours tb] {e : Env} {below : List Frame} {T t : State} {m : MethodId} {c : Code}, At T m c below → tb.exec = Jvm.exec → c.code = bytes → Steps tb e below (T.setTop (mkF m pc' Ls' st')) t → Steps tb e below (T.setTop (mkF m pc Ls st)) t) : Wk l Z R y bytes maxL ret n0 Xt s h cells slots pc' Ls' st' := by
  obtain ⟨p, e, m, args, below, meth, c, S0, T, locs, F, X, eT, N, r, ex⟩ := k
  exact mk F X eT N (fun t q => r t (f X.here F.1 F.2.1 q)) ex
/-- more cells and slots booked than were made -/
theorem Wk.more {cells' slots' : Nat} (k : Wk l Z R y bytes maxL ret n0 Xt s h cells slots pc Ls st) (h1 : cells ≤ cells') (h2 : slots ≤ slots') : Wk l Z R y bytes maxL ret n0 Xt s h cells' slots' pc Ls st := by
  obtain ⟨p, e, m, args, below, meth, c, S0, T, locs, F, X, eT, N, r, ex⟩ := k
  exact mk F { X with same := X.same.mono h1 h2 } eT N r ex
theorem Wk.aloadN {j : Fin 4} {v : Value} (k : Wk l Z R y bytes maxL ret n0 Xt s h cells slots pc Ls st) (hd : decode bytes pc = .ok (.aload_n j, 1)) (hl : Ls[j.val]? = some (.val v)) (hv : v.isRef = true) : Wk l Z R y bytes maxL ret n0 Xt s h cells slots (pc + 1) Ls (v :: st) := k.pure fun a hx hb' q => XS.aloadN a hx rfl (hb hb' hd) hl hv q
theorem Wk.aload {j : Nat} {v : Value} (k : Wk l Z R y bytes maxL ret n0 Xt s h cells slots pc Ls st) (hd : decode bytes pc = .ok (.aload j, 2)) (hl : Ls[j]? = some (.val v)) (hv : v.isRef = true) : Wk l Z R y bytes maxL ret n0 Xt s h cells slots (pc + 2) Ls (v :: st) := k.pure fun a hx hb' q => XS.aload a hx rfl (hb hb' hd) hl hv q
theorem Wk.iloadN {j : Fin 4} {v : Int32} (k : Wk l Z R y bytes maxL ret n0 Xt s h cells slots pc Ls st) (hd : decode bytes pc = .ok (.iload_n j, 1)) (hl : Ls[j.val]? = some (.val (.int v))) : Wk l Z R y bytes maxL ret n0 Xt s h cells slots (pc + 1) Ls (.int v :: st) := k.pure fun a hx hb' q => XS.iloadN a hx rfl (hb hb' hd) hl q
theorem Wk.iload {j : Nat} {v : Int32} (k : Wk l Z R y bytes maxL ret n0 Xt s h cells slots pc Ls st) (hd : decode bytes pc = .ok (.iload j, 2)) (hl : Ls[j]? = some (.val (.int v))) : Wk l Z R y bytes maxL ret n0 Xt s h cells slots (pc + 2) Ls (.int v :: st) := k.pure fun a hx hb' q => XS.iload a hx rfl (hb hb' hd) hl q
theorem Wk.lloadN {j : Fin 4} {v : Int64} (k : Wk l Z R y bytes maxL ret n0 Xt s h cells slots pc Ls st) (hd : decode bytes pc = .ok (.lload_n j, 1)) (hl : Ls[j.val]? = some (.val (.long v))) : Wk l Z R y bytes maxL ret n0 Xt s h cells slots (pc + 1) Ls (.long v :: st) := k.pure fun a hx hb' q => XT.lloadN a hx rfl (hb hb' hd) hl q
theorem Wk.lload {j : Nat} {v : Int64} (k : Wk l Z R y bytes maxL ret n0 Xt s h cells slots pc Ls st) (hd : decode bytes pc = .ok (.lload j, 2)) (hl : Ls[j]? = some (.val (.long v))) : Wk l Z R y bytes maxL ret n0 Xt s h cells slots (pc + 2) Ls (.long v :: st) := k.pure fun a hx hb' q => XT.lload a hx rfl (hb hb' hd) hl q
theorem Wk.istoreN {j : Fin 4} {v : Int32} {Ls' : Array Slot} (k : Wk l Z R y bytes maxL ret n0 Xt s h cells slots pc Ls (.int v :: st)) (hd : decode bytes pc = .ok (.istore_n j, 1)) (hl : storeLocals Ls j.val (.int v) = some Ls') : Wk l Z R y bytes maxL ret n0 Xt s h cells slots (pc + 1) Ls' st := k.pure fun a hx hb' q => XS.istoreN a hx rfl (hb hb' hd) rfl hl q
theorem Wk.istore {j : Nat} {v : Int32} {Ls' : Array Slot} (k : Wk l Z R y bytes maxL ret n0 Xt s h cells slots pc Ls (.int v :: st)) (hd : decode bytes pc = .ok (.istore j, 2)) (hl : storeLocals Ls j (.int v) = some Ls') : Wk l Z R y bytes maxL ret n0 Xt s h cells slots (pc + 2) Ls' st := k.pure fun a hx hb' q => XS.istore a hx rfl (hb hb' hd) rfl hl q
theorem Wk.lstoreN {j : Fin 4} {v : Int64} {Ls' : Array Slot} (k : Wk l Z R y bytes maxL ret n0 Xt s h cells slots pc Ls (.long v :: st)) (hd : decode bytes pc = .ok (.lstore_n j, 1)) (hl : storeLocals Ls j.val (.long v) = some Ls') : Wk l Z R y bytes maxL ret n0 Xt s h cells slots (pc + 1) Ls' st := k.pure fun a hx hb' q => XT.lstoreN a hx rfl (hb hb' hd) rfl hl q
theorem Wk.lstore {j : Nat} {v : Int64} {Ls' : Array Slot} (k : Wk l Z R y bytes maxL ret n0 Xt s h cells slots pc Ls (.long v :: st)) (hd : decode bytes pc = .ok (.lstore j, 2)) (hl : storeLocals Ls j (.long v) = some Ls') : Wk l Z R y bytes maxL ret n0 Xt s h cells slots (pc + 2) Ls' st := k.pure fun a hx hb' q => XT.lstore a hx rfl (hb hb' hd) rfl hl q
theorem Wk.astoreN {j : Fin 4} {v : Value} {Ls' : Array Slot} (k : Wk l Z R y bytes maxL ret n0 Xt s h cells slots pc Ls (v :: st)) (hd : decode bytes pc = .ok (.astore_n j, 1)) (hv : v.isRef = true) (hl : storeLocals Ls j.val v = some Ls') : Wk l Z R y bytes maxL ret n0 Xt s h cells slots (pc + 1) Ls' st := k.pure fun a hx hb' q => XS.astoreN a hx rfl (hb hb' hd) rfl hv hl q
theorem Wk.astore {j : Nat} {v : Value} {Ls' : Array Slot} (k : Wk l Z R y bytes maxL ret n0 Xt s h cells slots pc Ls (v :: st)) (hd : decode bytes pc = .ok (.astore j, 2)) (hv : v.isRef = true) (hl : storeLocals Ls j v = some Ls') : Wk l Z R y bytes maxL ret n0 Xt s h cells slots (pc + 2) Ls' st := k.pure fun a hx hb' q => XS.astore a hx rfl (hb hb' hd) rfl hv hl q
theorem Wk.iconst {i : Int} (k : Wk l Z R y bytes maxL ret n0 Xt s h cells slots pc Ls st) (v : Int32) (hd : decode bytes pc = .ok (.iconst i, 1)) (hv : Int32.ofInt i = v) : Wk l Z R y bytes maxL ret n0 Xt s h cells slots (pc + 1) Ls (.int v :: st) := k.pure fun a hx hb' q => XT.iconstV a hx rfl v (hb hb' hd) hv q
theorem Wk.bipush {i : Int} (k : Wk l Z R y bytes maxL ret n0 Xt s h cells slots pc Ls st) (v : Int32) (hd : decode bytes pc = .ok (.bipush i, 2)) (hv : (Int8.ofInt i).toInt32 = v) : Wk l Z R y bytes maxL ret n0 Xt s h cells slots (pc + 2) Ls (.int v :: st) := k.pure fun a hx hb' q => XT.bipushV a hx rfl v (hb hb' hd) hv q
theorem Wk.sipush {i : Int} (k : Wk l Z R y bytes maxL ret n0 Xt s h cells slots pc Ls st) (v : Int32) (hd : decode bytes pc = .ok (.sipush i, 3)) (hv : (Int16.ofInt i).toInt32 = v) : Wk l Z R y bytes maxL ret n0 Xt s h cells slots (pc + 3) Ls (.int v :: st) := k.pure fun a hx hb' q => XT.sipushV a hx rfl v (hb hb' hd) hv q
theorem Wk.lconst {i : Fin 2} (k : Wk l Z R y bytes maxL ret n0 Xt s h cells slots pc Ls st) (v : Int64) (hd : decode bytes pc = .ok (.lconst i, 1)) (hv : Int64.ofNat i = v) : Wk l Z R y bytes maxL ret n0 Xt s h cells slots (pc + 1) Ls (.long v :: st) := k.pure fun a hx hb' q => XT.lconstV a hx rfl v (hb hb' hd) hv q
theorem Wk.anull (k : Wk l Z R y bytes maxL ret n0 Xt s h cells slots pc Ls st) (hd : decode bytes pc = .ok (.aconst_null, 1)) : Wk l Z R y bytes maxL ret n0 Xt s h cells slots (pc + 1) Ls (.null :: st) := k.pure fun a hx hb' q => XS.aconstNull a hx rfl (hb hb' hd) q
theorem Wk.iadd {x z : Int32} (k : Wk l Z R y bytes maxL ret n0 Xt s h cells slots pc Ls (.int z :: .int x :: st)) (hd : decode bytes pc = .ok (.iadd, 1)) : Wk l Z R y bytes maxL ret n0 Xt s h cells slots (pc + 1) Ls (.int (x + z) :: st) := k.pure fun a hx hb' q => XS.iadd a hx rfl (hb hb' hd) rfl q
theorem Wk.isub {x z : Int32} (k : Wk l Z R y bytes maxL ret n0 Xt s h cells slots pc Ls (.int z :: .int x :: st)) (hd : decode bytes pc = .ok (.isub, 1)) : Wk l Z R y bytes maxL ret n0 Xt s h cells slots (pc + 1) Ls (.int (x - z) :: st) := k.pure fun a hx hb' q => XS.isub a hx rfl (hb hb' hd) rfl q
theorem Wk.imul {x z : Int32} (k : Wk l Z R y bytes maxL ret n0 Xt s h cells slots pc Ls (.int z :: .int x :: st)) (hd : decode bytes pc = .ok (.imul, 1)) : Wk l Z R y bytes maxL ret n0 Xt s h cells slots (pc + 1) Ls (.int (x * z) :: st) := k.pure fun a hx hb' q => XS.imul a hx rfl (hb hb' hd) rfl q
theorem Wk.iand {x z : Int32} (k : Wk l Z R y bytes maxL ret n0 Xt s h cells slots pc Ls (.int z :: .int x :: st)) (hd : decode bytes pc = .ok (.iand, 1)) : Wk l Z R y bytes maxL ret n0 Xt s h cells slots (pc + 1) Ls (.int (x &&& z) :: st) := k.pure fun a hx hb' q => XS.iand a hx rfl (hb hb' hd) rfl q
theorem Wk.ior {x z : Int32} (k : Wk l Z R y bytes maxL ret n0 Xt s h cells slots pc Ls (.int z :: .int x :: st)) (hd : decode bytes pc = .ok (.ior, 1)) : Wk l Z R y bytes maxL ret n0 Xt s h cells slots (pc + 1) Ls (.int (x ||| z) :: st) := k.pure fun a hx hb' q => XT.ior a hx rfl (hb hb' hd) rfl q
theorem Wk.ixor {x z : Int32} (k : Wk l Z R y bytes maxL ret n0 Xt s h cells slots pc Ls (.int z :: .int x :: st)) (hd : decode bytes pc = .ok (.ixor, 1)) : Wk l Z R y bytes maxL ret n0 Xt s h cells slots (pc + 1) Ls (.int (x ^^^ z) :: st) := k.pure fun a hx hb' q => XT.ixor a hx rfl (hb hb' hd) rfl q
theorem Wk.iushr {x z : Int32} (k : Wk l Z R y bytes maxL ret n0 Xt s h cells slots pc Ls (.int z :: .int x :: st)) (hd : decode bytes pc = .ok (.iushr, 1)) : Wk l Z R y bytes maxL ret n0 Xt s h cells slots (pc + 1) Ls (.int (XT.ushr x z) :: st) := k.pure fun a hx hb' q => XT.iushr a hx rfl (hb hb' hd) rfl q
theorem Wk.ladd {x z : Int64} (k : Wk l Z R y bytes maxL ret n0 Xt s h cells slots pc Ls (.long z :: .long x :: st)) (hd : decode bytes pc = .ok (.ladd, 1)) : Wk l Z R y bytes maxL ret n0 Xt s h cells slots (pc + 1) Ls (.long (x + z) :: st) := k.pure fun a hx hb' q => XT.ladd a hx rfl (hb hb' hd) rfl q
theorem Wk.lsub {x z : Int64} (k : Wk l Z R y bytes maxL ret n0 Xt s h cells slots pc Ls (.long z :: .long x :: st)) (hd : decode bytes pc = .ok (.lsub, 1)) : Wk l Z R y bytes maxL ret n0 Xt s h cells slots (pc + 1) Ls (.long (x - z) :: st) := k.pure fun a hx hb' q => XT.lsub a hx rfl (hb hb' hd) rfl q
theorem Wk.lmul {x z : Int64} (k : Wk l Z R y bytes maxL ret n0 Xt s h cells slots pc Ls (.long z :: .long x :: st)) (hd : decode bytes pc = .ok (.lmul, 1)) : Wk l Z R y bytes maxL ret n0 Xt s h cells slots (pc + 1) Ls (.long (x * z) :: st) := k.pure fun a hx hb' q => XT.lmul a hx rfl (hb hb' hd) rfl q
theorem Wk.land {x z : Int64} (k : Wk l Z R y bytes maxL ret n0 Xt s h cells slots pc Ls (.long z :: .long x :: st)) (hd : decode bytes pc = .ok (.land, 1)) : Wk l Z R y bytes maxL ret n0 Xt s h cells slots (pc + 1) Ls (.long (x &&& z) :: st) := k.pure fun a hx hb' q => XT.land a hx rfl (hb hb' hd) rfl q
theorem Wk.lor {x z : Int64} (k : Wk l Z R y bytes maxL ret n0 Xt s h cells slots pc Ls (.long z :: .long x :: st)) (hd : decode bytes pc = .ok (.lor, 1)) : Wk l Z R y bytes maxL ret n0 Xt s h cells slots (pc + 1) Ls (.long (x ||| z) :: st) := k.pure fun a hx hb' q => XT.lor a hx rfl (hb hb' hd) rfl q
theorem Wk.lxor {x z : Int64} (k : Wk l Z R y bytes maxL ret n0 Xt s h cells slots pc Ls (.long z :: .long x :: st)) (hd : decode bytes pc = .ok (.lxor, 1)) : Wk l Z R y bytes maxL ret n0 Xt s h cells slots (pc + 1) Ls (.long (x ^^^ z) :: st) := k.pure fun a hx hb' q => XT.lxor a hx rfl (hb hb' hd) rfl q
theorem Wk.lcmp {x z : Int64} (k : Wk l Z R y bytes maxL ret n0 Xt s h cells slots pc Ls (.long z :: .long x :: st)) (hd : decode bytes pc = .ok (.lcmp, 1)) : Wk l Z R y bytes maxL ret n0 Xt s h cells slots (pc + 1) Ls (.int (XT.cmpL x z) :: st) := k.pure fun a hx hb' q => XT.lcmp a hx rfl (hb hb' hd) rfl q
theorem Wk.lshl {x : Int64} {z : Int32} (k : Wk l Z R y bytes maxL ret n0 Xt s h cells slots pc Ls (.int z :: .long x :: st)) (hd : decode bytes pc = .ok (.lshl, 1)) : Wk l Z R y bytes maxL ret n0 Xt s h cells slots (pc + 1) Ls (.long (x <<< (z.toInt64 &&& 63)) :: st) := k.pure fun a hx hb' q => XT.lshl a hx rfl (hb hb' hd) rfl q
theorem Wk.lushr {x : Int64} {z : Int32} (k : Wk l Z R y bytes maxL ret n0 Xt s h cells slots pc Ls (.int z :: .long x :: st)) (hd : decode bytes pc = .ok (.lushr, 1)) : Wk l Z R y bytes maxL ret n0 Xt s h cells slots (pc + 1) Ls (.long (XT.ushrL x z) :: st) := k.pure fun a hx hb' q => XT.lushr a hx rfl (hb hb' hd) rfl q
theorem Wk.i2l {x : Int32} (k : Wk l Z R y bytes maxL ret n0 Xt s h cells slots pc Ls (.int x :: st)) (hd : decode bytes pc = .ok (.i2l, 1)) : Wk l Z R y bytes maxL ret n0 Xt s h cells slots (pc + 1) Ls (.long x.toInt64 :: st) := k.pure fun a hx hb' q => XT.i2l a hx rfl (hb hb' hd) rfl q
theorem Wk.l2i {x : Int64} (k : Wk l Z R y bytes maxL ret n0 Xt s h cells slots pc Ls (.long x :: st)) (hd : decode bytes pc = .ok (.l2i, 1)) : Wk l Z R y bytes maxL ret n0 Xt s h cells slots (pc + 1) Ls (.int x.toInt32 :: st) := k.pure fun a hx hb' q => XT.l2i a hx rfl (hb hb' hd) rfl q
theorem Wk.i2b {x : Int32} (k : Wk l Z R y bytes maxL ret n0 Xt s h cells slots pc Ls (.int x :: st)) (hd : decode bytes pc = .ok (.i2b, 1)) : Wk l Z R y bytes maxL ret n0 Xt s h cells slots (pc + 1) Ls (.int x.toInt8.toInt32 :: st) := k.pure fun a hx hb' q => XT.i2b a hx rfl (hb hb' hd) rfl q
theorem Wk.i2c {x : Int32} (k : Wk l Z R y bytes maxL ret n0 Xt s h cells slots pc Ls (.int x :: st)) (hd : decode bytes pc = .ok (.i2c, 1)) : Wk l Z R y bytes maxL ret n0 Xt s h cells slots (pc + 1) Ls (.int x.toUInt32.toUInt16.toUInt32.toInt32 :: st) := k.pure fun a hx hb' q => XT.i2c a hx rfl (hb hb' hd) rfl q
theorem Wk.dup {x : Value} (k : Wk l Z R y bytes maxL ret n0 Xt s h cells slots pc Ls (x :: st)) (hd : decode bytes pc = .ok (.dup, 1)) (hc : x.category = 1) : Wk l Z R y bytes maxL ret n0 Xt s h cells slots (pc + 1) Ls (x :: x :: st) := k.pure fun a hx hb' q => XS.dup a hx rfl (hb hb' hd) rfl hc q
theorem Wk.pop {x : Value} (k : Wk l Z R y bytes maxL ret n0 Xt s h cells slots pc Ls (x :: st)) (hd : decode bytes pc = .ok (.pop, 1)) (hc : x.category = 1) : Wk l Z R y bytes maxL ret n0 Xt s h cells slots (pc + 1) Ls st := k.pure fun a hx hb' q => XT.pop a hx rfl (hb hb' hd) rfl hc q
theorem Wk.iinc {j : Nat} {i : Int} {x : Int32} {Ls' : Array Slot} (k : Wk l Z R y bytes maxL ret n0 Xt s h cells slots pc Ls st) (v : Int32) (hd : decode bytes pc = .ok (.iinc j i, 3)) (hv : Int32.ofInt i = v) (hl : Ls[j]? = some (.val (.int x))) (hl' : storeLocals Ls j (.int (x + v)) = some Ls') : Wk l Z R y bytes maxL ret n0 Xt s h cells slots (pc + 3) Ls' st := k.pure fun a hx hb' q => XT.iincV a hx rfl v (hb hb' hd) hv hl hl' q
theorem Wk.goto {o : Int} {pc' : Nat} (k : Wk l Z R y bytes maxL ret n0 Xt s h cells slots pc Ls st) (hd : decode bytes pc = .ok (.goto o, 3)) (hp : 0 ≤ (pc : Int) + o ∧ ((pc : Int) + o).toNat = pc') : Wk l Z R y bytes maxL ret n0 Xt s h cells slots pc' Ls st := k.pure fun a hx hb' q => XS.goto a hx rfl (pc0 := pc) (pc' := pc') rfl (hb hb' hd) hp.1 hp.2 q
theorem Wk.ifT {x : Int32} {cd : ClassFile.Cond} {o : Int} {pc' : Nat} (k : Wk l Z R y bytes maxL ret n0 Xt s h cells slots pc Ls (.int x :: st)) (hd : decode bytes pc = .ok (.ifCond cd o, 3)) (hc : ifCond.holds cd x = true) (hp : 0 ≤ (pc : Int) + o ∧ ((pc : Int) + o).toNat = pc') : Wk l Z R y bytes maxL ret n0 Xt s h cells slots pc' Ls st := k.pure fun a hx hb' q => XS.ifYes a hx rfl (pc0 := pc) (pc' := pc') rfl (hb hb' hd) rfl hc hp.1 hp.2 q
theorem Wk.ifF {x : Int32} {cd : ClassFile.Cond} {o : Int} (k : Wk l Z R y bytes maxL ret n0 Xt s h cells slots pc Ls (.int x :: st)) (hd : decode bytes pc = .ok (.ifCond cd o, 3)) (hc : ifCond.holds cd x = false) : Wk l Z R y bytes maxL ret n0 Xt s h cells slots (pc + 3) Ls st := k.pure fun a hx hb' q => XS.ifNo a hx rfl (hb hb' hd) rfl hc q
theorem Wk.icT {x z : Int32} {cd : ClassFile.Cond} {o : Int} {pc' : Nat} (k : Wk l Z R y bytes maxL ret n0 Xt s h cells slots pc Ls (.int z :: .int x :: st)) (hd : decode bytes pc = .ok (.if_icmp cd o, 3)) (hc : if_icmp.holds cd x z = true) (hp : 0 ≤ (pc : Int) + o ∧ ((pc : Int) + o).toNat = pc') : Wk l Z R y bytes maxL ret n0 Xt s h cells slots pc' Ls st := k.pure fun a hx hb' q => XS.icmpYes a hx rfl (pc0 := pc) (pc' := pc') rfl (hb hb' hd) rfl hc hp.1 hp.2 q
theorem Wk.icF {x z : Int32} {cd : ClassFile.Cond} {o : Int} (k : Wk l Z R y bytes maxL ret n0 Xt s h cells slots pc Ls (.int z :: .int x :: st)) (hd : decode bytes pc = .ok (.if_icmp cd o, 3)) (hc : if_icmp.holds cd x z = false) : Wk l Z R y bytes maxL ret n0 Xt s h cells slots (pc + 3) Ls st := k.pure fun a hx hb' q => XS.icmpNo a hx rfl (hb hb' hd) rfl hc q
theorem Wk.acT {x z : Value} {cd : ClassFile.ACond} {o : Int} {pc' : Nat} (k : Wk l Z R y bytes maxL ret n0 Xt s h cells slots pc Ls (z :: x :: st)) (hd : decode bytes pc = .ok (.if_acmp cd o, 3)) (h1 : x.isRef = true) (h2 : z.isRef = true) (hc : XT.acmp cd x z = true) (hp : 0 ≤ (pc : Int) + o ∧ ((pc : Int) + o).toNat = pc') : Wk l Z R y bytes maxL ret n0 Xt s h cells slots pc' Ls st := k.pure fun a hx hb' q => XT.acmpYes a hx rfl (pc0 := pc) (pc' := pc') rfl (hb hb' hd) rfl h1 h2 hc hp.1 hp.2 q
theorem Wk.acF {x z : Value} {cd : ClassFile.ACond} {o : Int} (k : Wk l Z R y bytes maxL ret n0 Xt s h cells slots pc Ls (z :: x :: st)) (hd : decode bytes pc = .ok (.if_acmp cd o, 3)) (h1 : x.isRef = true) (h2 : z.isRef = true) (hc : XT.acmp cd x z = false) : Wk l Z R y bytes maxL ret n0 Xt s h cells slots (pc + 3) Ls st := k.pure fun a hx hb' q => XT.acmpNo a hx rfl (hb hb' hd) rfl h1 h2 hc q
theorem Wk.nnT {b : Addr} {o : Int} {pc' : Nat} (k : Wk l Z R y bytes maxL ret n0 Xt s h cells slots pc Ls (.ref b :: st)) (hd : decode bytes pc = .ok (.ifnonnull o, 3)) (hp : 0 ≤ (pc : Int) + o ∧ ((pc : Int) + o).toNat = pc') : Wk l Z R y bytes maxL ret n0 Xt s h cells slots pc' Ls st := k.pure fun a hx hb' q => XT.ifnonnullYes a hx rfl (pc0 := pc) (pc' := pc') rfl (hb hb' hd) rfl hp.1 hp.2 q
theorem Wk.nnF {o : Int} (k : Wk l Z R y bytes maxL ret n0 Xt s h cells slots pc Ls (.null :: st)) (hd : decode bytes pc = .ok (.ifnonnull o, 3)) : Wk l Z R y bytes maxL ret n0 Xt s h cells slots (pc + 3) Ls st := k.pure fun a hx hb' q => XT.ifnonnullNo a hx rfl (hb hb' hd) rfl q
theorem Wk.irem {x z : Int32} (k : Wk l Z R y bytes maxL ret n0 Xt s h cells slots pc Ls (.int z :: .int x :: st)) (hd : decode bytes pc = .ok (.irem, 1)) (hz : z ≠ 0) : Wk l Z R y bytes maxL ret n0 Xt s h cells slots (pc + 1) Ls (.int (x % z) :: st) := by
  obtain ⟨p, e, m, args, below, meth, c, S0, T, locs, F, X, eT, N, r, ex⟩ := k
  exact mk F X eT N (fun t q => r t (iremM X F.1 rfl (hb F.2.1 hd) rfl hz q)) ex
theorem Wk.ldc {i : Nat} {v : Int32} (k : Wk l Z R y bytes maxL ret n0 Xt s h cells slots pc Ls st) (w : (Jvm.Cond.constant y.cls i v).before a0 Z = true) (hd : decode bytes pc = .ok (.ldc i, 2)) : Wk l Z R y bytes maxL ret n0 Xt s h cells slots (pc + 2) Ls (.int v :: st) := by
  obtain ⟨p, e, m, args, below, meth, c, S0, T, locs, F, X, eT, N, r, ex⟩ := k
  exact mk F X eT N (fun t q => r t (X.ldcI F.1 F.2.2.2.2.1 (mvT F.2.2.2.1 w) rfl (hb F.2.1 hd) q)) ex
theorem Wk.ldc2 {i : Nat} {v : Int64} (k : Wk l Z R y bytes maxL ret n0 Xt s h cells slots pc Ls st) (w : (Jvm.Cond.constantLong y.cls i v).before a0 Z = true) (hd : decode bytes pc = .ok (.ldc2_w i, 3)) : Wk l Z R y bytes maxL ret n0 Xt s h cells slots (pc + 3) Ls (.long v :: st) := by
  obtain ⟨p, e, m, args, below, meth, c, S0, T, locs, F, X, eT, N, r, ex⟩ := k
  exact mk F X eT N (fun t q => r t (X.ldc2J F.1 F.2.2.2.2.1 (mvT F.2.2.2.1 w) rfl (hb F.2.1 hd) q)) ex
theorem Wk.getF {i : Nat} {O n d : String} {v : Value} (k : Wk l Z R y bytes maxL ret n0 Xt s h cells slots pc Ls (.ref a :: st)) (w : (Jvm.Cond.fieldLink y.cls i O n d).before a0 Z = true) (A : Fld Z h a O n d v) (hd : decode bytes pc = .ok (.getfield i, 3)) : Wk l Z R y bytes maxL ret n0 Xt s h cells slots (pc + 3) Ls (v :: st) := by
  obtain ⟨p, e, m, args, below, meth, c, S0, T, locs, F, X, eT, N, r, ex⟩ := k
  obtain ⟨T', X', e', q⟩ := RoadKit.getF X F.1 F.2.2.2.1 F.2.2.2.2.1 (host := "") (Or.inl w) Via.refl eT A (g := mkF m pc Ls (.ref a :: st)) rfl rfl (hb F.2.1 hd)
  exact mk F X' e' N (fun t u => r t (q t u)) ex
theorem Wk.getS {i : Nat} {O n d : String} {v : Value} (k : Wk l Z R y bytes maxL ret n0 Xt s h cells slots pc Ls st) (w : (Jvm.Cond.fieldLink y.cls i O n d).before a0 Z = true) (A : Sta Z h O n d v) (hd : decode bytes pc = .ok (.getstatic i, 3)) : Wk l Z R y bytes maxL ret n0 Xt s h cells slots (pc + 3) Ls (v :: st) := by
  obtain ⟨p, e, m, args, below, meth, c, S0, T, locs, F, X, eT, N, r, ex⟩ := k
  obtain ⟨T', X', e', q⟩ := RoadKit.getS X F.1 F.2.2.2.1 F.2.2.2.2.1 (host := "") w Via.refl eT A (g := mkF m pc Ls st) rfl (hb F.2.1 hd)
  exact mk F X' e' N (fun t u => r t (q t u)) ex
theorem Wk.putF {i kk : Nat} {O n d C : String} {v old : Value} (k : Wk l Z R y bytes maxL ret n0 Xt s h cells slots pc Ls (v :: .ref a :: st)) (w : (Jvm.Cond.fieldLink y.cls i O n d).before a0 Z = true) (A : Fld Z h a O n d old) (E : Exa Z h a C)
    (L : (Jvm.Cond.lays C O n d).before a0 Z = true ∨ ((Jvm.Cond.laysFinal C O n d).before a0 Z = true ∧ y.cls = O ∧ y.name = "<init>")) (wi : (Jvm.Cond.instantiable C kk).before a0 Z = true)
    (hty : parseFieldDescriptor d = some ty) (hn : narrow ty v = v) (hf : fits ty v = true) (hg : n0 ≤ a) (hd : decode bytes pc = .ok (.putfield i, 3)) :
    ∃ h', Wr h h' a (RoadKit.slotOf Z O n d) v ∧ Keep h h' [a] ∧ Fld Z h' a O n d v ∧ Exa Z h' a C ∧ Wk l Z R y bytes maxL ret n0 Xt s h' cells slots (pc + 3) Ls st := by
  obtain ⟨p, e, m, args, below, meth, c, S0, T, locs, F, X, eT, N, r, ex⟩ := k
  obtain ⟨T', h', X', e', W1, q⟩ := RoadKit.putF X F.1 F.2.2.2.1 F.2.2.2.2.1 (host := "") (Or.inl w) Via.refl eT A E (L.imp id fun z => ⟨z.1, z.2.1, F.2.2.2.2.2.1.trans z.2.2⟩) wi hty hn hf (g := mkF m pc Ls (v :: .ref a :: st)) rfl rfl (hb F.2.1 hd)
  exact ⟨h', W1, Keep.of_wr W1, A.same W1, E.wr W1, mk F X' e' (Fr.snoc X' N hg) (fun t u => r t (q t u)) ex⟩
theorem Wk.newO {i n : Nat} {C : String} (k : Wk l Z R y bytes maxL ret n0 Xt s h cells slots pc Ls st) (w : (Jvm.Cond.classLink y.cls i C).before a0 Z = true) (wi : (Jvm.Cond.instantiable C n).before a0 Z = true) (wz : (Jvm.Cond.initialized C).before a0 Z = true) (hd : decode bytes pc = .ok (.new i, 3)) (hc : cells + 1 ≤ R.cells) (hl : slots + n ≤ R.slots) :
    ∃ h', Keep h h' [] ∧ Exa Z h' h.size C ∧ (∀ {O nm d : String} {ty : FieldType}, Laid Z a0 C O nm d → parseFieldDescriptor d = some ty → Fld Z h' h.size O nm d (defaultValue ty)) ∧ Wk l Z R y bytes maxL ret n0 Xt s h' (cells + 1) (slots + n) (pc + 3) Ls (.ref h.size :: st) := by
  obtain ⟨p, e, m, args, below, meth, c, S0, T, locs, F, X, eT, N, r, ex⟩ := k
  obtain ⟨T', h', X', e', E, A, D, -, q⟩ := RoadKit.newO X F.1 F.2.2.2.1 F.2.2.2.2.1 w wi wz eT (g := mkF m pc Ls st) rfl (hb F.2.1 hd) hc hl
  exact ⟨h', Keep.of_ext E, A, D, mk F X' e' N (fun t u => r t (q t u)) ex⟩
theorem Wk.initO {i : Nat} (k : Wk l Z R y bytes maxL ret n0 Xt s h cells slots pc Ls (.ref a :: st)) (w1 : (Jvm.Cond.methodLink y.cls i Lib.objectInit).before a0 Z = true) (w2 : (Jvm.Cond.instanceMethod Lib.objectInit).before a0 Z = true) (w3 : (Jvm.Cond.code Lib.objectInit Jvm.Pilot.@@N@@.object_method_1_code 1 none).before a0 Z = true) (hd : decode bytes pc = .ok (.invokespecial i, 3)) (hL : Ls.size = maxL)
    (hf : 1 ≤ R.frames) (W0 : Nat) (hW : (st.map fun v => v.category).sum ≤ W0) (hl : W0 + 12 ≤ R.locals) : Wk l Z R y bytes maxL ret n0 Xt s h cells slots (pc + 3) Ls st := by
  obtain ⟨p, e, m, args, below, meth, c, S0, T, locs, F, X, eT, N, r, ex⟩ := k
  obtain ⟨T', X', e', q⟩ := RoadKit.initO X F.1 F.2.2.2.1 F.2.2.2.2.1 w1 w2 w3 eT (g := mkF m pc Ls (.ref a :: st)) rfl (by rw [F.2.2.1]; exact hL) rfl (hb F.2.1 hd) hf (W := W0) (by show 2 * 0 + _ ≤ _; omega) hl
  exact mk F X' e' N (fun t u => r t (q t u)) ex
theorem Wk.newA {n : Int32} {aty : ArrayType} (k : Wk l Z R y bytes maxL ret n0 Xt s h cells slots pc Ls (.int n :: st)) (w : (Jvm.Cond.arrayClass (newarray.typeOf aty)).before a0 Z = true) (hd : decode bytes pc = .ok (.newarray aty, 2)) (n' : Nat) (hN : n.toNatClampNeg = n') (hn : ¬ n < 0) (hm : n' ≤ 1000) (hc : cells + 1 ≤ R.cells) (hl : slots + n' ≤ R.slots) :
    ∃ h', Keep h h' [] ∧ AV Z h' h.size (newarray.typeOf aty) (List.replicate n' (defaultValue (newarray.typeOf aty))) ∧ Wk l Z R y bytes maxL ret n0 Xt s h' (cells + 1) (slots + n') (pc + 2) Ls (.ref h.size :: st) := by
  obtain ⟨p, e, m, args, below, meth, c, S0, T, locs, F, X, eT, N, r, ex⟩ := k
  obtain ⟨T', h', cA, X', e', E, A, q⟩ := newP X F.1 F.2.2.2.1 w eT (g := mkF m pc Ls (.int n :: st)) rfl (hb F.2.1 hd) rfl hn (cap := n') (Nat.le_of_eq hN) (by omega) hc hl
  refine ⟨h', Keep.of_ext E, ⟨by rw [List.length_replicate]; omega, _, A, ?_⟩, mk F X' e' N (fun t u => r t (q t u)) ex⟩
  subst hN; rfl
theorem AV.inb {c : Cell} {j : Int32} {i : Nat} (e : c.slots = vs.toArray) (h0 : ¬ j < 0) (hj : j.toNatClampNeg = i) (hi : i < vs.length) : ¬ (j < 0 ∨ c.slots.size ≤ j.toNatClampNeg) := by
  rintro (q | q)
  · exact h0 q
  · rw [e, hj, List.size_toArray] at q; omega
theorem AV.set {c : Cell} {i : Nat} {v : Value} (e : c.slots = vs.toArray) : (c.setSlot i v).slots = (vs.set i v).toArray := by
  show c.slots.setIfInBounds i v = _
  rw [e, List.setIfInBounds_toArray]
theorem Wk.stI {x j : Int32} (k : Wk l Z R y bytes maxL ret n0 Xt s h cells slots pc Ls (.int x :: .int j :: .ref a :: st)) (A : AV Z h a .int vs) (i : Nat) (hj : j.toNatClampNeg = i) (h0 : ¬ j < 0) (hi : i < vs.length) (hg : n0 ≤ a) (hd : decode bytes pc = .ok (.iastore, 1)) :
    ∃ h', Keep h h' [a] ∧ AV Z h' a .int (vs.set i (.int (x))) ∧ Wk l Z R y bytes maxL ret n0 Xt s h' cells slots (pc + 1) Ls st := by
  obtain ⟨p, e, m, args, below, meth, c, S0, T, locs, F, X, eT, N, r, ex⟩ := k
  obtain ⟨hlen, cl, A, hcl⟩ := A
  obtain ⟨T', h', X', e', W1, q⟩ := RoadKit.stI X F.1 F.2.2.2.1 eT A (AV.inb hcl h0 hj hi) (g := mkF m pc Ls (.int x :: .int j :: .ref a :: st)) rfl rfl (hb F.2.1 hd)
  refine ⟨h', Keep.of_wr W1, ⟨by rw [List.length_set]; exact hlen, _, A.same W1, ?_⟩, mk F X' e' (Fr.snoc X' N hg) (fun t u => r t (q t u)) ex⟩
  rw [hj]; exact AV.set hcl
theorem Wk.stB {x j : Int32} (k : Wk l Z R y bytes maxL ret n0 Xt s h cells slots pc Ls (.int x :: .int j :: .ref a :: st)) (A : AV Z h a .byte vs) (i : Nat) (hj : j.toNatClampNeg = i) (h0 : ¬ j < 0) (hi : i < vs.length) (hg : n0 ≤ a) (hd : decode bytes pc = .ok (.bastore, 1)) :
    ∃ h', Keep h h' [a] ∧ AV Z h' a .byte (vs.set i (.int (nar .byte x))) ∧ Wk l Z R y bytes maxL ret n0 Xt s h' cells slots (pc + 1) Ls st := by
  obtain ⟨p, e, m, args, below, meth, c, S0, T, locs, F, X, eT, N, r, ex⟩ := k
  obtain ⟨hlen, cl, A, hcl⟩ := A
  obtain ⟨T', h', X', e', W1, q⟩ := RoadKit.stB X F.1 F.2.2.2.1 eT A (AV.inb hcl h0 hj hi) (g := mkF m pc Ls (.int x :: .int j :: .ref a :: st)) rfl rfl (hb F.2.1 hd)
  refine ⟨h', Keep.of_wr W1, ⟨by rw [List.length_set]; exact hlen, _, A.same W1, ?_⟩, mk F X' e' (Fr.snoc X' N hg) (fun t u => r t (q t u)) ex⟩
  rw [hj]; exact AV.set hcl
theorem Wk.stC {x j : Int32} (k : Wk l Z R y bytes maxL ret n0 Xt s h cells slots pc Ls (.int x :: .int j :: .ref a :: st)) (A : AV Z h a .char vs) (i : Nat) (hj : j.toNatClampNeg = i) (h0 : ¬ j < 0) (hi : i < vs.length) (hg : n0 ≤ a) (hd : decode bytes pc = .ok (.castore, 1)) :
    ∃ h', Keep h h' [a] ∧ AV Z h' a .char (vs.set i (.int (nar .char x))) ∧ Wk l Z R y bytes maxL ret n0 Xt s h' cells slots (pc + 1) Ls st := by
  obtain ⟨p, e, m, args, below, meth, c, S0, T, locs, F, X, eT, N, r, ex⟩ := k
  obtain ⟨hlen, cl, A, hcl⟩ := A
  obtain ⟨T', h', X', e', W1, q⟩ := RoadKit.stC X F.1 F.2.2.2.1 eT A (AV.inb hcl h0 hj hi) (g := mkF m pc Ls (.int x :: .int j :: .ref a :: st)) rfl rfl (hb F.2.1 hd)
  refine ⟨h', Keep.of_wr W1, ⟨by rw [List.length_set]; exact hlen, _, A.same W1, ?_⟩, mk F X' e' (Fr.snoc X' N hg) (fun t u => r t (q t u)) ex⟩
  rw [hj]; exact AV.set hcl
theorem Wk.ldI {j : Int32} {v : Value} (k : Wk l Z R y bytes maxL ret n0 Xt s h cells slots pc Ls (.int j :: .ref a :: st)) (A : AV Z h a .int vs) (h0 : ¬ j < 0) (hv : vs[j.toNatClampNeg]? = some v) (hd : decode bytes pc = .ok (.iaload, 1)) : Wk l Z R y bytes maxL ret n0 Xt s h cells slots (pc + 1) Ls (v :: st) := by
  obtain ⟨p, e, m, args, below, meth, c, S0, T, locs, F, X, eT, N, r, ex⟩ := k
  obtain ⟨hlen, cl, A, hcl⟩ := A
  have hi : j.toNatClampNeg < vs.length := (List.getElem?_eq_some_iff.mp hv).1
  exact mk F X eT N (fun t u => r t (X.iaload F.1 (j := j) (v := v) (by rw [eT]; exact A.1) (State.isArrayOf_alike F.2.2.2.1.alike A.2.1) A.2.2 (AV.inb hcl h0 rfl hi) (by rw [hcl, List.getElem?_toArray]; exact hv) (g := mkF m pc Ls (.int j :: .ref a :: st)) rfl rfl (hb F.2.1 hd) t u)) ex
theorem Wk.ldB {j : Int32} {v : Value} (k : Wk l Z R y bytes maxL ret n0 Xt s h cells slots pc Ls (.int j :: .ref a :: st)) (A : AV Z h a .byte vs) (h0 : ¬ j < 0) (hv : vs[j.toNatClampNeg]? = some v) (hd : decode bytes pc = .ok (.baload, 1)) : Wk l Z R y bytes maxL ret n0 Xt s h cells slots (pc + 1) Ls (v :: st) := by
  obtain ⟨p, e, m, args, below, meth, c, S0, T, locs, F, X, eT, N, r, ex⟩ := k
  obtain ⟨hlen, cl, A, hcl⟩ := A
  have hi : j.toNatClampNeg < vs.length := (List.getElem?_eq_some_iff.mp hv).1
  exact mk F X eT N (fun t u => r t (X.baloadBytes F.1 (j := j) (v := v) (by rw [eT]; exact A.1) (State.isArrayOf_alike F.2.2.2.1.alike A.2.1) A.2.2 (AV.inb hcl h0 rfl hi) (by rw [hcl, List.getElem?_toArray]; exact hv) (g := mkF m pc Ls (.int j :: .ref a :: st)) rfl rfl (hb F.2.1 hd) t u)) ex
theorem Wk.ldC {j : Int32} {v : Value} (k : Wk l Z R y bytes maxL ret n0 Xt s h cells slots pc Ls (.int j :: .ref a :: st)) (A : AV Z h a .char vs) (h0 : ¬ j < 0) (hv : vs[j.toNatClampNeg]? = some v) (hd : decode bytes pc = .ok (.caload, 1)) : Wk l Z R y bytes maxL ret n0 Xt s h cells slots (pc + 1) Ls (v :: st) := by
  obtain ⟨p, e, m, args, below, meth, c, S0, T, locs, F, X, eT, N, r, ex⟩ := k
  obtain ⟨hlen, cl, A, hcl⟩ := A
  have hi : j.toNatClampNeg < vs.length := (List.getElem?_eq_some_iff.mp hv).1
  exact mk F X eT N (fun t u => r t (X.caload F.1 (j := j) (v := v) (by rw [eT]; exact A.1) (State.isArrayOf_alike F.2.2.2.1.alike A.2.1) A.2.2 (AV.inb hcl h0 rfl hi) (by rw [hcl, List.getElem?_toArray]; exact hv) (g := mkF m pc Ls (.int j :: .ref a :: st)) rfl rfl (hb F.2.1 hd) t u)) ex
theorem Wk.len {n : Int32} (k : Wk l Z R y bytes maxL ret n0 Xt s h cells slots pc Ls (.ref a :: st)) (A : AV Z h a ty vs) (hn : vs.length.toInt32 = n) (hd : decode bytes pc = .ok (.arraylength, 1)) : Wk l Z R y bytes maxL ret n0 Xt s h cells slots (pc + 1) Ls (.int n :: st) := by
  obtain ⟨p, e, m, args, below, meth, c, S0, T, locs, F, X, eT, N, r, ex⟩ := k
  obtain ⟨hlen, cl, A, hcl⟩ := A
  have e : cl.slots.size.toInt32 = n := by rw [hcl, List.size_toArray]; exact hn
  exact mk F X eT N (fun t u => r t (X.arraylength F.1 (cell := cl) (by rw [eT]; exact A.1) (State.isArrayOf_alike F.2.2.2.1.alike A.2.1) (g := mkF m pc Ls (.ref a :: st)) rfl rfl (hb F.2.1 hd) t (by rw [e]; exact u))) ex
theorem Wk.callS {i : Nat} {y' : MethodName} {bytes' : ByteArray} {maxL' : Nat} {ret' : Option FieldType} {rm : Room} {P' : Option Value → Heap → Prop} {argsL rest : List Value} (k : Wk l Z R y bytes maxL ret n0 Xt s h cells slots pc Ls st) (wl : (Jvm.Cond.methodLink y.cls i y').before a0 Z = true) (wt : (Jvm.Cond.static y').before a0 Z = true) (wi : (Jvm.Cond.initialized y'.cls).before a0 Z = true) (wc : (Jvm.Cond.code y' bytes' maxL' ret').before a0 Z = true)
    (hy : y'.cls ≠ "java/lang/invoke/MethodHandle" ∧ y'.cls ≠ "java/lang/invoke/VarHandle") (hC : Con l Z y' bytes' maxL' ret' rm argsL.toArray h n0 P') (hlen : ∀ sig, parseMethodDescriptor y'.desc = some sig → argsL.length = sig.parameters.length)
    (hd : decode bytes pc = .ok (.invokestatic i, 3)) (hst : st = argsL.reverse ++ rest) (hL : Ls.size = maxL) (W0 : Nat) (hW : (rest.map fun v => v.category).sum ≤ W0) (hf : rm.frames + 1 ≤ R.frames) (hl : W0 + (maxL' + 11) + rm.locals ≤ R.locals) (hc : cells + rm.cells ≤ R.cells) (hs : slots + rm.slots ≤ R.slots) : ∃ v h', P' v h' ∧ Wk l Z R y bytes maxL ret n0 Xt s h' (cells + rm.cells) (slots + rm.slots) (pc + 3) Ls (v.toList ++ rest) := by
  obtain ⟨p, e, m, args, below, meth, c, S0, T, locs, F, X, eT, N, r, ex⟩ := k
  obtain ⟨v, vm₁, ⟨T', L', k', n'⟩, -, X', ⟨Lc, hQ, l1, y1, z1⟩, q⟩ := Jvm.LawKit.callS X F.1 (y := y') F.2.2.2.2.1 (mvT F.2.2.2.1 wl) (mvT F.2.2.2.1 wt) (mvT F.2.2.2.1 wi) (mvT F.2.2.2.1 wc) hy (backOf (W := W0) (Q := fun v h L => Fr n0 L ∧ P' v h) (hC []) F.2.2.2.1 wc wi hf hl) (g := mkF m pc Ls st) rfl (by rw [F.2.2.1]; exact hL) (argsL := argsL) (rest := rest) hlen hst (by show 2 * 0 + _ ≤ _; omega) (hb F.2.1 hd) (fun _ _ => ⟨rfl, eT, hc, hs⟩)
  dsimp only [Pt.U, Pt.locs, Pt.cells, Pt.slots] at X' l1 y1 z1 q hQ
  subst l1 y1 z1
  exact ⟨v, T'.heap, hQ.2, mk F X' rfl (Fr.app N hQ.1) (fun t u => r t (q t u)) ex⟩
theorem Wk.callSN {i : Nat} {y' : MethodName} {bytes' : ByteArray} {maxL' : Nat} {ret' : Option FieldType} {rm : Room} {P' : Option Value → Heap → Prop} {argsL rest : List Value} {host : String} (k : Wk l Z R y bytes maxL ret n0 Xt s h cells slots pc Ls st) (wl : (Jvm.Cond.methodLinkNest y.cls i y' host).before a0 Z = true) (wt : (Jvm.Cond.static y').before a0 Z = true) (wi : (Jvm.Cond.initialized y'.cls).before a0 Z = true) (wc : (Jvm.Cond.code y' bytes' maxL' ret').before a0 Z = true)
    (hy : y'.cls ≠ "java/lang/invoke/MethodHandle" ∧ y'.cls ≠ "java/lang/invoke/VarHandle") (hC : Con l Z y' bytes' maxL' ret' rm argsL.toArray h n0 P') (hlen : ∀ sig, parseMethodDescriptor y'.desc = some sig → argsL.length = sig.parameters.length)
    (hd : decode bytes pc = .ok (.invokestatic i, 3)) (hst : st = argsL.reverse ++ rest) (hL : Ls.size = maxL) (W0 : Nat) (hW : (rest.map fun v => v.category).sum ≤ W0) (hf : rm.frames + 1 ≤ R.frames) (hl : W0 + (maxL' + 11) + rm.locals ≤ R.locals) (hc : cells + rm.cells ≤ R.cells) (hs : slots + rm.slots ≤ R.slots) : ∃ v h', P' v h' ∧ Wk l Z R y bytes maxL ret n0 Xt s h' (cells + rm.cells) (slots + rm.slots) (pc + 3) Ls (v.toList ++ rest) := by
  obtain ⟨p, e, m, args, below, meth, c, S0, T, locs, F, X, eT, N, r, ex⟩ := k
  obtain ⟨v, vm₁, ⟨T', L', k', n'⟩, -, X', ⟨Lc, hQ, l1, y1, z1⟩, q⟩ := RoadKit.callSN X F.1 (y := y') F.2.2.2.2.1 (Jvm.Cond.methodLinkNest_wide F.2.2.2.1 wl :) (mvT F.2.2.2.1 wt) (mvT F.2.2.2.1 wi) (mvT F.2.2.2.1 wc) hy (backOf (W := W0) (Q := fun v h L => Fr n0 L ∧ P' v h) (hC []) F.2.2.2.1 wc wi hf hl) (g := mkF m pc Ls st) rfl (by rw [F.2.2.1]; exact hL) (argsL := argsL) (rest := rest) hlen hst (by show 2 * 0 + _ ≤ _; omega) (hb F.2.1 hd) (fun _ _ => ⟨rfl, eT, hc, hs⟩)
  dsimp only [Pt.U, Pt.locs, Pt.cells, Pt.slots] at X' l1 y1 z1 q hQ
  subst l1 y1 z1
  exact ⟨v, T'.heap, hQ.2, mk F X' rfl (Fr.app N hQ.1) (fun t u => r t (q.trans u)) ex⟩
theorem Wk.callN {i : Nat} {y' : MethodName} {bytes' : ByteArray} {maxL' : Nat} {rm : Room} {P' : Option Value → Heap → Prop} {argsL rest : List Value} (k : Wk l Z R y bytes maxL ret n0 Xt s h cells slots pc Ls st) (hy1 : y'.name = "<init>") (wl : (Jvm.Cond.methodLink y.cls i y').before a0 Z = true) (wm : (Jvm.Cond.instanceMethod y').before a0 Z = true) (wi : (Jvm.Cond.initialized y'.cls).before a0 Z = true) (wc : (Jvm.Cond.code y' bytes' maxL' none).before a0 Z = true)
    (hy : y'.cls ≠ "java/lang/invoke/MethodHandle" ∧ y'.cls ≠ "java/lang/invoke/VarHandle") (hC : Con l Z y' bytes' maxL' none rm (.ref a :: argsL).toArray h n0 P') (hlen : ∀ sig, parseMethodDescriptor y'.desc = some sig → argsL.length = sig.parameters.length)
    (hd : decode bytes pc = .ok (.invokespecial i, 3)) (hst : st = argsL.reverse ++ .ref a :: rest) (hL : Ls.size = maxL) (W0 : Nat) (hW : (rest.map fun v => v.category).sum ≤ W0) (hf : rm.frames + 1 ≤ R.frames) (hl : W0 + (maxL' + 11) + rm.locals ≤ R.locals) (hc : cells + rm.cells ≤ R.cells) (hs : slots + rm.slots ≤ R.slots) : ∃ v h', P' v h' ∧ Wk l Z R y bytes maxL ret n0 Xt s h' (cells + rm.cells) (slots + rm.slots) (pc + 3) Ls (v.toList ++ rest) := by
  obtain ⟨p, e, m, args, below, meth, c, S0, T, locs, F, X, eT, N, r, ex⟩ := k
  obtain ⟨v, vm₁, ⟨T', L', k', n'⟩, -, X', ⟨Lc, hQ, l1, y1, z1⟩, q⟩ := X.specialBack F.1 (y := y') hy1 F.2.2.2.2.1 (mvT F.2.2.2.1 wl) (mvT F.2.2.2.1 wm) (mvT F.2.2.2.1 wc) hy (backOf (W := W0) (Q := fun v h L => Fr n0 L ∧ P' v h) (hC []) F.2.2.2.1 wc wi hf hl) (g := mkF m pc Ls st) rfl (by rw [F.2.2.1]; exact hL) (Steps.refl _) (a := a) (argsL := argsL) (rest := rest) hlen hst (by show 2 * 0 + _ ≤ _; omega) (hb F.2.1 hd) (fun _ _ => ⟨rfl, eT, hc, hs⟩)
  dsimp only [Pt.U, Pt.locs, Pt.cells, Pt.slots] at X' l1 y1 z1 q hQ
  subst l1 y1 z1
  exact ⟨v, T'.heap, hQ.2, mk F X' rfl (Fr.app N hQ.1) (fun t u => r t (q.trans u)) ex⟩
theorem Wk.callV {i : Nat} {y' : MethodName} {bytes' : ByteArray} {maxL' : Nat} {ret' : Option FieldType} {rm : Room} {P' : Option Value → Heap → Prop} {argsL rest : List Value} {C : String} (k : Wk l Z R y bytes maxL ret n0 Xt s h cells slots pc Ls st) (wl : (Jvm.Cond.methodLink y.cls i y').before a0 Z = true) (wd : (Jvm.Cond.declares y').before a0 Z = true) (wm : (Jvm.Cond.instanceMethod y').before a0 Z = true) (wsl : (Jvm.Cond.selects C y' y').before a0 Z = true) (hCy : C = y'.cls) (wi : (Jvm.Cond.initialized y'.cls).before a0 Z = true) (wc : (Jvm.Cond.code y' bytes' maxL' ret').before a0 Z = true)
    (hy : y'.cls ≠ "java/lang/invoke/MethodHandle" ∧ y'.cls ≠ "java/lang/invoke/VarHandle") (E : Exa Z h a C) (hC : Con l Z y' bytes' maxL' ret' rm (.ref a :: argsL).toArray h n0 P') (hlen : ∀ sig, parseMethodDescriptor y'.desc = some sig → argsL.length = sig.parameters.length)
    (hd : decode bytes pc = .ok (.invokevirtual i, 3)) (hst : st = argsL.reverse ++ .ref a :: rest) (hL : Ls.size = maxL) (W0 : Nat) (hW : (rest.map fun v => v.category).sum ≤ W0) (hf : rm.frames + 1 ≤ R.frames) (hl : W0 + (maxL' + 11) + rm.locals ≤ R.locals) (hc : cells + rm.cells ≤ R.cells) (hs : slots + rm.slots ≤ R.slots) : ∃ v h', P' v h' ∧ Wk l Z R y bytes maxL ret n0 Xt s h' (cells + rm.cells) (slots + rm.slots) (pc + 3) Ls (v.toList ++ rest) := by
  obtain ⟨p, e, m, args, below, meth, c, S0, T, locs, F, X, eT, N, r, ex⟩ := k
  subst hCy
  obtain ⟨cq, kq, q1, q2, q3⟩ := isOf F.2.2.2.1 eT E
  obtain ⟨v, vm₁, ⟨T', L', k', n'⟩, -, X', ⟨Lc, hQ, l1, y1, z1⟩, q⟩ := X.virtualBack F.1 (y := y') (z := y') F.2.2.2.2.1 (mvT F.2.2.2.1 wl) (mvT F.2.2.2.1 wd) (notFace_of_selects (args := #[]) (mvT F.2.2.2.1 wsl)) (mvT F.2.2.2.1 wsl) (mvT F.2.2.2.1 wm) hy (backOf (W := W0) (Q := fun v h L => Fr n0 L ∧ P' v h) (hC []) F.2.2.2.1 wc wi hf hl) q1 q3 (g := mkF m pc Ls st) rfl (by rw [F.2.2.1]; exact hL) (Steps.refl _) (argsL := argsL) (rest := rest) hlen hst (by show 2 * 0 + _ ≤ _; omega) (hb F.2.1 hd) (fun _ _ => ⟨rfl, eT, hc, hs⟩)
  dsimp only [Pt.U, Pt.locs, Pt.cells, Pt.slots] at X' l1 y1 z1 q hQ
  subst l1 y1 z1
  exact ⟨v, T'.heap, hQ.2, mk F X' rfl (Fr.app N hQ.1) (fun t u => r t (q.trans u)) ex⟩
theorem Wk.callP {i : Nat} {y' : MethodName} {bytes' : ByteArray} {maxL' : Nat} {ret' : Option FieldType} {rm : Room} {P' : Option Value → Heap → Prop} {argsL rest : List Value} {z : MethodName} (k : Wk l Z R y bytes maxL ret n0 Xt s h cells slots pc Ls st) (wl : (Jvm.Cond.methodLink y.cls i y').before a0 Z = true) (wm : (Jvm.Cond.instanceMethod y').before a0 Z = true) (wp : (Jvm.Cond.privateMethod y').before a0 Z = true) (wz : (Jvm.Cond.selects y'.cls z z).before a0 Z = true) (hz : z.cls = y'.cls) (wi : (Jvm.Cond.initialized y'.cls).before a0 Z = true) (wc : (Jvm.Cond.code y' bytes' maxL' ret').before a0 Z = true)
    (hy : y'.cls ≠ "java/lang/invoke/MethodHandle" ∧ y'.cls ≠ "java/lang/invoke/VarHandle") (E : Exa Z h a y'.cls) (hC : Con l Z y' bytes' maxL' ret' rm (.ref a :: argsL).toArray h n0 P') (hlen : ∀ sig, parseMethodDescriptor y'.desc = some sig → argsL.length = sig.parameters.length)
    (hd : decode bytes pc = .ok (.invokevirtual i, 3)) (hst : st = argsL.reverse ++ .ref a :: rest) (hL : Ls.size = maxL) (W0 : Nat) (hW : (rest.map fun v => v.category).sum ≤ W0) (hf : rm.frames + 1 ≤ R.frames) (hl : W0 + (maxL' + 11) + rm.locals ≤ R.locals) (hc : cells + rm.cells ≤ R.cells) (hs : slots + rm.slots ≤ R.slots) : ∃ v h', P' v h' ∧ Wk l Z R y bytes maxL ret n0 Xt s h' (cells + rm.cells) (slots + rm.slots) (pc + 3) Ls (v.toList ++ rest) := by
  obtain ⟨p, e, m, args, below, meth, c, S0, T, locs, F, X, eT, N, r, ex⟩ := k
  obtain ⟨cq, q1, q2⟩ := E.cell
  have hsz : (Jvm.Cond.selects y'.cls z z).before args s = true := mvT F.2.2.2.1 wz
  have hpv : s.PrivateAt y' := Jvm.Cond.privateMethod_at (mvP F.2.2.2.1 wp (args := #[]))
  have hsel : (Jvm.Cond.selects y'.cls y' y').before args s = true := by
    obtain ⟨c2, r2, m2, u1, u2, u3, u4, kP, u5, u6⟩ := Jvm.Cond.selects_spec hsz
    have u7 : s.vm.findClass z.cls = some m2.cls := findClass_of_methodNamed u3
    rw [hz] at u7
    exact selects_self_of_private u7 u5 u6 hpv (mvT F.2.2.2.1 wm) hy
  obtain ⟨v, vm₁, ⟨T', L', k', n'⟩, -, X', ⟨Lc, hQ, l1, y1, z1⟩, q⟩ := X.privateBack F.1 (y := y') F.2.2.2.2.1 (mvT F.2.2.2.1 wl) (mvT F.2.2.2.1 wm) hsel hpv (mvT F.2.2.2.1 wc) hy (backOf (W := W0) (Q := fun v h L => Fr n0 L ∧ P' v h) (hC []) F.2.2.2.1 wc wi hf hl) (g := mkF m pc Ls st) rfl (by rw [F.2.2.1]; exact hL) (Steps.refl _) (a := a) (by rw [eT]; exact q1) q2 (argsL := argsL) (rest := rest) hlen hst (by show 2 * 0 + _ ≤ _; omega) (hb F.2.1 hd) (fun _ _ => ⟨rfl, eT, hc, hs⟩)
  dsimp only [Pt.U, Pt.locs, Pt.cells, Pt.slots] at X' l1 y1 z1 q hQ
  subst l1 y1 z1
  exact ⟨v, T'.heap, hQ.2, mk F X' rfl (Fr.app N hQ.1) (fun t u => r t (q.trans u)) ex⟩
theorem Wk.tswIn {x : Int32} {dflt low high : Int} {offs : Array Int} {len : Nat} {o : Int} {pc' : Nat} (k : Wk l Z R y bytes maxL ret n0 Xt s h cells slots pc Ls (.int x :: st)) (hd : decode bytes pc = .ok (.tableswitch dflt low high offs, len)) (hin : ¬ (x.toInt < low ∨ x.toInt > high)) (hoff : offs[(x.toInt - low).toNat]? = some o) (hp : 0 ≤ (pc : Int) + o ∧ ((pc : Int) + o).toNat = pc') : Wk l Z R y bytes maxL ret n0 Xt s h cells slots pc' Ls st := k.pure fun a hx hb' q => XS.tswIn a hx rfl (pc0 := pc) (pc' := pc') rfl (hb hb' hd) rfl hin hoff hp.1 hp.2 q
theorem Wk.tswOut {x : Int32} {dflt low high : Int} {offs : Array Int} {len : Nat} {pc' : Nat} (k : Wk l Z R y bytes maxL ret n0 Xt s h cells slots pc Ls (.int x :: st)) (hd : decode bytes pc = .ok (.tableswitch dflt low high offs, len)) (hout : x.toInt < low ∨ x.toInt > high) (hp : 0 ≤ (pc : Int) + dflt ∧ ((pc : Int) + dflt).toNat = pc') : Wk l Z R y bytes maxL ret n0 Xt s h cells slots pc' Ls st := k.pure fun a hx hb' q => XS.tswOut a hx rfl (pc0 := pc) (pc' := pc') rfl (hb hb' hd) rfl hout hp.1 hp.2 q
theorem Wk.out {t : FieldType} {w : Value} {i : Instr} (k : Wk l Z R y bytes maxL (some t) n0 (Ex s R n0 P G) s h cells slots pc Ls (w :: st)) (hn : narrow t w = w)
    (hi : (i = .ireturn ∧ (t = .int ∨ t = .boolean ∨ t = .byte ∨ t = .char ∨ t = .short) ∧ ∃ z, w = .int z) ∨ (i = .lreturn ∧ t = .long ∧ ∃ z, w = .long z) ∨ (i = .dreturn ∧ t = .double ∧ ∃ z, w = .double z) ∨ (i = .freturn ∧ t = .float ∧ ∃ z, w = .float z) ∨ (i = .areturn ∧ t.isReference = true ∧ w.isRef = true))
    (hd : decode bytes pc = .ok (i, 1)) (hc : cells ≤ R.cells) (hs : slots ≤ R.slots) (hP : P (some w) h) : G := by
  obtain ⟨p, e, m, args, below, meth, c, S0, T, locs, F, X, eT, N, r, ex⟩ := k
  have hlk : meth.locks = false := F.2.2.2.2.2.2.2
  obtain ⟨fs, hr, hrun, hended, hW, hsame⟩ := X.leave (v := some w) (fun z => by rw [F.2.2.2.2.2.2.1] at z; cases z)
  refine ex ⟨_, _, r _ (retOut X F.1 F.2.2.2.2.2.2.1 hn hi (hb F.2.1 hd) hr), hrun, hended, _, locs, rfl, ⟨N, ?_⟩, ⟨_, rfl⟩, hW, hsame.mono hc hs⟩
  show P (some w) T.heap
  rw [eT]; exact hP
theorem Wk.outN (k : Wk l Z R y bytes maxL none n0 (Ex s R n0 P G) s h cells slots pc Ls []) (hd : decode bytes pc = .ok (.return_, 1)) (hc : cells ≤ R.cells) (hs : slots ≤ R.slots) (hP : P none h) : G := by
  obtain ⟨p, e, m, args, below, meth, c, S0, T, locs, F, X, eT, N, r, ex⟩ := k
  have hlk : meth.locks = false := F.2.2.2.2.2.2.2
  obtain ⟨fs, hr, hrun, hended, hW, hsame⟩ := X.leave (v := none) (fun _ => rfl)
  refine ex ⟨_, _, r _ (X.returnOut F.1 F.2.2.2.2.2.2.1 (hb F.2.1 hd) hr), hrun, hended, _, locs, rfl, ⟨N, ?_⟩, ⟨_, rfl⟩, hW, hsame.mono hc hs⟩
  show P none T.heap
  rw [eT]; exact hP
theorem Wk.outI {z : Int32} (k : Wk l Z R y bytes maxL (some .int) n0 (Ex s R n0 P G) s h cells slots pc Ls (.int z :: st)) (hd : decode bytes pc = .ok (.ireturn, 1)) (hc : cells ≤ R.cells) (hs : slots ≤ R.slots) (hP : P (some (.int z)) h) : G := k.out rfl (Or.inl ⟨rfl, Or.inl rfl, z, rfl⟩) hd hc hs hP
theorem Wk.outZ {z : Int32} (k : Wk l Z R y bytes maxL (some .boolean) n0 (Ex s R n0 P G) s h cells slots pc Ls (.int z :: st)) (hz : z = 0 ∨ z = 1) (hd : decode bytes pc = .ok (.ireturn, 1)) (hc : cells ≤ R.cells) (hs : slots ≤ R.slots) (hP : P (some (.int z)) h) : G := k.out (by rcases hz with rfl | rfl <;> rfl) (Or.inl ⟨rfl, Or.inr (Or.inl rfl), z, rfl⟩) hd hc hs hP
theorem Wk.outC {z : Int32} (k : Wk l Z R y bytes maxL (some .char) n0 (Ex s R n0 P G) s h cells slots pc Ls (.int z :: st)) (hz : z.toUInt32.toUInt16.toUInt32.toInt32 = z) (hd : decode bytes pc = .ok (.ireturn, 1)) (hc : cells ≤ R.cells) (hs : slots ≤ R.slots) (hP : P (some (.int z)) h) : G := k.out (congrArg Value.int hz) (Or.inl ⟨rfl, Or.inr (Or.inr (Or.inr (Or.inl rfl))), z, rfl⟩) hd hc hs hP
theorem Wk.outB {z : Int32} (k : Wk l Z R y bytes maxL (some .byte) n0 (Ex s R n0 P G) s h cells slots pc Ls (.int z :: st)) (hz : z.toInt8.toInt32 = z) (hd : decode bytes pc = .ok (.ireturn, 1)) (hc : cells ≤ R.cells) (hs : slots ≤ R.slots) (hP : P (some (.int z)) h) : G := k.out (congrArg Value.int hz) (Or.inl ⟨rfl, Or.inr (Or.inr (Or.inl rfl)), z, rfl⟩) hd hc hs hP
theorem Wk.outJ {z : Int64} (k : Wk l Z R y bytes maxL (some .long) n0 (Ex s R n0 P G) s h cells slots pc Ls (.long z :: st)) (hd : decode bytes pc = .ok (.lreturn, 1)) (hc : cells ≤ R.cells) (hs : slots ≤ R.slots) (hP : P (some (.long z)) h) : G := k.out rfl (Or.inr (Or.inl ⟨rfl, rfl, z, rfl⟩)) hd hc hs hP
theorem Wk.outA {w : Value} {t : FieldType} (k : Wk l Z R y bytes maxL (some t) n0 (Ex s R n0 P G) s h cells slots pc Ls (w :: st)) (ht : t.isReference = true) (hw : w.isRef = true) (hd : decode bytes pc = .ok (.areturn, 1)) (hc : cells ≤ R.cells) (hs : slots ≤ R.slots) (hP : P (some w) h) : G := k.out (by cases t <;> first | rfl | cases ht) (Or.inr (Or.inr (Or.inr (Or.inr ⟨rfl, ht, hw⟩)))) hd hc hs hP
end L
end Jvm.Wk
namespace Jvm.Pilot.@@N@@
open Jvm Jvm.ClassFile Sem Op Lib Jvm.Free Jvm.Stand Jvm.LawKit Jvm.RoadKit Bundle Jvm.Wk Jvm.Pilot.@@N@@.Jvm.D
theorem own_nz {b : Int32} (h : b = 0 ∨ b = 1) : narrow .boolean (.int b) = .int b := by rcases h with rfl | rfl <;> rfl
theorem own_fz {b : Int32} (h : b = 0 ∨ b = 1) : fits .boolean (.int b) = true := by rcases h with rfl | rfl <;> rfl
theorem own_chr (p : Int32) : ¬ (255 : Int32) < nar .char ((p &&& (255 : Int32)).toUInt32.toUInt16.toUInt32.toInt32) := by
  have e : nar .char ((p &&& (255 : Int32)).toUInt32.toUInt16.toUInt32.toInt32) = p &&& (255 : Int32) := by rw [i2c_mask]; exact i2c_mask p
  rw [e, Int32.lt_iff_toInt_lt, Jvm.Kit.i32_mask p 255 (k := 8) (by decide) (by decide)]
  have e3 : (255 : Int32).toInt = 255 := rfl
  omega
theorem own_sets {tb : Tables} {e : Env} {args : Array Value} {s : State} (h : rest_1 tb e args s) : ∃ zc : Int32, (Term.static "java/lang/String" "COMPACT_STRINGS" "Z").eval args s none [] s = some (.int zc) ∧ ¬ zc = 0 := by
  obtain ⟨-, h⟩ := and_e (Cond.before_iff.mp (show rest_1_c.before args s = true from h))
  obtain ⟨h1, h⟩ := and_e h
  obtain ⟨h2, -⟩ := and_e h
  obtain ⟨zc, ev⟩ := is_v h1
  exact ⟨zc, ev, gotF (Cond.eq_ints ev (Term.int_eval 0)) (not_v h2)⟩
theorem own_sets0 {tb : Tables} {e : Env} {args : Array Value} {s : State} (h : rest_1 tb e args s) : (Jvm.Cond.initializedFor "java/lang/String" "COMPACT_STRINGS" "Z").before args s = true :=
  Cond.before_iff.mpr (and_e (Cond.before_iff.mp (show rest_1_c.before args s = true from h))).1
theorem d1_0 : decode jdk_52_method_21_code 0 = .ok (.iconst 0, 1) := by decide +kernel
theorem d1_1 : decode jdk_52_method_21_code 1 = .ok (.istore 5, 2) := by decide +kernel
theorem d1_3 : decode jdk_52_method_21_code 3 = .ok (.iload 5, 2) := by decide +kernel
theorem d1_5 : decode jdk_52_method_21_code 5 = .ok (.iload 4, 2) := by decide +kernel
theorem d1_7 : decode jdk_52_method_21_code 7 = .ok (.if_icmp .ge 37, 3) := by decide +kernel
theorem d1_10 : decode jdk_52_method_21_code 10 = .ok (.aload_n 0, 1) := by decide +kernel
theorem d1_11 : decode jdk_52_method_21_code 11 = .ok (.iload_n 1, 1) := by decide +kernel
theorem d1_12 : decode jdk_52_method_21_code 12 = .ok (.caload, 1) := by decide +kernel
theorem d1_13 : decode jdk_52_method_21_code 13 = .ok (.istore 6, 2) := by decide +kernel
theorem d1_15 : decode jdk_52_method_21_code 15 = .ok (.iload 6, 2) := by decide +kernel
theorem d1_17 : decode jdk_52_method_21_code 17 = .ok (.sipush 255, 3) := by decide +kernel
theorem d1_20 : decode jdk_52_method_21_code 20 = .ok (.if_icmp .le 6, 3) := by decide +kernel
theorem d1_26 : decode jdk_52_method_21_code 26 = .ok (.aload_n 2, 1) := by decide +kernel
theorem d1_27 : decode jdk_52_method_21_code 27 = .ok (.iload_n 3, 1) := by decide +kernel
theorem d1_28 : decode jdk_52_method_21_code 28 = .ok (.iload 6, 2) := by decide +kernel
theorem d1_30 : decode jdk_52_method_21_code 30 = .ok (.i2b, 1) := by decide +kernel
theorem d1_31 : decode jdk_52_method_21_code 31 = .ok (.bastore, 1) := by decide +kernel
theorem d1_32 : decode jdk_52_method_21_code 32 = .ok (.iinc 1 1, 3) := by decide +kernel
theorem d1_35 : decode jdk_52_method_21_code 35 = .ok (.iinc 3 1, 3) := by decide +kernel
theorem d1_38 : decode jdk_52_method_21_code 38 = .ok (.iinc 5 1, 3) := by decide +kernel
theorem d1_41 : decode jdk_52_method_21_code 41 = .ok (.goto (-38), 3) := by decide +kernel
theorem d1_44 : decode jdk_52_method_21_code 44 = .ok (.iload 4, 2) := by decide +kernel
theorem d1_46 : decode jdk_52_method_21_code 46 = .ok (.ireturn, 1) := by decide +kernel
theorem pn1 : plainFor (⟨"java/lang/StringUTF16", "compress", "([CI[BII)I"⟩ : MethodName) = true := plainFor_of_name (show plainName "java/lang/StringUTF16" = true by first | (simp [plainName, overriddenIn]; done) | decide +kernel)
theorem pd1 : parseMethodDescriptor "([CI[BII)I" = some ⟨[(.array .char), .int, (.array .byte), .int, .int], some .int⟩ := by decide +kernel
abbrev W11 (l : Launch) (Z : State) (n0 : Nat) (P : Option Value → Heap → Prop) (G : Prop) (s : State) := Wk l Z ({ frames := 0, cells := 0, slots := 0, locals := 0 } : Room) (⟨"java/lang/StringUTF16", "compress", "([CI[BII)I"⟩ : MethodName) jdk_52_method_21_code 7 (some .int) n0 (Ex s ({ frames := 0, cells := 0, slots := 0, locals := 0 } : Room) n0 P G) s
abbrev Q11 (Z : State) (m : Nat) (c0 : Int32) (h0 : Heap) : Option Value → Heap → Prop := fun v h => v = some (.int (1 : Int32)) ∧ Keep h0 h [m] ∧ AV Z h m .byte [(.int (nar .byte (c0.toInt8.toInt32)))]
set_option maxRecDepth 65536 in
set_option maxHeartbeats 40000000 in
theorem con11 (l : Launch) (Z : State) (a0 : Array Value) (hw : ∀ d ∈ tables_1, d.before a0 Z = true) (a m : Nat) (c0 : Int32) (h0 : Heap) (n0 : Nat) (s_h0 : n0 ≤ h0.size) (n_m : n0 ≤ m) (ne : a ≠ m) (A : AV Z h0 a .char [(.int c0)]) (B : AV Z h0 m .byte [(.int (0 : Int32))]) (u0 : ¬ (255 : Int32) < c0) : Con l Z (⟨"java/lang/StringUTF16", "compress", "([CI[BII)I"⟩ : MethodName) jdk_52_method_21_code 7 (some .int) ({ frames := 0, cells := 0, slots := 0, locals := 0 } : Room) #[.ref a, .int (0 : Int32), .ref m, .int (0 : Int32), .int (1 : Int32)] h0 n0 (Q11 Z m c0 h0) := by
  refine Con.of pn1 (Ls := #[.val (.ref a), .val (.int (0 : Int32)), .val (.ref m), .val (.int (0 : Int32)), .val (.int (1 : Int32)), .unset, .unset]) (fun m => by first | (simp [entryFrame, mkF, argsToLocals, Value.category]; done) | rfl) ?_
  intro G s k
  have KK : Keep h0 h0 [m] := Keep.refl _ _
  have sk := KK.1
  have k : W11 l Z n0 (Q11 Z m c0 h0) G s h0 0 0 10 #[.val (.ref a), .val (.int (0 : Int32)), .val (.ref m), .val (.int (0 : Int32)), .val (.int (1 : Int32)), .val (.int (0 : Int32)), .unset] [] := ((((k.iconst (0) d1_0 rfl).istore d1_1 (Ls' := #[.val (.ref a), .val (.int (0 : Int32)), .val (.ref m), .val (.int (0 : Int32)), .val (.int (1 : Int32)), .val (.int (0 : Int32)), .unset]) rfl).iload d1_3 rfl).iload d1_5 rfl).icF d1_7 (XT.ii_ge_f (by decide))
  have k : W11 l Z n0 (Q11 Z m c0 h0) G s h0 0 0 20 #[.val (.ref a), .val (.int (0 : Int32)), .val (.ref m), .val (.int (0 : Int32)), .val (.int (1 : Int32)), .val (.int (0 : Int32)), .val (.int c0)] [(.int (255 : Int32)), (.int c0)] := (((((k.aloadN d1_10 rfl rfl).iloadN d1_11 rfl).ldC A (by decide) rfl d1_12).istore d1_13 (Ls' := #[.val (.ref a), .val (.int (0 : Int32)), .val (.ref m), .val (.int (0 : Int32)), .val (.int (1 : Int32)), .val (.int (0 : Int32)), .val (.int c0)]) rfl).iload d1_15 rfl).sipush (255) d1_17 rfl
  have k : W11 l Z n0 (Q11 Z m c0 h0) G s h0 0 0 26 #[.val (.ref a), .val (.int (0 : Int32)), .val (.ref m), .val (.int (0 : Int32)), .val (.int (1 : Int32)), .val (.int (0 : Int32)), .val (.int c0)] [] := k.icT (pc' := 26) d1_20 (XT.ii_le_t u0) (by decide)
  have k : W11 l Z n0 (Q11 Z m c0 h0) G s h0 0 0 31 #[.val (.ref a), .val (.int (0 : Int32)), .val (.ref m), .val (.int (0 : Int32)), .val (.int (1 : Int32)), .val (.int (0 : Int32)), .val (.int c0)] [(.int c0.toInt8.toInt32), (.int (0 : Int32)), (.ref m)] := (((k.aloadN d1_26 rfl rfl).iloadN d1_27 rfl).iload d1_28 rfl).i2b d1_30
  obtain ⟨h1, K1, B', k⟩ := k.stB B 0 rfl (by decide) (by simp) n_m d1_31
  have KK : Keep h0 _ [m] := KK.trans K1 (allS (Or.inl (by simp)) all0)
  have sk := KK.1
  have A := A.keep K1 (nS (by omega) nin0)
  have B : AV Z h1 m .byte [(.int (nar .byte c0.toInt8.toInt32))] := B'
  have s_h1 : n0 ≤ h1.size := Nat.le_trans (by omega) K1.1
  have k : W11 l Z n0 (Q11 Z m c0 h0) G s h1 0 0 32 #[.val (.ref a), .val (.int (0 : Int32)), .val (.ref m), .val (.int (0 : Int32)), .val (.int (1 : Int32)), .val (.int (0 : Int32)), .val (.int c0)] [] := k
  have k : W11 l Z n0 (Q11 Z m c0 h0) G s h1 0 0 35 #[.val (.ref a), .val (.int ((0 : Int32) + (1 : Int32))), .val (.ref m), .val (.int (0 : Int32)), .val (.int (1 : Int32)), .val (.int (0 : Int32)), .val (.int c0)] [] := k.iinc (Ls' := #[.val (.ref a), .val (.int ((0 : Int32) + (1 : Int32))), .val (.ref m), .val (.int (0 : Int32)), .val (.int (1 : Int32)), .val (.int (0 : Int32)), .val (.int c0)]) (1) d1_32 rfl rfl rfl
  rw [show ((0 : Int32) + (1 : Int32) : Int32) = (1 : Int32) from by decide] at k
  have k : W11 l Z n0 (Q11 Z m c0 h0) G s h1 0 0 38 #[.val (.ref a), .val (.int (1 : Int32)), .val (.ref m), .val (.int ((0 : Int32) + (1 : Int32))), .val (.int (1 : Int32)), .val (.int (0 : Int32)), .val (.int c0)] [] := k.iinc (Ls' := #[.val (.ref a), .val (.int (1 : Int32)), .val (.ref m), .val (.int ((0 : Int32) + (1 : Int32))), .val (.int (1 : Int32)), .val (.int (0 : Int32)), .val (.int c0)]) (1) d1_35 rfl rfl rfl
  rw [show ((0 : Int32) + (1 : Int32) : Int32) = (1 : Int32) from by decide] at k
  have k : W11 l Z n0 (Q11 Z m c0 h0) G s h1 0 0 41 #[.val (.ref a), .val (.int (1 : Int32)), .val (.ref m), .val (.int (1 : Int32)), .val (.int (1 : Int32)), .val (.int ((0 : Int32) + (1 : Int32))), .val (.int c0)] [] := k.iinc (Ls' := #[.val (.ref a), .val (.int (1 : Int32)), .val (.ref m), .val (.int (1 : Int32)), .val (.int (1 : Int32)), .val (.int ((0 : Int32) + (1 : Int32))), .val (.int c0)]) (1) d1_38 rfl rfl rfl
  rw [show ((0 : Int32) + (1 : Int32) : Int32) = (1 : Int32) from by decide] at k
  have k : W11 l Z n0 (Q11 Z m c0 h0) G s h1 0 0 3 #[.val (.ref a), .val (.int (1 : Int32)), .val (.ref m), .val (.int (1 : Int32)), .val (.int (1 : Int32)), .val (.int (1 : Int32)), .val (.int c0)] [] := k.goto (pc' := 3) d1_41 (by decide)
  have k : W11 l Z n0 (Q11 Z m c0 h0) G s h1 0 0 44 #[.val (.ref a), .val (.int (1 : Int32)), .val (.ref m), .val (.int (1 : Int32)), .val (.int (1 : Int32)), .val (.int (1 : Int32)), .val (.int c0)] [] := ((k.iload d1_3 rfl).iload d1_5 rfl).icT (pc' := 44) d1_7 (XT.ii_ge_t (by decide)) (by decide)
  have k : W11 l Z n0 (Q11 Z m c0 h0) G s h1 0 0 46 #[.val (.ref a), .val (.int (1 : Int32)), .val (.ref m), .val (.int (1 : Int32)), .val (.int (1 : Int32)), .val (.int (1 : Int32)), .val (.int c0)] [(.int (1 : Int32))] := k.iload d1_44 rfl
  exact k.outI d1_46 (by decide) (by decide) ⟨rfl, KK, B⟩
abbrev W12 (l : Launch) (Z : State) (n0 : Nat) (P : Option Value → Heap → Prop) (G : Prop) (s : State) := Wk l Z ({ frames := 0, cells := 0, slots := 0, locals := 0 } : Room) (⟨"java/lang/StringUTF16", "compress", "([CI[BII)I"⟩ : MethodName) jdk_52_method_21_code 7 (some .int) n0 (Ex s ({ frames := 0, cells := 0, slots := 0, locals := 0 } : Room) n0 P G) s
abbrev Q12 (Z : State) (m : Nat) (c0 c1 : Int32) (h0 : Heap) : Option Value → Heap → Prop := fun v h => v = some (.int (2 : Int32)) ∧ Keep h0 h [m] ∧ AV Z h m .byte [(.int (nar .byte (c0.toInt8.toInt32))), (.int (nar .byte (c1.toInt8.toInt32)))]
set_option maxRecDepth 65536 in
set_option maxHeartbeats 40000000 in
theorem con12 (l : Launch) (Z : State) (a0 : Array Value) (hw : ∀ d ∈ tables_1, d.before a0 Z = true) (a m : Nat) (c0 c1 : Int32) (h0 : Heap) (n0 : Nat) (s_h0 : n0 ≤ h0.size) (n_m : n0 ≤ m) (ne : a ≠ m) (A : AV Z h0 a .char [(.int c0), (.int c1)]) (B : AV Z h0 m .byte [(.int (0 : Int32)), (.int (0 : Int32))]) (u0 : ¬ (255 : Int32) < c0) (u1 : ¬ (255 : Int32) < c1) : Con l Z (⟨"java/lang/StringUTF16", "compress", "([CI[BII)I"⟩ : MethodName) jdk_52_method_21_code 7 (some .int) ({ frames := 0, cells := 0, slots := 0, locals := 0 } : Room) #[.ref a, .int (0 : Int32), .ref m, .int (0 : Int32), .int (2 : Int32)] h0 n0 (Q12 Z m c0 c1 h0) := by
  refine Con.of pn1 (Ls := #[.val (.ref a), .val (.int (0 : Int32)), .val (.ref m), .val (.int (0 : Int32)), .val (.int (2 : Int32)), .unset, .unset]) (fun m => by first | (simp [entryFrame, mkF, argsToLocals, Value.category]; done) | rfl) ?_
  intro G s k
  have KK : Keep h0 h0 [m] := Keep.refl _ _
  have sk := KK.1
  have k : W12 l Z n0 (Q12 Z m c0 c1 h0) G s h0 0 0 10 #[.val (.ref a), .val (.int (0 : Int32)), .val (.ref m), .val (.int (0 : Int32)), .val (.int (2 : Int32)), .val (.int (0 : Int32)), .unset] [] := ((((k.iconst (0) d1_0 rfl).istore d1_1 (Ls' := #[.val (.ref a), .val (.int (0 : Int32)), .val (.ref m), .val (.int (0 : Int32)), .val (.int (2 : Int32)), .val (.int (0 : Int32)), .unset]) rfl).iload d1_3 rfl).iload d1_5 rfl).icF d1_7 (XT.ii_ge_f (by decide))
  have k : W12 l Z n0 (Q12 Z m c0 c1 h0) G s h0 0 0 20 #[.val (.ref a), .val (.int (0 : Int32)), .val (.ref m), .val (.int (0 : Int32)), .val (.int (2 : Int32)), .val (.int (0 : Int32)), .val (.int c0)] [(.int (255 : Int32)), (.int c0)] := (((((k.aloadN d1_10 rfl rfl).iloadN d1_11 rfl).ldC A (by decide) rfl d1_12).istore d1_13 (Ls' := #[.val (.ref a), .val (.int (0 : Int32)), .val (.ref m), .val (.int (0 : Int32)), .val (.int (2 : Int32)), .val (.int (0 : Int32)), .val (.int c0)]) rfl).iload d1_15 rfl).sipush (255) d1_17 rfl
  have k : W12 l Z n0 (Q12 Z m c0 c1 h0) G s h0 0 0 26 #[.val (.ref a), .val (.int (0 : Int32)), .val (.ref m), .val (.int (0 : Int32)), .val (.int (2 : Int32)), .val (.int (0 : Int32)), .val (.int c0)] [] := k.icT (pc' := 26) d1_20 (XT.ii_le_t u0) (by decide)
  have k : W12 l Z n0 (Q12 Z m c0 c1 h0) G s h0 0 0 31 #[.val (.ref a), .val (.int (0 : Int32)), .val (.ref m), .val (.int (0 : Int32)), .val (.int (2 : Int32)), .val (.int (0 : Int32)), .val (.int c0)] [(.int c0.toInt8.toInt32), (.int (0 : Int32)), (.ref m)] := (((k.aloadN d1_26 rfl rfl).iloadN d1_27 rfl).iload d1_28 rfl).i2b d1_30
  obtain ⟨h2, K2, B', k⟩ := k.stB B 0 rfl (by decide) (by simp) n_m d1_31
  have KK : Keep h0 _ [m] := KK.trans K2 (allS (Or.inl (by simp)) all0)
  have sk := KK.1
  have A := A.keep K2 (nS (by omega) nin0)
  have B : AV Z h2 m .byte [(.int (nar .byte c0.toInt8.toInt32)), (.int (0 : Int32))] := B'
  have s_h2 : n0 ≤ h2.size := Nat.le_trans (by omega) K2.1
  have k : W12 l Z n0 (Q12 Z m c0 c1 h0) G s h2 0 0 32 #[.val (.ref a), .val (.int (0 : Int32)), .val (.ref m), .val (.int (0 : Int32)), .val (.int (2 : Int32)), .val (.int (0 : Int32)), .val (.int c0)] [] := k
  have k : W12 l Z n0 (Q12 Z m c0 c1 h0) G s h2 0 0 35 #[.val (.ref a), .val (.int ((0 : Int32) + (1 : Int32))), .val (.ref m), .val (.int (0 : Int32)), .val (.int (2 : Int32)), .val (.int (0 : Int32)), .val (.int c0)] [] := k.iinc (Ls' := #[.val (.ref a), .val (.int ((0 : Int32) + (1 : Int32))), .val (.ref m), .val (.int (0 : Int32)), .val (.int (2 : Int32)), .val (.int (0 : Int32)), .val (.int c0)]) (1) d1_32 rfl rfl rfl
  rw [show ((0 : Int32) + (1 : Int32) : Int32) = (1 : Int32) from by decide] at k
  have k : W12 l Z n0 (Q12 Z m c0 c1 h0) G s h2 0 0 38 #[.val (.ref a), .val (.int (1 : Int32)), .val (.ref m), .val (.int ((0 : Int32) + (1 : Int32))), .val (.int (2 : Int32)), .val (.int (0 : Int32)), .val (.int c0)] [] := k.iinc (Ls' := #[.val (.ref a), .val (.int (1 : Int32)), .val (.ref m), .val (.int ((0 : Int32) + (1 : Int32))), .val (.int (2 : Int32)), .val (.int (0 : Int32)), .val (.int c0)]) (1) d1_35 rfl rfl rfl
  rw [show ((0 : Int32) + (1 : Int32) : Int32) = (1 : Int32) from by decide] at k
  have k : W12 l Z n0 (Q12 Z m c0 c1 h0) G s h2 0 0 41 #[.val (.ref a), .val (.int (1 : Int32)), .val (.ref m), .val (.int (1 : Int32)), .val (.int (2 : Int32)), .val (.int ((0 : Int32) + (1 : Int32))), .val (.int c0)] [] := k.iinc (Ls' := #[.val (.ref a), .val (.int (1 : Int32)), .val (.ref m), .val (.int (1 : Int32)), .val (.int (2 : Int32)), .val (.int ((0 : Int32) + (1 : Int32))), .val (.int c0)]) (1) d1_38 rfl rfl rfl
  rw [show ((0 : Int32) + (1 : Int32) : Int32) = (1 : Int32) from by decide] at k
  have k : W12 l Z n0 (Q12 Z m c0 c1 h0) G s h2 0 0 3 #[.val (.ref a), .val (.int (1 : Int32)), .val (.ref m), .val (.int (1 : Int32)), .val (.int (2 : Int32)), .val (.int (1 : Int32)), .val (.int c0)] [] := k.goto (pc' := 3) d1_41 (by decide)
  have k : W12 l Z n0 (Q12 Z m c0 c1 h0) G s h2 0 0 10 #[.val (.ref a), .val (.int (1 : Int32)), .val (.ref m), .val (.int (1 : Int32)), .val (.int (2 : Int32)), .val (.int (1 : Int32)), .val (.int c0)] [] := ((k.iload d1_3 rfl).iload d1_5 rfl).icF d1_7 (XT.ii_ge_f (by decide))
  have k : W12 l Z n0 (Q12 Z m c0 c1 h0) G s h2 0 0 20 #[.val (.ref a), .val (.int (1 : Int32)), .val (.ref m), .val (.int (1 : Int32)), .val (.int (2 : Int32)), .val (.int (1 : Int32)), .val (.int c1)] [(.int (255 : Int32)), (.int c1)] := (((((k.aloadN d1_10 rfl rfl).iloadN d1_11 rfl).ldC A (by decide) rfl d1_12).istore d1_13 (Ls' := #[.val (.ref a), .val (.int (1 : Int32)), .val (.ref m), .val (.int (1 : Int32)), .val (.int (2 : Int32)), .val (.int (1 : Int32)), .val (.int c1)]) rfl).iload d1_15 rfl).sipush (255) d1_17 rfl
  have k : W12 l Z n0 (Q12 Z m c0 c1 h0) G s h2 0 0 26 #[.val (.ref a), .val (.int (1 : Int32)), .val (.ref m), .val (.int (1 : Int32)), .val (.int (2 : Int32)), .val (.int (1 : Int32)), .val (.int c1)] [] := k.icT (pc' := 26) d1_20 (XT.ii_le_t u1) (by decide)
  have k : W12 l Z n0 (Q12 Z m c0 c1 h0) G s h2 0 0 31 #[.val (.ref a), .val (.int (1 : Int32)), .val (.ref m), .val (.int (1 : Int32)), .val (.int (2 : Int32)), .val (.int (1 : Int32)), .val (.int c1)] [(.int c1.toInt8.toInt32), (.int (1 : Int32)), (.ref m)] := (((k.aloadN d1_26 rfl rfl).iloadN d1_27 rfl).iload d1_28 rfl).i2b d1_30
  obtain ⟨h3, K3, B', k⟩ := k.stB B 1 rfl (by decide) (by simp) n_m d1_31
  have KK : Keep h0 _ [m] := KK.trans K3 (allS (Or.inl (by simp)) all0)
  have sk := KK.1
  have A := A.keep K3 (nS (by omega) nin0)
  have B : AV Z h3 m .byte [(.int (nar .byte c0.toInt8.toInt32)), (.int (nar .byte c1.toInt8.toInt32))] := B'
  have s_h3 : n0 ≤ h3.size := Nat.le_trans (by omega) K3.1
  have k : W12 l Z n0 (Q12 Z m c0 c1 h0) G s h3 0 0 32 #[.val (.ref a), .val (.int (1 : Int32)), .val (.ref m), .val (.int (1 : Int32)), .val (.int (2 : Int32)), .val (.int (1 : Int32)), .val (.int c1)] [] := k
  have k : W12 l Z n0 (Q12 Z m c0 c1 h0) G s h3 0 0 35 #[.val (.ref a), .val (.int ((1 : Int32) + (1 : Int32))), .val (.ref m), .val (.int (1 : Int32)), .val (.int (2 : Int32)), .val (.int (1 : Int32)), .val (.int c1)] [] := k.iinc (Ls' := #[.val (.ref a), .val (.int ((1 : Int32) + (1 : Int32))), .val (.ref m), .val (.int (1 : Int32)), .val (.int (2 : Int32)), .val (.int (1 : Int32)), .val (.int c1)]) (1) d1_32 rfl rfl rfl
  rw [show ((1 : Int32) + (1 : Int32) : Int32) = (2 : Int32) from by decide] at k
  have k : W12 l Z n0 (Q12 Z m c0 c1 h0) G s h3 0 0 38 #[.val (.ref a), .val (.int (2 : Int32)), .val (.ref m), .val (.int ((1 : Int32) + (1 : Int32))), .val (.int (2 : Int32)), .val (.int (1 : Int32)), .val (.int c1)] [] := k.iinc (Ls' := #[.val (.ref a), .val (.int (2 : Int32)), .val (.ref m), .val (.int ((1 : Int32) + (1 : Int32))), .val (.int (2 : Int32)), .val (.int (1 : Int32)), .val (.int c1)]) (1) d1_35 rfl rfl rfl
  rw [show ((1 : Int32) + (1 : Int32) : Int32) = (2 : Int32) from by decide] at k
  have k : W12 l Z n0 (Q12 Z m c0 c1 h0) G s h3 0 0 41 #[.val (.ref a), .val (.int (2 : Int32)), .val (.ref m), .val (.int (2 : Int32)), .val (.int (2 : Int32)), .val (.int ((1 : Int32) + (1 : Int32))), .val (.int c1)] [] := k.iinc (Ls' := #[.val (.ref a), .val (.int (2 : Int32)), .val (.ref m), .val (.int (2 : Int32)), .val (.int (2 : Int32)), .val (.int ((1 : Int32) + (1 : Int32))), .val (.int c1)]) (1) d1_38 rfl rfl rfl
  rw [show ((1 : Int32) + (1 : Int32) : Int32) = (2 : Int32) from by decide] at k
  have k : W12 l Z n0 (Q12 Z m c0 c1 h0) G s h3 0 0 3 #[.val (.ref a), .val (.int (2 : Int32)), .val (.ref m), .val (.int (2 : Int32)), .val (.int (2 : Int32)), .val (.int (2 : Int32)), .val (.int c1)] [] := k.goto (pc' := 3) d1_41 (by decide)
  have k : W12 l Z n0 (Q12 Z m c0 c1 h0) G s h3 0 0 44 #[.val (.ref a), .val (.int (2 : Int32)), .val (.ref m), .val (.int (2 : Int32)), .val (.int (2 : Int32)), .val (.int (2 : Int32)), .val (.int c1)] [] := ((k.iload d1_3 rfl).iload d1_5 rfl).icT (pc' := 44) d1_7 (XT.ii_ge_t (by decide)) (by decide)
  have k : W12 l Z n0 (Q12 Z m c0 c1 h0) G s h3 0 0 46 #[.val (.ref a), .val (.int (2 : Int32)), .val (.ref m), .val (.int (2 : Int32)), .val (.int (2 : Int32)), .val (.int (2 : Int32)), .val (.int c1)] [(.int (2 : Int32))] := k.iload d1_44 rfl
  exact k.outI d1_46 (by decide) (by decide) ⟨rfl, KK, B⟩
theorem d2_0 : decode jdk_52_method_16_code 0 = .ok (.iload_n 2, 1) := by decide +kernel
theorem d2_1 : decode jdk_52_method_16_code 1 = .ok (.newarray .byte, 2) := by decide +kernel
theorem d2_3 : decode jdk_52_method_16_code 3 = .ok (.astore_n 3, 1) := by decide +kernel
theorem d2_4 : decode jdk_52_method_16_code 4 = .ok (.aload_n 0, 1) := by decide +kernel
theorem d2_5 : decode jdk_52_method_16_code 5 = .ok (.iload_n 1, 1) := by decide +kernel
theorem d2_6 : decode jdk_52_method_16_code 6 = .ok (.aload_n 3, 1) := by decide +kernel
theorem d2_7 : decode jdk_52_method_16_code 7 = .ok (.iconst 0, 1) := by decide +kernel
theorem d2_8 : decode jdk_52_method_16_code 8 = .ok (.iload_n 2, 1) := by decide +kernel
theorem d2_9 : decode jdk_52_method_16_code 9 = .ok (.invokestatic 115, 3) := by decide +kernel
theorem d2_12 : decode jdk_52_method_16_code 12 = .ok (.istore 4, 2) := by decide +kernel
theorem d2_14 : decode jdk_52_method_16_code 14 = .ok (.iload 4, 2) := by decide +kernel
theorem d2_16 : decode jdk_52_method_16_code 16 = .ok (.iload_n 2, 1) := by decide +kernel
theorem d2_17 : decode jdk_52_method_16_code 17 = .ok (.if_icmp .eq 40, 3) := by decide +kernel
theorem d2_57 : decode jdk_52_method_16_code 57 = .ok (.aload_n 3, 1) := by decide +kernel
theorem d2_58 : decode jdk_52_method_16_code 58 = .ok (.areturn, 1) := by decide +kernel
theorem pn2 : plainFor (⟨"java/lang/StringUTF16", "compress", "([CII)[B"⟩ : MethodName) = true := plainFor_of_name (show plainName "java/lang/StringUTF16" = true by first | (simp [plainName, overriddenIn]; done) | decide +kernel)
theorem pd2 : parseMethodDescriptor "([CII)[B" = some ⟨[(.array .char), .int, .int], some (.array .byte)⟩ := by decide +kernel
abbrev W21 (l : Launch) (Z : State) (n0 : Nat) (P : Option Value → Heap → Prop) (G : Prop) (s : State) := Wk l Z ({ frames := 1, cells := 1, slots := 1, locals := 18 } : Room) (⟨"java/lang/StringUTF16", "compress", "([CII)[B"⟩ : MethodName) jdk_52_method_16_code 6 (some (.array .byte)) n0 (Ex s ({ frames := 1, cells := 1, slots := 1, locals := 18 } : Room) n0 P G) s
abbrev Q21 (Z : State) (c0 : Int32) (h0 : Heap) : Option Value → Heap → Prop := fun v h => ∃ m : Nat, v = some (.ref m) ∧ h0.size ≤ m ∧ Keep h0 h [] ∧ AV Z h m .byte [(.int (nar .byte (c0.toInt8.toInt32)))]
set_option maxRecDepth 65536 in
set_option maxHeartbeats 40000000 in
theorem con21 (l : Launch) (Z : State) (a0 : Array Value) (hw : ∀ d ∈ tables_1, d.before a0 Z = true) (a : Nat) (c0 : Int32) (h0 : Heap) (n0 : Nat) (s_h0 : n0 ≤ h0.size) (A : AV Z h0 a .char [(.int c0)]) (u0 : ¬ (255 : Int32) < c0) : Con l Z (⟨"java/lang/StringUTF16", "compress", "([CII)[B"⟩ : MethodName) jdk_52_method_16_code 6 (some (.array .byte)) ({ frames := 1, cells := 1, slots := 1, locals := 18 } : Room) #[.ref a, .int (0 : Int32), .int (1 : Int32)] h0 n0 (Q21 Z c0 h0) := by
  refine Con.of pn2 (Ls := #[.val (.ref a), .val (.int (0 : Int32)), .val (.int (1 : Int32)), .unset, .unset, .unset]) (fun m => by first | (simp [entryFrame, mkF, argsToLocals, Value.category]; done) | rfl) ?_
  intro G s k
  have KK : Keep h0 h0 [] := Keep.refl _ _
  have sk := KK.1
  have k : W21 l Z n0 (Q21 Z c0 h0) G s h0 0 0 1 #[.val (.ref a), .val (.int (0 : Int32)), .val (.int (1 : Int32)), .unset, .unset, .unset] [(.int (1 : Int32))] := k.iloadN d2_0 rfl
  obtain ⟨h4, K4, A4, k⟩ := k.newA (hw _ (List.mem_of_getElem? (i := 19) rfl)) d2_1 1 rfl (by decide) (by decide) (by decide) (by decide)
  obtain ⟨a4, ea4⟩ : ∃ z, z = h0.size := ⟨_, rfl⟩
  rw [← ea4] at A4 k
  have n_a4 : n0 ≤ a4 := by omega
  have o_a_a4 : a < a4 := by have q : a < h0.size := A.lt; omega
  have KK : Keep h0 _ [] := KK.trans K4 all0
  have sk := KK.1
  have A := A.keep K4 nin0
  have A4 : AV Z h4 a4 .byte [(.int (0 : Int32))] := A4
  have s_h4 : n0 ≤ h4.size := Nat.le_trans (by omega) K4.1
  have k : W21 l Z n0 (Q21 Z c0 h0) G s h4 1 1 3 #[.val (.ref a), .val (.int (0 : Int32)), .val (.int (1 : Int32)), .unset, .unset, .unset] [(.ref a4)] := k
  have k : W21 l Z n0 (Q21 Z c0 h0) G s h4 1 1 9 #[.val (.ref a), .val (.int (0 : Int32)), .val (.int (1 : Int32)), .val (.ref a4), .unset, .unset] [(.int (1 : Int32)), (.int (0 : Int32)), (.ref a4), (.int (0 : Int32)), (.ref a)] := (((((k.astoreN d2_3 rfl (Ls' := #[.val (.ref a), .val (.int (0 : Int32)), .val (.int (1 : Int32)), .val (.ref a4), .unset, .unset]) rfl).aloadN d2_4 rfl rfl).iloadN d2_5 rfl).aloadN d2_6 rfl rfl).iconst (0) d2_7 rfl).iloadN d2_8 rfl
  obtain ⟨v5, h5, ⟨rfl, K5, B5⟩, k⟩ := k.callS (hw _ (List.mem_of_getElem? (i := 20) rfl)) (hw _ (List.mem_of_getElem? (i := 21) rfl)) (hw _ (List.mem_of_getElem? (i := 17) rfl)) (hw _ (List.mem_of_getElem? (i := 22) rfl)) (by decide) (con11 l Z a0 hw a a4 c0 h4 n0 (by omega) n_a4 (by omega) A A4 u0) (argsL := [(.ref a), (.int (0 : Int32)), (.ref a4), (.int (0 : Int32)), (.int (1 : Int32))]) (rest := []) (lenOf pd1 rfl) d2_9 rfl rfl 0 (Nat.le_of_eq rfl) (by decide) (by decide) (by decide) (by decide)
  have KK : Keep h0 _ [] := KK.trans K5 (allS (Or.inr (by omega)) all0)
  have sk := KK.1
  have A := A.keep K5 (nS (by omega) nin0)
  have s_h5 : n0 ≤ h5.size := Nat.le_trans (by omega) K5.1
  have k : W21 l Z n0 (Q21 Z c0 h0) G s h5 1 1 12 #[.val (.ref a), .val (.int (0 : Int32)), .val (.int (1 : Int32)), .val (.ref a4), .unset, .unset] [(.int (1 : Int32))] := k
  have k : W21 l Z n0 (Q21 Z c0 h0) G s h5 1 1 57 #[.val (.ref a), .val (.int (0 : Int32)), .val (.int (1 : Int32)), .val (.ref a4), .val (.int (1 : Int32)), .unset] [] := (((k.istore d2_12 (Ls' := #[.val (.ref a), .val (.int (0 : Int32)), .val (.int (1 : Int32)), .val (.ref a4), .val (.int (1 : Int32)), .unset]) rfl).iload d2_14 rfl).iloadN d2_16 rfl).icT (pc' := 57) d2_17 (XT.ii_eq_t (by decide)) (by decide)
  have k : W21 l Z n0 (Q21 Z c0 h0) G s h5 1 1 58 #[.val (.ref a), .val (.int (0 : Int32)), .val (.int (1 : Int32)), .val (.ref a4), .val (.int (1 : Int32)), .unset] [(.ref a4)] := k.aloadN d2_57 rfl rfl
  exact k.outA rfl rfl d2_58 (by decide) (by decide) ⟨a4, rfl, by omega, KK, B5⟩
abbrev W22 (l : Launch) (Z : State) (n0 : Nat) (P : Option Value → Heap → Prop) (G : Prop) (s : State) := Wk l Z ({ frames := 1, cells := 1, slots := 2, locals := 18 } : Room) (⟨"java/lang/StringUTF16", "compress", "([CII)[B"⟩ : MethodName) jdk_52_method_16_code 6 (some (.array .byte)) n0 (Ex s ({ frames := 1, cells := 1, slots := 2, locals := 18 } : Room) n0 P G) s
abbrev Q22 (Z : State) (c0 c1 : Int32) (h0 : Heap) : Option Value → Heap → Prop := fun v h => ∃ m : Nat, v = some (.ref m) ∧ h0.size ≤ m ∧ Keep h0 h [] ∧ AV Z h m .byte [(.int (nar .byte (c0.toInt8.toInt32))), (.int (nar .byte (c1.toInt8.toInt32)))]
set_option maxRecDepth 65536 in
set_option maxHeartbeats 40000000 in
theorem con22 (l : Launch) (Z : State) (a0 : Array Value) (hw : ∀ d ∈ tables_1, d.before a0 Z = true) (a : Nat) (c0 c1 : Int32) (h0 : Heap) (n0 : Nat) (s_h0 : n0 ≤ h0.size) (A : AV Z h0 a .char [(.int c0), (.int c1)]) (u0 : ¬ (255 : Int32) < c0) (u1 : ¬ (255 : Int32) < c1) : Con l Z (⟨"java/lang/StringUTF16", "compress", "([CII)[B"⟩ : MethodName) jdk_52_method_16_code 6 (some (.array .byte)) ({ frames := 1, cells := 1, slots := 2, locals := 18 } : Room) #[.ref a, .int (0 : Int32), .int (2 : Int32)] h0 n0 (Q22 Z c0 c1 h0) := by
  refine Con.of pn2 (Ls := #[.val (.ref a), .val (.int (0 : Int32)), .val (.int (2 : Int32)), .unset, .unset, .unset]) (fun m => by first | (simp [entryFrame, mkF, argsToLocals, Value.category]; done) | rfl) ?_
  intro G s k
  have KK : Keep h0 h0 [] := Keep.refl _ _
  have sk := KK.1
  have k : W22 l Z n0 (Q22 Z c0 c1 h0) G s h0 0 0 1 #[.val (.ref a), .val (.int (0 : Int32)), .val (.int (2 : Int32)), .unset, .unset, .unset] [(.int (2 : Int32))] := k.iloadN d2_0 rfl
  obtain ⟨h6, K6, A6, k⟩ := k.newA (hw _ (List.mem_of_getElem? (i := 19) rfl)) d2_1 2 rfl (by decide) (by decide) (by decide) (by decide)
  obtain ⟨a6, ea6⟩ : ∃ z, z = h0.size := ⟨_, rfl⟩
  rw [← ea6] at A6 k
  have n_a6 : n0 ≤ a6 := by omega
  have o_a_a6 : a < a6 := by have q : a < h0.size := A.lt; omega
  have KK : Keep h0 _ [] := KK.trans K6 all0
  have sk := KK.1
  have A := A.keep K6 nin0
  have A6 : AV Z h6 a6 .byte [(.int (0 : Int32)), (.int (0 : Int32))] := A6
  have s_h6 : n0 ≤ h6.size := Nat.le_trans (by omega) K6.1
  have k : W22 l Z n0 (Q22 Z c0 c1 h0) G s h6 1 2 3 #[.val (.ref a), .val (.int (0 : Int32)), .val (.int (2 : Int32)), .unset, .unset, .unset] [(.ref a6)] := k
  have k : W22 l Z n0 (Q22 Z c0 c1 h0) G s h6 1 2 9 #[.val (.ref a), .val (.int (0 : Int32)), .val (.int (2 : Int32)), .val (.ref a6), .unset, .unset] [(.int (2 : Int32)), (.int (0 : Int32)), (.ref a6), (.int (0 : Int32)), (.ref a)] := (((((k.astoreN d2_3 rfl (Ls' := #[.val (.ref a), .val (.int (0 : Int32)), .val (.int (2 : Int32)), .val (.ref a6), .unset, .unset]) rfl).aloadN d2_4 rfl rfl).iloadN d2_5 rfl).aloadN d2_6 rfl rfl).iconst (0) d2_7 rfl).iloadN d2_8 rfl
  obtain ⟨v7, h7, ⟨rfl, K7, B7⟩, k⟩ := k.callS (hw _ (List.mem_of_getElem? (i := 20) rfl)) (hw _ (List.mem_of_getElem? (i := 21) rfl)) (hw _ (List.mem_of_getElem? (i := 17) rfl)) (hw _ (List.mem_of_getElem? (i := 22) rfl)) (by decide) (con12 l Z a0 hw a a6 c0 c1 h6 n0 (by omega) n_a6 (by omega) A A6 u0 u1) (argsL := [(.ref a), (.int (0 : Int32)), (.ref a6), (.int (0 : Int32)), (.int (2 : Int32))]) (rest := []) (lenOf pd1 rfl) d2_9 rfl rfl 0 (Nat.le_of_eq rfl) (by decide) (by decide) (by decide) (by decide)
  have KK : Keep h0 _ [] := KK.trans K7 (allS (Or.inr (by omega)) all0)
  have sk := KK.1
  have A := A.keep K7 (nS (by omega) nin0)
  have s_h7 : n0 ≤ h7.size := Nat.le_trans (by omega) K7.1
  have k : W22 l Z n0 (Q22 Z c0 c1 h0) G s h7 1 2 12 #[.val (.ref a), .val (.int (0 : Int32)), .val (.int (2 : Int32)), .val (.ref a6), .unset, .unset] [(.int (2 : Int32))] := k
  have k : W22 l Z n0 (Q22 Z c0 c1 h0) G s h7 1 2 57 #[.val (.ref a), .val (.int (0 : Int32)), .val (.int (2 : Int32)), .val (.ref a6), .val (.int (2 : Int32)), .unset] [] := (((k.istore d2_12 (Ls' := #[.val (.ref a), .val (.int (0 : Int32)), .val (.int (2 : Int32)), .val (.ref a6), .val (.int (2 : Int32)), .unset]) rfl).iload d2_14 rfl).iloadN d2_16 rfl).icT (pc' := 57) d2_17 (XT.ii_eq_t (by decide)) (by decide)
  have k : W22 l Z n0 (Q22 Z c0 c1 h0) G s h7 1 2 58 #[.val (.ref a), .val (.int (0 : Int32)), .val (.int (2 : Int32)), .val (.ref a6), .val (.int (2 : Int32)), .unset] [(.ref a6)] := k.aloadN d2_57 rfl rfl
  exact k.outA rfl rfl d2_58 (by decide) (by decide) ⟨a6, rfl, by omega, KK, B7⟩
theorem d3_0 : decode jdk_52_method_15_code 0 = .ok (.iload_n 1, 1) := by decide +kernel
theorem d3_1 : decode jdk_52_method_15_code 1 = .ok (.aload_n 0, 1) := by decide +kernel
theorem d3_2 : decode jdk_52_method_15_code 2 = .ok (.arraylength, 1) := by decide +kernel
theorem d3_3 : decode jdk_52_method_15_code 3 = .ok (.isub, 1) := by decide +kernel
theorem d3_4 : decode jdk_52_method_15_code 4 = .ok (.bipush 31, 2) := by decide +kernel
theorem d3_6 : decode jdk_52_method_15_code 6 = .ok (.iushr, 1) := by decide +kernel
theorem d3_7 : decode jdk_52_method_15_code 7 = .ok (.i2b, 1) := by decide +kernel
theorem d3_8 : decode jdk_52_method_15_code 8 = .ok (.ireturn, 1) := by decide +kernel
theorem pn3 : plainFor (⟨"java/lang/StringUTF16", "coderFromArrayLen", "([BI)B"⟩ : MethodName) = true := plainFor_of_name (show plainName "java/lang/StringUTF16" = true by first | (simp [plainName, overriddenIn]; done) | decide +kernel)
theorem pd3 : parseMethodDescriptor "([BI)B" = some ⟨[(.array .byte), .int], some .byte⟩ := by decide +kernel
abbrev W3 (l : Launch) (Z : State) (n0 : Nat) (P : Option Value → Heap → Prop) (G : Prop) (s : State) := Wk l Z ({ frames := 0, cells := 0, slots := 0, locals := 0 } : Room) (⟨"java/lang/StringUTF16", "coderFromArrayLen", "([BI)B"⟩ : MethodName) jdk_52_method_15_code 2 (some .byte) n0 (Ex s ({ frames := 0, cells := 0, slots := 0, locals := 0 } : Room) n0 P G) s
abbrev Q3 (h0 : Heap) : Option Value → Heap → Prop := fun v h => h0 = h ∧ v = some (.int (0 : Int32))
set_option maxRecDepth 65536 in
set_option maxHeartbeats 40000000 in
theorem con31 (l : Launch) (Z : State) (a0 : Array Value) (hw : ∀ d ∈ tables_1, d.before a0 Z = true) (m : Nat) (r0 : Int32) (h0 : Heap) (n0 : Nat) (B : AV Z h0 m .byte [(.int r0)]) : Con l Z (⟨"java/lang/StringUTF16", "coderFromArrayLen", "([BI)B"⟩ : MethodName) jdk_52_method_15_code 2 (some .byte) ({ frames := 0, cells := 0, slots := 0, locals := 0 } : Room) #[.ref m, .int (1 : Int32)] h0 n0 (Q3 h0) := by
  refine Con.of pn3 (Ls := #[.val (.ref m), .val (.int (1 : Int32))]) (fun m => by first | (simp [entryFrame, mkF, argsToLocals, Value.category]; done) | rfl) ?_
  intro G s k
  have k : W3 l Z n0 (Q3 h0) G s h0 0 0 4 #[.val (.ref m), .val (.int (1 : Int32))] [(.int ((1 : Int32) - (1 : Int32)))] := (((k.iloadN d3_0 rfl).aloadN d3_1 rfl rfl).len (n := 1) B rfl d3_2).isub d3_3
  rw [show ((1 : Int32) - (1 : Int32) : Int32) = (0 : Int32) from by decide] at k
  have k : W3 l Z n0 (Q3 h0) G s h0 0 0 7 #[.val (.ref m), .val (.int (1 : Int32))] [(.int (XT.ushr (0 : Int32) (31 : Int32)))] := (k.bipush (31) d3_4 rfl).iushr d3_6
  rw [show (XT.ushr (0 : Int32) (31 : Int32) : Int32) = (0 : Int32) from by decide] at k
  have k : W3 l Z n0 (Q3 h0) G s h0 0 0 8 #[.val (.ref m), .val (.int (1 : Int32))] [(.int ((0 : Int32).toInt8.toInt32))] := k.i2b d3_7
  rw [show ((0 : Int32).toInt8.toInt32 : Int32) = (0 : Int32) from by decide] at k
  exact k.outB rfl d3_8 (by decide) (by decide) ⟨rfl, rfl⟩
set_option maxRecDepth 65536 in
set_option maxHeartbeats 40000000 in
theorem con32 (l : Launch) (Z : State) (a0 : Array Value) (hw : ∀ d ∈ tables_1, d.before a0 Z = true) (m : Nat) (r0 r1 : Int32) (h0 : Heap) (n0 : Nat) (B : AV Z h0 m .byte [(.int r0), (.int r1)]) : Con l Z (⟨"java/lang/StringUTF16", "coderFromArrayLen", "([BI)B"⟩ : MethodName) jdk_52_method_15_code 2 (some .byte) ({ frames := 0, cells := 0, slots := 0, locals := 0 } : Room) #[.ref m, .int (2 : Int32)] h0 n0 (Q3 h0) := by
  refine Con.of pn3 (Ls := #[.val (.ref m), .val (.int (2 : Int32))]) (fun m => by first | (simp [entryFrame, mkF, argsToLocals, Value.category]; done) | rfl) ?_
  intro G s k
  have k : W3 l Z n0 (Q3 h0) G s h0 0 0 4 #[.val (.ref m), .val (.int (2 : Int32))] [(.int ((2 : Int32) - (2 : Int32)))] := (((k.iloadN d3_0 rfl).aloadN d3_1 rfl rfl).len (n := 2) B rfl d3_2).isub d3_3
  rw [show ((2 : Int32) - (2 : Int32) : Int32) = (0 : Int32) from by decide] at k
  have k : W3 l Z n0 (Q3 h0) G s h0 0 0 7 #[.val (.ref m), .val (.int (2 : Int32))] [(.int (XT.ushr (0 : Int32) (31 : Int32)))] := (k.bipush (31) d3_4 rfl).iushr d3_6
  rw [show (XT.ushr (0 : Int32) (31 : Int32) : Int32) = (0 : Int32) from by decide] at k
  have k : W3 l Z n0 (Q3 h0) G s h0 0 0 8 #[.val (.ref m), .val (.int (2 : Int32))] [(.int ((0 : Int32).toInt8.toInt32))] := k.i2b d3_7
  rw [show ((0 : Int32).toInt8.toInt32 : Int32) = (0 : Int32) from by decide] at k
  exact k.outB rfl d3_8 (by decide) (by decide) ⟨rfl, rfl⟩
theorem d4_0 : decode jdk_42_method_149_code 0 = .ok (.aload_n 0, 1) := by decide +kernel
theorem d4_1 : decode jdk_42_method_149_code 1 = .ok (.invokespecial 1, 3) := by decide +kernel
theorem d4_4 : decode jdk_42_method_149_code 4 = .ok (.iload_n 3, 1) := by decide +kernel
theorem d4_5 : decode jdk_42_method_149_code 5 = .ok (.ifCond .ne 22, 3) := by decide +kernel
theorem d4_27 : decode jdk_42_method_149_code 27 = .ok (.getstatic 38, 3) := by decide +kernel
theorem d4_30 : decode jdk_42_method_149_code 30 = .ok (.ifCond .eq 28, 3) := by decide +kernel
theorem d4_33 : decode jdk_42_method_149_code 33 = .ok (.aload_n 1, 1) := by decide +kernel
theorem d4_34 : decode jdk_42_method_149_code 34 = .ok (.iload_n 2, 1) := by decide +kernel
theorem d4_35 : decode jdk_42_method_149_code 35 = .ok (.iload_n 3, 1) := by decide +kernel
theorem d4_36 : decode jdk_42_method_149_code 36 = .ok (.invokestatic 177, 3) := by decide +kernel
theorem d4_39 : decode jdk_42_method_149_code 39 = .ok (.astore 5, 2) := by decide +kernel
theorem d4_41 : decode jdk_42_method_149_code 41 = .ok (.aload_n 0, 1) := by decide +kernel
theorem d4_42 : decode jdk_42_method_149_code 42 = .ok (.aload 5, 2) := by decide +kernel
theorem d4_44 : decode jdk_42_method_149_code 44 = .ok (.iload_n 3, 1) := by decide +kernel
theorem d4_45 : decode jdk_42_method_149_code 45 = .ok (.invokestatic 47, 3) := by decide +kernel
theorem d4_48 : decode jdk_42_method_149_code 48 = .ok (.putfield 15, 3) := by decide +kernel
theorem d4_51 : decode jdk_42_method_149_code 51 = .ok (.aload_n 0, 1) := by decide +kernel
theorem d4_52 : decode jdk_42_method_149_code 52 = .ok (.aload 5, 2) := by decide +kernel
theorem d4_54 : decode jdk_42_method_149_code 54 = .ok (.putfield 9, 3) := by decide +kernel
theorem d4_57 : decode jdk_42_method_149_code 57 = .ok (.return_, 1) := by decide +kernel
theorem pn4 : plainFor (⟨"java/lang/String", "<init>", "([CIILjava/lang/Void;)V"⟩ : MethodName) = true := plainFor_of_name (show plainName "java/lang/String" = true by first | (simp [plainName, overriddenIn]; done) | decide +kernel)
theorem pd4 : parseMethodDescriptor "([CIILjava/lang/Void;)V" = some ⟨[(.array .char), .int, .int, (.object "java/lang/Void")], none⟩ := by decide +kernel
abbrev Q4 (Z : State) (p : Nat) (h0 : Heap) : Option Value → Heap → Prop := fun v h => v = none ∧ Keep h0 h [p]
abbrev W41 (l : Launch) (Z : State) (n0 : Nat) (P : Option Value → Heap → Prop) (G : Prop) (s : State) := Wk l Z ({ frames := 3, cells := 1, slots := 1, locals := 40 } : Room) (⟨"java/lang/String", "<init>", "([CIILjava/lang/Void;)V"⟩ : MethodName) jdk_42_method_149_code 6 none n0 (Ex s ({ frames := 3, cells := 1, slots := 1, locals := 40 } : Room) n0 P G) s
set_option maxRecDepth 65536 in
set_option maxHeartbeats 40000000 in
theorem con41 (l : Launch) (Z : State) (a0 : Array Value) (hw : ∀ d ∈ tables_1, d.before a0 Z = true) (p a : Nat) (c0 : Int32) (h0 : Heap) (n0 : Nat) (s_h0 : n0 ≤ h0.size) (n_p : n0 ≤ p) (zc : Int32) (S : Sta Z Z.heap "java/lang/String" "COMPACT_STRINGS" "Z" (.int zc)) (hzc : ¬ zc = 0) (O : Old Z n0 h0) (E : Exa Z h0 p "java/lang/String") (F1 : Fld Z h0 p "java/lang/String" "coder" "B" (.int (0 : Int32))) (F2 : Fld Z h0 p "java/lang/String" "value" "[B" .null) (A : AV Z h0 a .char [(.int c0)]) (u0 : ¬ (255 : Int32) < c0) : Con l Z (⟨"java/lang/String", "<init>", "([CIILjava/lang/Void;)V"⟩ : MethodName) jdk_42_method_149_code 6 none ({ frames := 3, cells := 1, slots := 1, locals := 40 } : Room) #[.ref p, .ref a, .int (0 : Int32), .int (1 : Int32), .null] h0 n0 (Q4 Z p h0) := by
  refine Con.of pn4 (Ls := #[.val (.ref p), .val (.ref a), .val (.int (0 : Int32)), .val (.int (1 : Int32)), .val .null, .unset]) (fun m => by first | (simp [entryFrame, mkF, argsToLocals, Value.category]; done) | rfl) ?_
  intro G s k
  have KK : Keep h0 h0 [p] := Keep.refl _ _
  have sk := KK.1
  have lp : p < h0.size := F1.lt
  have k : W41 l Z n0 (Q4 Z p h0) G s h0 0 0 1 #[.val (.ref p), .val (.ref a), .val (.int (0 : Int32)), .val (.int (1 : Int32)), .val .null, .unset] [(.ref p)] := k.aloadN d4_0 rfl rfl
  have k : W41 l Z n0 (Q4 Z p h0) G s h0 0 0 4 #[.val (.ref p), .val (.ref a), .val (.int (0 : Int32)), .val (.int (1 : Int32)), .val .null, .unset] [] := k.initO (hw _ (List.mem_of_getElem? (i := 11) rfl)) (hw _ (List.mem_of_getElem? (i := 12) rfl)) (hw _ (List.mem_of_getElem? (i := 13) rfl)) d4_1 rfl (by decide) 0 (Nat.le_of_eq rfl) (by decide)
  have k : W41 l Z n0 (Q4 Z p h0) G s h0 0 0 27 #[.val (.ref p), .val (.ref a), .val (.int (0 : Int32)), .val (.int (1 : Int32)), .val .null, .unset] [] := (k.iloadN d4_4 rfl).ifT (pc' := 27) d4_5 (XT.i0_ne_t (by decide)) (by decide)
  have k : W41 l Z n0 (Q4 Z p h0) G s h0 0 0 30 #[.val (.ref p), .val (.ref a), .val (.int (0 : Int32)), .val (.int (1 : Int32)), .val .null, .unset] [(.int zc)] := k.getS (hw _ (List.mem_of_getElem? (i := 14) rfl)) (S.ext O.2) d4_27
  have k : W41 l Z n0 (Q4 Z p h0) G s h0 0 0 33 #[.val (.ref p), .val (.ref a), .val (.int (0 : Int32)), .val (.int (1 : Int32)), .val .null, .unset] [] := k.ifF d4_30 (XT.i0_eq_f hzc)
  have k : W41 l Z n0 (Q4 Z p h0) G s h0 0 0 36 #[.val (.ref p), .val (.ref a), .val (.int (0 : Int32)), .val (.int (1 : Int32)), .val .null, .unset] [(.int (1 : Int32)), (.int (0 : Int32)), (.ref a)] := ((k.aloadN d4_33 rfl rfl).iloadN d4_34 rfl).iloadN d4_35 rfl
  obtain ⟨v8, h8, ⟨m8, rfl, g8, K8, B8⟩, k⟩ := k.callS (hw _ (List.mem_of_getElem? (i := 15) rfl)) (hw _ (List.mem_of_getElem? (i := 16) rfl)) (hw _ (List.mem_of_getElem? (i := 17) rfl)) (hw _ (List.mem_of_getElem? (i := 18) rfl)) (by decide) (con21 l Z a0 hw a c0 h0 n0 (by omega) A u0) (argsL := [(.ref a), (.int (0 : Int32)), (.int (1 : Int32))]) (rest := []) (lenOf pd2 rfl) d4_36 rfl rfl 0 (Nat.le_of_eq rfl) (by decide) (by decide) (by decide) (by decide)
  have KK : Keep h0 _ [p] := KK.trans K8 all0
  have sk := KK.1
  have E := E.keep K8
  have F1 := F1.keep K8 nin0
  have F2 := F2.keep K8 nin0
  have A := A.keep K8 nin0
  have O := O.keep K8 all0
  have s_h8 : n0 ≤ h8.size := Nat.le_trans (by omega) K8.1
  have k : W41 l Z n0 (Q4 Z p h0) G s h8 1 1 39 #[.val (.ref p), .val (.ref a), .val (.int (0 : Int32)), .val (.int (1 : Int32)), .val .null, .unset] [(.ref m8)] := k
  have om : p < m8 := by omega
  have k : W41 l Z n0 (Q4 Z p h0) G s h8 1 1 45 #[.val (.ref p), .val (.ref a), .val (.int (0 : Int32)), .val (.int (1 : Int32)), .val .null, .val (.ref m8)] [(.int (1 : Int32)), (.ref m8), (.ref p)] := (((k.astore d4_39 rfl (Ls' := #[.val (.ref p), .val (.ref a), .val (.int (0 : Int32)), .val (.int (1 : Int32)), .val .null, .val (.ref m8)]) rfl).aloadN d4_41 rfl rfl).aload d4_42 rfl rfl).iloadN d4_44 rfl
  obtain ⟨v9, h9, ⟨rfl, rfl⟩, k⟩ := k.callS (hw _ (List.mem_of_getElem? (i := 23) rfl)) (hw _ (List.mem_of_getElem? (i := 24) rfl)) (hw _ (List.mem_of_getElem? (i := 17) rfl)) (hw _ (List.mem_of_getElem? (i := 25) rfl)) (by decide) (con31 l Z a0 hw m8 _ h8 n0 B8) (argsL := [(.ref m8), (.int (1 : Int32))]) (rest := [(.ref p)]) (lenOf pd3 rfl) d4_45 rfl rfl 1 (Nat.le_of_eq rfl) (by decide) (by decide) (by decide) (by decide)
  have k : W41 l Z n0 (Q4 Z p h0) G s h8 1 1 48 #[.val (.ref p), .val (.ref a), .val (.int (0 : Int32)), .val (.int (1 : Int32)), .val .null, .val (.ref m8)] [(.int (0 : Int32)), (.ref p)] := k
  obtain ⟨h10, W10, K10, F1', E', k⟩ := k.putF (ty := .byte) (hw _ (List.mem_of_getElem? (i := 26) rfl)) F1 E (Or.inr ⟨(hw _ (List.mem_of_getElem? (i := 27) rfl)), rfl, rfl⟩) (hw _ (List.mem_of_getElem? (i := 2) rfl)) (by decide) rfl rfl n_p d4_48
  have F2 := Fld.other W10 F2 (Or.inr (slot_ne (C := "java/lang/String") (Or.inr (hw _ (List.mem_of_getElem? (i := 29) rfl))) (Or.inr (hw _ (List.mem_of_getElem? (i := 27) rfl))) (by decide) (t := (.array .byte)) (t' := .byte) (by decide) (by decide)))
  have KK : Keep h0 _ [p] := KK.trans K10 (allS (Or.inl (by simp)) all0)
  have sk := KK.1
  have O := O.keep K10 (allS (by omega) all0)
  have B8 := B8.keep K10 (nS (by omega) nin0)
  have F1 := F1'
  have E := E'
  have s_h10 : n0 ≤ h10.size := Nat.le_trans (by omega) K10.1
  have k : W41 l Z n0 (Q4 Z p h0) G s h10 1 1 51 #[.val (.ref p), .val (.ref a), .val (.int (0 : Int32)), .val (.int (1 : Int32)), .val .null, .val (.ref m8)] [] := k
  have k : W41 l Z n0 (Q4 Z p h0) G s h10 1 1 54 #[.val (.ref p), .val (.ref a), .val (.int (0 : Int32)), .val (.int (1 : Int32)), .val .null, .val (.ref m8)] [(.ref m8), (.ref p)] := (k.aloadN d4_51 rfl rfl).aload d4_52 rfl rfl
  obtain ⟨h11, W11, K11, F2', E', k⟩ := k.putF (ty := (.array .byte)) (hw _ (List.mem_of_getElem? (i := 28) rfl)) F2 E (Or.inr ⟨(hw _ (List.mem_of_getElem? (i := 29) rfl)), rfl, rfl⟩) (hw _ (List.mem_of_getElem? (i := 2) rfl)) (by decide) rfl rfl n_p d4_54
  have F1 := Fld.other W11 F1 (Or.inr (slot_ne (C := "java/lang/String") (Or.inr (hw _ (List.mem_of_getElem? (i := 27) rfl))) (Or.inr (hw _ (List.mem_of_getElem? (i := 29) rfl))) (by decide) (t := .byte) (t' := (.array .byte)) (by decide) (by decide)))
  have KK : Keep h0 _ [p] := KK.trans K11 (allS (Or.inl (by simp)) all0)
  have sk := KK.1
  have O := O.keep K11 (allS (by omega) all0)
  have B8 := B8.keep K11 (nS (by omega) nin0)
  have F2 := F2'
  have E := E'
  have s_h11 : n0 ≤ h11.size := Nat.le_trans (by omega) K11.1
  have k : W41 l Z n0 (Q4 Z p h0) G s h11 1 1 57 #[.val (.ref p), .val (.ref a), .val (.int (0 : Int32)), .val (.int (1 : Int32)), .val .null, .val (.ref m8)] [] := k
  exact k.outN d4_57 (by decide) (by decide) ⟨rfl, KK⟩
abbrev W42 (l : Launch) (Z : State) (n0 : Nat) (P : Option Value → Heap → Prop) (G : Prop) (s : State) := Wk l Z ({ frames := 3, cells := 1, slots := 2, locals := 40 } : Room) (⟨"java/lang/String", "<init>", "([CIILjava/lang/Void;)V"⟩ : MethodName) jdk_42_method_149_code 6 none n0 (Ex s ({ frames := 3, cells := 1, slots := 2, locals := 40 } : Room) n0 P G) s
set_option maxRecDepth 65536 in
set_option maxHeartbeats 40000000 in
theorem con42 (l : Launch) (Z : State) (a0 : Array Value) (hw : ∀ d ∈ tables_1, d.before a0 Z = true) (p a : Nat) (c0 c1 : Int32) (h0 : Heap) (n0 : Nat) (s_h0 : n0 ≤ h0.size) (n_p : n0 ≤ p) (zc : Int32) (S : Sta Z Z.heap "java/lang/String" "COMPACT_STRINGS" "Z" (.int zc)) (hzc : ¬ zc = 0) (O : Old Z n0 h0) (E : Exa Z h0 p "java/lang/String") (F1 : Fld Z h0 p "java/lang/String" "coder" "B" (.int (0 : Int32))) (F2 : Fld Z h0 p "java/lang/String" "value" "[B" .null) (A : AV Z h0 a .char [(.int c0), (.int c1)]) (u0 : ¬ (255 : Int32) < c0) (u1 : ¬ (255 : Int32) < c1) : Con l Z (⟨"java/lang/String", "<init>", "([CIILjava/lang/Void;)V"⟩ : MethodName) jdk_42_method_149_code 6 none ({ frames := 3, cells := 1, slots := 2, locals := 40 } : Room) #[.ref p, .ref a, .int (0 : Int32), .int (2 : Int32), .null] h0 n0 (Q4 Z p h0) := by
  refine Con.of pn4 (Ls := #[.val (.ref p), .val (.ref a), .val (.int (0 : Int32)), .val (.int (2 : Int32)), .val .null, .unset]) (fun m => by first | (simp [entryFrame, mkF, argsToLocals, Value.category]; done) | rfl) ?_
  intro G s k
  have KK : Keep h0 h0 [p] := Keep.refl _ _
  have sk := KK.1
  have lp : p < h0.size := F1.lt
  have k : W42 l Z n0 (Q4 Z p h0) G s h0 0 0 1 #[.val (.ref p), .val (.ref a), .val (.int (0 : Int32)), .val (.int (2 : Int32)), .val .null, .unset] [(.ref p)] := k.aloadN d4_0 rfl rfl
  have k : W42 l Z n0 (Q4 Z p h0) G s h0 0 0 4 #[.val (.ref p), .val (.ref a), .val (.int (0 : Int32)), .val (.int (2 : Int32)), .val .null, .unset] [] := k.initO (hw _ (List.mem_of_getElem? (i := 11) rfl)) (hw _ (List.mem_of_getElem? (i := 12) rfl)) (hw _ (List.mem_of_getElem? (i := 13) rfl)) d4_1 rfl (by decide) 0 (Nat.le_of_eq rfl) (by decide)
  have k : W42 l Z n0 (Q4 Z p h0) G s h0 0 0 27 #[.val (.ref p), .val (.ref a), .val (.int (0 : Int32)), .val (.int (2 : Int32)), .val .null, .unset] [] := (k.iloadN d4_4 rfl).ifT (pc' := 27) d4_5 (XT.i0_ne_t (by decide)) (by decide)
  have k : W42 l Z n0 (Q4 Z p h0) G s h0 0 0 30 #[.val (.ref p), .val (.ref a), .val (.int (0 : Int32)), .val (.int (2 : Int32)), .val .null, .unset] [(.int zc)] := k.getS (hw _ (List.mem_of_getElem? (i := 14) rfl)) (S.ext O.2) d4_27
  have k : W42 l Z n0 (Q4 Z p h0) G s h0 0 0 33 #[.val (.ref p), .val (.ref a), .val (.int (0 : Int32)), .val (.int (2 : Int32)), .val .null, .unset] [] := k.ifF d4_30 (XT.i0_eq_f hzc)
  have k : W42 l Z n0 (Q4 Z p h0) G s h0 0 0 36 #[.val (.ref p), .val (.ref a), .val (.int (0 : Int32)), .val (.int (2 : Int32)), .val .null, .unset] [(.int (2 : Int32)), (.int (0 : Int32)), (.ref a)] := ((k.aloadN d4_33 rfl rfl).iloadN d4_34 rfl).iloadN d4_35 rfl
  obtain ⟨v12, h12, ⟨m12, rfl, g12, K12, B12⟩, k⟩ := k.callS (hw _ (List.mem_of_getElem? (i := 15) rfl)) (hw _ (List.mem_of_getElem? (i := 16) rfl)) (hw _ (List.mem_of_getElem? (i := 17) rfl)) (hw _ (List.mem_of_getElem? (i := 18) rfl)) (by decide) (con22 l Z a0 hw a c0 c1 h0 n0 (by omega) A u0 u1) (argsL := [(.ref a), (.int (0 : Int32)), (.int (2 : Int32))]) (rest := []) (lenOf pd2 rfl) d4_36 rfl rfl 0 (Nat.le_of_eq rfl) (by decide) (by decide) (by decide) (by decide)
  have KK : Keep h0 _ [p] := KK.trans K12 all0
  have sk := KK.1
  have E := E.keep K12
  have F1 := F1.keep K12 nin0
  have F2 := F2.keep K12 nin0
  have A := A.keep K12 nin0
  have O := O.keep K12 all0
  have s_h12 : n0 ≤ h12.size := Nat.le_trans (by omega) K12.1
  have k : W42 l Z n0 (Q4 Z p h0) G s h12 1 2 39 #[.val (.ref p), .val (.ref a), .val (.int (0 : Int32)), .val (.int (2 : Int32)), .val .null, .unset] [(.ref m12)] := k
  have om : p < m12 := by omega
  have k : W42 l Z n0 (Q4 Z p h0) G s h12 1 2 45 #[.val (.ref p), .val (.ref a), .val (.int (0 : Int32)), .val (.int (2 : Int32)), .val .null, .val (.ref m12)] [(.int (2 : Int32)), (.ref m12), (.ref p)] := (((k.astore d4_39 rfl (Ls' := #[.val (.ref p), .val (.ref a), .val (.int (0 : Int32)), .val (.int (2 : Int32)), .val .null, .val (.ref m12)]) rfl).aloadN d4_41 rfl rfl).aload d4_42 rfl rfl).iloadN d4_44 rfl
  obtain ⟨v13, h13, ⟨rfl, rfl⟩, k⟩ := k.callS (hw _ (List.mem_of_getElem? (i := 23) rfl)) (hw _ (List.mem_of_getElem? (i := 24) rfl)) (hw _ (List.mem_of_getElem? (i := 17) rfl)) (hw _ (List.mem_of_getElem? (i := 25) rfl)) (by decide) (con32 l Z a0 hw m12 _ _ h12 n0 B12) (argsL := [(.ref m12), (.int (2 : Int32))]) (rest := [(.ref p)]) (lenOf pd3 rfl) d4_45 rfl rfl 1 (Nat.le_of_eq rfl) (by decide) (by decide) (by decide) (by decide)
  have k : W42 l Z n0 (Q4 Z p h0) G s h12 1 2 48 #[.val (.ref p), .val (.ref a), .val (.int (0 : Int32)), .val (.int (2 : Int32)), .val .null, .val (.ref m12)] [(.int (0 : Int32)), (.ref p)] := k
  obtain ⟨h14, W14, K14, F1', E', k⟩ := k.putF (ty := .byte) (hw _ (List.mem_of_getElem? (i := 26) rfl)) F1 E (Or.inr ⟨(hw _ (List.mem_of_getElem? (i := 27) rfl)), rfl, rfl⟩) (hw _ (List.mem_of_getElem? (i := 2) rfl)) (by decide) rfl rfl n_p d4_48
  have F2 := Fld.other W14 F2 (Or.inr (slot_ne (C := "java/lang/String") (Or.inr (hw _ (List.mem_of_getElem? (i := 29) rfl))) (Or.inr (hw _ (List.mem_of_getElem? (i := 27) rfl))) (by decide) (t := (.array .byte)) (t' := .byte) (by decide) (by decide)))
  have KK : Keep h0 _ [p] := KK.trans K14 (allS (Or.inl (by simp)) all0)
  have sk := KK.1
  have O := O.keep K14 (allS (by omega) all0)
  have B12 := B12.keep K14 (nS (by omega) nin0)
  have F1 := F1'
  have E := E'
  have s_h14 : n0 ≤ h14.size := Nat.le_trans (by omega) K14.1
  have k : W42 l Z n0 (Q4 Z p h0) G s h14 1 2 51 #[.val (.ref p), .val (.ref a), .val (.int (0 : Int32)), .val (.int (2 : Int32)), .val .null, .val (.ref m12)] [] := k
  have k : W42 l Z n0 (Q4 Z p h0) G s h14 1 2 54 #[.val (.ref p), .val (.ref a), .val (.int (0 : Int32)), .val (.int (2 : Int32)), .val .null, .val (.ref m12)] [(.ref m12), (.ref p)] := (k.aloadN d4_51 rfl rfl).aload d4_52 rfl rfl
  obtain ⟨h15, W15, K15, F2', E', k⟩ := k.putF (ty := (.array .byte)) (hw _ (List.mem_of_getElem? (i := 28) rfl)) F2 E (Or.inr ⟨(hw _ (List.mem_of_getElem? (i := 29) rfl)), rfl, rfl⟩) (hw _ (List.mem_of_getElem? (i := 2) rfl)) (by decide) rfl rfl n_p d4_54
  have F1 := Fld.other W15 F1 (Or.inr (slot_ne (C := "java/lang/String") (Or.inr (hw _ (List.mem_of_getElem? (i := 27) rfl))) (Or.inr (hw _ (List.mem_of_getElem? (i := 29) rfl))) (by decide) (t := .byte) (t' := (.array .byte)) (by decide) (by decide)))
  have KK : Keep h0 _ [p] := KK.trans K15 (allS (Or.inl (by simp)) all0)
  have sk := KK.1
  have O := O.keep K15 (allS (by omega) all0)
  have B12 := B12.keep K15 (nS (by omega) nin0)
  have F2 := F2'
  have E := E'
  have s_h15 : n0 ≤ h15.size := Nat.le_trans (by omega) K15.1
  have k : W42 l Z n0 (Q4 Z p h0) G s h15 1 2 57 #[.val (.ref p), .val (.ref a), .val (.int (0 : Int32)), .val (.int (2 : Int32)), .val .null, .val (.ref m12)] [] := k
  exact k.outN d4_57 (by decide) (by decide) ⟨rfl, KK⟩
theorem d5_0 : decode jdk_42_method_3_code 0 = .ok (.aload_n 0, 1) := by decide +kernel
theorem d5_1 : decode jdk_42_method_3_code 1 = .ok (.aload_n 1, 1) := by decide +kernel
theorem d5_2 : decode jdk_42_method_3_code 2 = .ok (.iconst 0, 1) := by decide +kernel
theorem d5_3 : decode jdk_42_method_3_code 3 = .ok (.aload_n 1, 1) := by decide +kernel
theorem d5_4 : decode jdk_42_method_3_code 4 = .ok (.arraylength, 1) := by decide +kernel
theorem d5_5 : decode jdk_42_method_3_code 5 = .ok (.aconst_null, 1) := by decide +kernel
theorem d5_6 : decode jdk_42_method_3_code 6 = .ok (.invokespecial 27, 3) := by decide +kernel
theorem d5_9 : decode jdk_42_method_3_code 9 = .ok (.return_, 1) := by decide +kernel
theorem pn5 : plainFor (⟨"java/lang/String", "<init>", "([C)V"⟩ : MethodName) = true := plainFor_of_name (show plainName "java/lang/String" = true by first | (simp [plainName, overriddenIn]; done) | decide +kernel)
theorem pd5 : parseMethodDescriptor "([C)V" = some ⟨[(.array .char)], none⟩ := by decide +kernel
abbrev W51 (l : Launch) (Z : State) (n0 : Nat) (P : Option Value → Heap → Prop) (G : Prop) (s : State) := Wk l Z ({ frames := 4, cells := 1, slots := 1, locals := 60 } : Room) (⟨"java/lang/String", "<init>", "([C)V"⟩ : MethodName) jdk_42_method_3_code 2 none n0 (Ex s ({ frames := 4, cells := 1, slots := 1, locals := 60 } : Room) n0 P G) s
set_option maxRecDepth 65536 in
set_option maxHeartbeats 40000000 in
theorem con51 (l : Launch) (Z : State) (a0 : Array Value) (hw : ∀ d ∈ tables_1, d.before a0 Z = true) (p a : Nat) (c0 : Int32) (h0 : Heap) (n0 : Nat) (s_h0 : n0 ≤ h0.size) (n_p : n0 ≤ p) (zc : Int32) (S : Sta Z Z.heap "java/lang/String" "COMPACT_STRINGS" "Z" (.int zc)) (hzc : ¬ zc = 0) (O : Old Z n0 h0) (E : Exa Z h0 p "java/lang/String") (F1 : Fld Z h0 p "java/lang/String" "coder" "B" (.int (0 : Int32))) (F2 : Fld Z h0 p "java/lang/String" "value" "[B" .null) (A : AV Z h0 a .char [(.int c0)]) (u0 : ¬ (255 : Int32) < c0) : Con l Z (⟨"java/lang/String", "<init>", "([C)V"⟩ : MethodName) jdk_42_method_3_code 2 none ({ frames := 4, cells := 1, slots := 1, locals := 60 } : Room) #[.ref p, .ref a] h0 n0 (Q4 Z p h0) := by
  refine Con.of pn5 (Ls := #[.val (.ref p), .val (.ref a)]) (fun m => by first | (simp [entryFrame, mkF, argsToLocals, Value.category]; done) | rfl) ?_
  intro G s k
  have k : W51 l Z n0 (Q4 Z p h0) G s h0 0 0 6 #[.val (.ref p), .val (.ref a)] [.null, (.int (1 : Int32)), (.int (0 : Int32)), (.ref a), (.ref p)] := (((((k.aloadN d5_0 rfl rfl).aloadN d5_1 rfl rfl).iconst (0) d5_2 rfl).aloadN d5_3 rfl rfl).len (n := 1) A rfl d5_4).anull d5_5
  obtain ⟨v16, h16, ⟨rfl, K16⟩, k⟩ := k.callN rfl (hw _ (List.mem_of_getElem? (i := 7) rfl)) (hw _ (List.mem_of_getElem? (i := 8) rfl)) (hw _ (List.mem_of_getElem? (i := 3) rfl)) (hw _ (List.mem_of_getElem? (i := 10) rfl)) (by decide) (con41 l Z a0 hw p a c0 h0 n0 (by omega) n_p zc S hzc O E F1 F2 A u0) (argsL := [(.ref a), (.int (0 : Int32)), (.int (1 : Int32)), .null]) (rest := []) (lenOf pd4 rfl) d5_6 rfl rfl 0 (Nat.le_of_eq rfl) (by decide) (by decide) (by decide) (by decide)
  have O := O.keep K16 (allS (by omega) all0)
  have s_h16 : n0 ≤ h16.size := Nat.le_trans (by omega) K16.1
  have k : W51 l Z n0 (Q4 Z p h0) G s h16 1 1 9 #[.val (.ref p), .val (.ref a)] [] := k
  exact k.outN d5_9 (by decide) (by decide) ⟨rfl, K16⟩
abbrev W52 (l : Launch) (Z : State) (n0 : Nat) (P : Option Value → Heap → Prop) (G : Prop) (s : State) := Wk l Z ({ frames := 4, cells := 1, slots := 2, locals := 60 } : Room) (⟨"java/lang/String", "<init>", "([C)V"⟩ : MethodName) jdk_42_method_3_code 2 none n0 (Ex s ({ frames := 4, cells := 1, slots := 2, locals := 60 } : Room) n0 P G) s
set_option maxRecDepth 65536 in
set_option maxHeartbeats 40000000 in
theorem con52 (l : Launch) (Z : State) (a0 : Array Value) (hw : ∀ d ∈ tables_1, d.before a0 Z = true) (p a : Nat) (c0 c1 : Int32) (h0 : Heap) (n0 : Nat) (s_h0 : n0 ≤ h0.size) (n_p : n0 ≤ p) (zc : Int32) (S : Sta Z Z.heap "java/lang/String" "COMPACT_STRINGS" "Z" (.int zc)) (hzc : ¬ zc = 0) (O : Old Z n0 h0) (E : Exa Z h0 p "java/lang/String") (F1 : Fld Z h0 p "java/lang/String" "coder" "B" (.int (0 : Int32))) (F2 : Fld Z h0 p "java/lang/String" "value" "[B" .null) (A : AV Z h0 a .char [(.int c0), (.int c1)]) (u0 : ¬ (255 : Int32) < c0) (u1 : ¬ (255 : Int32) < c1) : Con l Z (⟨"java/lang/String", "<init>", "([C)V"⟩ : MethodName) jdk_42_method_3_code 2 none ({ frames := 4, cells := 1, slots := 2, locals := 60 } : Room) #[.ref p, .ref a] h0 n0 (Q4 Z p h0) := by
  refine Con.of pn5 (Ls := #[.val (.ref p), .val (.ref a)]) (fun m => by first | (simp [entryFrame, mkF, argsToLocals, Value.category]; done) | rfl) ?_
  intro G s k
  have k : W52 l Z n0 (Q4 Z p h0) G s h0 0 0 6 #[.val (.ref p), .val (.ref a)] [.null, (.int (2 : Int32)), (.int (0 : Int32)), (.ref a), (.ref p)] := (((((k.aloadN d5_0 rfl rfl).aloadN d5_1 rfl rfl).iconst (0) d5_2 rfl).aloadN d5_3 rfl rfl).len (n := 2) A rfl d5_4).anull d5_5
  obtain ⟨v17, h17, ⟨rfl, K17⟩, k⟩ := k.callN rfl (hw _ (List.mem_of_getElem? (i := 7) rfl)) (hw _ (List.mem_of_getElem? (i := 8) rfl)) (hw _ (List.mem_of_getElem? (i := 3) rfl)) (hw _ (List.mem_of_getElem? (i := 10) rfl)) (by decide) (con42 l Z a0 hw p a c0 c1 h0 n0 (by omega) n_p zc S hzc O E F1 F2 A u0 u1) (argsL := [(.ref a), (.int (0 : Int32)), (.int (2 : Int32)), .null]) (rest := []) (lenOf pd4 rfl) d5_6 rfl rfl 0 (Nat.le_of_eq rfl) (by decide) (by decide) (by decide) (by decide)
  have O := O.keep K17 (allS (by omega) all0)
  have s_h17 : n0 ≤ h17.size := Nat.le_trans (by omega) K17.1
  have k : W52 l Z n0 (Q4 Z p h0) G s h17 1 2 9 #[.val (.ref p), .val (.ref a)] [] := k
  exact k.outN d5_9 (by decide) (by decide) ⟨rfl, K17⟩
theorem d6_0 : decode jdk_30_method_1_code 0 = .ok (.aload_n 0, 1) := by decide +kernel
theorem d6_1 : decode jdk_30_method_1_code 1 = .ok (.invokespecial 1, 3) := by decide +kernel
theorem d6_4 : decode jdk_30_method_1_code 4 = .ok (.return_, 1) := by decide +kernel
theorem pn6 : plainFor (⟨"java/lang/Record", "<init>", "()V"⟩ : MethodName) = true := plainFor_of_name (show plainName "java/lang/Record" = true by first | (simp [plainName, overriddenIn]; done) | decide +kernel)
theorem pd6 : parseMethodDescriptor "()V" = some ⟨[], none⟩ := by decide +kernel
abbrev W6 (l : Launch) (Z : State) (n0 : Nat) (P : Option Value → Heap → Prop) (G : Prop) (s : State) := Wk l Z ({ frames := 1, cells := 0, slots := 0, locals := 12 } : Room) (⟨"java/lang/Record", "<init>", "()V"⟩ : MethodName) jdk_30_method_1_code 1 none n0 (Ex s ({ frames := 1, cells := 0, slots := 0, locals := 12 } : Room) n0 P G) s
abbrev Q6 (h0 : Heap) : Option Value → Heap → Prop := fun v h => h0 = h ∧ v = none
set_option maxRecDepth 65536 in
set_option maxHeartbeats 40000000 in
theorem con6 (l : Launch) (Z : State) (a0 : Array Value) (hw : ∀ d ∈ tables_1, d.before a0 Z = true) (a : Nat) (h0 : Heap) (n0 : Nat) : Con l Z (⟨"java/lang/Record", "<init>", "()V"⟩ : MethodName) jdk_30_method_1_code 1 none ({ frames := 1, cells := 0, slots := 0, locals := 12 } : Room) #[.ref a] h0 n0 (Q6 h0) := by
  refine Con.of pn6 (Ls := #[.val (.ref a)]) (fun m => by first | (simp [entryFrame, mkF, argsToLocals, Value.category]; done) | rfl) ?_
  intro G s k
  have k : W6 l Z n0 (Q6 h0) G s h0 0 0 1 #[.val (.ref a)] [(.ref a)] := k.aloadN d6_0 rfl rfl
  have k : W6 l Z n0 (Q6 h0) G s h0 0 0 4 #[.val (.ref a)] [] := k.initO (hw _ (List.mem_of_getElem? (i := 41) rfl)) (hw _ (List.mem_of_getElem? (i := 12) rfl)) (hw _ (List.mem_of_getElem? (i := 13) rfl)) d6_1 rfl (by decide) 0 (Nat.le_of_eq rfl) (by decide)
  exact k.outN d6_4 (by decide) (by decide) ⟨rfl, rfl⟩
theorem d7_0 : decode prog_33_method_2_code 0 = .ok (.aload_n 0, 1) := by decide +kernel
theorem d7_1 : decode prog_33_method_2_code 1 = .ok (.invokespecial 1, 3) := by decide +kernel
theorem d7_4 : decode prog_33_method_2_code 4 = .ok (.aload_n 0, 1) := by decide +kernel
theorem d7_5 : decode prog_33_method_2_code 5 = .ok (.aload_n 1, 1) := by decide +kernel
theorem d7_6 : decode prog_33_method_2_code 6 = .ok (.putfield 7, 3) := by decide +kernel
theorem d7_9 : decode prog_33_method_2_code 9 = .ok (.aload_n 0, 1) := by decide +kernel
theorem d7_10 : decode prog_33_method_2_code 10 = .ok (.aload_n 2, 1) := by decide +kernel
theorem d7_11 : decode prog_33_method_2_code 11 = .ok (.putfield 13, 3) := by decide +kernel
theorem d7_14 : decode prog_33_method_2_code 14 = .ok (.aload_n 0, 1) := by decide +kernel
theorem d7_15 : decode prog_33_method_2_code 15 = .ok (.iload_n 3, 1) := by decide +kernel
theorem d7_16 : decode prog_33_method_2_code 16 = .ok (.putfield 16, 3) := by decide +kernel
theorem d7_19 : decode prog_33_method_2_code 19 = .ok (.aload_n 0, 1) := by decide +kernel
theorem d7_20 : decode prog_33_method_2_code 20 = .ok (.iload 4, 2) := by decide +kernel
theorem d7_22 : decode prog_33_method_2_code 22 = .ok (.putfield 20, 3) := by decide +kernel
theorem d7_25 : decode prog_33_method_2_code 25 = .ok (.return_, 1) := by decide +kernel
theorem pn7 : plainFor (⟨"com/example/amherst/amherst/storage/SearchIndex", "<init>", "(Ljava/lang/String;Ljava/lang/String;ZZ)V"⟩ : MethodName) = true := plainFor_of_name (show plainName "com/example/amherst/amherst/storage/SearchIndex" = true by first | (simp [plainName, overriddenIn]; done) | decide +kernel)
theorem pd7 : parseMethodDescriptor "(Ljava/lang/String;Ljava/lang/String;ZZ)V" = some ⟨[(.object "java/lang/String"), (.object "java/lang/String"), .boolean, .boolean], none⟩ := by decide +kernel
theorem d8_0 : decode prog_33_method_3_code 0 = .ok (.new 8, 3) := by decide +kernel
theorem d8_3 : decode prog_33_method_3_code 3 = .ok (.dup, 1) := by decide +kernel
theorem d8_4 : decode prog_33_method_3_code 4 = .ok (.aload_n 0, 1) := by decide +kernel
theorem d8_5 : decode prog_33_method_3_code 5 = .ok (.getfield 7, 3) := by decide +kernel
theorem d8_8 : decode prog_33_method_3_code 8 = .ok (.aload_n 0, 1) := by decide +kernel
theorem d8_9 : decode prog_33_method_3_code 9 = .ok (.getfield 13, 3) := by decide +kernel
theorem d8_12 : decode prog_33_method_3_code 12 = .ok (.aload_n 0, 1) := by decide +kernel
theorem d8_13 : decode prog_33_method_3_code 13 = .ok (.getfield 16, 3) := by decide +kernel
theorem d8_16 : decode prog_33_method_3_code 16 = .ok (.iconst 1, 1) := by decide +kernel
theorem d8_17 : decode prog_33_method_3_code 17 = .ok (.invokespecial 23, 3) := by decide +kernel
theorem d8_20 : decode prog_33_method_3_code 20 = .ok (.areturn, 1) := by decide +kernel
theorem pn8 : plainFor (⟨"com/example/amherst/amherst/storage/SearchIndex", "asServerChoice", "()Lcom/example/amherst/amherst/storage/SearchIndex;"⟩ : MethodName) = true := plainFor_of_name (show plainName "com/example/amherst/amherst/storage/SearchIndex" = true by first | (simp [plainName, overriddenIn]; done) | decide +kernel)
theorem pd8 : parseMethodDescriptor "()Lcom/example/amherst/amherst/storage/SearchIndex;" = some ⟨[], some (.object "com/example/amherst/amherst/storage/SearchIndex")⟩ := by decide +kernel
abbrev W7 (l : Launch) (Z : State) (n0 : Nat) (P : Option Value → Heap → Prop) (G : Prop) (s : State) := Wk l Z ({ frames := 2, cells := 0, slots := 0, locals := 24 } : Room) (⟨"com/example/amherst/amherst/storage/SearchIndex", "<init>", "(Ljava/lang/String;Ljava/lang/String;ZZ)V"⟩ : MethodName) prog_33_method_2_code 5 none n0 (Ex s ({ frames := 2, cells := 0, slots := 0, locals := 24 } : Room) n0 P G) s
abbrev W8 (l : Launch) (Z : State) (n0 : Nat) (P : Option Value → Heap → Prop) (G : Prop) (s : State) := Wk l Z ({ frames := 3, cells := 1, slots := 4, locals := 48 } : Room) (⟨"com/example/amherst/amherst/storage/SearchIndex", "asServerChoice", "()Lcom/example/amherst/amherst/storage/SearchIndex;"⟩ : MethodName) prog_33_method_3_code 1 (some (.object "com/example/amherst/amherst/storage/SearchIndex")) n0 (Ex s ({ frames := 3, cells := 1, slots := 4, locals := 48 } : Room) n0 P G) s
abbrev Q70 (Z : State) (p : Nat) (bw sc : Int32) (h0 : Heap) : Option Value → Heap → Prop := fun v h => v = none ∧ Keep h0 h [p] ∧ Exa Z h p "com/example/amherst/amherst/storage/SearchIndex" ∧ Fld Z h p "com/example/amherst/amherst/storage/SearchIndex" "name" "Ljava/lang/String;" .null ∧ Fld Z h p "com/example/amherst/amherst/storage/SearchIndex" "property" "Ljava/lang/String;" .null ∧ Fld Z h p "com/example/amherst/amherst/storage/SearchIndex" "byWords" "Z" (.int bw) ∧ Fld Z h p "com/example/amherst/amherst/storage/SearchIndex" "serverChoice" "Z" (.int sc)
set_option maxRecDepth 65536 in
set_option maxHeartbeats 40000000 in
theorem con70 (l : Launch) (Z : State) (a0 : Array Value) (hw : ∀ d ∈ tables_1, d.before a0 Z = true) (p : Nat) (bw sc : Int32) (h_bw : bw = 0 ∨ bw = 1) (h_sc : sc = 0 ∨ sc = 1) (h0 : Heap) (n0 : Nat) (s_h0 : n0 ≤ h0.size) (n_p : n0 ≤ p) (E : Exa Z h0 p "com/example/amherst/amherst/storage/SearchIndex") (F1 : Fld Z h0 p "com/example/amherst/amherst/storage/SearchIndex" "name" "Ljava/lang/String;" .null) (F2 : Fld Z h0 p "com/example/amherst/amherst/storage/SearchIndex" "property" "Ljava/lang/String;" .null) (F3 : Fld Z h0 p "com/example/amherst/amherst/storage/SearchIndex" "byWords" "Z" (.int (0 : Int32))) (F4 : Fld Z h0 p "com/example/amherst/amherst/storage/SearchIndex" "serverChoice" "Z" (.int (0 : Int32))) : Con l Z (⟨"com/example/amherst/amherst/storage/SearchIndex", "<init>", "(Ljava/lang/String;Ljava/lang/String;ZZ)V"⟩ : MethodName) prog_33_method_2_code 5 none ({ frames := 2, cells := 0, slots := 0, locals := 24 } : Room) #[.ref p, .null, .null, .int bw, .int sc] h0 n0 (Q70 Z p bw sc h0) := by
  refine Con.of pn7 (Ls := #[.val (.ref p), .val .null, .val .null, .val (.int bw), .val (.int sc)]) (fun m => by first | (simp [entryFrame, mkF, argsToLocals, Value.category]; done) | rfl) ?_
  intro G s k
  have KK : Keep h0 h0 [p] := Keep.refl _ _
  have sk := KK.1
  have k : W7 l Z n0 (Q70 Z p bw sc h0) G s h0 0 0 1 #[.val (.ref p), .val .null, .val .null, .val (.int bw), .val (.int sc)] [(.ref p)] := k.aloadN d7_0 rfl rfl
  obtain ⟨v18, h18, ⟨rfl, rfl⟩, k⟩ := k.callN rfl (hw _ (List.mem_of_getElem? (i := 36) rfl)) (hw _ (List.mem_of_getElem? (i := 37) rfl)) (hw _ (List.mem_of_getElem? (i := 39) rfl)) (hw _ (List.mem_of_getElem? (i := 40) rfl)) (by decide) (con6 l Z a0 hw p h0 n0) (argsL := []) (rest := []) (lenOf pd6 rfl) d7_1 rfl rfl 0 (Nat.le_of_eq rfl) (by decide) (by decide) (by decide) (by decide)
  have k : W7 l Z n0 (Q70 Z p bw sc h0) G s h0 0 0 4 #[.val (.ref p), .val .null, .val .null, .val (.int bw), .val (.int sc)] [] := k
  have k : W7 l Z n0 (Q70 Z p bw sc h0) G s h0 0 0 6 #[.val (.ref p), .val .null, .val .null, .val (.int bw), .val (.int sc)] [.null, (.ref p)] := (k.aloadN d7_4 rfl rfl).aloadN d7_5 rfl rfl
  obtain ⟨h19, W19, K19, F1', E', k⟩ := k.putF (ty := (.object "java/lang/String")) (hw _ (List.mem_of_getElem? (i := 42) rfl)) F1 E (Or.inr ⟨(hw _ (List.mem_of_getElem? (i := 43) rfl)), rfl, rfl⟩) (hw _ (List.mem_of_getElem? (i := 31) rfl)) (by decide) rfl rfl n_p d7_6
  have F2 := Fld.other W19 F2 (Or.inr (slot_ne (C := "com/example/amherst/amherst/storage/SearchIndex") (Or.inr (hw _ (List.mem_of_getElem? (i := 45) rfl))) (Or.inr (hw _ (List.mem_of_getElem? (i := 43) rfl))) (by decide) (t := (.object "java/lang/String")) (t' := (.object "java/lang/String")) (by decide) (by decide)))
  have F3 := Fld.other W19 F3 (Or.inr (slot_ne (C := "com/example/amherst/amherst/storage/SearchIndex") (Or.inr (hw _ (List.mem_of_getElem? (i := 47) rfl))) (Or.inr (hw _ (List.mem_of_getElem? (i := 43) rfl))) (by decide) (t := .boolean) (t' := (.object "java/lang/String")) (by decide) (by decide)))
  have F4 := Fld.other W19 F4 (Or.inr (slot_ne (C := "com/example/amherst/amherst/storage/SearchIndex") (Or.inr (hw _ (List.mem_of_getElem? (i := 49) rfl))) (Or.inr (hw _ (List.mem_of_getElem? (i := 43) rfl))) (by decide) (t := .boolean) (t' := (.object "java/lang/String")) (by decide) (by decide)))
  have KK : Keep h0 _ [p] := KK.trans K19 (allS (Or.inl (by simp)) all0)
  have sk := KK.1
  have F1 := F1'
  have E := E'
  have s_h19 : n0 ≤ h19.size := Nat.le_trans (by omega) K19.1
  have k : W7 l Z n0 (Q70 Z p bw sc h0) G s h19 0 0 9 #[.val (.ref p), .val .null, .val .null, .val (.int bw), .val (.int sc)] [] := k
  have k : W7 l Z n0 (Q70 Z p bw sc h0) G s h19 0 0 11 #[.val (.ref p), .val .null, .val .null, .val (.int bw), .val (.int sc)] [.null, (.ref p)] := (k.aloadN d7_9 rfl rfl).aloadN d7_10 rfl rfl
  obtain ⟨h20, W20, K20, F2', E', k⟩ := k.putF (ty := (.object "java/lang/String")) (hw _ (List.mem_of_getElem? (i := 44) rfl)) F2 E (Or.inr ⟨(hw _ (List.mem_of_getElem? (i := 45) rfl)), rfl, rfl⟩) (hw _ (List.mem_of_getElem? (i := 31) rfl)) (by decide) rfl rfl n_p d7_11
  have F1 := Fld.other W20 F1 (Or.inr (slot_ne (C := "com/example/amherst/amherst/storage/SearchIndex") (Or.inr (hw _ (List.mem_of_getElem? (i := 43) rfl))) (Or.inr (hw _ (List.mem_of_getElem? (i := 45) rfl))) (by decide) (t := (.object "java/lang/String")) (t' := (.object "java/lang/String")) (by decide) (by decide)))
  have F3 := Fld.other W20 F3 (Or.inr (slot_ne (C := "com/example/amherst/amherst/storage/SearchIndex") (Or.inr (hw _ (List.mem_of_getElem? (i := 47) rfl))) (Or.inr (hw _ (List.mem_of_getElem? (i := 45) rfl))) (by decide) (t := .boolean) (t' := (.object "java/lang/String")) (by decide) (by decide)))
  have F4 := Fld.other W20 F4 (Or.inr (slot_ne (C := "com/example/amherst/amherst/storage/SearchIndex") (Or.inr (hw _ (List.mem_of_getElem? (i := 49) rfl))) (Or.inr (hw _ (List.mem_of_getElem? (i := 45) rfl))) (by decide) (t := .boolean) (t' := (.object "java/lang/String")) (by decide) (by decide)))
  have KK : Keep h0 _ [p] := KK.trans K20 (allS (Or.inl (by simp)) all0)
  have sk := KK.1
  have F2 := F2'
  have E := E'
  have s_h20 : n0 ≤ h20.size := Nat.le_trans (by omega) K20.1
  have k : W7 l Z n0 (Q70 Z p bw sc h0) G s h20 0 0 14 #[.val (.ref p), .val .null, .val .null, .val (.int bw), .val (.int sc)] [] := k
  have k : W7 l Z n0 (Q70 Z p bw sc h0) G s h20 0 0 16 #[.val (.ref p), .val .null, .val .null, .val (.int bw), .val (.int sc)] [(.int bw), (.ref p)] := (k.aloadN d7_14 rfl rfl).iloadN d7_15 rfl
  obtain ⟨h21, W21, K21, F3', E', k⟩ := k.putF (ty := .boolean) (hw _ (List.mem_of_getElem? (i := 46) rfl)) F3 E (Or.inr ⟨(hw _ (List.mem_of_getElem? (i := 47) rfl)), rfl, rfl⟩) (hw _ (List.mem_of_getElem? (i := 31) rfl)) (by decide) (own_nz h_bw) (own_fz h_bw) n_p d7_16
  have F1 := Fld.other W21 F1 (Or.inr (slot_ne (C := "com/example/amherst/amherst/storage/SearchIndex") (Or.inr (hw _ (List.mem_of_getElem? (i := 43) rfl))) (Or.inr (hw _ (List.mem_of_getElem? (i := 47) rfl))) (by decide) (t := (.object "java/lang/String")) (t' := .boolean) (by decide) (by decide)))
  have F2 := Fld.other W21 F2 (Or.inr (slot_ne (C := "com/example/amherst/amherst/storage/SearchIndex") (Or.inr (hw _ (List.mem_of_getElem? (i := 45) rfl))) (Or.inr (hw _ (List.mem_of_getElem? (i := 47) rfl))) (by decide) (t := (.object "java/lang/String")) (t' := .boolean) (by decide) (by decide)))
  have F4 := Fld.other W21 F4 (Or.inr (slot_ne (C := "com/example/amherst/amherst/storage/SearchIndex") (Or.inr (hw _ (List.mem_of_getElem? (i := 49) rfl))) (Or.inr (hw _ (List.mem_of_getElem? (i := 47) rfl))) (by decide) (t := .boolean) (t' := .boolean) (by decide) (by decide)))
  have KK : Keep h0 _ [p] := KK.trans K21 (allS (Or.inl (by simp)) all0)
  have sk := KK.1
  have F3 := F3'
  have E := E'
  have s_h21 : n0 ≤ h21.size := Nat.le_trans (by omega) K21.1
  have k : W7 l Z n0 (Q70 Z p bw sc h0) G s h21 0 0 19 #[.val (.ref p), .val .null, .val .null, .val (.int bw), .val (.int sc)] [] := k
  have k : W7 l Z n0 (Q70 Z p bw sc h0) G s h21 0 0 22 #[.val (.ref p), .val .null, .val .null, .val (.int bw), .val (.int sc)] [(.int sc), (.ref p)] := (k.aloadN d7_19 rfl rfl).iload d7_20 rfl
  obtain ⟨h22, W22, K22, F4', E', k⟩ := k.putF (ty := .boolean) (hw _ (List.mem_of_getElem? (i := 48) rfl)) F4 E (Or.inr ⟨(hw _ (List.mem_of_getElem? (i := 49) rfl)), rfl, rfl⟩) (hw _ (List.mem_of_getElem? (i := 31) rfl)) (by decide) (own_nz h_sc) (own_fz h_sc) n_p d7_22
  have F1 := Fld.other W22 F1 (Or.inr (slot_ne (C := "com/example/amherst/amherst/storage/SearchIndex") (Or.inr (hw _ (List.mem_of_getElem? (i := 43) rfl))) (Or.inr (hw _ (List.mem_of_getElem? (i := 49) rfl))) (by decide) (t := (.object "java/lang/String")) (t' := .boolean) (by decide) (by decide)))
  have F2 := Fld.other W22 F2 (Or.inr (slot_ne (C := "com/example/amherst/amherst/storage/SearchIndex") (Or.inr (hw _ (List.mem_of_getElem? (i := 45) rfl))) (Or.inr (hw _ (List.mem_of_getElem? (i := 49) rfl))) (by decide) (t := (.object "java/lang/String")) (t' := .boolean) (by decide) (by decide)))
  have F3 := Fld.other W22 F3 (Or.inr (slot_ne (C := "com/example/amherst/amherst/storage/SearchIndex") (Or.inr (hw _ (List.mem_of_getElem? (i := 47) rfl))) (Or.inr (hw _ (List.mem_of_getElem? (i := 49) rfl))) (by decide) (t := .boolean) (t' := .boolean) (by decide) (by decide)))
  have KK : Keep h0 _ [p] := KK.trans K22 (allS (Or.inl (by simp)) all0)
  have sk := KK.1
  have F4 := F4'
  have E := E'
  have s_h22 : n0 ≤ h22.size := Nat.le_trans (by omega) K22.1
  have k : W7 l Z n0 (Q70 Z p bw sc h0) G s h22 0 0 25 #[.val (.ref p), .val .null, .val .null, .val (.int bw), .val (.int sc)] [] := k
  exact k.outN d7_25 (by decide) (by decide) ⟨rfl, KK, E, F1, F2, F3, F4⟩
abbrev Q80 (Z : State) (bw : Int32) (h0 : Heap) : Option Value → Heap → Prop := fun v h => ∃ r : Nat, v = some (.ref r) ∧ h0.size ≤ r ∧ Keep h0 h [] ∧ Exa Z h r "com/example/amherst/amherst/storage/SearchIndex" ∧ Fld Z h r "com/example/amherst/amherst/storage/SearchIndex" "name" "Ljava/lang/String;" .null ∧ Fld Z h r "com/example/amherst/amherst/storage/SearchIndex" "property" "Ljava/lang/String;" .null ∧ Fld Z h r "com/example/amherst/amherst/storage/SearchIndex" "byWords" "Z" (.int bw) ∧ Fld Z h r "com/example/amherst/amherst/storage/SearchIndex" "serverChoice" "Z" (.int (1 : Int32))
set_option maxRecDepth 65536 in
set_option maxHeartbeats 40000000 in
theorem con80 (l : Launch) (Z : State) (a0 : Array Value) (hw : ∀ d ∈ tables_1, d.before a0 Z = true) (p : Nat) (bw : Int32) (h_bw : bw = 0 ∨ bw = 1) (h0 : Heap) (n0 : Nat) (s_h0 : n0 ≤ h0.size) (E : Exa Z h0 p "com/example/amherst/amherst/storage/SearchIndex") (F1 : Fld Z h0 p "com/example/amherst/amherst/storage/SearchIndex" "name" "Ljava/lang/String;" .null) (F2 : Fld Z h0 p "com/example/amherst/amherst/storage/SearchIndex" "property" "Ljava/lang/String;" .null) (F3 : Fld Z h0 p "com/example/amherst/amherst/storage/SearchIndex" "byWords" "Z" (.int bw)) : Con l Z (⟨"com/example/amherst/amherst/storage/SearchIndex", "asServerChoice", "()Lcom/example/amherst/amherst/storage/SearchIndex;"⟩ : MethodName) prog_33_method_3_code 1 (some (.object "com/example/amherst/amherst/storage/SearchIndex")) ({ frames := 3, cells := 1, slots := 4, locals := 48 } : Room) #[.ref p] h0 n0 (Q80 Z bw h0) := by
  refine Con.of pn8 (Ls := #[.val (.ref p)]) (fun m => by first | (simp [entryFrame, mkF, argsToLocals, Value.category]; done) | rfl) ?_
  intro G s k
  have KK : Keep h0 h0 [] := Keep.refl _ _
  have sk := KK.1
  obtain ⟨h23, K23, E23, D23, k⟩ := k.newO (hw _ (List.mem_of_getElem? (i := 55) rfl)) (hw _ (List.mem_of_getElem? (i := 31) rfl)) (hw _ (List.mem_of_getElem? (i := 32) rfl)) d8_0 (by decide) (by decide)
  obtain ⟨a23, ea23⟩ : ∃ z, z = h0.size := ⟨_, rfl⟩
  rw [← ea23] at E23 D23 k
  have n_a23 : n0 ≤ a23 := by omega
  have o_p_a23 : p < a23 := by have q : p < h0.size := E.lt; omega
  have KK : Keep h0 _ [] := KK.trans K23 all0
  have sk := KK.1
  have E := E.keep K23
  have F1 := F1.keep K23 nin0
  have F2 := F2.keep K23 nin0
  have F3 := F3.keep K23 nin0
  have F23_name : Fld Z h23 a23 "com/example/amherst/amherst/storage/SearchIndex" "name" "Ljava/lang/String;" .null := D23 (Or.inr (hw _ (List.mem_of_getElem? (i := 43) rfl))) (ty := (.object "java/lang/String")) (by decide)
  have F23_property : Fld Z h23 a23 "com/example/amherst/amherst/storage/SearchIndex" "property" "Ljava/lang/String;" .null := D23 (Or.inr (hw _ (List.mem_of_getElem? (i := 45) rfl))) (ty := (.object "java/lang/String")) (by decide)
  have F23_byWords : Fld Z h23 a23 "com/example/amherst/amherst/storage/SearchIndex" "byWords" "Z" (.int (0 : Int32)) := D23 (Or.inr (hw _ (List.mem_of_getElem? (i := 47) rfl))) (ty := .boolean) (by decide)
  have F23_serverChoice : Fld Z h23 a23 "com/example/amherst/amherst/storage/SearchIndex" "serverChoice" "Z" (.int (0 : Int32)) := D23 (Or.inr (hw _ (List.mem_of_getElem? (i := 49) rfl))) (ty := .boolean) (by decide)
  have s_h23 : n0 ≤ h23.size := Nat.le_trans (by omega) K23.1
  have k : W8 l Z n0 (Q80 Z bw h0) G s h23 1 4 3 #[.val (.ref p)] [(.ref a23)] := k
  have k : W8 l Z n0 (Q80 Z bw h0) G s h23 1 4 13 #[.val (.ref p)] [(.ref p), .null, .null, (.ref a23), (.ref a23)] := (((((k.dup d8_3 rfl).aloadN d8_4 rfl rfl).getF (hw _ (List.mem_of_getElem? (i := 42) rfl)) F1 d8_5).aloadN d8_8 rfl rfl).getF (hw _ (List.mem_of_getElem? (i := 44) rfl)) F2 d8_9).aloadN d8_12 rfl rfl
  have k : W8 l Z n0 (Q80 Z bw h0) G s h23 1 4 17 #[.val (.ref p)] [(.int (1 : Int32)), (.int bw), .null, .null, (.ref a23), (.ref a23)] := (k.getF (hw _ (List.mem_of_getElem? (i := 46) rfl)) F3 d8_13).iconst (1) d8_16 rfl
  obtain ⟨v24, h24, ⟨rfl, K24, E24, F124, F224, F324, F424⟩, k⟩ := k.callN rfl (hw _ (List.mem_of_getElem? (i := 56) rfl)) (hw _ (List.mem_of_getElem? (i := 34) rfl)) (hw _ (List.mem_of_getElem? (i := 32) rfl)) (hw _ (List.mem_of_getElem? (i := 35) rfl)) (by decide) (con70 l Z a0 hw a23 bw (1 : Int32) h_bw (Or.inr rfl) h23 n0 (by omega) n_a23 E23 F23_name F23_property F23_byWords F23_serverChoice) (argsL := [.null, .null, (.int bw), (.int (1 : Int32))]) (rest := [(.ref a23)]) (lenOf pd7 rfl) d8_17 rfl rfl 1 (Nat.le_of_eq rfl) (by decide) (by decide) (by decide) (by decide)
  have KK : Keep h0 _ [] := KK.trans K24 (allS (Or.inr (by omega)) all0)
  have sk := KK.1
  have E := E.keep K24
  have F1 := F1.keep K24 (nS (by omega) nin0)
  have F2 := F2.keep K24 (nS (by omega) nin0)
  have F3 := F3.keep K24 (nS (by omega) nin0)
  have s_h24 : n0 ≤ h24.size := Nat.le_trans (by omega) K24.1
  have k : W8 l Z n0 (Q80 Z bw h0) G s h24 1 4 20 #[.val (.ref p)] [(.ref a23)] := k
  exact k.outA rfl rfl d8_20 (by decide) (by decide) ⟨a23, rfl, by omega, KK, E24, F124, F224, F324, F424⟩
abbrev Q71 (Z : State) (p : Nat) (sp : Nat) (bw sc : Int32) (h0 : Heap) : Option Value → Heap → Prop := fun v h => v = none ∧ Keep h0 h [p] ∧ Exa Z h p "com/example/amherst/amherst/storage/SearchIndex" ∧ Fld Z h p "com/example/amherst/amherst/storage/SearchIndex" "name" "Ljava/lang/String;" .null ∧ Fld Z h p "com/example/amherst/amherst/storage/SearchIndex" "property" "Ljava/lang/String;" (.ref sp) ∧ Fld Z h p "com/example/amherst/amherst/storage/SearchIndex" "byWords" "Z" (.int bw) ∧ Fld Z h p "com/example/amherst/amherst/storage/SearchIndex" "serverChoice" "Z" (.int sc)
set_option maxRecDepth 65536 in
set_option maxHeartbeats 40000000 in
theorem con71 (l : Launch) (Z : State) (a0 : Array Value) (hw : ∀ d ∈ tables_1, d.before a0 Z = true) (p : Nat) (sp : Nat) (bw sc : Int32) (h_bw : bw = 0 ∨ bw = 1) (h_sc : sc = 0 ∨ sc = 1) (h0 : Heap) (n0 : Nat) (s_h0 : n0 ≤ h0.size) (n_p : n0 ≤ p) (E : Exa Z h0 p "com/example/amherst/amherst/storage/SearchIndex") (F1 : Fld Z h0 p "com/example/amherst/amherst/storage/SearchIndex" "name" "Ljava/lang/String;" .null) (F2 : Fld Z h0 p "com/example/amherst/amherst/storage/SearchIndex" "property" "Ljava/lang/String;" .null) (F3 : Fld Z h0 p "com/example/amherst/amherst/storage/SearchIndex" "byWords" "Z" (.int (0 : Int32))) (F4 : Fld Z h0 p "com/example/amherst/amherst/storage/SearchIndex" "serverChoice" "Z" (.int (0 : Int32))) : Con l Z (⟨"com/example/amherst/amherst/storage/SearchIndex", "<init>", "(Ljava/lang/String;Ljava/lang/String;ZZ)V"⟩ : MethodName) prog_33_method_2_code 5 none ({ frames := 2, cells := 0, slots := 0, locals := 24 } : Room) #[.ref p, .null, (.ref sp), .int bw, .int sc] h0 n0 (Q71 Z p sp bw sc h0) := by
  refine Con.of pn7 (Ls := #[.val (.ref p), .val .null, .val (.ref sp), .val (.int bw), .val (.int sc)]) (fun m => by first | (simp [entryFrame, mkF, argsToLocals, Value.category]; done) | rfl) ?_
  intro G s k
  have KK : Keep h0 h0 [p] := Keep.refl _ _
  have sk := KK.1
  have k : W7 l Z n0 (Q71 Z p sp bw sc h0) G s h0 0 0 1 #[.val (.ref p), .val .null, .val (.ref sp), .val (.int bw), .val (.int sc)] [(.ref p)] := k.aloadN d7_0 rfl rfl
  obtain ⟨v25, h25, ⟨rfl, rfl⟩, k⟩ := k.callN rfl (hw _ (List.mem_of_getElem? (i := 36) rfl)) (hw _ (List.mem_of_getElem? (i := 37) rfl)) (hw _ (List.mem_of_getElem? (i := 39) rfl)) (hw _ (List.mem_of_getElem? (i := 40) rfl)) (by decide) (con6 l Z a0 hw p h0 n0) (argsL := []) (rest := []) (lenOf pd6 rfl) d7_1 rfl rfl 0 (Nat.le_of_eq rfl) (by decide) (by decide) (by decide) (by decide)
  have k : W7 l Z n0 (Q71 Z p sp bw sc h0) G s h0 0 0 4 #[.val (.ref p), .val .null, .val (.ref sp), .val (.int bw), .val (.int sc)] [] := k
  have k : W7 l Z n0 (Q71 Z p sp bw sc h0) G s h0 0 0 6 #[.val (.ref p), .val .null, .val (.ref sp), .val (.int bw), .val (.int sc)] [.null, (.ref p)] := (k.aloadN d7_4 rfl rfl).aloadN d7_5 rfl rfl
  obtain ⟨h26, W26, K26, F1', E', k⟩ := k.putF (ty := (.object "java/lang/String")) (hw _ (List.mem_of_getElem? (i := 42) rfl)) F1 E (Or.inr ⟨(hw _ (List.mem_of_getElem? (i := 43) rfl)), rfl, rfl⟩) (hw _ (List.mem_of_getElem? (i := 31) rfl)) (by decide) rfl rfl n_p d7_6
  have F2 := Fld.other W26 F2 (Or.inr (slot_ne (C := "com/example/amherst/amherst/storage/SearchIndex") (Or.inr (hw _ (List.mem_of_getElem? (i := 45) rfl))) (Or.inr (hw _ (List.mem_of_getElem? (i := 43) rfl))) (by decide) (t := (.object "java/lang/String")) (t' := (.object "java/lang/String")) (by decide) (by decide)))
  have F3 := Fld.other W26 F3 (Or.inr (slot_ne (C := "com/example/amherst/amherst/storage/SearchIndex") (Or.inr (hw _ (List.mem_of_getElem? (i := 47) rfl))) (Or.inr (hw _ (List.mem_of_getElem? (i := 43) rfl))) (by decide) (t := .boolean) (t' := (.object "java/lang/String")) (by decide) (by decide)))
  have F4 := Fld.other W26 F4 (Or.inr (slot_ne (C := "com/example/amherst/amherst/storage/SearchIndex") (Or.inr (hw _ (List.mem_of_getElem? (i := 49) rfl))) (Or.inr (hw _ (List.mem_of_getElem? (i := 43) rfl))) (by decide) (t := .boolean) (t' := (.object "java/lang/String")) (by decide) (by decide)))
  have KK : Keep h0 _ [p] := KK.trans K26 (allS (Or.inl (by simp)) all0)
  have sk := KK.1
  have F1 := F1'
  have E := E'
  have s_h26 : n0 ≤ h26.size := Nat.le_trans (by omega) K26.1
  have k : W7 l Z n0 (Q71 Z p sp bw sc h0) G s h26 0 0 9 #[.val (.ref p), .val .null, .val (.ref sp), .val (.int bw), .val (.int sc)] [] := k
  have k : W7 l Z n0 (Q71 Z p sp bw sc h0) G s h26 0 0 11 #[.val (.ref p), .val .null, .val (.ref sp), .val (.int bw), .val (.int sc)] [(.ref sp), (.ref p)] := (k.aloadN d7_9 rfl rfl).aloadN d7_10 rfl rfl
  obtain ⟨h27, W27, K27, F2', E', k⟩ := k.putF (ty := (.object "java/lang/String")) (hw _ (List.mem_of_getElem? (i := 44) rfl)) F2 E (Or.inr ⟨(hw _ (List.mem_of_getElem? (i := 45) rfl)), rfl, rfl⟩) (hw _ (List.mem_of_getElem? (i := 31) rfl)) (by decide) rfl rfl n_p d7_11
  have F1 := Fld.other W27 F1 (Or.inr (slot_ne (C := "com/example/amherst/amherst/storage/SearchIndex") (Or.inr (hw _ (List.mem_of_getElem? (i := 43) rfl))) (Or.inr (hw _ (List.mem_of_getElem? (i := 45) rfl))) (by decide) (t := (.object "java/lang/String")) (t' := (.object "java/lang/String")) (by decide) (by decide)))
  have F3 := Fld.other W27 F3 (Or.inr (slot_ne (C := "com/example/amherst/amherst/storage/SearchIndex") (Or.inr (hw _ (List.mem_of_getElem? (i := 47) rfl))) (Or.inr (hw _ (List.mem_of_getElem? (i := 45) rfl))) (by decide) (t := .boolean) (t' := (.object "java/lang/String")) (by decide) (by decide)))
  have F4 := Fld.other W27 F4 (Or.inr (slot_ne (C := "com/example/amherst/amherst/storage/SearchIndex") (Or.inr (hw _ (List.mem_of_getElem? (i := 49) rfl))) (Or.inr (hw _ (List.mem_of_getElem? (i := 45) rfl))) (by decide) (t := .boolean) (t' := (.object "java/lang/String")) (by decide) (by decide)))
  have KK : Keep h0 _ [p] := KK.trans K27 (allS (Or.inl (by simp)) all0)
  have sk := KK.1
  have F2 := F2'
  have E := E'
  have s_h27 : n0 ≤ h27.size := Nat.le_trans (by omega) K27.1
  have k : W7 l Z n0 (Q71 Z p sp bw sc h0) G s h27 0 0 14 #[.val (.ref p), .val .null, .val (.ref sp), .val (.int bw), .val (.int sc)] [] := k
  have k : W7 l Z n0 (Q71 Z p sp bw sc h0) G s h27 0 0 16 #[.val (.ref p), .val .null, .val (.ref sp), .val (.int bw), .val (.int sc)] [(.int bw), (.ref p)] := (k.aloadN d7_14 rfl rfl).iloadN d7_15 rfl
  obtain ⟨h28, W28, K28, F3', E', k⟩ := k.putF (ty := .boolean) (hw _ (List.mem_of_getElem? (i := 46) rfl)) F3 E (Or.inr ⟨(hw _ (List.mem_of_getElem? (i := 47) rfl)), rfl, rfl⟩) (hw _ (List.mem_of_getElem? (i := 31) rfl)) (by decide) (own_nz h_bw) (own_fz h_bw) n_p d7_16
  have F1 := Fld.other W28 F1 (Or.inr (slot_ne (C := "com/example/amherst/amherst/storage/SearchIndex") (Or.inr (hw _ (List.mem_of_getElem? (i := 43) rfl))) (Or.inr (hw _ (List.mem_of_getElem? (i := 47) rfl))) (by decide) (t := (.object "java/lang/String")) (t' := .boolean) (by decide) (by decide)))
  have F2 := Fld.other W28 F2 (Or.inr (slot_ne (C := "com/example/amherst/amherst/storage/SearchIndex") (Or.inr (hw _ (List.mem_of_getElem? (i := 45) rfl))) (Or.inr (hw _ (List.mem_of_getElem? (i := 47) rfl))) (by decide) (t := (.object "java/lang/String")) (t' := .boolean) (by decide) (by decide)))
  have F4 := Fld.other W28 F4 (Or.inr (slot_ne (C := "com/example/amherst/amherst/storage/SearchIndex") (Or.inr (hw _ (List.mem_of_getElem? (i := 49) rfl))) (Or.inr (hw _ (List.mem_of_getElem? (i := 47) rfl))) (by decide) (t := .boolean) (t' := .boolean) (by decide) (by decide)))
  have KK : Keep h0 _ [p] := KK.trans K28 (allS (Or.inl (by simp)) all0)
  have sk := KK.1
  have F3 := F3'
  have E := E'
  have s_h28 : n0 ≤ h28.size := Nat.le_trans (by omega) K28.1
  have k : W7 l Z n0 (Q71 Z p sp bw sc h0) G s h28 0 0 19 #[.val (.ref p), .val .null, .val (.ref sp), .val (.int bw), .val (.int sc)] [] := k
  have k : W7 l Z n0 (Q71 Z p sp bw sc h0) G s h28 0 0 22 #[.val (.ref p), .val .null, .val (.ref sp), .val (.int bw), .val (.int sc)] [(.int sc), (.ref p)] := (k.aloadN d7_19 rfl rfl).iload d7_20 rfl
  obtain ⟨h29, W29, K29, F4', E', k⟩ := k.putF (ty := .boolean) (hw _ (List.mem_of_getElem? (i := 48) rfl)) F4 E (Or.inr ⟨(hw _ (List.mem_of_getElem? (i := 49) rfl)), rfl, rfl⟩) (hw _ (List.mem_of_getElem? (i := 31) rfl)) (by decide) (own_nz h_sc) (own_fz h_sc) n_p d7_22
  have F1 := Fld.other W29 F1 (Or.inr (slot_ne (C := "com/example/amherst/amherst/storage/SearchIndex") (Or.inr (hw _ (List.mem_of_getElem? (i := 43) rfl))) (Or.inr (hw _ (List.mem_of_getElem? (i := 49) rfl))) (by decide) (t := (.object "java/lang/String")) (t' := .boolean) (by decide) (by decide)))
  have F2 := Fld.other W29 F2 (Or.inr (slot_ne (C := "com/example/amherst/amherst/storage/SearchIndex") (Or.inr (hw _ (List.mem_of_getElem? (i := 45) rfl))) (Or.inr (hw _ (List.mem_of_getElem? (i := 49) rfl))) (by decide) (t := (.object "java/lang/String")) (t' := .boolean) (by decide) (by decide)))
  have F3 := Fld.other W29 F3 (Or.inr (slot_ne (C := "com/example/amherst/amherst/storage/SearchIndex") (Or.inr (hw _ (List.mem_of_getElem? (i := 47) rfl))) (Or.inr (hw _ (List.mem_of_getElem? (i := 49) rfl))) (by decide) (t := .boolean) (t' := .boolean) (by decide) (by decide)))
  have KK : Keep h0 _ [p] := KK.trans K29 (allS (Or.inl (by simp)) all0)
  have sk := KK.1
  have F4 := F4'
  have E := E'
  have s_h29 : n0 ≤ h29.size := Nat.le_trans (by omega) K29.1
  have k : W7 l Z n0 (Q71 Z p sp bw sc h0) G s h29 0 0 25 #[.val (.ref p), .val .null, .val (.ref sp), .val (.int bw), .val (.int sc)] [] := k
  exact k.outN d7_25 (by decide) (by decide) ⟨rfl, KK, E, F1, F2, F3, F4⟩
abbrev Q81 (Z : State) (sp : Nat) (bw : Int32) (h0 : Heap) : Option Value → Heap → Prop := fun v h => ∃ r : Nat, v = some (.ref r) ∧ h0.size ≤ r ∧ Keep h0 h [] ∧ Exa Z h r "com/example/amherst/amherst/storage/SearchIndex" ∧ Fld Z h r "com/example/amherst/amherst/storage/SearchIndex" "name" "Ljava/lang/String;" .null ∧ Fld Z h r "com/example/amherst/amherst/storage/SearchIndex" "property" "Ljava/lang/String;" (.ref sp) ∧ Fld Z h r "com/example/amherst/amherst/storage/SearchIndex" "byWords" "Z" (.int bw) ∧ Fld Z h r "com/example/amherst/amherst/storage/SearchIndex" "serverChoice" "Z" (.int (1 : Int32))
set_option maxRecDepth 65536 in
set_option maxHeartbeats 40000000 in
theorem con81 (l : Launch) (Z : State) (a0 : Array Value) (hw : ∀ d ∈ tables_1, d.before a0 Z = true) (p : Nat) (sp : Nat) (bw : Int32) (h_bw : bw = 0 ∨ bw = 1) (h0 : Heap) (n0 : Nat) (s_h0 : n0 ≤ h0.size) (E : Exa Z h0 p "com/example/amherst/amherst/storage/SearchIndex") (F1 : Fld Z h0 p "com/example/amherst/amherst/storage/SearchIndex" "name" "Ljava/lang/String;" .null) (F2 : Fld Z h0 p "com/example/amherst/amherst/storage/SearchIndex" "property" "Ljava/lang/String;" (.ref sp)) (F3 : Fld Z h0 p "com/example/amherst/amherst/storage/SearchIndex" "byWords" "Z" (.int bw)) : Con l Z (⟨"com/example/amherst/amherst/storage/SearchIndex", "asServerChoice", "()Lcom/example/amherst/amherst/storage/SearchIndex;"⟩ : MethodName) prog_33_method_3_code 1 (some (.object "com/example/amherst/amherst/storage/SearchIndex")) ({ frames := 3, cells := 1, slots := 4, locals := 48 } : Room) #[.ref p] h0 n0 (Q81 Z sp bw h0) := by
  refine Con.of pn8 (Ls := #[.val (.ref p)]) (fun m => by first | (simp [entryFrame, mkF, argsToLocals, Value.category]; done) | rfl) ?_
  intro G s k
  have KK : Keep h0 h0 [] := Keep.refl _ _
  have sk := KK.1
  obtain ⟨h30, K30, E30, D30, k⟩ := k.newO (hw _ (List.mem_of_getElem? (i := 55) rfl)) (hw _ (List.mem_of_getElem? (i := 31) rfl)) (hw _ (List.mem_of_getElem? (i := 32) rfl)) d8_0 (by decide) (by decide)
  obtain ⟨a30, ea30⟩ : ∃ z, z = h0.size := ⟨_, rfl⟩
  rw [← ea30] at E30 D30 k
  have n_a30 : n0 ≤ a30 := by omega
  have o_p_a30 : p < a30 := by have q : p < h0.size := E.lt; omega
  have KK : Keep h0 _ [] := KK.trans K30 all0
  have sk := KK.1
  have E := E.keep K30
  have F1 := F1.keep K30 nin0
  have F2 := F2.keep K30 nin0
  have F3 := F3.keep K30 nin0
  have F30_name : Fld Z h30 a30 "com/example/amherst/amherst/storage/SearchIndex" "name" "Ljava/lang/String;" .null := D30 (Or.inr (hw _ (List.mem_of_getElem? (i := 43) rfl))) (ty := (.object "java/lang/String")) (by decide)
  have F30_property : Fld Z h30 a30 "com/example/amherst/amherst/storage/SearchIndex" "property" "Ljava/lang/String;" .null := D30 (Or.inr (hw _ (List.mem_of_getElem? (i := 45) rfl))) (ty := (.object "java/lang/String")) (by decide)
  have F30_byWords : Fld Z h30 a30 "com/example/amherst/amherst/storage/SearchIndex" "byWords" "Z" (.int (0 : Int32)) := D30 (Or.inr (hw _ (List.mem_of_getElem? (i := 47) rfl))) (ty := .boolean) (by decide)
  have F30_serverChoice : Fld Z h30 a30 "com/example/amherst/amherst/storage/SearchIndex" "serverChoice" "Z" (.int (0 : Int32)) := D30 (Or.inr (hw _ (List.mem_of_getElem? (i := 49) rfl))) (ty := .boolean) (by decide)
  have s_h30 : n0 ≤ h30.size := Nat.le_trans (by omega) K30.1
  have k : W8 l Z n0 (Q81 Z sp bw h0) G s h30 1 4 3 #[.val (.ref p)] [(.ref a30)] := k
  have k : W8 l Z n0 (Q81 Z sp bw h0) G s h30 1 4 13 #[.val (.ref p)] [(.ref p), (.ref sp), .null, (.ref a30), (.ref a30)] := (((((k.dup d8_3 rfl).aloadN d8_4 rfl rfl).getF (hw _ (List.mem_of_getElem? (i := 42) rfl)) F1 d8_5).aloadN d8_8 rfl rfl).getF (hw _ (List.mem_of_getElem? (i := 44) rfl)) F2 d8_9).aloadN d8_12 rfl rfl
  have k : W8 l Z n0 (Q81 Z sp bw h0) G s h30 1 4 17 #[.val (.ref p)] [(.int (1 : Int32)), (.int bw), (.ref sp), .null, (.ref a30), (.ref a30)] := (k.getF (hw _ (List.mem_of_getElem? (i := 46) rfl)) F3 d8_13).iconst (1) d8_16 rfl
  obtain ⟨v31, h31, ⟨rfl, K31, E31, F131, F231, F331, F431⟩, k⟩ := k.callN rfl (hw _ (List.mem_of_getElem? (i := 56) rfl)) (hw _ (List.mem_of_getElem? (i := 34) rfl)) (hw _ (List.mem_of_getElem? (i := 32) rfl)) (hw _ (List.mem_of_getElem? (i := 35) rfl)) (by decide) (con71 l Z a0 hw a30 sp bw (1 : Int32) h_bw (Or.inr rfl) h30 n0 (by omega) n_a30 E30 F30_name F30_property F30_byWords F30_serverChoice) (argsL := [.null, (.ref sp), (.int bw), (.int (1 : Int32))]) (rest := [(.ref a30)]) (lenOf pd7 rfl) d8_17 rfl rfl 1 (Nat.le_of_eq rfl) (by decide) (by decide) (by decide) (by decide)
  have KK : Keep h0 _ [] := KK.trans K31 (allS (Or.inr (by omega)) all0)
  have sk := KK.1
  have E := E.keep K31
  have F1 := F1.keep K31 (nS (by omega) nin0)
  have F2 := F2.keep K31 (nS (by omega) nin0)
  have F3 := F3.keep K31 (nS (by omega) nin0)
  have s_h31 : n0 ≤ h31.size := Nat.le_trans (by omega) K31.1
  have k : W8 l Z n0 (Q81 Z sp bw h0) G s h31 1 4 20 #[.val (.ref p)] [(.ref a30)] := k
  exact k.outA rfl rfl d8_20 (by decide) (by decide) ⟨a30, rfl, by omega, KK, E31, F131, F231, F331, F431⟩
abbrev Q72 (Z : State) (p : Nat) (sn : Nat) (bw sc : Int32) (h0 : Heap) : Option Value → Heap → Prop := fun v h => v = none ∧ Keep h0 h [p] ∧ Exa Z h p "com/example/amherst/amherst/storage/SearchIndex" ∧ Fld Z h p "com/example/amherst/amherst/storage/SearchIndex" "name" "Ljava/lang/String;" (.ref sn) ∧ Fld Z h p "com/example/amherst/amherst/storage/SearchIndex" "property" "Ljava/lang/String;" .null ∧ Fld Z h p "com/example/amherst/amherst/storage/SearchIndex" "byWords" "Z" (.int bw) ∧ Fld Z h p "com/example/amherst/amherst/storage/SearchIndex" "serverChoice" "Z" (.int sc)
set_option maxRecDepth 65536 in
set_option maxHeartbeats 40000000 in
theorem con72 (l : Launch) (Z : State) (a0 : Array Value) (hw : ∀ d ∈ tables_1, d.before a0 Z = true) (p : Nat) (sn : Nat) (bw sc : Int32) (h_bw : bw = 0 ∨ bw = 1) (h_sc : sc = 0 ∨ sc = 1) (h0 : Heap) (n0 : Nat) (s_h0 : n0 ≤ h0.size) (n_p : n0 ≤ p) (E : Exa Z h0 p "com/example/amherst/amherst/storage/SearchIndex") (F1 : Fld Z h0 p "com/example/amherst/amherst/storage/SearchIndex" "name" "Ljava/lang/String;" .null) (F2 : Fld Z h0 p "com/example/amherst/amherst/storage/SearchIndex" "property" "Ljava/lang/String;" .null) (F3 : Fld Z h0 p "com/example/amherst/amherst/storage/SearchIndex" "byWords" "Z" (.int (0 : Int32))) (F4 : Fld Z h0 p "com/example/amherst/amherst/storage/SearchIndex" "serverChoice" "Z" (.int (0 : Int32))) : Con l Z (⟨"com/example/amherst/amherst/storage/SearchIndex", "<init>", "(Ljava/lang/String;Ljava/lang/String;ZZ)V"⟩ : MethodName) prog_33_method_2_code 5 none ({ frames := 2, cells := 0, slots := 0, locals := 24 } : Room) #[.ref p, (.ref sn), .null, .int bw, .int sc] h0 n0 (Q72 Z p sn bw sc h0) := by
  refine Con.of pn7 (Ls := #[.val (.ref p), .val (.ref sn), .val .null, .val (.int bw), .val (.int sc)]) (fun m => by first | (simp [entryFrame, mkF, argsToLocals, Value.category]; done) | rfl) ?_
  intro G s k
  have KK : Keep h0 h0 [p] := Keep.refl _ _
  have sk := KK.1
  have k : W7 l Z n0 (Q72 Z p sn bw sc h0) G s h0 0 0 1 #[.val (.ref p), .val (.ref sn), .val .null, .val (.int bw), .val (.int sc)] [(.ref p)] := k.aloadN d7_0 rfl rfl
  obtain ⟨v32, h32, ⟨rfl, rfl⟩, k⟩ := k.callN rfl (hw _ (List.mem_of_getElem? (i := 36) rfl)) (hw _ (List.mem_of_getElem? (i := 37) rfl)) (hw _ (List.mem_of_getElem? (i := 39) rfl)) (hw _ (List.mem_of_getElem? (i := 40) rfl)) (by decide) (con6 l Z a0 hw p h0 n0) (argsL := []) (rest := []) (lenOf pd6 rfl) d7_1 rfl rfl 0 (Nat.le_of_eq rfl) (by decide) (by decide) (by decide) (by decide)
  have k : W7 l Z n0 (Q72 Z p sn bw sc h0) G s h0 0 0 4 #[.val (.ref p), .val (.ref sn), .val .null, .val (.int bw), .val (.int sc)] [] := k
  have k : W7 l Z n0 (Q72 Z p sn bw sc h0) G s h0 0 0 6 #[.val (.ref p), .val (.ref sn), .val .null, .val (.int bw), .val (.int sc)] [(.ref sn), (.ref p)] := (k.aloadN d7_4 rfl rfl).aloadN d7_5 rfl rfl
  obtain ⟨h33, W33, K33, F1', E', k⟩ := k.putF (ty := (.object "java/lang/String")) (hw _ (List.mem_of_getElem? (i := 42) rfl)) F1 E (Or.inr ⟨(hw _ (List.mem_of_getElem? (i := 43) rfl)), rfl, rfl⟩) (hw _ (List.mem_of_getElem? (i := 31) rfl)) (by decide) rfl rfl n_p d7_6
  have F2 := Fld.other W33 F2 (Or.inr (slot_ne (C := "com/example/amherst/amherst/storage/SearchIndex") (Or.inr (hw _ (List.mem_of_getElem? (i := 45) rfl))) (Or.inr (hw _ (List.mem_of_getElem? (i := 43) rfl))) (by decide) (t := (.object "java/lang/String")) (t' := (.object "java/lang/String")) (by decide) (by decide)))
  have F3 := Fld.other W33 F3 (Or.inr (slot_ne (C := "com/example/amherst/amherst/storage/SearchIndex") (Or.inr (hw _ (List.mem_of_getElem? (i := 47) rfl))) (Or.inr (hw _ (List.mem_of_getElem? (i := 43) rfl))) (by decide) (t := .boolean) (t' := (.object "java/lang/String")) (by decide) (by decide)))
  have F4 := Fld.other W33 F4 (Or.inr (slot_ne (C := "com/example/amherst/amherst/storage/SearchIndex") (Or.inr (hw _ (List.mem_of_getElem? (i := 49) rfl))) (Or.inr (hw _ (List.mem_of_getElem? (i := 43) rfl))) (by decide) (t := .boolean) (t' := (.object "java/lang/String")) (by decide) (by decide)))
  have KK : Keep h0 _ [p] := KK.trans K33 (allS (Or.inl (by simp)) all0)
  have sk := KK.1
  have F1 := F1'
  have E := E'
  have s_h33 : n0 ≤ h33.size := Nat.le_trans (by omega) K33.1
  have k : W7 l Z n0 (Q72 Z p sn bw sc h0) G s h33 0 0 9 #[.val (.ref p), .val (.ref sn), .val .null, .val (.int bw), .val (.int sc)] [] := k
  have k : W7 l Z n0 (Q72 Z p sn bw sc h0) G s h33 0 0 11 #[.val (.ref p), .val (.ref sn), .val .null, .val (.int bw), .val (.int sc)] [.null, (.ref p)] := (k.aloadN d7_9 rfl rfl).aloadN d7_10 rfl rfl
  obtain ⟨h34, W34, K34, F2', E', k⟩ := k.putF (ty := (.object "java/lang/String")) (hw _ (List.mem_of_getElem? (i := 44) rfl)) F2 E (Or.inr ⟨(hw _ (List.mem_of_getElem? (i := 45) rfl)), rfl, rfl⟩) (hw _ (List.mem_of_getElem? (i := 31) rfl)) (by decide) rfl rfl n_p d7_11
  have F1 := Fld.other W34 F1 (Or.inr (slot_ne (C := "com/example/amherst/amherst/storage/SearchIndex") (Or.inr (hw _ (List.mem_of_getElem? (i := 43) rfl))) (Or.inr (hw _ (List.mem_of_getElem? (i := 45) rfl))) (by decide) (t := (.object "java/lang/String")) (t' := (.object "java/lang/String")) (by decide) (by decide)))
  have F3 := Fld.other W34 F3 (Or.inr (slot_ne (C := "com/example/amherst/amherst/storage/SearchIndex") (Or.inr (hw _ (List.mem_of_getElem? (i := 47) rfl))) (Or.inr (hw _ (List.mem_of_getElem? (i := 45) rfl))) (by decide) (t := .boolean) (t' := (.object "java/lang/String")) (by decide) (by decide)))
  have F4 := Fld.other W34 F4 (Or.inr (slot_ne (C := "com/example/amherst/amherst/storage/SearchIndex") (Or.inr (hw _ (List.mem_of_getElem? (i := 49) rfl))) (Or.inr (hw _ (List.mem_of_getElem? (i := 45) rfl))) (by decide) (t := .boolean) (t' := (.object "java/lang/String")) (by decide) (by decide)))
  have KK : Keep h0 _ [p] := KK.trans K34 (allS (Or.inl (by simp)) all0)
  have sk := KK.1
  have F2 := F2'
  have E := E'
  have s_h34 : n0 ≤ h34.size := Nat.le_trans (by omega) K34.1
  have k : W7 l Z n0 (Q72 Z p sn bw sc h0) G s h34 0 0 14 #[.val (.ref p), .val (.ref sn), .val .null, .val (.int bw), .val (.int sc)] [] := k
  have k : W7 l Z n0 (Q72 Z p sn bw sc h0) G s h34 0 0 16 #[.val (.ref p), .val (.ref sn), .val .null, .val (.int bw), .val (.int sc)] [(.int bw), (.ref p)] := (k.aloadN d7_14 rfl rfl).iloadN d7_15 rfl
  obtain ⟨h35, W35, K35, F3', E', k⟩ := k.putF (ty := .boolean) (hw _ (List.mem_of_getElem? (i := 46) rfl)) F3 E (Or.inr ⟨(hw _ (List.mem_of_getElem? (i := 47) rfl)), rfl, rfl⟩) (hw _ (List.mem_of_getElem? (i := 31) rfl)) (by decide) (own_nz h_bw) (own_fz h_bw) n_p d7_16
  have F1 := Fld.other W35 F1 (Or.inr (slot_ne (C := "com/example/amherst/amherst/storage/SearchIndex") (Or.inr (hw _ (List.mem_of_getElem? (i := 43) rfl))) (Or.inr (hw _ (List.mem_of_getElem? (i := 47) rfl))) (by decide) (t := (.object "java/lang/String")) (t' := .boolean) (by decide) (by decide)))
  have F2 := Fld.other W35 F2 (Or.inr (slot_ne (C := "com/example/amherst/amherst/storage/SearchIndex") (Or.inr (hw _ (List.mem_of_getElem? (i := 45) rfl))) (Or.inr (hw _ (List.mem_of_getElem? (i := 47) rfl))) (by decide) (t := (.object "java/lang/String")) (t' := .boolean) (by decide) (by decide)))
  have F4 := Fld.other W35 F4 (Or.inr (slot_ne (C := "com/example/amherst/amherst/storage/SearchIndex") (Or.inr (hw _ (List.mem_of_getElem? (i := 49) rfl))) (Or.inr (hw _ (List.mem_of_getElem? (i := 47) rfl))) (by decide) (t := .boolean) (t' := .boolean) (by decide) (by decide)))
  have KK : Keep h0 _ [p] := KK.trans K35 (allS (Or.inl (by simp)) all0)
  have sk := KK.1
  have F3 := F3'
  have E := E'
  have s_h35 : n0 ≤ h35.size := Nat.le_trans (by omega) K35.1
  have k : W7 l Z n0 (Q72 Z p sn bw sc h0) G s h35 0 0 19 #[.val (.ref p), .val (.ref sn), .val .null, .val (.int bw), .val (.int sc)] [] := k
  have k : W7 l Z n0 (Q72 Z p sn bw sc h0) G s h35 0 0 22 #[.val (.ref p), .val (.ref sn), .val .null, .val (.int bw), .val (.int sc)] [(.int sc), (.ref p)] := (k.aloadN d7_19 rfl rfl).iload d7_20 rfl
  obtain ⟨h36, W36, K36, F4', E', k⟩ := k.putF (ty := .boolean) (hw _ (List.mem_of_getElem? (i := 48) rfl)) F4 E (Or.inr ⟨(hw _ (List.mem_of_getElem? (i := 49) rfl)), rfl, rfl⟩) (hw _ (List.mem_of_getElem? (i := 31) rfl)) (by decide) (own_nz h_sc) (own_fz h_sc) n_p d7_22
  have F1 := Fld.other W36 F1 (Or.inr (slot_ne (C := "com/example/amherst/amherst/storage/SearchIndex") (Or.inr (hw _ (List.mem_of_getElem? (i := 43) rfl))) (Or.inr (hw _ (List.mem_of_getElem? (i := 49) rfl))) (by decide) (t := (.object "java/lang/String")) (t' := .boolean) (by decide) (by decide)))
  have F2 := Fld.other W36 F2 (Or.inr (slot_ne (C := "com/example/amherst/amherst/storage/SearchIndex") (Or.inr (hw _ (List.mem_of_getElem? (i := 45) rfl))) (Or.inr (hw _ (List.mem_of_getElem? (i := 49) rfl))) (by decide) (t := (.object "java/lang/String")) (t' := .boolean) (by decide) (by decide)))
  have F3 := Fld.other W36 F3 (Or.inr (slot_ne (C := "com/example/amherst/amherst/storage/SearchIndex") (Or.inr (hw _ (List.mem_of_getElem? (i := 47) rfl))) (Or.inr (hw _ (List.mem_of_getElem? (i := 49) rfl))) (by decide) (t := .boolean) (t' := .boolean) (by decide) (by decide)))
  have KK : Keep h0 _ [p] := KK.trans K36 (allS (Or.inl (by simp)) all0)
  have sk := KK.1
  have F4 := F4'
  have E := E'
  have s_h36 : n0 ≤ h36.size := Nat.le_trans (by omega) K36.1
  have k : W7 l Z n0 (Q72 Z p sn bw sc h0) G s h36 0 0 25 #[.val (.ref p), .val (.ref sn), .val .null, .val (.int bw), .val (.int sc)] [] := k
  exact k.outN d7_25 (by decide) (by decide) ⟨rfl, KK, E, F1, F2, F3, F4⟩
abbrev Q82 (Z : State) (sn : Nat) (bw : Int32) (h0 : Heap) : Option Value → Heap → Prop := fun v h => ∃ r : Nat, v = some (.ref r) ∧ h0.size ≤ r ∧ Keep h0 h [] ∧ Exa Z h r "com/example/amherst/amherst/storage/SearchIndex" ∧ Fld Z h r "com/example/amherst/amherst/storage/SearchIndex" "name" "Ljava/lang/String;" (.ref sn) ∧ Fld Z h r "com/example/amherst/amherst/storage/SearchIndex" "property" "Ljava/lang/String;" .null ∧ Fld Z h r "com/example/amherst/amherst/storage/SearchIndex" "byWords" "Z" (.int bw) ∧ Fld Z h r "com/example/amherst/amherst/storage/SearchIndex" "serverChoice" "Z" (.int (1 : Int32))
set_option maxRecDepth 65536 in
set_option maxHeartbeats 40000000 in
theorem con82 (l : Launch) (Z : State) (a0 : Array Value) (hw : ∀ d ∈ tables_1, d.before a0 Z = true) (p : Nat) (sn : Nat) (bw : Int32) (h_bw : bw = 0 ∨ bw = 1) (h0 : Heap) (n0 : Nat) (s_h0 : n0 ≤ h0.size) (E : Exa Z h0 p "com/example/amherst/amherst/storage/SearchIndex") (F1 : Fld Z h0 p "com/example/amherst/amherst/storage/SearchIndex" "name" "Ljava/lang/String;" (.ref sn)) (F2 : Fld Z h0 p "com/example/amherst/amherst/storage/SearchIndex" "property" "Ljava/lang/String;" .null) (F3 : Fld Z h0 p "com/example/amherst/amherst/storage/SearchIndex" "byWords" "Z" (.int bw)) : Con l Z (⟨"com/example/amherst/amherst/storage/SearchIndex", "asServerChoice", "()Lcom/example/amherst/amherst/storage/SearchIndex;"⟩ : MethodName) prog_33_method_3_code 1 (some (.object "com/example/amherst/amherst/storage/SearchIndex")) ({ frames := 3, cells := 1, slots := 4, locals := 48 } : Room) #[.ref p] h0 n0 (Q82 Z sn bw h0) := by
  refine Con.of pn8 (Ls := #[.val (.ref p)]) (fun m => by first | (simp [entryFrame, mkF, argsToLocals, Value.category]; done) | rfl) ?_
  intro G s k
  have KK : Keep h0 h0 [] := Keep.refl _ _
  have sk := KK.1
  obtain ⟨h37, K37, E37, D37, k⟩ := k.newO (hw _ (List.mem_of_getElem? (i := 55) rfl)) (hw _ (List.mem_of_getElem? (i := 31) rfl)) (hw _ (List.mem_of_getElem? (i := 32) rfl)) d8_0 (by decide) (by decide)
  obtain ⟨a37, ea37⟩ : ∃ z, z = h0.size := ⟨_, rfl⟩
  rw [← ea37] at E37 D37 k
  have n_a37 : n0 ≤ a37 := by omega
  have o_p_a37 : p < a37 := by have q : p < h0.size := E.lt; omega
  have KK : Keep h0 _ [] := KK.trans K37 all0
  have sk := KK.1
  have E := E.keep K37
  have F1 := F1.keep K37 nin0
  have F2 := F2.keep K37 nin0
  have F3 := F3.keep K37 nin0
  have F37_name : Fld Z h37 a37 "com/example/amherst/amherst/storage/SearchIndex" "name" "Ljava/lang/String;" .null := D37 (Or.inr (hw _ (List.mem_of_getElem? (i := 43) rfl))) (ty := (.object "java/lang/String")) (by decide)
  have F37_property : Fld Z h37 a37 "com/example/amherst/amherst/storage/SearchIndex" "property" "Ljava/lang/String;" .null := D37 (Or.inr (hw _ (List.mem_of_getElem? (i := 45) rfl))) (ty := (.object "java/lang/String")) (by decide)
  have F37_byWords : Fld Z h37 a37 "com/example/amherst/amherst/storage/SearchIndex" "byWords" "Z" (.int (0 : Int32)) := D37 (Or.inr (hw _ (List.mem_of_getElem? (i := 47) rfl))) (ty := .boolean) (by decide)
  have F37_serverChoice : Fld Z h37 a37 "com/example/amherst/amherst/storage/SearchIndex" "serverChoice" "Z" (.int (0 : Int32)) := D37 (Or.inr (hw _ (List.mem_of_getElem? (i := 49) rfl))) (ty := .boolean) (by decide)
  have s_h37 : n0 ≤ h37.size := Nat.le_trans (by omega) K37.1
  have k : W8 l Z n0 (Q82 Z sn bw h0) G s h37 1 4 3 #[.val (.ref p)] [(.ref a37)] := k
  have k : W8 l Z n0 (Q82 Z sn bw h0) G s h37 1 4 13 #[.val (.ref p)] [(.ref p), .null, (.ref sn), (.ref a37), (.ref a37)] := (((((k.dup d8_3 rfl).aloadN d8_4 rfl rfl).getF (hw _ (List.mem_of_getElem? (i := 42) rfl)) F1 d8_5).aloadN d8_8 rfl rfl).getF (hw _ (List.mem_of_getElem? (i := 44) rfl)) F2 d8_9).aloadN d8_12 rfl rfl
  have k : W8 l Z n0 (Q82 Z sn bw h0) G s h37 1 4 17 #[.val (.ref p)] [(.int (1 : Int32)), (.int bw), .null, (.ref sn), (.ref a37), (.ref a37)] := (k.getF (hw _ (List.mem_of_getElem? (i := 46) rfl)) F3 d8_13).iconst (1) d8_16 rfl
  obtain ⟨v38, h38, ⟨rfl, K38, E38, F138, F238, F338, F438⟩, k⟩ := k.callN rfl (hw _ (List.mem_of_getElem? (i := 56) rfl)) (hw _ (List.mem_of_getElem? (i := 34) rfl)) (hw _ (List.mem_of_getElem? (i := 32) rfl)) (hw _ (List.mem_of_getElem? (i := 35) rfl)) (by decide) (con72 l Z a0 hw a37 sn bw (1 : Int32) h_bw (Or.inr rfl) h37 n0 (by omega) n_a37 E37 F37_name F37_property F37_byWords F37_serverChoice) (argsL := [(.ref sn), .null, (.int bw), (.int (1 : Int32))]) (rest := [(.ref a37)]) (lenOf pd7 rfl) d8_17 rfl rfl 1 (Nat.le_of_eq rfl) (by decide) (by decide) (by decide) (by decide)
  have KK : Keep h0 _ [] := KK.trans K38 (allS (Or.inr (by omega)) all0)
  have sk := KK.1
  have E := E.keep K38
  have F1 := F1.keep K38 (nS (by omega) nin0)
  have F2 := F2.keep K38 (nS (by omega) nin0)
  have F3 := F3.keep K38 (nS (by omega) nin0)
  have s_h38 : n0 ≤ h38.size := Nat.le_trans (by omega) K38.1
  have k : W8 l Z n0 (Q82 Z sn bw h0) G s h38 1 4 20 #[.val (.ref p)] [(.ref a37)] := k
  exact k.outA rfl rfl d8_20 (by decide) (by decide) ⟨a37, rfl, by omega, KK, E38, F138, F238, F338, F438⟩
abbrev Q73 (Z : State) (p : Nat) (sn sp : Nat) (bw sc : Int32) (h0 : Heap) : Option Value → Heap → Prop := fun v h => v = none ∧ Keep h0 h [p] ∧ Exa Z h p "com/example/amherst/amherst/storage/SearchIndex" ∧ Fld Z h p "com/example/amherst/amherst/storage/SearchIndex" "name" "Ljava/lang/String;" (.ref sn) ∧ Fld Z h p "com/example/amherst/amherst/storage/SearchIndex" "property" "Ljava/lang/String;" (.ref sp) ∧ Fld Z h p "com/example/amherst/amherst/storage/SearchIndex" "byWords" "Z" (.int bw) ∧ Fld Z h p "com/example/amherst/amherst/storage/SearchIndex" "serverChoice" "Z" (.int sc)
set_option maxRecDepth 65536 in
set_option maxHeartbeats 40000000 in
theorem con73 (l : Launch) (Z : State) (a0 : Array Value) (hw : ∀ d ∈ tables_1, d.before a0 Z = true) (p : Nat) (sn sp : Nat) (bw sc : Int32) (h_bw : bw = 0 ∨ bw = 1) (h_sc : sc = 0 ∨ sc = 1) (h0 : Heap) (n0 : Nat) (s_h0 : n0 ≤ h0.size) (n_p : n0 ≤ p) (E : Exa Z h0 p "com/example/amherst/amherst/storage/SearchIndex") (F1 : Fld Z h0 p "com/example/amherst/amherst/storage/SearchIndex" "name" "Ljava/lang/String;" .null) (F2 : Fld Z h0 p "com/example/amherst/amherst/storage/SearchIndex" "property" "Ljava/lang/String;" .null) (F3 : Fld Z h0 p "com/example/amherst/amherst/storage/SearchIndex" "byWords" "Z" (.int (0 : Int32))) (F4 : Fld Z h0 p "com/example/amherst/amherst/storage/SearchIndex" "serverChoice" "Z" (.int (0 : Int32))) : Con l Z (⟨"com/example/amherst/amherst/storage/SearchIndex", "<init>", "(Ljava/lang/String;Ljava/lang/String;ZZ)V"⟩ : MethodName) prog_33_method_2_code 5 none ({ frames := 2, cells := 0, slots := 0, locals := 24 } : Room) #[.ref p, (.ref sn), (.ref sp), .int bw, .int sc] h0 n0 (Q73 Z p sn sp bw sc h0) := by
  refine Con.of pn7 (Ls := #[.val (.ref p), .val (.ref sn), .val (.ref sp), .val (.int bw), .val (.int sc)]) (fun m => by first | (simp [entryFrame, mkF, argsToLocals, Value.category]; done) | rfl) ?_
  intro G s k
  have KK : Keep h0 h0 [p] := Keep.refl _ _
  have sk := KK.1
  have k : W7 l Z n0 (Q73 Z p sn sp bw sc h0) G s h0 0 0 1 #[.val (.ref p), .val (.ref sn), .val (.ref sp), .val (.int bw), .val (.int sc)] [(.ref p)] := k.aloadN d7_0 rfl rfl
  obtain ⟨v39, h39, ⟨rfl, rfl⟩, k⟩ := k.callN rfl (hw _ (List.mem_of_getElem? (i := 36) rfl)) (hw _ (List.mem_of_getElem? (i := 37) rfl)) (hw _ (List.mem_of_getElem? (i := 39) rfl)) (hw _ (List.mem_of_getElem? (i := 40) rfl)) (by decide) (con6 l Z a0 hw p h0 n0) (argsL := []) (rest := []) (lenOf pd6 rfl) d7_1 rfl rfl 0 (Nat.le_of_eq rfl) (by decide) (by decide) (by decide) (by decide)
  have k : W7 l Z n0 (Q73 Z p sn sp bw sc h0) G s h0 0 0 4 #[.val (.ref p), .val (.ref sn), .val (.ref sp), .val (.int bw), .val (.int sc)] [] := k
  have k : W7 l Z n0 (Q73 Z p sn sp bw sc h0) G s h0 0 0 6 #[.val (.ref p), .val (.ref sn), .val (.ref sp), .val (.int bw), .val (.int sc)] [(.ref sn), (.ref p)] := (k.aloadN d7_4 rfl rfl).aloadN d7_5 rfl rfl
  obtain ⟨h40, W40, K40, F1', E', k⟩ := k.putF (ty := (.object "java/lang/String")) (hw _ (List.mem_of_getElem? (i := 42) rfl)) F1 E (Or.inr ⟨(hw _ (List.mem_of_getElem? (i := 43) rfl)), rfl, rfl⟩) (hw _ (List.mem_of_getElem? (i := 31) rfl)) (by decide) rfl rfl n_p d7_6
  have F2 := Fld.other W40 F2 (Or.inr (slot_ne (C := "com/example/amherst/amherst/storage/SearchIndex") (Or.inr (hw _ (List.mem_of_getElem? (i := 45) rfl))) (Or.inr (hw _ (List.mem_of_getElem? (i := 43) rfl))) (by decide) (t := (.object "java/lang/String")) (t' := (.object "java/lang/String")) (by decide) (by decide)))
  have F3 := Fld.other W40 F3 (Or.inr (slot_ne (C := "com/example/amherst/amherst/storage/SearchIndex") (Or.inr (hw _ (List.mem_of_getElem? (i := 47) rfl))) (Or.inr (hw _ (List.mem_of_getElem? (i := 43) rfl))) (by decide) (t := .boolean) (t' := (.object "java/lang/String")) (by decide) (by decide)))
  have F4 := Fld.other W40 F4 (Or.inr (slot_ne (C := "com/example/amherst/amherst/storage/SearchIndex") (Or.inr (hw _ (List.mem_of_getElem? (i := 49) rfl))) (Or.inr (hw _ (List.mem_of_getElem? (i := 43) rfl))) (by decide) (t := .boolean) (t' := (.object "java/lang/String")) (by decide) (by decide)))
  have KK : Keep h0 _ [p] := KK.trans K40 (allS (Or.inl (by simp)) all0)
  have sk := KK.1
  have F1 := F1'
  have E := E'
  have s_h40 : n0 ≤ h40.size := Nat.le_trans (by omega) K40.1
  have k : W7 l Z n0 (Q73 Z p sn sp bw sc h0) G s h40 0 0 9 #[.val (.ref p), .val (.ref sn), .val (.ref sp), .val (.int bw), .val (.int sc)] [] := k
  have k : W7 l Z n0 (Q73 Z p sn sp bw sc h0) G s h40 0 0 11 #[.val (.ref p), .val (.ref sn), .val (.ref sp), .val (.int bw), .val (.int sc)] [(.ref sp), (.ref p)] := (k.aloadN d7_9 rfl rfl).aloadN d7_10 rfl rfl
  obtain ⟨h41, W41, K41, F2', E', k⟩ := k.putF (ty := (.object "java/lang/String")) (hw _ (List.mem_of_getElem? (i := 44) rfl)) F2 E (Or.inr ⟨(hw _ (List.mem_of_getElem? (i := 45) rfl)), rfl, rfl⟩) (hw _ (List.mem_of_getElem? (i := 31) rfl)) (by decide) rfl rfl n_p d7_11
  have F1 := Fld.other W41 F1 (Or.inr (slot_ne (C := "com/example/amherst/amherst/storage/SearchIndex") (Or.inr (hw _ (List.mem_of_getElem? (i := 43) rfl))) (Or.inr (hw _ (List.mem_of_getElem? (i := 45) rfl))) (by decide) (t := (.object "java/lang/String")) (t' := (.object "java/lang/String")) (by decide) (by decide)))
  have F3 := Fld.other W41 F3 (Or.inr (slot_ne (C := "com/example/amherst/amherst/storage/SearchIndex") (Or.inr (hw _ (List.mem_of_getElem? (i := 47) rfl))) (Or.inr (hw _ (List.mem_of_getElem? (i := 45) rfl))) (by decide) (t := .boolean) (t' := (.object "java/lang/String")) (by decide) (by decide)))
  have F4 := Fld.other W41 F4 (Or.inr (slot_ne (C := "com/example/amherst/amherst/storage/SearchIndex") (Or.inr (hw _ (List.mem_of_getElem? (i := 49) rfl))) (Or.inr (hw _ (List.mem_of_getElem? (i := 45) rfl))) (by decide) (t := .boolean) (t' := (.object "java/lang/String")) (by decide) (by decide)))
  have KK : Keep h0 _ [p] := KK.trans K41 (allS (Or.inl (by simp)) all0)
  have sk := KK.1
  have F2 := F2'
  have E := E'
  have s_h41 : n0 ≤ h41.size := Nat.le_trans (by omega) K41.1
  have k : W7 l Z n0 (Q73 Z p sn sp bw sc h0) G s h41 0 0 14 #[.val (.ref p), .val (.ref sn), .val (.ref sp), .val (.int bw), .val (.int sc)] [] := k
  have k : W7 l Z n0 (Q73 Z p sn sp bw sc h0) G s h41 0 0 16 #[.val (.ref p), .val (.ref sn), .val (.ref sp), .val (.int bw), .val (.int sc)] [(.int bw), (.ref p)] := (k.aloadN d7_14 rfl rfl).iloadN d7_15 rfl
  obtain ⟨h42, W42, K42, F3', E', k⟩ := k.putF (ty := .boolean) (hw _ (List.mem_of_getElem? (i := 46) rfl)) F3 E (Or.inr ⟨(hw _ (List.mem_of_getElem? (i := 47) rfl)), rfl, rfl⟩) (hw _ (List.mem_of_getElem? (i := 31) rfl)) (by decide) (own_nz h_bw) (own_fz h_bw) n_p d7_16
  have F1 := Fld.other W42 F1 (Or.inr (slot_ne (C := "com/example/amherst/amherst/storage/SearchIndex") (Or.inr (hw _ (List.mem_of_getElem? (i := 43) rfl))) (Or.inr (hw _ (List.mem_of_getElem? (i := 47) rfl))) (by decide) (t := (.object "java/lang/String")) (t' := .boolean) (by decide) (by decide)))
  have F2 := Fld.other W42 F2 (Or.inr (slot_ne (C := "com/example/amherst/amherst/storage/SearchIndex") (Or.inr (hw _ (List.mem_of_getElem? (i := 45) rfl))) (Or.inr (hw _ (List.mem_of_getElem? (i := 47) rfl))) (by decide) (t := (.object "java/lang/String")) (t' := .boolean) (by decide) (by decide)))
  have F4 := Fld.other W42 F4 (Or.inr (slot_ne (C := "com/example/amherst/amherst/storage/SearchIndex") (Or.inr (hw _ (List.mem_of_getElem? (i := 49) rfl))) (Or.inr (hw _ (List.mem_of_getElem? (i := 47) rfl))) (by decide) (t := .boolean) (t' := .boolean) (by decide) (by decide)))
  have KK : Keep h0 _ [p] := KK.trans K42 (allS (Or.inl (by simp)) all0)
  have sk := KK.1
  have F3 := F3'
  have E := E'
  have s_h42 : n0 ≤ h42.size := Nat.le_trans (by omega) K42.1
  have k : W7 l Z n0 (Q73 Z p sn sp bw sc h0) G s h42 0 0 19 #[.val (.ref p), .val (.ref sn), .val (.ref sp), .val (.int bw), .val (.int sc)] [] := k
  have k : W7 l Z n0 (Q73 Z p sn sp bw sc h0) G s h42 0 0 22 #[.val (.ref p), .val (.ref sn), .val (.ref sp), .val (.int bw), .val (.int sc)] [(.int sc), (.ref p)] := (k.aloadN d7_19 rfl rfl).iload d7_20 rfl
  obtain ⟨h43, W43, K43, F4', E', k⟩ := k.putF (ty := .boolean) (hw _ (List.mem_of_getElem? (i := 48) rfl)) F4 E (Or.inr ⟨(hw _ (List.mem_of_getElem? (i := 49) rfl)), rfl, rfl⟩) (hw _ (List.mem_of_getElem? (i := 31) rfl)) (by decide) (own_nz h_sc) (own_fz h_sc) n_p d7_22
  have F1 := Fld.other W43 F1 (Or.inr (slot_ne (C := "com/example/amherst/amherst/storage/SearchIndex") (Or.inr (hw _ (List.mem_of_getElem? (i := 43) rfl))) (Or.inr (hw _ (List.mem_of_getElem? (i := 49) rfl))) (by decide) (t := (.object "java/lang/String")) (t' := .boolean) (by decide) (by decide)))
  have F2 := Fld.other W43 F2 (Or.inr (slot_ne (C := "com/example/amherst/amherst/storage/SearchIndex") (Or.inr (hw _ (List.mem_of_getElem? (i := 45) rfl))) (Or.inr (hw _ (List.mem_of_getElem? (i := 49) rfl))) (by decide) (t := (.object "java/lang/String")) (t' := .boolean) (by decide) (by decide)))
  have F3 := Fld.other W43 F3 (Or.inr (slot_ne (C := "com/example/amherst/amherst/storage/SearchIndex") (Or.inr (hw _ (List.mem_of_getElem? (i := 47) rfl))) (Or.inr (hw _ (List.mem_of_getElem? (i := 49) rfl))) (by decide) (t := .boolean) (t' := .boolean) (by decide) (by decide)))
  have KK : Keep h0 _ [p] := KK.trans K43 (allS (Or.inl (by simp)) all0)
  have sk := KK.1
  have F4 := F4'
  have E := E'
  have s_h43 : n0 ≤ h43.size := Nat.le_trans (by omega) K43.1
  have k : W7 l Z n0 (Q73 Z p sn sp bw sc h0) G s h43 0 0 25 #[.val (.ref p), .val (.ref sn), .val (.ref sp), .val (.int bw), .val (.int sc)] [] := k
  exact k.outN d7_25 (by decide) (by decide) ⟨rfl, KK, E, F1, F2, F3, F4⟩
abbrev Q83 (Z : State) (sn sp : Nat) (bw : Int32) (h0 : Heap) : Option Value → Heap → Prop := fun v h => ∃ r : Nat, v = some (.ref r) ∧ h0.size ≤ r ∧ Keep h0 h [] ∧ Exa Z h r "com/example/amherst/amherst/storage/SearchIndex" ∧ Fld Z h r "com/example/amherst/amherst/storage/SearchIndex" "name" "Ljava/lang/String;" (.ref sn) ∧ Fld Z h r "com/example/amherst/amherst/storage/SearchIndex" "property" "Ljava/lang/String;" (.ref sp) ∧ Fld Z h r "com/example/amherst/amherst/storage/SearchIndex" "byWords" "Z" (.int bw) ∧ Fld Z h r "com/example/amherst/amherst/storage/SearchIndex" "serverChoice" "Z" (.int (1 : Int32))
set_option maxRecDepth 65536 in
set_option maxHeartbeats 40000000 in
theorem con83 (l : Launch) (Z : State) (a0 : Array Value) (hw : ∀ d ∈ tables_1, d.before a0 Z = true) (p : Nat) (sn sp : Nat) (bw : Int32) (h_bw : bw = 0 ∨ bw = 1) (h0 : Heap) (n0 : Nat) (s_h0 : n0 ≤ h0.size) (E : Exa Z h0 p "com/example/amherst/amherst/storage/SearchIndex") (F1 : Fld Z h0 p "com/example/amherst/amherst/storage/SearchIndex" "name" "Ljava/lang/String;" (.ref sn)) (F2 : Fld Z h0 p "com/example/amherst/amherst/storage/SearchIndex" "property" "Ljava/lang/String;" (.ref sp)) (F3 : Fld Z h0 p "com/example/amherst/amherst/storage/SearchIndex" "byWords" "Z" (.int bw)) : Con l Z (⟨"com/example/amherst/amherst/storage/SearchIndex", "asServerChoice", "()Lcom/example/amherst/amherst/storage/SearchIndex;"⟩ : MethodName) prog_33_method_3_code 1 (some (.object "com/example/amherst/amherst/storage/SearchIndex")) ({ frames := 3, cells := 1, slots := 4, locals := 48 } : Room) #[.ref p] h0 n0 (Q83 Z sn sp bw h0) := by
  refine Con.of pn8 (Ls := #[.val (.ref p)]) (fun m => by first | (simp [entryFrame, mkF, argsToLocals, Value.category]; done) | rfl) ?_
  intro G s k
  have KK : Keep h0 h0 [] := Keep.refl _ _
  have sk := KK.1
  obtain ⟨h44, K44, E44, D44, k⟩ := k.newO (hw _ (List.mem_of_getElem? (i := 55) rfl)) (hw _ (List.mem_of_getElem? (i := 31) rfl)) (hw _ (List.mem_of_getElem? (i := 32) rfl)) d8_0 (by decide) (by decide)
  obtain ⟨a44, ea44⟩ : ∃ z, z = h0.size := ⟨_, rfl⟩
  rw [← ea44] at E44 D44 k
  have n_a44 : n0 ≤ a44 := by omega
  have o_p_a44 : p < a44 := by have q : p < h0.size := E.lt; omega
  have KK : Keep h0 _ [] := KK.trans K44 all0
  have sk := KK.1
  have E := E.keep K44
  have F1 := F1.keep K44 nin0
  have F2 := F2.keep K44 nin0
  have F3 := F3.keep K44 nin0
  have F44_name : Fld Z h44 a44 "com/example/amherst/amherst/storage/SearchIndex" "name" "Ljava/lang/String;" .null := D44 (Or.inr (hw _ (List.mem_of_getElem? (i := 43) rfl))) (ty := (.object "java/lang/String")) (by decide)
  have F44_property : Fld Z h44 a44 "com/example/amherst/amherst/storage/SearchIndex" "property" "Ljava/lang/String;" .null := D44 (Or.inr (hw _ (List.mem_of_getElem? (i := 45) rfl))) (ty := (.object "java/lang/String")) (by decide)
  have F44_byWords : Fld Z h44 a44 "com/example/amherst/amherst/storage/SearchIndex" "byWords" "Z" (.int (0 : Int32)) := D44 (Or.inr (hw _ (List.mem_of_getElem? (i := 47) rfl))) (ty := .boolean) (by decide)
  have F44_serverChoice : Fld Z h44 a44 "com/example/amherst/amherst/storage/SearchIndex" "serverChoice" "Z" (.int (0 : Int32)) := D44 (Or.inr (hw _ (List.mem_of_getElem? (i := 49) rfl))) (ty := .boolean) (by decide)
  have s_h44 : n0 ≤ h44.size := Nat.le_trans (by omega) K44.1
  have k : W8 l Z n0 (Q83 Z sn sp bw h0) G s h44 1 4 3 #[.val (.ref p)] [(.ref a44)] := k
  have k : W8 l Z n0 (Q83 Z sn sp bw h0) G s h44 1 4 13 #[.val (.ref p)] [(.ref p), (.ref sp), (.ref sn), (.ref a44), (.ref a44)] := (((((k.dup d8_3 rfl).aloadN d8_4 rfl rfl).getF (hw _ (List.mem_of_getElem? (i := 42) rfl)) F1 d8_5).aloadN d8_8 rfl rfl).getF (hw _ (List.mem_of_getElem? (i := 44) rfl)) F2 d8_9).aloadN d8_12 rfl rfl
  have k : W8 l Z n0 (Q83 Z sn sp bw h0) G s h44 1 4 17 #[.val (.ref p)] [(.int (1 : Int32)), (.int bw), (.ref sp), (.ref sn), (.ref a44), (.ref a44)] := (k.getF (hw _ (List.mem_of_getElem? (i := 46) rfl)) F3 d8_13).iconst (1) d8_16 rfl
  obtain ⟨v45, h45, ⟨rfl, K45, E45, F145, F245, F345, F445⟩, k⟩ := k.callN rfl (hw _ (List.mem_of_getElem? (i := 56) rfl)) (hw _ (List.mem_of_getElem? (i := 34) rfl)) (hw _ (List.mem_of_getElem? (i := 32) rfl)) (hw _ (List.mem_of_getElem? (i := 35) rfl)) (by decide) (con73 l Z a0 hw a44 sn sp bw (1 : Int32) h_bw (Or.inr rfl) h44 n0 (by omega) n_a44 E44 F44_name F44_property F44_byWords F44_serverChoice) (argsL := [(.ref sn), (.ref sp), (.int bw), (.int (1 : Int32))]) (rest := [(.ref a44)]) (lenOf pd7 rfl) d8_17 rfl rfl 1 (Nat.le_of_eq rfl) (by decide) (by decide) (by decide) (by decide)
  have KK : Keep h0 _ [] := KK.trans K45 (allS (Or.inr (by omega)) all0)
  have sk := KK.1
  have E := E.keep K45
  have F1 := F1.keep K45 (nS (by omega) nin0)
  have F2 := F2.keep K45 (nS (by omega) nin0)
  have F3 := F3.keep K45 (nS (by omega) nin0)
  have s_h45 : n0 ≤ h45.size := Nat.le_trans (by omega) K45.1
  have k : W8 l Z n0 (Q83 Z sn sp bw h0) G s h45 1 4 20 #[.val (.ref p)] [(.ref a44)] := k
  exact k.outA rfl rfl d8_20 (by decide) (by decide) ⟨a44, rfl, by omega, KK, E45, F145, F245, F345, F445⟩
theorem d9n_0 : decode prog_33_method_7_code 0 = .ok (.aload_n 0, 1) := by decide +kernel
theorem d9n_1 : decode prog_33_method_7_code 1 = .ok (.getfield 7, 3) := by decide +kernel
theorem d9n_4 : decode prog_33_method_7_code 4 = .ok (.areturn, 1) := by decide +kernel
theorem pn9n : plainFor (⟨"com/example/amherst/amherst/storage/SearchIndex", "name", "()Ljava/lang/String;"⟩ : MethodName) = true := plainFor_of_name (show plainName "com/example/amherst/amherst/storage/SearchIndex" = true by first | (simp [plainName, overriddenIn]; done) | decide +kernel)
theorem pd9n : parseMethodDescriptor "()Ljava/lang/String;" = some ⟨[], some (.object "java/lang/String")⟩ := by decide +kernel
abbrev W9n (l : Launch) (Z : State) (n0 : Nat) (P : Option Value → Heap → Prop) (G : Prop) (s : State) := Wk l Z ({ frames := 0, cells := 0, slots := 0, locals := 0 } : Room) (⟨"com/example/amherst/amherst/storage/SearchIndex", "name", "()Ljava/lang/String;"⟩ : MethodName) prog_33_method_7_code 1 (some (.object "java/lang/String")) n0 (Ex s ({ frames := 0, cells := 0, slots := 0, locals := 0 } : Room) n0 P G) s
abbrev Q9n (w : Value) (h0 : Heap) : Option Value → Heap → Prop := fun v h => h0 = h ∧ v = some w
set_option maxRecDepth 65536 in
set_option maxHeartbeats 40000000 in
theorem con9n (l : Launch) (Z : State) (a0 : Array Value) (hw : ∀ d ∈ tables_1, d.before a0 Z = true) (p : Nat) (w : Value) (hr : w.isRef = true) (h0 : Heap) (n0 : Nat) (F1 : Fld Z h0 p "com/example/amherst/amherst/storage/SearchIndex" "name" "Ljava/lang/String;" w) : Con l Z (⟨"com/example/amherst/amherst/storage/SearchIndex", "name", "()Ljava/lang/String;"⟩ : MethodName) prog_33_method_7_code 1 (some (.object "java/lang/String")) ({ frames := 0, cells := 0, slots := 0, locals := 0 } : Room) #[.ref p] h0 n0 (Q9n w h0) := by
  refine Con.of pn9n (Ls := #[.val (.ref p)]) (fun m => by first | (simp [entryFrame, mkF, argsToLocals, Value.category]; done) | rfl) ?_
  intro G s k
  have k : W9n l Z n0 (Q9n w h0) G s h0 0 0 4 #[.val (.ref p)] [w] := (k.aloadN d9n_0 rfl rfl).getF (hw _ (List.mem_of_getElem? (i := 42) rfl)) F1 d9n_1
  exact k.outA rfl hr d9n_4 (by decide) (by decide) ⟨rfl, rfl⟩
theorem d9p_0 : decode prog_33_method_8_code 0 = .ok (.aload_n 0, 1) := by decide +kernel
theorem d9p_1 : decode prog_33_method_8_code 1 = .ok (.getfield 13, 3) := by decide +kernel
theorem d9p_4 : decode prog_33_method_8_code 4 = .ok (.areturn, 1) := by decide +kernel
theorem pn9p : plainFor (⟨"com/example/amherst/amherst/storage/SearchIndex", "property", "()Ljava/lang/String;"⟩ : MethodName) = true := plainFor_of_name (show plainName "com/example/amherst/amherst/storage/SearchIndex" = true by first | (simp [plainName, overriddenIn]; done) | decide +kernel)
theorem pd9p : parseMethodDescriptor "()Ljava/lang/String;" = some ⟨[], some (.object "java/lang/String")⟩ := by decide +kernel
abbrev W9p (l : Launch) (Z : State) (n0 : Nat) (P : Option Value → Heap → Prop) (G : Prop) (s : State) := Wk l Z ({ frames := 0, cells := 0, slots := 0, locals := 0 } : Room) (⟨"com/example/amherst/amherst/storage/SearchIndex", "property", "()Ljava/lang/String;"⟩ : MethodName) prog_33_method_8_code 1 (some (.object "java/lang/String")) n0 (Ex s ({ frames := 0, cells := 0, slots := 0, locals := 0 } : Room) n0 P G) s
abbrev Q9p (w : Value) (h0 : Heap) : Option Value → Heap → Prop := fun v h => h0 = h ∧ v = some w
set_option maxRecDepth 65536 in
set_option maxHeartbeats 40000000 in
theorem con9p (l : Launch) (Z : State) (a0 : Array Value) (hw : ∀ d ∈ tables_1, d.before a0 Z = true) (p : Nat) (w : Value) (hr : w.isRef = true) (h0 : Heap) (n0 : Nat) (F1 : Fld Z h0 p "com/example/amherst/amherst/storage/SearchIndex" "property" "Ljava/lang/String;" w) : Con l Z (⟨"com/example/amherst/amherst/storage/SearchIndex", "property", "()Ljava/lang/String;"⟩ : MethodName) prog_33_method_8_code 1 (some (.object "java/lang/String")) ({ frames := 0, cells := 0, slots := 0, locals := 0 } : Room) #[.ref p] h0 n0 (Q9p w h0) := by
  refine Con.of pn9p (Ls := #[.val (.ref p)]) (fun m => by first | (simp [entryFrame, mkF, argsToLocals, Value.category]; done) | rfl) ?_
  intro G s k
  have k : W9p l Z n0 (Q9p w h0) G s h0 0 0 4 #[.val (.ref p)] [w] := (k.aloadN d9p_0 rfl rfl).getF (hw _ (List.mem_of_getElem? (i := 44) rfl)) F1 d9p_1
  exact k.outA rfl hr d9p_4 (by decide) (by decide) ⟨rfl, rfl⟩
theorem d9b_0 : decode prog_33_method_9_code 0 = .ok (.aload_n 0, 1) := by decide +kernel
theorem d9b_1 : decode prog_33_method_9_code 1 = .ok (.getfield 16, 3) := by decide +kernel
theorem d9b_4 : decode prog_33_method_9_code 4 = .ok (.ireturn, 1) := by decide +kernel
theorem pn9b : plainFor (⟨"com/example/amherst/amherst/storage/SearchIndex", "byWords", "()Z"⟩ : MethodName) = true := plainFor_of_name (show plainName "com/example/amherst/amherst/storage/SearchIndex" = true by first | (simp [plainName, overriddenIn]; done) | decide +kernel)
theorem pd9b : parseMethodDescriptor "()Z" = some ⟨[], some .boolean⟩ := by decide +kernel
abbrev W9b (l : Launch) (Z : State) (n0 : Nat) (P : Option Value → Heap → Prop) (G : Prop) (s : State) := Wk l Z ({ frames := 0, cells := 0, slots := 0, locals := 0 } : Room) (⟨"com/example/amherst/amherst/storage/SearchIndex", "byWords", "()Z"⟩ : MethodName) prog_33_method_9_code 1 (some .boolean) n0 (Ex s ({ frames := 0, cells := 0, slots := 0, locals := 0 } : Room) n0 P G) s
abbrev Q9b (w : Int32) (h0 : Heap) : Option Value → Heap → Prop := fun v h => h0 = h ∧ v = some (.int w)
set_option maxRecDepth 65536 in
set_option maxHeartbeats 40000000 in
theorem con9b (l : Launch) (Z : State) (a0 : Array Value) (hw : ∀ d ∈ tables_1, d.before a0 Z = true) (p : Nat) (w : Int32) (hr : w = 0 ∨ w = 1) (h0 : Heap) (n0 : Nat) (F1 : Fld Z h0 p "com/example/amherst/amherst/storage/SearchIndex" "byWords" "Z" (.int w)) : Con l Z (⟨"com/example/amherst/amherst/storage/SearchIndex", "byWords", "()Z"⟩ : MethodName) prog_33_method_9_code 1 (some .boolean) ({ frames := 0, cells := 0, slots := 0, locals := 0 } : Room) #[.ref p] h0 n0 (Q9b w h0) := by
  refine Con.of pn9b (Ls := #[.val (.ref p)]) (fun m => by first | (simp [entryFrame, mkF, argsToLocals, Value.category]; done) | rfl) ?_
  intro G s k
  have k : W9b l Z n0 (Q9b w h0) G s h0 0 0 4 #[.val (.ref p)] [(.int w)] := (k.aloadN d9b_0 rfl rfl).getF (hw _ (List.mem_of_getElem? (i := 46) rfl)) F1 d9b_1
  exact k.outZ hr d9b_4 (by decide) (by decide) ⟨rfl, rfl⟩
theorem d9s_0 : decode prog_33_method_10_code 0 = .ok (.aload_n 0, 1) := by decide +kernel
theorem d9s_1 : decode prog_33_method_10_code 1 = .ok (.getfield 20, 3) := by decide +kernel
theorem d9s_4 : decode prog_33_method_10_code 4 = .ok (.ireturn, 1) := by decide +kernel
theorem pn9s : plainFor (⟨"com/example/amherst/amherst/storage/SearchIndex", "serverChoice", "()Z"⟩ : MethodName) = true := plainFor_of_name (show plainName "com/example/amherst/amherst/storage/SearchIndex" = true by first | (simp [plainName, overriddenIn]; done) | decide +kernel)
theorem pd9s : parseMethodDescriptor "()Z" = some ⟨[], some .boolean⟩ := by decide +kernel
abbrev W9s (l : Launch) (Z : State) (n0 : Nat) (P : Option Value → Heap → Prop) (G : Prop) (s : State) := Wk l Z ({ frames := 0, cells := 0, slots := 0, locals := 0 } : Room) (⟨"com/example/amherst/amherst/storage/SearchIndex", "serverChoice", "()Z"⟩ : MethodName) prog_33_method_10_code 1 (some .boolean) n0 (Ex s ({ frames := 0, cells := 0, slots := 0, locals := 0 } : Room) n0 P G) s
abbrev Q9s (w : Int32) (h0 : Heap) : Option Value → Heap → Prop := fun v h => h0 = h ∧ v = some (.int w)
set_option maxRecDepth 65536 in
set_option maxHeartbeats 40000000 in
theorem con9s (l : Launch) (Z : State) (a0 : Array Value) (hw : ∀ d ∈ tables_1, d.before a0 Z = true) (p : Nat) (w : Int32) (hr : w = 0 ∨ w = 1) (h0 : Heap) (n0 : Nat) (F1 : Fld Z h0 p "com/example/amherst/amherst/storage/SearchIndex" "serverChoice" "Z" (.int w)) : Con l Z (⟨"com/example/amherst/amherst/storage/SearchIndex", "serverChoice", "()Z"⟩ : MethodName) prog_33_method_10_code 1 (some .boolean) ({ frames := 0, cells := 0, slots := 0, locals := 0 } : Room) #[.ref p] h0 n0 (Q9s w h0) := by
  refine Con.of pn9s (Ls := #[.val (.ref p)]) (fun m => by first | (simp [entryFrame, mkF, argsToLocals, Value.category]; done) | rfl) ?_
  intro G s k
  have k : W9s l Z n0 (Q9s w h0) G s h0 0 0 4 #[.val (.ref p)] [(.int w)] := (k.aloadN d9s_0 rfl rfl).getF (hw _ (List.mem_of_getElem? (i := 48) rfl)) F1 d9s_1
  exact k.outZ hr d9s_4 (by decide) (by decide) ⟨rfl, rfl⟩
theorem de_0 : decode jdk_42_method_66_code 0 = .ok (.aload_n 0, 1) := by decide +kernel
theorem de_1 : decode jdk_42_method_66_code 1 = .ok (.aload_n 1, 1) := by decide +kernel
theorem de_2 : decode jdk_42_method_66_code 2 = .ok (.if_acmp .ne 5, 3) := by decide +kernel
theorem de_5 : decode jdk_42_method_66_code 5 = .ok (.iconst 1, 1) := by decide +kernel
theorem de_6 : decode jdk_42_method_66_code 6 = .ok (.ireturn, 1) := by decide +kernel
theorem pne : plainFor (⟨"java/lang/String", "equals", "(Ljava/lang/Object;)Z"⟩ : MethodName) = true := plainFor_of_name (show plainName "java/lang/String" = true by first | (simp [plainName, overriddenIn]; done) | decide +kernel)
theorem pde : parseMethodDescriptor "(Ljava/lang/Object;)Z" = some ⟨[(.object "java/lang/Object")], some .boolean⟩ := by decide +kernel
abbrev We (l : Launch) (Z : State) (n0 : Nat) (P : Option Value → Heap → Prop) (G : Prop) (s : State) := Wk l Z ({ frames := 0, cells := 0, slots := 0, locals := 0 } : Room) (⟨"java/lang/String", "equals", "(Ljava/lang/Object;)Z"⟩ : MethodName) jdk_42_method_66_code 3 (some .boolean) n0 (Ex s ({ frames := 0, cells := 0, slots := 0, locals := 0 } : Room) n0 P G) s
abbrev Qe (h0 : Heap) : Option Value → Heap → Prop := fun v h => h0 = h ∧ v = some (.int (1 : Int32))
set_option maxRecDepth 65536 in
set_option maxHeartbeats 40000000 in
theorem cone (l : Launch) (Z : State) (a0 : Array Value) (hw : ∀ d ∈ tables_1, d.before a0 Z = true) (a : Nat) (h0 : Heap) (n0 : Nat) : Con l Z (⟨"java/lang/String", "equals", "(Ljava/lang/Object;)Z"⟩ : MethodName) jdk_42_method_66_code 3 (some .boolean) ({ frames := 0, cells := 0, slots := 0, locals := 0 } : Room) #[.ref a, .ref a] h0 n0 (Qe h0) := by
  refine Con.of pne (Ls := #[.val (.ref a), .val (.ref a), .unset]) (fun m => by first | (simp [entryFrame, mkF, argsToLocals, Value.category]; done) | rfl) ?_
  intro G s k
  have k : We l Z n0 (Qe h0) G s h0 0 0 2 #[.val (.ref a), .val (.ref a), .unset] [(.ref a), (.ref a)] := (k.aloadN de_0 rfl rfl).aloadN de_1 rfl rfl
  have k : We l Z n0 (Qe h0) G s h0 0 0 5 #[.val (.ref a), .val (.ref a), .unset] [] := k.acF de_2 rfl rfl (XT.aa_ne_f rfl)
  have k : We l Z n0 (Qe h0) G s h0 0 0 6 #[.val (.ref a), .val (.ref a), .unset] [(.int (1 : Int32))] := k.iconst (1) de_5 rfl
  exact k.outZ (Or.inr rfl) de_6 (by decide) (by decide) ⟨rfl, rfl⟩
theorem ds_0 : decode method_2_code 0 = .ok (.aload_n 0, 1) := by decide +kernel
theorem ds_1 : decode method_2_code 1 = .ok (.ifnonnull 13, 3) := by decide +kernel
theorem ds_4 : decode method_2_code 4 = .ok (.aload_n 1, 1) := by decide +kernel
theorem ds_5 : decode method_2_code 5 = .ok (.ifnonnull 7, 3) := by decide +kernel
theorem ds_8 : decode method_2_code 8 = .ok (.iconst 1, 1) := by decide +kernel
theorem ds_9 : decode method_2_code 9 = .ok (.goto 4, 3) := by decide +kernel
theorem ds_13 : decode method_2_code 13 = .ok (.ireturn, 1) := by decide +kernel
theorem ds_14 : decode method_2_code 14 = .ok (.aload_n 0, 1) := by decide +kernel
theorem ds_15 : decode method_2_code 15 = .ok (.aload_n 1, 1) := by decide +kernel
theorem ds_16 : decode method_2_code 16 = .ok (.invokevirtual 7, 3) := by decide +kernel
theorem ds_19 : decode method_2_code 19 = .ok (.ireturn, 1) := by decide +kernel
theorem pns : plainFor (⟨"com/example/amherst/amherst/storage/SearchIndexAsServerChoicePinLaw", "same", "(Ljava/lang/String;Ljava/lang/String;)Z"⟩ : MethodName) = true := plainFor_of_name (show plainName "com/example/amherst/amherst/storage/SearchIndexAsServerChoicePinLaw" = true by first | (simp [plainName, overriddenIn]; done) | decide +kernel)
theorem pds : parseMethodDescriptor "(Ljava/lang/String;Ljava/lang/String;)Z" = some ⟨[(.object "java/lang/String"), (.object "java/lang/String")], some .boolean⟩ := by decide +kernel
abbrev Ws (l : Launch) (Z : State) (n0 : Nat) (P : Option Value → Heap → Prop) (G : Prop) (s : State) := Wk l Z ({ frames := 1, cells := 0, slots := 0, locals := 14 } : Room) (⟨"com/example/amherst/amherst/storage/SearchIndexAsServerChoicePinLaw", "same", "(Ljava/lang/String;Ljava/lang/String;)Z"⟩ : MethodName) method_2_code 2 (some .boolean) n0 (Ex s ({ frames := 1, cells := 0, slots := 0, locals := 14 } : Room) n0 P G) s
set_option maxRecDepth 65536 in
set_option maxHeartbeats 40000000 in
theorem consN (l : Launch) (Z : State) (a0 : Array Value) (hw : ∀ d ∈ tables_1, d.before a0 Z = true) (h0 : Heap) (n0 : Nat) : Con l Z (⟨"com/example/amherst/amherst/storage/SearchIndexAsServerChoicePinLaw", "same", "(Ljava/lang/String;Ljava/lang/String;)Z"⟩ : MethodName) method_2_code 2 (some .boolean) ({ frames := 1, cells := 0, slots := 0, locals := 14 } : Room) #[.null, .null] h0 n0 (Qe h0) := by
  refine Con.of pns (Ls := #[.val .null, .val .null]) (fun m => by first | (simp [entryFrame, mkF, argsToLocals, Value.category]; done) | rfl) ?_
  intro G s k
  have k : Ws l Z n0 (Qe h0) G s h0 0 0 4 #[.val .null, .val .null] [] := (k.aloadN ds_0 rfl rfl).nnF ds_1
  have k : Ws l Z n0 (Qe h0) G s h0 0 0 8 #[.val .null, .val .null] [] := (k.aloadN ds_4 rfl rfl).nnF ds_5
  have k : Ws l Z n0 (Qe h0) G s h0 0 0 13 #[.val .null, .val .null] [(.int (1 : Int32))] := (k.iconst (1) ds_8 rfl).goto (pc' := 13) ds_9 (by decide)
  exact k.outZ (Or.inr rfl) ds_13 (by decide) (by decide) ⟨rfl, rfl⟩
set_option maxRecDepth 65536 in
set_option maxHeartbeats 40000000 in
theorem consR (l : Launch) (Z : State) (a0 : Array Value) (hw : ∀ d ∈ tables_1, d.before a0 Z = true) (a : Nat) (h0 : Heap) (n0 : Nat) (E : Exa Z h0 a "java/lang/String") : Con l Z (⟨"com/example/amherst/amherst/storage/SearchIndexAsServerChoicePinLaw", "same", "(Ljava/lang/String;Ljava/lang/String;)Z"⟩ : MethodName) method_2_code 2 (some .boolean) ({ frames := 1, cells := 0, slots := 0, locals := 14 } : Room) #[.ref a, .ref a] h0 n0 (Qe h0) := by
  refine Con.of pns (Ls := #[.val (.ref a), .val (.ref a)]) (fun m => by first | (simp [entryFrame, mkF, argsToLocals, Value.category]; done) | rfl) ?_
  intro G s k
  have k : Ws l Z n0 (Qe h0) G s h0 0 0 14 #[.val (.ref a), .val (.ref a)] [] := (k.aloadN ds_0 rfl rfl).nnT (pc' := 14) ds_1 (by decide)
  have k : Ws l Z n0 (Qe h0) G s h0 0 0 16 #[.val (.ref a), .val (.ref a)] [(.ref a), (.ref a)] := (k.aloadN ds_14 rfl rfl).aloadN ds_15 rfl rfl
  obtain ⟨v46, h46, ⟨rfl, rfl⟩, k⟩ := k.callV (hw _ (List.mem_of_getElem? (i := 66) rfl)) (hw _ (List.mem_of_getElem? (i := 67) rfl)) (hw _ (List.mem_of_getElem? (i := 68) rfl)) (hw _ (List.mem_of_getElem? (i := 69) rfl)) rfl (hw _ (List.mem_of_getElem? (i := 3) rfl)) (hw _ (List.mem_of_getElem? (i := 70) rfl)) (by decide) E (cone l Z a0 hw a h0 n0) (argsL := [(.ref a)]) (rest := []) (lenOf pde rfl) ds_16 rfl rfl 0 (Nat.le_of_eq rfl) (by decide) (by decide) (by decide) (by decide)
  have k : Ws l Z n0 (Qe h0) G s h0 0 0 19 #[.val (.ref a), .val (.ref a)] [(.int (1 : Int32))] := k
  exact k.outZ (Or.inr rfl) ds_19 (by decide) (by decide) ⟨rfl, rfl⟩
theorem pn0 : plainFor x = true := plainFor_of_name (show plainName "com/example/amherst/amherst/storage/SearchIndexAsServerChoicePinLaw" = true by first | (simp [plainName, overriddenIn]; done) | decide +kernel)
abbrev W0 (l : Launch) (Z : State) (n0 : Nat) (P : Option Value → Heap → Prop) (G : Prop) (s : State) := Wk l Z room_1 x code maxLocals ret n0 (Ex s room_1 n0 P G) s
abbrev Q0 : Option Value → Heap → Prop := fun v h => v = some (.int 1)
set_option maxRecDepth 65536 in
set_option maxHeartbeats 40000000 in
theorem con0 (l : Launch) (Z : State) (a0 : Array Value) (hw : ∀ d ∈ tables_1, d.before a0 Z = true) (p0 p1 p2 p3 : Int32) (h0 : Heap) (n0 : Nat) (Z0 : n0 ≤ h0.size) (zc : Int32) (S : Sta Z Z.heap "java/lang/String" "COMPACT_STRINGS" "Z" (.int zc)) (hzc : ¬ zc = 0) (O : Old Z n0 h0) : Con l Z x code maxLocals ret room_1 #[.int p0, .int p1, .int p2, .int p3] h0 n0 Q0 := by
  refine Con.of pn0 (Ls := #[.val (.int p0), .val (.int p1), .val (.int p2), .val (.int p3), .unset, .unset, .unset, .unset, .unset, .unset, .unset, .unset]) (fun m => by first | (simp [entryFrame, mkF, argsToLocals, Value.category, maxLocals]; done) | rfl) ?_
  intro G s k
  have k : W0 l Z n0 Q0 G s h0 0 0 1 #[.val (.int p0), .val (.int p1), .val (.int p2), .val (.int p3), .unset, .unset, .unset, .unset, .unset, .unset, .unset, .unset] [(.int (2 : Int32))] := k.iconst (2) at_0 rfl
  obtain ⟨h47, K47, A47, k⟩ := k.newA (hw _ (List.mem_of_getElem? (i := 0) rfl)) at_1 2 rfl (by decide) (by decide) (by decide) (by decide)
  obtain ⟨a47, ea47⟩ : ∃ z, z = h0.size := ⟨_, rfl⟩
  rw [← ea47] at A47 k
  have n_a47 : n0 ≤ a47 := by omega
  have O := O.keep K47 all0
  have A47 : AV Z h47 a47 .char [(.int (0 : Int32)), (.int (0 : Int32))] := A47
  have s_h47 : n0 ≤ h47.size := Nat.le_trans (by omega) K47.1
  have k : W0 l Z n0 Q0 G s h47 1 2 3 #[.val (.int p0), .val (.int p1), .val (.int p2), .val (.int p3), .unset, .unset, .unset, .unset, .unset, .unset, .unset, .unset] [(.ref a47)] := k
  have k : W0 l Z n0 Q0 G s h47 1 2 13 #[.val (.int p0), .val (.int p1), .val (.int p2), .val (.int p3), .val (.ref a47), .unset, .unset, .unset, .unset, .unset, .unset, .unset] [(.int (p0 &&& (255 : Int32))), (.int (0 : Int32)), (.ref a47)] := (((((k.astore at_3 rfl (Ls' := #[.val (.int p0), .val (.int p1), .val (.int p2), .val (.int p3), .val (.ref a47), .unset, .unset, .unset, .unset, .unset, .unset, .unset]) rfl).aload at_5 rfl rfl).iconst (0) at_7 rfl).iloadN at_8 rfl).sipush (255) at_9 rfl).iand at_12
  have k : W0 l Z n0 Q0 G s h47 1 2 14 #[.val (.int p0), .val (.int p1), .val (.int p2), .val (.int p3), .val (.ref a47), .unset, .unset, .unset, .unset, .unset, .unset, .unset] [(.int ((p0 &&& (255 : Int32)).toUInt32.toUInt16.toUInt32.toInt32)), (.int (0 : Int32)), (.ref a47)] := k.i2c at_13
  obtain ⟨h48, K48, A47', k⟩ := k.stC A47 0 rfl (by decide) (by simp) n_a47 at_14
  have O := O.keep K48 (allS (by omega) all0)
  have A47 : AV Z h48 a47 .char [(.int (nar .char ((p0 &&& (255 : Int32)).toUInt32.toUInt16.toUInt32.toInt32))), (.int (0 : Int32))] := A47'
  have s_h48 : n0 ≤ h48.size := Nat.le_trans (by omega) K48.1
  have k : W0 l Z n0 Q0 G s h48 1 2 15 #[.val (.int p0), .val (.int p1), .val (.int p2), .val (.int p3), .val (.ref a47), .unset, .unset, .unset, .unset, .unset, .unset, .unset] [] := k
  have k : W0 l Z n0 Q0 G s h48 1 2 24 #[.val (.int p0), .val (.int p1), .val (.int p2), .val (.int p3), .val (.ref a47), .unset, .unset, .unset, .unset, .unset, .unset, .unset] [(.int ((p1 &&& (255 : Int32)).toUInt32.toUInt16.toUInt32.toInt32)), (.int (1 : Int32)), (.ref a47)] := (((((k.aload at_15 rfl rfl).iconst (1) at_17 rfl).iloadN at_18 rfl).sipush (255) at_19 rfl).iand at_22).i2c at_23
  obtain ⟨h49, K49, A47', k⟩ := k.stC A47 1 rfl (by decide) (by simp) n_a47 at_24
  have O := O.keep K49 (allS (by omega) all0)
  have A47 : AV Z h49 a47 .char [(.int (nar .char ((p0 &&& (255 : Int32)).toUInt32.toUInt16.toUInt32.toInt32))), (.int (nar .char ((p1 &&& (255 : Int32)).toUInt32.toUInt16.toUInt32.toInt32)))] := A47'
  have s_h49 : n0 ≤ h49.size := Nat.le_trans (by omega) K49.1
  have k : W0 l Z n0 Q0 G s h49 1 2 25 #[.val (.int p0), .val (.int p1), .val (.int p2), .val (.int p3), .val (.ref a47), .unset, .unset, .unset, .unset, .unset, .unset, .unset] [] := k
  have k : W0 l Z n0 Q0 G s h49 1 2 26 #[.val (.int p0), .val (.int p1), .val (.int p2), .val (.int p3), .val (.ref a47), .unset, .unset, .unset, .unset, .unset, .unset, .unset] [(.int (1 : Int32))] := k.iconst (1) at_25 rfl
  obtain ⟨h50, K50, A50, k⟩ := k.newA (hw _ (List.mem_of_getElem? (i := 0) rfl)) at_26 1 rfl (by decide) (by decide) (by decide) (by decide)
  obtain ⟨a50, ea50⟩ : ∃ z, z = h49.size := ⟨_, rfl⟩
  rw [← ea50] at A50 k
  have n_a50 : n0 ≤ a50 := by omega
  have o_a47_a50 : a47 < a50 := by have q : a47 < h49.size := A47.lt; omega
  have O := O.keep K50 all0
  have A47 := A47.keep K50 nin0
  have A50 : AV Z h50 a50 .char [(.int (0 : Int32))] := A50
  have s_h50 : n0 ≤ h50.size := Nat.le_trans (by omega) K50.1
  have k : W0 l Z n0 Q0 G s h50 2 3 28 #[.val (.int p0), .val (.int p1), .val (.int p2), .val (.int p3), .val (.ref a47), .unset, .unset, .unset, .unset, .unset, .unset, .unset] [(.ref a50)] := k
  have k : W0 l Z n0 Q0 G s h50 2 3 38 #[.val (.int p0), .val (.int p1), .val (.int p2), .val (.int p3), .val (.ref a47), .val (.ref a50), .unset, .unset, .unset, .unset, .unset, .unset] [(.int (p2 &&& (255 : Int32))), (.int (0 : Int32)), (.ref a50)] := (((((k.astore at_28 rfl (Ls' := #[.val (.int p0), .val (.int p1), .val (.int p2), .val (.int p3), .val (.ref a47), .val (.ref a50), .unset, .unset, .unset, .unset, .unset, .unset]) rfl).aload at_30 rfl rfl).iconst (0) at_32 rfl).iloadN at_33 rfl).sipush (255) at_34 rfl).iand at_37
  have k : W0 l Z n0 Q0 G s h50 2 3 39 #[.val (.int p0), .val (.int p1), .val (.int p2), .val (.int p3), .val (.ref a47), .val (.ref a50), .unset, .unset, .unset, .unset, .unset, .unset] [(.int ((p2 &&& (255 : Int32)).toUInt32.toUInt16.toUInt32.toInt32)), (.int (0 : Int32)), (.ref a50)] := k.i2c at_38
  obtain ⟨h51, K51, A50', k⟩ := k.stC A50 0 rfl (by decide) (by simp) n_a50 at_39
  have O := O.keep K51 (allS (by omega) all0)
  have A47 := A47.keep K51 (nS (by omega) nin0)
  have A50 : AV Z h51 a50 .char [(.int (nar .char ((p2 &&& (255 : Int32)).toUInt32.toUInt16.toUInt32.toInt32)))] := A50'
  have s_h51 : n0 ≤ h51.size := Nat.le_trans (by omega) K51.1
  have k : W0 l Z n0 Q0 G s h51 2 3 40 #[.val (.int p0), .val (.int p1), .val (.int p2), .val (.int p3), .val (.ref a47), .val (.ref a50), .unset, .unset, .unset, .unset, .unset, .unset] [] := k
  have k : W0 l Z n0 Q0 G s h51 2 3 43 #[.val (.int p0), .val (.int p1), .val (.int p2), .val (.int p3), .val (.ref a47), .val (.ref a50), .unset, .unset, .unset, .unset, .unset, .unset] [(.int (p3 &&& (4 : Int32)))] := ((k.iloadN at_40 rfl).iconst (4) at_41 rfl).iand at_42
  by_cases c52 : (p3 &&& (4 : Int32)) = 0
  · have k : W0 l Z n0 Q0 G s h51 2 3 50 #[.val (.int p0), .val (.int p1), .val (.int p2), .val (.int p3), .val (.ref a47), .val (.ref a50), .unset, .unset, .unset, .unset, .unset, .unset] [] := k.ifT (pc' := 50) at_43 (XT.i0_eq_t c52) (by decide)
    obtain ⟨h53, K53, E53, D53, k⟩ := k.newO (hw _ (List.mem_of_getElem? (i := 1) rfl)) (hw _ (List.mem_of_getElem? (i := 2) rfl)) (hw _ (List.mem_of_getElem? (i := 3) rfl)) at_50 (by decide) (by decide)
    obtain ⟨a53, ea53⟩ : ∃ z, z = h51.size := ⟨_, rfl⟩
    rw [← ea53] at E53 D53 k
    have n_a53 : n0 ≤ a53 := by omega
    have o_a47_a53 : a47 < a53 := by have q : a47 < h51.size := A47.lt; omega
    have o_a50_a53 : a50 < a53 := by have q : a50 < h51.size := A50.lt; omega
    have O := O.keep K53 all0
    have A47 := A47.keep K53 nin0
    have A50 := A50.keep K53 nin0
    have F53_coder : Fld Z h53 a53 "java/lang/String" "coder" "B" (.int (0 : Int32)) := D53 (Or.inr (hw _ (List.mem_of_getElem? (i := 27) rfl))) (ty := .byte) (by decide)
    have F53_value : Fld Z h53 a53 "java/lang/String" "value" "[B" .null := D53 (Or.inr (hw _ (List.mem_of_getElem? (i := 29) rfl))) (ty := (.array .byte)) (by decide)
    have s_h53 : n0 ≤ h53.size := Nat.le_trans (by omega) K53.1
    have k : W0 l Z n0 Q0 G s h53 3 7 53 #[.val (.int p0), .val (.int p1), .val (.int p2), .val (.int p3), .val (.ref a47), .val (.ref a50), .unset, .unset, .unset, .unset, .unset, .unset] [(.ref a53)] := k
    have k : W0 l Z n0 Q0 G s h53 3 7 56 #[.val (.int p0), .val (.int p1), .val (.int p2), .val (.int p3), .val (.ref a47), .val (.ref a50), .unset, .unset, .unset, .unset, .unset, .unset] [(.ref a47), (.ref a53), (.ref a53)] := (k.dup at_53 rfl).aload at_54 rfl rfl
    obtain ⟨v54, h54, ⟨rfl, K54⟩, k⟩ := k.callN rfl (hw _ (List.mem_of_getElem? (i := 4) rfl)) (hw _ (List.mem_of_getElem? (i := 5) rfl)) (hw _ (List.mem_of_getElem? (i := 3) rfl)) (hw _ (List.mem_of_getElem? (i := 6) rfl)) (by decide) (con52 l Z a0 hw a53 a47 _ _ h53 n0 (by omega) n_a53 zc S hzc O E53 F53_coder F53_value A47 (own_chr p0) (own_chr p1)) (argsL := [(.ref a47)]) (rest := [(.ref a53)]) (lenOf pd5 rfl) at_56 rfl rfl 1 (Nat.le_of_eq rfl) (by decide) (by decide) (by decide) (by decide)
    have O := O.keep K54 (allS (by omega) all0)
    have A47 := A47.keep K54 (nS (by omega) nin0)
    have A50 := A50.keep K54 (nS (by omega) nin0)
    have E53 := E53.keep K54
    have s_h54 : n0 ≤ h54.size := Nat.le_trans (by omega) K54.1
    have k : W0 l Z n0 Q0 G s h54 4 9 59 #[.val (.int p0), .val (.int p1), .val (.int p2), .val (.int p3), .val (.ref a47), .val (.ref a50), .unset, .unset, .unset, .unset, .unset, .unset] [(.ref a53)] := k
    have k : W0 l Z n0 Q0 G s h54 4 9 61 #[.val (.int p0), .val (.int p1), .val (.int p2), .val (.int p3), .val (.ref a47), .val (.ref a50), .val (.ref a53), .unset, .unset, .unset, .unset, .unset] [] := k.astore at_59 rfl (Ls' := #[.val (.int p0), .val (.int p1), .val (.int p2), .val (.int p3), .val (.ref a47), .val (.ref a50), .val (.ref a53), .unset, .unset, .unset, .unset, .unset]) rfl
    have k : W0 l Z n0 Q0 G s h54 4 9 65 #[.val (.int p0), .val (.int p1), .val (.int p2), .val (.int p3), .val (.ref a47), .val (.ref a50), .val (.ref a53), .unset, .unset, .unset, .unset, .unset] [(.int (p3 &&& (8 : Int32)))] := ((k.iloadN at_61 rfl).bipush (8) at_62 rfl).iand at_64
    by_cases c55 : (p3 &&& (8 : Int32)) = 0
    · have k : W0 l Z n0 Q0 G s h54 4 9 72 #[.val (.int p0), .val (.int p1), .val (.int p2), .val (.int p3), .val (.ref a47), .val (.ref a50), .val (.ref a53), .unset, .unset, .unset, .unset, .unset] [] := k.ifT (pc' := 72) at_65 (XT.i0_eq_t c55) (by decide)
      obtain ⟨h56, K56, E56, D56, k⟩ := k.newO (hw _ (List.mem_of_getElem? (i := 1) rfl)) (hw _ (List.mem_of_getElem? (i := 2) rfl)) (hw _ (List.mem_of_getElem? (i := 3) rfl)) at_72 (by decide) (by decide)
      obtain ⟨a56, ea56⟩ : ∃ z, z = h54.size := ⟨_, rfl⟩
      rw [← ea56] at E56 D56 k
      have n_a56 : n0 ≤ a56 := by omega
      have o_a47_a56 : a47 < a56 := by have q : a47 < h54.size := A47.lt; omega
      have o_a50_a56 : a50 < a56 := by have q : a50 < h54.size := A50.lt; omega
      have o_a53_a56 : a53 < a56 := by have q : a53 < h54.size := E53.lt; omega
      have O := O.keep K56 all0
      have A47 := A47.keep K56 nin0
      have A50 := A50.keep K56 nin0
      have E53 := E53.keep K56
      have F56_coder : Fld Z h56 a56 "java/lang/String" "coder" "B" (.int (0 : Int32)) := D56 (Or.inr (hw _ (List.mem_of_getElem? (i := 27) rfl))) (ty := .byte) (by decide)
      have F56_value : Fld Z h56 a56 "java/lang/String" "value" "[B" .null := D56 (Or.inr (hw _ (List.mem_of_getElem? (i := 29) rfl))) (ty := (.array .byte)) (by decide)
      have s_h56 : n0 ≤ h56.size := Nat.le_trans (by omega) K56.1
      have k : W0 l Z n0 Q0 G s h56 5 13 75 #[.val (.int p0), .val (.int p1), .val (.int p2), .val (.int p3), .val (.ref a47), .val (.ref a50), .val (.ref a53), .unset, .unset, .unset, .unset, .unset] [(.ref a56)] := k
      have k : W0 l Z n0 Q0 G s h56 5 13 78 #[.val (.int p0), .val (.int p1), .val (.int p2), .val (.int p3), .val (.ref a47), .val (.ref a50), .val (.ref a53), .unset, .unset, .unset, .unset, .unset] [(.ref a50), (.ref a56), (.ref a56)] := (k.dup at_75 rfl).aload at_76 rfl rfl
      obtain ⟨v57, h57, ⟨rfl, K57⟩, k⟩ := k.callN rfl (hw _ (List.mem_of_getElem? (i := 4) rfl)) (hw _ (List.mem_of_getElem? (i := 5) rfl)) (hw _ (List.mem_of_getElem? (i := 3) rfl)) (hw _ (List.mem_of_getElem? (i := 6) rfl)) (by decide) (con51 l Z a0 hw a56 a50 _ h56 n0 (by omega) n_a56 zc S hzc O E56 F56_coder F56_value A50 (own_chr p2)) (argsL := [(.ref a50)]) (rest := [(.ref a56)]) (lenOf pd5 rfl) at_78 rfl rfl 1 (Nat.le_of_eq rfl) (by decide) (by decide) (by decide) (by decide)
      have O := O.keep K57 (allS (by omega) all0)
      have A47 := A47.keep K57 (nS (by omega) nin0)
      have A50 := A50.keep K57 (nS (by omega) nin0)
      have E53 := E53.keep K57
      have E56 := E56.keep K57
      have s_h57 : n0 ≤ h57.size := Nat.le_trans (by omega) K57.1
      have k : W0 l Z n0 Q0 G s h57 6 14 81 #[.val (.int p0), .val (.int p1), .val (.int p2), .val (.int p3), .val (.ref a47), .val (.ref a50), .val (.ref a53), .unset, .unset, .unset, .unset, .unset] [(.ref a56)] := k
      have k : W0 l Z n0 Q0 G s h57 6 14 83 #[.val (.int p0), .val (.int p1), .val (.int p2), .val (.int p3), .val (.ref a47), .val (.ref a50), .val (.ref a53), .val (.ref a56), .unset, .unset, .unset, .unset] [] := k.astore at_81 rfl (Ls' := #[.val (.int p0), .val (.int p1), .val (.int p2), .val (.int p3), .val (.ref a47), .val (.ref a50), .val (.ref a53), .val (.ref a56), .unset, .unset, .unset, .unset]) rfl
      have k : W0 l Z n0 Q0 G s h57 6 14 86 #[.val (.int p0), .val (.int p1), .val (.int p2), .val (.int p3), .val (.ref a47), .val (.ref a50), .val (.ref a53), .val (.ref a56), .unset, .unset, .unset, .unset] [(.int (p3 &&& (1 : Int32)))] := ((k.iloadN at_83 rfl).iconst (1) at_84 rfl).iand at_85
      obtain ⟨bw, h_bw, k⟩ : ∃ bw : Int32, (bw = 0 ∨ bw = 1) ∧ W0 l Z n0 Q0 G s h57 6 14 94 #[.val (.int p0), .val (.int p1), .val (.int p2), .val (.int p3), .val (.ref a47), .val (.ref a50), .val (.ref a53), .val (.ref a56), .unset, .unset, .unset, .unset] [(.int bw)] := by
        by_cases c58 : (p3 &&& (1 : Int32)) = 0
        · have k : W0 l Z n0 Q0 G s h57 6 14 93 #[.val (.int p0), .val (.int p1), .val (.int p2), .val (.int p3), .val (.ref a47), .val (.ref a50), .val (.ref a53), .val (.ref a56), .unset, .unset, .unset, .unset] [] := k.ifT (pc' := 93) at_86 (XT.i0_eq_t c58) (by decide)
          have k : W0 l Z n0 Q0 G s h57 6 14 94 #[.val (.int p0), .val (.int p1), .val (.int p2), .val (.int p3), .val (.ref a47), .val (.ref a50), .val (.ref a53), .val (.ref a56), .unset, .unset, .unset, .unset] [(.int (0 : Int32))] := k.iconst (0) at_93 rfl
          exact ⟨(0 : Int32), Or.inl rfl, k⟩
        · have k : W0 l Z n0 Q0 G s h57 6 14 89 #[.val (.int p0), .val (.int p1), .val (.int p2), .val (.int p3), .val (.ref a47), .val (.ref a50), .val (.ref a53), .val (.ref a56), .unset, .unset, .unset, .unset] [] := k.ifF at_86 (XT.i0_eq_f c58)
          have k : W0 l Z n0 Q0 G s h57 6 14 94 #[.val (.int p0), .val (.int p1), .val (.int p2), .val (.int p3), .val (.ref a47), .val (.ref a50), .val (.ref a53), .val (.ref a56), .unset, .unset, .unset, .unset] [(.int (1 : Int32))] := (k.iconst (1) at_89 rfl).goto (pc' := 94) at_90 (by decide)
          exact ⟨(1 : Int32), Or.inr rfl, k⟩
      have k : W0 l Z n0 Q0 G s h57 6 14 99 #[.val (.int p0), .val (.int p1), .val (.int p2), .val (.int p3), .val (.ref a47), .val (.ref a50), .val (.ref a53), .val (.ref a56), .val (.int bw), .unset, .unset, .unset] [(.int (p3 &&& (2 : Int32)))] := (((k.istore at_94 (Ls' := #[.val (.int p0), .val (.int p1), .val (.int p2), .val (.int p3), .val (.ref a47), .val (.ref a50), .val (.ref a53), .val (.ref a56), .val (.int bw), .unset, .unset, .unset]) rfl).iloadN at_96 rfl).iconst (2) at_97 rfl).iand at_98
      obtain ⟨sc, h_sc, k⟩ : ∃ sc : Int32, (sc = 0 ∨ sc = 1) ∧ W0 l Z n0 Q0 G s h57 6 14 107 #[.val (.int p0), .val (.int p1), .val (.int p2), .val (.int p3), .val (.ref a47), .val (.ref a50), .val (.ref a53), .val (.ref a56), .val (.int bw), .unset, .unset, .unset] [(.int sc)] := by
        by_cases c59 : (p3 &&& (2 : Int32)) = 0
        · have k : W0 l Z n0 Q0 G s h57 6 14 106 #[.val (.int p0), .val (.int p1), .val (.int p2), .val (.int p3), .val (.ref a47), .val (.ref a50), .val (.ref a53), .val (.ref a56), .val (.int bw), .unset, .unset, .unset] [] := k.ifT (pc' := 106) at_99 (XT.i0_eq_t c59) (by decide)
          have k : W0 l Z n0 Q0 G s h57 6 14 107 #[.val (.int p0), .val (.int p1), .val (.int p2), .val (.int p3), .val (.ref a47), .val (.ref a50), .val (.ref a53), .val (.ref a56), .val (.int bw), .unset, .unset, .unset] [(.int (0 : Int32))] := k.iconst (0) at_106 rfl
          exact ⟨(0 : Int32), Or.inl rfl, k⟩
        · have k : W0 l Z n0 Q0 G s h57 6 14 102 #[.val (.int p0), .val (.int p1), .val (.int p2), .val (.int p3), .val (.ref a47), .val (.ref a50), .val (.ref a53), .val (.ref a56), .val (.int bw), .unset, .unset, .unset] [] := k.ifF at_99 (XT.i0_eq_f c59)
          have k : W0 l Z n0 Q0 G s h57 6 14 107 #[.val (.int p0), .val (.int p1), .val (.int p2), .val (.int p3), .val (.ref a47), .val (.ref a50), .val (.ref a53), .val (.ref a56), .val (.int bw), .unset, .unset, .unset] [(.int (1 : Int32))] := (k.iconst (1) at_102 rfl).goto (pc' := 107) at_103 (by decide)
          exact ⟨(1 : Int32), Or.inr rfl, k⟩
      have k : W0 l Z n0 Q0 G s h57 6 14 109 #[.val (.int p0), .val (.int p1), .val (.int p2), .val (.int p3), .val (.ref a47), .val (.ref a50), .val (.ref a53), .val (.ref a56), .val (.int bw), .val (.int sc), .unset, .unset] [] := k.istore at_107 (Ls' := #[.val (.int p0), .val (.int p1), .val (.int p2), .val (.int p3), .val (.ref a47), .val (.ref a50), .val (.ref a53), .val (.ref a56), .val (.int bw), .val (.int sc), .unset, .unset]) rfl
      obtain ⟨h60, K60, E60, D60, k⟩ := k.newO (hw _ (List.mem_of_getElem? (i := 30) rfl)) (hw _ (List.mem_of_getElem? (i := 31) rfl)) (hw _ (List.mem_of_getElem? (i := 32) rfl)) at_109 (by decide) (by decide)
      obtain ⟨a60, ea60⟩ : ∃ z, z = h57.size := ⟨_, rfl⟩
      rw [← ea60] at E60 D60 k
      have n_a60 : n0 ≤ a60 := by omega
      have o_a47_a60 : a47 < a60 := by have q : a47 < h57.size := A47.lt; omega
      have o_a50_a60 : a50 < a60 := by have q : a50 < h57.size := A50.lt; omega
      have o_a53_a60 : a53 < a60 := by have q : a53 < h57.size := E53.lt; omega
      have o_a56_a60 : a56 < a60 := by have q : a56 < h57.size := E56.lt; omega
      have O := O.keep K60 all0
      have A47 := A47.keep K60 nin0
      have A50 := A50.keep K60 nin0
      have E53 := E53.keep K60
      have E56 := E56.keep K60
      have F60_name : Fld Z h60 a60 "com/example/amherst/amherst/storage/SearchIndex" "name" "Ljava/lang/String;" .null := D60 (Or.inr (hw _ (List.mem_of_getElem? (i := 43) rfl))) (ty := (.object "java/lang/String")) (by decide)
      have F60_property : Fld Z h60 a60 "com/example/amherst/amherst/storage/SearchIndex" "property" "Ljava/lang/String;" .null := D60 (Or.inr (hw _ (List.mem_of_getElem? (i := 45) rfl))) (ty := (.object "java/lang/String")) (by decide)
      have F60_byWords : Fld Z h60 a60 "com/example/amherst/amherst/storage/SearchIndex" "byWords" "Z" (.int (0 : Int32)) := D60 (Or.inr (hw _ (List.mem_of_getElem? (i := 47) rfl))) (ty := .boolean) (by decide)
      have F60_serverChoice : Fld Z h60 a60 "com/example/amherst/amherst/storage/SearchIndex" "serverChoice" "Z" (.int (0 : Int32)) := D60 (Or.inr (hw _ (List.mem_of_getElem? (i := 49) rfl))) (ty := .boolean) (by decide)
      have s_h60 : n0 ≤ h60.size := Nat.le_trans (by omega) K60.1
      have k : W0 l Z n0 Q0 G s h60 7 18 112 #[.val (.int p0), .val (.int p1), .val (.int p2), .val (.int p3), .val (.ref a47), .val (.ref a50), .val (.ref a53), .val (.ref a56), .val (.int bw), .val (.int sc), .unset, .unset] [(.ref a60)] := k
      have k : W0 l Z n0 Q0 G s h60 7 18 121 #[.val (.int p0), .val (.int p1), .val (.int p2), .val (.int p3), .val (.ref a47), .val (.ref a50), .val (.ref a53), .val (.ref a56), .val (.int bw), .val (.int sc), .unset, .unset] [(.int sc), (.int bw), (.ref a56), (.ref a53), (.ref a60), (.ref a60)] := ((((k.dup at_112 rfl).aload at_113 rfl rfl).aload at_115 rfl rfl).iload at_117 rfl).iload at_119 rfl
      obtain ⟨v61, h61, ⟨rfl, K61, E61, F161, F261, F361, F461⟩, k⟩ := k.callN rfl (hw _ (List.mem_of_getElem? (i := 33) rfl)) (hw _ (List.mem_of_getElem? (i := 34) rfl)) (hw _ (List.mem_of_getElem? (i := 32) rfl)) (hw _ (List.mem_of_getElem? (i := 35) rfl)) (by decide) (con73 l Z a0 hw a60 a53 a56 bw sc h_bw h_sc h60 n0 (by omega) n_a60 E60 F60_name F60_property F60_byWords F60_serverChoice) (argsL := [(.ref a53), (.ref a56), (.int bw), (.int sc)]) (rest := [(.ref a60)]) (lenOf pd7 rfl) at_121 rfl rfl 1 (Nat.le_of_eq rfl) (by decide) (by decide) (by decide) (by decide)
      have O := O.keep K61 (allS (by omega) all0)
      have A47 := A47.keep K61 (nS (by omega) nin0)
      have A50 := A50.keep K61 (nS (by omega) nin0)
      have E53 := E53.keep K61
      have E56 := E56.keep K61
      have s_h61 : n0 ≤ h61.size := Nat.le_trans (by omega) K61.1
      have k : W0 l Z n0 Q0 G s h61 7 18 124 #[.val (.int p0), .val (.int p1), .val (.int p2), .val (.int p3), .val (.ref a47), .val (.ref a50), .val (.ref a53), .val (.ref a56), .val (.int bw), .val (.int sc), .unset, .unset] [(.ref a60)] := k
      have k : W0 l Z n0 Q0 G s h61 7 18 128 #[.val (.int p0), .val (.int p1), .val (.int p2), .val (.int p3), .val (.ref a47), .val (.ref a50), .val (.ref a53), .val (.ref a56), .val (.int bw), .val (.int sc), .val (.ref a60), .unset] [(.ref a60)] := (k.astore at_124 rfl (Ls' := #[.val (.int p0), .val (.int p1), .val (.int p2), .val (.int p3), .val (.ref a47), .val (.ref a50), .val (.ref a53), .val (.ref a56), .val (.int bw), .val (.int sc), .val (.ref a60), .unset]) rfl).aload at_126 rfl rfl
      obtain ⟨v62, h62, ⟨r62, rfl, g62, K62, E62, F162, F262, F362, F462⟩, k⟩ := k.callV (hw _ (List.mem_of_getElem? (i := 50) rfl)) (hw _ (List.mem_of_getElem? (i := 51) rfl)) (hw _ (List.mem_of_getElem? (i := 52) rfl)) (hw _ (List.mem_of_getElem? (i := 53) rfl)) rfl (hw _ (List.mem_of_getElem? (i := 32) rfl)) (hw _ (List.mem_of_getElem? (i := 54) rfl)) (by decide) E61 (con83 l Z a0 hw a60 a53 a56 bw h_bw h61 n0 (by omega) E61 F161 F261 F361) (argsL := []) (rest := []) (lenOf pd8 rfl) at_128 rfl rfl 0 (Nat.le_of_eq rfl) (by decide) (by decide) (by decide) (by decide)
      have O := O.keep K62 all0
      have A47 := A47.keep K62 nin0
      have A50 := A50.keep K62 nin0
      have E53 := E53.keep K62
      have E56 := E56.keep K62
      have E61 := E61.keep K62
      have F161 := F161.keep K62 nin0
      have F261 := F261.keep K62 nin0
      have F361 := F361.keep K62 nin0
      have F461 := F461.keep K62 nin0
      have s_h62 : n0 ≤ h62.size := Nat.le_trans (by omega) K62.1
      have k : W0 l Z n0 Q0 G s h62 8 22 131 #[.val (.int p0), .val (.int p1), .val (.int p2), .val (.int p3), .val (.ref a47), .val (.ref a50), .val (.ref a53), .val (.ref a56), .val (.int bw), .val (.int sc), .val (.ref a60), .unset] [(.ref r62)] := k
      have k : W0 l Z n0 Q0 G s h62 8 22 137 #[.val (.int p0), .val (.int p1), .val (.int p2), .val (.int p3), .val (.ref a47), .val (.ref a50), .val (.ref a53), .val (.ref a56), .val (.int bw), .val (.int sc), .val (.ref a60), .val (.ref r62)] [(.ref r62), (.ref a53)] := ((k.astore at_131 rfl (Ls' := #[.val (.int p0), .val (.int p1), .val (.int p2), .val (.int p3), .val (.ref a47), .val (.ref a50), .val (.ref a53), .val (.ref a56), .val (.int bw), .val (.int sc), .val (.ref a60), .val (.ref r62)]) rfl).aload at_133 rfl rfl).aload at_135 rfl rfl
      obtain ⟨v63, h63, ⟨rfl, rfl⟩, k⟩ := k.callV (hw _ (List.mem_of_getElem? (i := 57) rfl)) (hw _ (List.mem_of_getElem? (i := 58) rfl)) (hw _ (List.mem_of_getElem? (i := 59) rfl)) (hw _ (List.mem_of_getElem? (i := 60) rfl)) rfl (hw _ (List.mem_of_getElem? (i := 32) rfl)) (hw _ (List.mem_of_getElem? (i := 61) rfl)) (by decide) E62 (con9n l Z a0 hw r62 (.ref a53) rfl h62 n0 F162) (argsL := []) (rest := [(.ref a53)]) (lenOf pd9n rfl) at_137 rfl rfl 1 (Nat.le_of_eq rfl) (by decide) (by decide) (by decide) (by decide)
      have k : W0 l Z n0 Q0 G s h62 8 22 140 #[.val (.int p0), .val (.int p1), .val (.int p2), .val (.int p3), .val (.ref a47), .val (.ref a50), .val (.ref a53), .val (.ref a56), .val (.int bw), .val (.int sc), .val (.ref a60), .val (.ref r62)] [(.ref a53), (.ref a53)] := k
      obtain ⟨v64, h64, ⟨rfl, rfl⟩, k⟩ := k.callS (hw _ (List.mem_of_getElem? (i := 62) rfl)) (hw _ (List.mem_of_getElem? (i := 63) rfl)) (hw _ (List.mem_of_getElem? (i := 64) rfl)) (hw _ (List.mem_of_getElem? (i := 65) rfl)) (by decide) (consR l Z a0 hw a53 h62 n0 E53) (argsL := [(.ref a53), (.ref a53)]) (rest := []) (lenOf pds rfl) at_140 rfl rfl 0 (Nat.le_of_eq rfl) (by decide) (by decide) (by decide) (by decide)
      have k : W0 l Z n0 Q0 G s h62 8 22 143 #[.val (.int p0), .val (.int p1), .val (.int p2), .val (.int p3), .val (.ref a47), .val (.ref a50), .val (.ref a53), .val (.ref a56), .val (.int bw), .val (.int sc), .val (.ref a60), .val (.ref r62)] [(.int (1 : Int32))] := k
      have k : W0 l Z n0 Q0 G s h62 8 22 146 #[.val (.int p0), .val (.int p1), .val (.int p2), .val (.int p3), .val (.ref a47), .val (.ref a50), .val (.ref a53), .val (.ref a56), .val (.int bw), .val (.int sc), .val (.ref a60), .val (.ref r62)] [] := k.ifF at_143 (XT.i0_eq_f (by decide))
      have k : W0 l Z n0 Q0 G s h62 8 22 150 #[.val (.int p0), .val (.int p1), .val (.int p2), .val (.int p3), .val (.ref a47), .val (.ref a50), .val (.ref a53), .val (.ref a56), .val (.int bw), .val (.int sc), .val (.ref a60), .val (.ref r62)] [(.ref r62), (.ref a56)] := (k.aload at_146 rfl rfl).aload at_148 rfl rfl
      obtain ⟨v65, h65, ⟨rfl, rfl⟩, k⟩ := k.callV (hw _ (List.mem_of_getElem? (i := 71) rfl)) (hw _ (List.mem_of_getElem? (i := 72) rfl)) (hw _ (List.mem_of_getElem? (i := 73) rfl)) (hw _ (List.mem_of_getElem? (i := 74) rfl)) rfl (hw _ (List.mem_of_getElem? (i := 32) rfl)) (hw _ (List.mem_of_getElem? (i := 75) rfl)) (by decide) E62 (con9p l Z a0 hw r62 (.ref a56) rfl h62 n0 F262) (argsL := []) (rest := [(.ref a56)]) (lenOf pd9p rfl) at_150 rfl rfl 1 (Nat.le_of_eq rfl) (by decide) (by decide) (by decide) (by decide)
      have k : W0 l Z n0 Q0 G s h62 8 22 153 #[.val (.int p0), .val (.int p1), .val (.int p2), .val (.int p3), .val (.ref a47), .val (.ref a50), .val (.ref a53), .val (.ref a56), .val (.int bw), .val (.int sc), .val (.ref a60), .val (.ref r62)] [(.ref a56), (.ref a56)] := k
      obtain ⟨v66, h66, ⟨rfl, rfl⟩, k⟩ := k.callS (hw _ (List.mem_of_getElem? (i := 62) rfl)) (hw _ (List.mem_of_getElem? (i := 63) rfl)) (hw _ (List.mem_of_getElem? (i := 64) rfl)) (hw _ (List.mem_of_getElem? (i := 65) rfl)) (by decide) (consR l Z a0 hw a56 h62 n0 E56) (argsL := [(.ref a56), (.ref a56)]) (rest := []) (lenOf pds rfl) at_153 rfl rfl 0 (Nat.le_of_eq rfl) (by decide) (by decide) (by decide) (by decide)
      have k : W0 l Z n0 Q0 G s h62 8 22 156 #[.val (.int p0), .val (.int p1), .val (.int p2), .val (.int p3), .val (.ref a47), .val (.ref a50), .val (.ref a53), .val (.ref a56), .val (.int bw), .val (.int sc), .val (.ref a60), .val (.ref r62)] [(.int (1 : Int32))] := k
      have k : W0 l Z n0 Q0 G s h62 8 22 159 #[.val (.int p0), .val (.int p1), .val (.int p2), .val (.int p3), .val (.ref a47), .val (.ref a50), .val (.ref a53), .val (.ref a56), .val (.int bw), .val (.int sc), .val (.ref a60), .val (.ref r62)] [] := k.ifF at_156 (XT.i0_eq_f (by decide))
      have k : W0 l Z n0 Q0 G s h62 8 22 161 #[.val (.int p0), .val (.int p1), .val (.int p2), .val (.int p3), .val (.ref a47), .val (.ref a50), .val (.ref a53), .val (.ref a56), .val (.int bw), .val (.int sc), .val (.ref a60), .val (.ref r62)] [(.ref r62)] := k.aload at_159 rfl rfl
      obtain ⟨v67, h67, ⟨rfl, rfl⟩, k⟩ := k.callV (hw _ (List.mem_of_getElem? (i := 76) rfl)) (hw _ (List.mem_of_getElem? (i := 77) rfl)) (hw _ (List.mem_of_getElem? (i := 78) rfl)) (hw _ (List.mem_of_getElem? (i := 79) rfl)) rfl (hw _ (List.mem_of_getElem? (i := 32) rfl)) (hw _ (List.mem_of_getElem? (i := 80) rfl)) (by decide) E62 (con9b l Z a0 hw r62 bw h_bw h62 n0 F362) (argsL := []) (rest := []) (lenOf pd9b rfl) at_161 rfl rfl 0 (Nat.le_of_eq rfl) (by decide) (by decide) (by decide) (by decide)
      have k : W0 l Z n0 Q0 G s h62 8 22 164 #[.val (.int p0), .val (.int p1), .val (.int p2), .val (.int p3), .val (.ref a47), .val (.ref a50), .val (.ref a53), .val (.ref a56), .val (.int bw), .val (.int sc), .val (.ref a60), .val (.ref r62)] [(.int bw)] := k
      have k : W0 l Z n0 Q0 G s h62 8 22 166 #[.val (.int p0), .val (.int p1), .val (.int p2), .val (.int p3), .val (.ref a47), .val (.ref a50), .val (.ref a53), .val (.ref a56), .val (.int bw), .val (.int sc), .val (.ref a60), .val (.ref r62)] [(.int bw), (.int bw)] := k.iload at_164 rfl
      have k : W0 l Z n0 Q0 G s h62 8 22 169 #[.val (.int p0), .val (.int p1), .val (.int p2), .val (.int p3), .val (.ref a47), .val (.ref a50), .val (.ref a53), .val (.ref a56), .val (.int bw), .val (.int sc), .val (.ref a60), .val (.ref r62)] [] := k.icF at_166 (XT.ii_ne_f rfl)
      have k : W0 l Z n0 Q0 G s h62 8 22 171 #[.val (.int p0), .val (.int p1), .val (.int p2), .val (.int p3), .val (.ref a47), .val (.ref a50), .val (.ref a53), .val (.ref a56), .val (.int bw), .val (.int sc), .val (.ref a60), .val (.ref r62)] [(.ref r62)] := k.aload at_169 rfl rfl
      obtain ⟨v68, h68, ⟨rfl, rfl⟩, k⟩ := k.callV (hw _ (List.mem_of_getElem? (i := 81) rfl)) (hw _ (List.mem_of_getElem? (i := 82) rfl)) (hw _ (List.mem_of_getElem? (i := 83) rfl)) (hw _ (List.mem_of_getElem? (i := 84) rfl)) rfl (hw _ (List.mem_of_getElem? (i := 32) rfl)) (hw _ (List.mem_of_getElem? (i := 85) rfl)) (by decide) E62 (con9s l Z a0 hw r62 (1 : Int32) (Or.inr rfl) h62 n0 F462) (argsL := []) (rest := []) (lenOf pd9s rfl) at_171 rfl rfl 0 (Nat.le_of_eq rfl) (by decide) (by decide) (by decide) (by decide)
      have k : W0 l Z n0 Q0 G s h62 8 22 174 #[.val (.int p0), .val (.int p1), .val (.int p2), .val (.int p3), .val (.ref a47), .val (.ref a50), .val (.ref a53), .val (.ref a56), .val (.int bw), .val (.int sc), .val (.ref a60), .val (.ref r62)] [(.int (1 : Int32))] := k
      have k : W0 l Z n0 Q0 G s h62 8 22 177 #[.val (.int p0), .val (.int p1), .val (.int p2), .val (.int p3), .val (.ref a47), .val (.ref a50), .val (.ref a53), .val (.ref a56), .val (.int bw), .val (.int sc), .val (.ref a60), .val (.ref r62)] [] := k.ifF at_174 (XT.i0_eq_f (by decide))
      have k : W0 l Z n0 Q0 G s h62 8 22 179 #[.val (.int p0), .val (.int p1), .val (.int p2), .val (.int p3), .val (.ref a47), .val (.ref a50), .val (.ref a53), .val (.ref a56), .val (.int bw), .val (.int sc), .val (.ref a60), .val (.ref r62)] [(.ref a60)] := k.aload at_177 rfl rfl
      obtain ⟨v69, h69, ⟨rfl, rfl⟩, k⟩ := k.callV (hw _ (List.mem_of_getElem? (i := 81) rfl)) (hw _ (List.mem_of_getElem? (i := 82) rfl)) (hw _ (List.mem_of_getElem? (i := 83) rfl)) (hw _ (List.mem_of_getElem? (i := 84) rfl)) rfl (hw _ (List.mem_of_getElem? (i := 32) rfl)) (hw _ (List.mem_of_getElem? (i := 85) rfl)) (by decide) E61 (con9s l Z a0 hw a60 sc h_sc h62 n0 F461) (argsL := []) (rest := []) (lenOf pd9s rfl) at_179 rfl rfl 0 (Nat.le_of_eq rfl) (by decide) (by decide) (by decide) (by decide)
      have k : W0 l Z n0 Q0 G s h62 8 22 182 #[.val (.int p0), .val (.int p1), .val (.int p2), .val (.int p3), .val (.ref a47), .val (.ref a50), .val (.ref a53), .val (.ref a56), .val (.int bw), .val (.int sc), .val (.ref a60), .val (.ref r62)] [(.int sc)] := k
      have k : W0 l Z n0 Q0 G s h62 8 22 184 #[.val (.int p0), .val (.int p1), .val (.int p2), .val (.int p3), .val (.ref a47), .val (.ref a50), .val (.ref a53), .val (.ref a56), .val (.int bw), .val (.int sc), .val (.ref a60), .val (.ref r62)] [(.int sc), (.int sc)] := k.iload at_182 rfl
      have k : W0 l Z n0 Q0 G s h62 8 22 187 #[.val (.int p0), .val (.int p1), .val (.int p2), .val (.int p3), .val (.ref a47), .val (.ref a50), .val (.ref a53), .val (.ref a56), .val (.int bw), .val (.int sc), .val (.ref a60), .val (.ref r62)] [] := k.icF at_184 (XT.ii_ne_f rfl)
      have k : W0 l Z n0 Q0 G s h62 8 22 192 #[.val (.int p0), .val (.int p1), .val (.int p2), .val (.int p3), .val (.ref a47), .val (.ref a50), .val (.ref a53), .val (.ref a56), .val (.int bw), .val (.int sc), .val (.ref a60), .val (.ref r62)] [(.int (1 : Int32))] := (k.iconst (1) at_187 rfl).goto (pc' := 192) at_188 (by decide)
      exact k.outZ (Or.inr rfl) at_192 (by decide) (by decide) rfl
    · have k : W0 l Z n0 Q0 G s h54 4 9 68 #[.val (.int p0), .val (.int p1), .val (.int p2), .val (.int p3), .val (.ref a47), .val (.ref a50), .val (.ref a53), .unset, .unset, .unset, .unset, .unset] [] := k.ifF at_65 (XT.i0_eq_f c55)
      have k : W0 l Z n0 Q0 G s h54 4 9 81 #[.val (.int p0), .val (.int p1), .val (.int p2), .val (.int p3), .val (.ref a47), .val (.ref a50), .val (.ref a53), .unset, .unset, .unset, .unset, .unset] [.null] := (k.anull at_68).goto (pc' := 81) at_69 (by decide)
      have k : W0 l Z n0 Q0 G s h54 4 9 83 #[.val (.int p0), .val (.int p1), .val (.int p2), .val (.int p3), .val (.ref a47), .val (.ref a50), .val (.ref a53), .val .null, .unset, .unset, .unset, .unset] [] := k.astore at_81 rfl (Ls' := #[.val (.int p0), .val (.int p1), .val (.int p2), .val (.int p3), .val (.ref a47), .val (.ref a50), .val (.ref a53), .val .null, .unset, .unset, .unset, .unset]) rfl
      have k : W0 l Z n0 Q0 G s h54 4 9 86 #[.val (.int p0), .val (.int p1), .val (.int p2), .val (.int p3), .val (.ref a47), .val (.ref a50), .val (.ref a53), .val .null, .unset, .unset, .unset, .unset] [(.int (p3 &&& (1 : Int32)))] := ((k.iloadN at_83 rfl).iconst (1) at_84 rfl).iand at_85
      obtain ⟨bw, h_bw, k⟩ : ∃ bw : Int32, (bw = 0 ∨ bw = 1) ∧ W0 l Z n0 Q0 G s h54 4 9 94 #[.val (.int p0), .val (.int p1), .val (.int p2), .val (.int p3), .val (.ref a47), .val (.ref a50), .val (.ref a53), .val .null, .unset, .unset, .unset, .unset] [(.int bw)] := by
        by_cases c70 : (p3 &&& (1 : Int32)) = 0
        · have k : W0 l Z n0 Q0 G s h54 4 9 93 #[.val (.int p0), .val (.int p1), .val (.int p2), .val (.int p3), .val (.ref a47), .val (.ref a50), .val (.ref a53), .val .null, .unset, .unset, .unset, .unset] [] := k.ifT (pc' := 93) at_86 (XT.i0_eq_t c70) (by decide)
          have k : W0 l Z n0 Q0 G s h54 4 9 94 #[.val (.int p0), .val (.int p1), .val (.int p2), .val (.int p3), .val (.ref a47), .val (.ref a50), .val (.ref a53), .val .null, .unset, .unset, .unset, .unset] [(.int (0 : Int32))] := k.iconst (0) at_93 rfl
          exact ⟨(0 : Int32), Or.inl rfl, k⟩
        · have k : W0 l Z n0 Q0 G s h54 4 9 89 #[.val (.int p0), .val (.int p1), .val (.int p2), .val (.int p3), .val (.ref a47), .val (.ref a50), .val (.ref a53), .val .null, .unset, .unset, .unset, .unset] [] := k.ifF at_86 (XT.i0_eq_f c70)
          have k : W0 l Z n0 Q0 G s h54 4 9 94 #[.val (.int p0), .val (.int p1), .val (.int p2), .val (.int p3), .val (.ref a47), .val (.ref a50), .val (.ref a53), .val .null, .unset, .unset, .unset, .unset] [(.int (1 : Int32))] := (k.iconst (1) at_89 rfl).goto (pc' := 94) at_90 (by decide)
          exact ⟨(1 : Int32), Or.inr rfl, k⟩
      have k : W0 l Z n0 Q0 G s h54 4 9 99 #[.val (.int p0), .val (.int p1), .val (.int p2), .val (.int p3), .val (.ref a47), .val (.ref a50), .val (.ref a53), .val .null, .val (.int bw), .unset, .unset, .unset] [(.int (p3 &&& (2 : Int32)))] := (((k.istore at_94 (Ls' := #[.val (.int p0), .val (.int p1), .val (.int p2), .val (.int p3), .val (.ref a47), .val (.ref a50), .val (.ref a53), .val .null, .val (.int bw), .unset, .unset, .unset]) rfl).iloadN at_96 rfl).iconst (2) at_97 rfl).iand at_98
      obtain ⟨sc, h_sc, k⟩ : ∃ sc : Int32, (sc = 0 ∨ sc = 1) ∧ W0 l Z n0 Q0 G s h54 4 9 107 #[.val (.int p0), .val (.int p1), .val (.int p2), .val (.int p3), .val (.ref a47), .val (.ref a50), .val (.ref a53), .val .null, .val (.int bw), .unset, .unset, .unset] [(.int sc)] := by
        by_cases c71 : (p3 &&& (2 : Int32)) = 0
        · have k : W0 l Z n0 Q0 G s h54 4 9 106 #[.val (.int p0), .val (.int p1), .val (.int p2), .val (.int p3), .val (.ref a47), .val (.ref a50), .val (.ref a53), .val .null, .val (.int bw), .unset, .unset, .unset] [] := k.ifT (pc' := 106) at_99 (XT.i0_eq_t c71) (by decide)
          have k : W0 l Z n0 Q0 G s h54 4 9 107 #[.val (.int p0), .val (.int p1), .val (.int p2), .val (.int p3), .val (.ref a47), .val (.ref a50), .val (.ref a53), .val .null, .val (.int bw), .unset, .unset, .unset] [(.int (0 : Int32))] := k.iconst (0) at_106 rfl
          exact ⟨(0 : Int32), Or.inl rfl, k⟩
        · have k : W0 l Z n0 Q0 G s h54 4 9 102 #[.val (.int p0), .val (.int p1), .val (.int p2), .val (.int p3), .val (.ref a47), .val (.ref a50), .val (.ref a53), .val .null, .val (.int bw), .unset, .unset, .unset] [] := k.ifF at_99 (XT.i0_eq_f c71)
          have k : W0 l Z n0 Q0 G s h54 4 9 107 #[.val (.int p0), .val (.int p1), .val (.int p2), .val (.int p3), .val (.ref a47), .val (.ref a50), .val (.ref a53), .val .null, .val (.int bw), .unset, .unset, .unset] [(.int (1 : Int32))] := (k.iconst (1) at_102 rfl).goto (pc' := 107) at_103 (by decide)
          exact ⟨(1 : Int32), Or.inr rfl, k⟩
      have k : W0 l Z n0 Q0 G s h54 4 9 109 #[.val (.int p0), .val (.int p1), .val (.int p2), .val (.int p3), .val (.ref a47), .val (.ref a50), .val (.ref a53), .val .null, .val (.int bw), .val (.int sc), .unset, .unset] [] := k.istore at_107 (Ls' := #[.val (.int p0), .val (.int p1), .val (.int p2), .val (.int p3), .val (.ref a47), .val (.ref a50), .val (.ref a53), .val .null, .val (.int bw), .val (.int sc), .unset, .unset]) rfl
      obtain ⟨h72, K72, E72, D72, k⟩ := k.newO (hw _ (List.mem_of_getElem? (i := 30) rfl)) (hw _ (List.mem_of_getElem? (i := 31) rfl)) (hw _ (List.mem_of_getElem? (i := 32) rfl)) at_109 (by decide) (by decide)
      obtain ⟨a72, ea72⟩ : ∃ z, z = h54.size := ⟨_, rfl⟩
      rw [← ea72] at E72 D72 k
      have n_a72 : n0 ≤ a72 := by omega
      have o_a47_a72 : a47 < a72 := by have q : a47 < h54.size := A47.lt; omega
      have o_a50_a72 : a50 < a72 := by have q : a50 < h54.size := A50.lt; omega
      have o_a53_a72 : a53 < a72 := by have q : a53 < h54.size := E53.lt; omega
      have O := O.keep K72 all0
      have A47 := A47.keep K72 nin0
      have A50 := A50.keep K72 nin0
      have E53 := E53.keep K72
      have F72_name : Fld Z h72 a72 "com/example/amherst/amherst/storage/SearchIndex" "name" "Ljava/lang/String;" .null := D72 (Or.inr (hw _ (List.mem_of_getElem? (i := 43) rfl))) (ty := (.object "java/lang/String")) (by decide)
      have F72_property : Fld Z h72 a72 "com/example/amherst/amherst/storage/SearchIndex" "property" "Ljava/lang/String;" .null := D72 (Or.inr (hw _ (List.mem_of_getElem? (i := 45) rfl))) (ty := (.object "java/lang/String")) (by decide)
      have F72_byWords : Fld Z h72 a72 "com/example/amherst/amherst/storage/SearchIndex" "byWords" "Z" (.int (0 : Int32)) := D72 (Or.inr (hw _ (List.mem_of_getElem? (i := 47) rfl))) (ty := .boolean) (by decide)
      have F72_serverChoice : Fld Z h72 a72 "com/example/amherst/amherst/storage/SearchIndex" "serverChoice" "Z" (.int (0 : Int32)) := D72 (Or.inr (hw _ (List.mem_of_getElem? (i := 49) rfl))) (ty := .boolean) (by decide)
      have s_h72 : n0 ≤ h72.size := Nat.le_trans (by omega) K72.1
      have k : W0 l Z n0 Q0 G s h72 5 13 112 #[.val (.int p0), .val (.int p1), .val (.int p2), .val (.int p3), .val (.ref a47), .val (.ref a50), .val (.ref a53), .val .null, .val (.int bw), .val (.int sc), .unset, .unset] [(.ref a72)] := k
      have k : W0 l Z n0 Q0 G s h72 5 13 121 #[.val (.int p0), .val (.int p1), .val (.int p2), .val (.int p3), .val (.ref a47), .val (.ref a50), .val (.ref a53), .val .null, .val (.int bw), .val (.int sc), .unset, .unset] [(.int sc), (.int bw), .null, (.ref a53), (.ref a72), (.ref a72)] := ((((k.dup at_112 rfl).aload at_113 rfl rfl).aload at_115 rfl rfl).iload at_117 rfl).iload at_119 rfl
      obtain ⟨v73, h73, ⟨rfl, K73, E73, F173, F273, F373, F473⟩, k⟩ := k.callN rfl (hw _ (List.mem_of_getElem? (i := 33) rfl)) (hw _ (List.mem_of_getElem? (i := 34) rfl)) (hw _ (List.mem_of_getElem? (i := 32) rfl)) (hw _ (List.mem_of_getElem? (i := 35) rfl)) (by decide) (con72 l Z a0 hw a72 a53 bw sc h_bw h_sc h72 n0 (by omega) n_a72 E72 F72_name F72_property F72_byWords F72_serverChoice) (argsL := [(.ref a53), .null, (.int bw), (.int sc)]) (rest := [(.ref a72)]) (lenOf pd7 rfl) at_121 rfl rfl 1 (Nat.le_of_eq rfl) (by decide) (by decide) (by decide) (by decide)
      have O := O.keep K73 (allS (by omega) all0)
      have A47 := A47.keep K73 (nS (by omega) nin0)
      have A50 := A50.keep K73 (nS (by omega) nin0)
      have E53 := E53.keep K73
      have s_h73 : n0 ≤ h73.size := Nat.le_trans (by omega) K73.1
      have k : W0 l Z n0 Q0 G s h73 5 13 124 #[.val (.int p0), .val (.int p1), .val (.int p2), .val (.int p3), .val (.ref a47), .val (.ref a50), .val (.ref a53), .val .null, .val (.int bw), .val (.int sc), .unset, .unset] [(.ref a72)] := k
      have k : W0 l Z n0 Q0 G s h73 5 13 128 #[.val (.int p0), .val (.int p1), .val (.int p2), .val (.int p3), .val (.ref a47), .val (.ref a50), .val (.ref a53), .val .null, .val (.int bw), .val (.int sc), .val (.ref a72), .unset] [(.ref a72)] := (k.astore at_124 rfl (Ls' := #[.val (.int p0), .val (.int p1), .val (.int p2), .val (.int p3), .val (.ref a47), .val (.ref a50), .val (.ref a53), .val .null, .val (.int bw), .val (.int sc), .val (.ref a72), .unset]) rfl).aload at_126 rfl rfl
      obtain ⟨v74, h74, ⟨r74, rfl, g74, K74, E74, F174, F274, F374, F474⟩, k⟩ := k.callV (hw _ (List.mem_of_getElem? (i := 50) rfl)) (hw _ (List.mem_of_getElem? (i := 51) rfl)) (hw _ (List.mem_of_getElem? (i := 52) rfl)) (hw _ (List.mem_of_getElem? (i := 53) rfl)) rfl (hw _ (List.mem_of_getElem? (i := 32) rfl)) (hw _ (List.mem_of_getElem? (i := 54) rfl)) (by decide) E73 (con82 l Z a0 hw a72 a53 bw h_bw h73 n0 (by omega) E73 F173 F273 F373) (argsL := []) (rest := []) (lenOf pd8 rfl) at_128 rfl rfl 0 (Nat.le_of_eq rfl) (by decide) (by decide) (by decide) (by decide)
      have O := O.keep K74 all0
      have A47 := A47.keep K74 nin0
      have A50 := A50.keep K74 nin0
      have E53 := E53.keep K74
      have E73 := E73.keep K74
      have F173 := F173.keep K74 nin0
      have F273 := F273.keep K74 nin0
      have F373 := F373.keep K74 nin0
      have F473 := F473.keep K74 nin0
      have s_h74 : n0 ≤ h74.size := Nat.le_trans (by omega) K74.1
      have k : W0 l Z n0 Q0 G s h74 6 17 131 #[.val (.int p0), .val (.int p1), .val (.int p2), .val (.int p3), .val (.ref a47), .val (.ref a50), .val (.ref a53), .val .null, .val (.int bw), .val (.int sc), .val (.ref a72), .unset] [(.ref r74)] := k
      have k : W0 l Z n0 Q0 G s h74 6 17 137 #[.val (.int p0), .val (.int p1), .val (.int p2), .val (.int p3), .val (.ref a47), .val (.ref a50), .val (.ref a53), .val .null, .val (.int bw), .val (.int sc), .val (.ref a72), .val (.ref r74)] [(.ref r74), (.ref a53)] := ((k.astore at_131 rfl (Ls' := #[.val (.int p0), .val (.int p1), .val (.int p2), .val (.int p3), .val (.ref a47), .val (.ref a50), .val (.ref a53), .val .null, .val (.int bw), .val (.int sc), .val (.ref a72), .val (.ref r74)]) rfl).aload at_133 rfl rfl).aload at_135 rfl rfl
      obtain ⟨v75, h75, ⟨rfl, rfl⟩, k⟩ := k.callV (hw _ (List.mem_of_getElem? (i := 57) rfl)) (hw _ (List.mem_of_getElem? (i := 58) rfl)) (hw _ (List.mem_of_getElem? (i := 59) rfl)) (hw _ (List.mem_of_getElem? (i := 60) rfl)) rfl (hw _ (List.mem_of_getElem? (i := 32) rfl)) (hw _ (List.mem_of_getElem? (i := 61) rfl)) (by decide) E74 (con9n l Z a0 hw r74 (.ref a53) rfl h74 n0 F174) (argsL := []) (rest := [(.ref a53)]) (lenOf pd9n rfl) at_137 rfl rfl 1 (Nat.le_of_eq rfl) (by decide) (by decide) (by decide) (by decide)
      have k : W0 l Z n0 Q0 G s h74 6 17 140 #[.val (.int p0), .val (.int p1), .val (.int p2), .val (.int p3), .val (.ref a47), .val (.ref a50), .val (.ref a53), .val .null, .val (.int bw), .val (.int sc), .val (.ref a72), .val (.ref r74)] [(.ref a53), (.ref a53)] := k
      obtain ⟨v76, h76, ⟨rfl, rfl⟩, k⟩ := k.callS (hw _ (List.mem_of_getElem? (i := 62) rfl)) (hw _ (List.mem_of_getElem? (i := 63) rfl)) (hw _ (List.mem_of_getElem? (i := 64) rfl)) (hw _ (List.mem_of_getElem? (i := 65) rfl)) (by decide) (consR l Z a0 hw a53 h74 n0 E53) (argsL := [(.ref a53), (.ref a53)]) (rest := []) (lenOf pds rfl) at_140 rfl rfl 0 (Nat.le_of_eq rfl) (by decide) (by decide) (by decide) (by decide)
      have k : W0 l Z n0 Q0 G s h74 6 17 143 #[.val (.int p0), .val (.int p1), .val (.int p2), .val (.int p3), .val (.ref a47), .val (.ref a50), .val (.ref a53), .val .null, .val (.int bw), .val (.int sc), .val (.ref a72), .val (.ref r74)] [(.int (1 : Int32))] := k
      have k : W0 l Z n0 Q0 G s h74 6 17 146 #[.val (.int p0), .val (.int p1), .val (.int p2), .val (.int p3), .val (.ref a47), .val (.ref a50), .val (.ref a53), .val .null, .val (.int bw), .val (.int sc), .val (.ref a72), .val (.ref r74)] [] := k.ifF at_143 (XT.i0_eq_f (by decide))
      have k : W0 l Z n0 Q0 G s h74 6 17 150 #[.val (.int p0), .val (.int p1), .val (.int p2), .val (.int p3), .val (.ref a47), .val (.ref a50), .val (.ref a53), .val .null, .val (.int bw), .val (.int sc), .val (.ref a72), .val (.ref r74)] [(.ref r74), .null] := (k.aload at_146 rfl rfl).aload at_148 rfl rfl
      obtain ⟨v77, h77, ⟨rfl, rfl⟩, k⟩ := k.callV (hw _ (List.mem_of_getElem? (i := 71) rfl)) (hw _ (List.mem_of_getElem? (i := 72) rfl)) (hw _ (List.mem_of_getElem? (i := 73) rfl)) (hw _ (List.mem_of_getElem? (i := 74) rfl)) rfl (hw _ (List.mem_of_getElem? (i := 32) rfl)) (hw _ (List.mem_of_getElem? (i := 75) rfl)) (by decide) E74 (con9p l Z a0 hw r74 .null rfl h74 n0 F274) (argsL := []) (rest := [.null]) (lenOf pd9p rfl) at_150 rfl rfl 1 (Nat.le_of_eq rfl) (by decide) (by decide) (by decide) (by decide)
      have k : W0 l Z n0 Q0 G s h74 6 17 153 #[.val (.int p0), .val (.int p1), .val (.int p2), .val (.int p3), .val (.ref a47), .val (.ref a50), .val (.ref a53), .val .null, .val (.int bw), .val (.int sc), .val (.ref a72), .val (.ref r74)] [.null, .null] := k
      obtain ⟨v78, h78, ⟨rfl, rfl⟩, k⟩ := k.callS (hw _ (List.mem_of_getElem? (i := 62) rfl)) (hw _ (List.mem_of_getElem? (i := 63) rfl)) (hw _ (List.mem_of_getElem? (i := 64) rfl)) (hw _ (List.mem_of_getElem? (i := 65) rfl)) (by decide) (consN l Z a0 hw h74 n0) (argsL := [.null, .null]) (rest := []) (lenOf pds rfl) at_153 rfl rfl 0 (Nat.le_of_eq rfl) (by decide) (by decide) (by decide) (by decide)
      have k : W0 l Z n0 Q0 G s h74 6 17 156 #[.val (.int p0), .val (.int p1), .val (.int p2), .val (.int p3), .val (.ref a47), .val (.ref a50), .val (.ref a53), .val .null, .val (.int bw), .val (.int sc), .val (.ref a72), .val (.ref r74)] [(.int (1 : Int32))] := k
      have k : W0 l Z n0 Q0 G s h74 6 17 159 #[.val (.int p0), .val (.int p1), .val (.int p2), .val (.int p3), .val (.ref a47), .val (.ref a50), .val (.ref a53), .val .null, .val (.int bw), .val (.int sc), .val (.ref a72), .val (.ref r74)] [] := k.ifF at_156 (XT.i0_eq_f (by decide))
      have k : W0 l Z n0 Q0 G s h74 6 17 161 #[.val (.int p0), .val (.int p1), .val (.int p2), .val (.int p3), .val (.ref a47), .val (.ref a50), .val (.ref a53), .val .null, .val (.int bw), .val (.int sc), .val (.ref a72), .val (.ref r74)] [(.ref r74)] := k.aload at_159 rfl rfl
      obtain ⟨v79, h79, ⟨rfl, rfl⟩, k⟩ := k.callV (hw _ (List.mem_of_getElem? (i := 76) rfl)) (hw _ (List.mem_of_getElem? (i := 77) rfl)) (hw _ (List.mem_of_getElem? (i := 78) rfl)) (hw _ (List.mem_of_getElem? (i := 79) rfl)) rfl (hw _ (List.mem_of_getElem? (i := 32) rfl)) (hw _ (List.mem_of_getElem? (i := 80) rfl)) (by decide) E74 (con9b l Z a0 hw r74 bw h_bw h74 n0 F374) (argsL := []) (rest := []) (lenOf pd9b rfl) at_161 rfl rfl 0 (Nat.le_of_eq rfl) (by decide) (by decide) (by decide) (by decide)
      have k : W0 l Z n0 Q0 G s h74 6 17 164 #[.val (.int p0), .val (.int p1), .val (.int p2), .val (.int p3), .val (.ref a47), .val (.ref a50), .val (.ref a53), .val .null, .val (.int bw), .val (.int sc), .val (.ref a72), .val (.ref r74)] [(.int bw)] := k
      have k : W0 l Z n0 Q0 G s h74 6 17 166 #[.val (.int p0), .val (.int p1), .val (.int p2), .val (.int p3), .val (.ref a47), .val (.ref a50), .val (.ref a53), .val .null, .val (.int bw), .val (.int sc), .val (.ref a72), .val (.ref r74)] [(.int bw), (.int bw)] := k.iload at_164 rfl
      have k : W0 l Z n0 Q0 G s h74 6 17 169 #[.val (.int p0), .val (.int p1), .val (.int p2), .val (.int p3), .val (.ref a47), .val (.ref a50), .val (.ref a53), .val .null, .val (.int bw), .val (.int sc), .val (.ref a72), .val (.ref r74)] [] := k.icF at_166 (XT.ii_ne_f rfl)
      have k : W0 l Z n0 Q0 G s h74 6 17 171 #[.val (.int p0), .val (.int p1), .val (.int p2), .val (.int p3), .val (.ref a47), .val (.ref a50), .val (.ref a53), .val .null, .val (.int bw), .val (.int sc), .val (.ref a72), .val (.ref r74)] [(.ref r74)] := k.aload at_169 rfl rfl
      obtain ⟨v80, h80, ⟨rfl, rfl⟩, k⟩ := k.callV (hw _ (List.mem_of_getElem? (i := 81) rfl)) (hw _ (List.mem_of_getElem? (i := 82) rfl)) (hw _ (List.mem_of_getElem? (i := 83) rfl)) (hw _ (List.mem_of_getElem? (i := 84) rfl)) rfl (hw _ (List.mem_of_getElem? (i := 32) rfl)) (hw _ (List.mem_of_getElem? (i := 85) rfl)) (by decide) E74 (con9s l Z a0 hw r74 (1 : Int32) (Or.inr rfl) h74 n0 F474) (argsL := []) (rest := []) (lenOf pd9s rfl) at_171 rfl rfl 0 (Nat.le_of_eq rfl) (by decide) (by decide) (by decide) (by decide)
      have k : W0 l Z n0 Q0 G s h74 6 17 174 #[.val (.int p0), .val (.int p1), .val (.int p2), .val (.int p3), .val (.ref a47), .val (.ref a50), .val (.ref a53), .val .null, .val (.int bw), .val (.int sc), .val (.ref a72), .val (.ref r74)] [(.int (1 : Int32))] := k
      have k : W0 l Z n0 Q0 G s h74 6 17 177 #[.val (.int p0), .val (.int p1), .val (.int p2), .val (.int p3), .val (.ref a47), .val (.ref a50), .val (.ref a53), .val .null, .val (.int bw), .val (.int sc), .val (.ref a72), .val (.ref r74)] [] := k.ifF at_174 (XT.i0_eq_f (by decide))
      have k : W0 l Z n0 Q0 G s h74 6 17 179 #[.val (.int p0), .val (.int p1), .val (.int p2), .val (.int p3), .val (.ref a47), .val (.ref a50), .val (.ref a53), .val .null, .val (.int bw), .val (.int sc), .val (.ref a72), .val (.ref r74)] [(.ref a72)] := k.aload at_177 rfl rfl
      obtain ⟨v81, h81, ⟨rfl, rfl⟩, k⟩ := k.callV (hw _ (List.mem_of_getElem? (i := 81) rfl)) (hw _ (List.mem_of_getElem? (i := 82) rfl)) (hw _ (List.mem_of_getElem? (i := 83) rfl)) (hw _ (List.mem_of_getElem? (i := 84) rfl)) rfl (hw _ (List.mem_of_getElem? (i := 32) rfl)) (hw _ (List.mem_of_getElem? (i := 85) rfl)) (by decide) E73 (con9s l Z a0 hw a72 sc h_sc h74 n0 F473) (argsL := []) (rest := []) (lenOf pd9s rfl) at_179 rfl rfl 0 (Nat.le_of_eq rfl) (by decide) (by decide) (by decide) (by decide)
      have k : W0 l Z n0 Q0 G s h74 6 17 182 #[.val (.int p0), .val (.int p1), .val (.int p2), .val (.int p3), .val (.ref a47), .val (.ref a50), .val (.ref a53), .val .null, .val (.int bw), .val (.int sc), .val (.ref a72), .val (.ref r74)] [(.int sc)] := k
      have k : W0 l Z n0 Q0 G s h74 6 17 184 #[.val (.int p0), .val (.int p1), .val (.int p2), .val (.int p3), .val (.ref a47), .val (.ref a50), .val (.ref a53), .val .null, .val (.int bw), .val (.int sc), .val (.ref a72), .val (.ref r74)] [(.int sc), (.int sc)] := k.iload at_182 rfl
      have k : W0 l Z n0 Q0 G s h74 6 17 187 #[.val (.int p0), .val (.int p1), .val (.int p2), .val (.int p3), .val (.ref a47), .val (.ref a50), .val (.ref a53), .val .null, .val (.int bw), .val (.int sc), .val (.ref a72), .val (.ref r74)] [] := k.icF at_184 (XT.ii_ne_f rfl)
      have k : W0 l Z n0 Q0 G s h74 6 17 192 #[.val (.int p0), .val (.int p1), .val (.int p2), .val (.int p3), .val (.ref a47), .val (.ref a50), .val (.ref a53), .val .null, .val (.int bw), .val (.int sc), .val (.ref a72), .val (.ref r74)] [(.int (1 : Int32))] := (k.iconst (1) at_187 rfl).goto (pc' := 192) at_188 (by decide)
      exact k.outZ (Or.inr rfl) at_192 (by decide) (by decide) rfl
  · have k : W0 l Z n0 Q0 G s h51 2 3 46 #[.val (.int p0), .val (.int p1), .val (.int p2), .val (.int p3), .val (.ref a47), .val (.ref a50), .unset, .unset, .unset, .unset, .unset, .unset] [] := k.ifF at_43 (XT.i0_eq_f c52)
    have k : W0 l Z n0 Q0 G s h51 2 3 59 #[.val (.int p0), .val (.int p1), .val (.int p2), .val (.int p3), .val (.ref a47), .val (.ref a50), .unset, .unset, .unset, .unset, .unset, .unset] [.null] := (k.anull at_46).goto (pc' := 59) at_47 (by decide)
    have k : W0 l Z n0 Q0 G s h51 2 3 61 #[.val (.int p0), .val (.int p1), .val (.int p2), .val (.int p3), .val (.ref a47), .val (.ref a50), .val .null, .unset, .unset, .unset, .unset, .unset] [] := k.astore at_59 rfl (Ls' := #[.val (.int p0), .val (.int p1), .val (.int p2), .val (.int p3), .val (.ref a47), .val (.ref a50), .val .null, .unset, .unset, .unset, .unset, .unset]) rfl
    have k : W0 l Z n0 Q0 G s h51 2 3 65 #[.val (.int p0), .val (.int p1), .val (.int p2), .val (.int p3), .val (.ref a47), .val (.ref a50), .val .null, .unset, .unset, .unset, .unset, .unset] [(.int (p3 &&& (8 : Int32)))] := ((k.iloadN at_61 rfl).bipush (8) at_62 rfl).iand at_64
    by_cases c82 : (p3 &&& (8 : Int32)) = 0
    · have k : W0 l Z n0 Q0 G s h51 2 3 72 #[.val (.int p0), .val (.int p1), .val (.int p2), .val (.int p3), .val (.ref a47), .val (.ref a50), .val .null, .unset, .unset, .unset, .unset, .unset] [] := k.ifT (pc' := 72) at_65 (XT.i0_eq_t c82) (by decide)
      obtain ⟨h83, K83, E83, D83, k⟩ := k.newO (hw _ (List.mem_of_getElem? (i := 1) rfl)) (hw _ (List.mem_of_getElem? (i := 2) rfl)) (hw _ (List.mem_of_getElem? (i := 3) rfl)) at_72 (by decide) (by decide)
      obtain ⟨a83, ea83⟩ : ∃ z, z = h51.size := ⟨_, rfl⟩
      rw [← ea83] at E83 D83 k
      have n_a83 : n0 ≤ a83 := by omega
      have o_a47_a83 : a47 < a83 := by have q : a47 < h51.size := A47.lt; omega
      have o_a50_a83 : a50 < a83 := by have q : a50 < h51.size := A50.lt; omega
      have O := O.keep K83 all0
      have A47 := A47.keep K83 nin0
      have A50 := A50.keep K83 nin0
      have F83_coder : Fld Z h83 a83 "java/lang/String" "coder" "B" (.int (0 : Int32)) := D83 (Or.inr (hw _ (List.mem_of_getElem? (i := 27) rfl))) (ty := .byte) (by decide)
      have F83_value : Fld Z h83 a83 "java/lang/String" "value" "[B" .null := D83 (Or.inr (hw _ (List.mem_of_getElem? (i := 29) rfl))) (ty := (.array .byte)) (by decide)
      have s_h83 : n0 ≤ h83.size := Nat.le_trans (by omega) K83.1
      have k : W0 l Z n0 Q0 G s h83 3 7 75 #[.val (.int p0), .val (.int p1), .val (.int p2), .val (.int p3), .val (.ref a47), .val (.ref a50), .val .null, .unset, .unset, .unset, .unset, .unset] [(.ref a83)] := k
      have k : W0 l Z n0 Q0 G s h83 3 7 78 #[.val (.int p0), .val (.int p1), .val (.int p2), .val (.int p3), .val (.ref a47), .val (.ref a50), .val .null, .unset, .unset, .unset, .unset, .unset] [(.ref a50), (.ref a83), (.ref a83)] := (k.dup at_75 rfl).aload at_76 rfl rfl
      obtain ⟨v84, h84, ⟨rfl, K84⟩, k⟩ := k.callN rfl (hw _ (List.mem_of_getElem? (i := 4) rfl)) (hw _ (List.mem_of_getElem? (i := 5) rfl)) (hw _ (List.mem_of_getElem? (i := 3) rfl)) (hw _ (List.mem_of_getElem? (i := 6) rfl)) (by decide) (con51 l Z a0 hw a83 a50 _ h83 n0 (by omega) n_a83 zc S hzc O E83 F83_coder F83_value A50 (own_chr p2)) (argsL := [(.ref a50)]) (rest := [(.ref a83)]) (lenOf pd5 rfl) at_78 rfl rfl 1 (Nat.le_of_eq rfl) (by decide) (by decide) (by decide) (by decide)
      have O := O.keep K84 (allS (by omega) all0)
      have A47 := A47.keep K84 (nS (by omega) nin0)
      have A50 := A50.keep K84 (nS (by omega) nin0)
      have E83 := E83.keep K84
      have s_h84 : n0 ≤ h84.size := Nat.le_trans (by omega) K84.1
      have k : W0 l Z n0 Q0 G s h84 4 8 81 #[.val (.int p0), .val (.int p1), .val (.int p2), .val (.int p3), .val (.ref a47), .val (.ref a50), .val .null, .unset, .unset, .unset, .unset, .unset] [(.ref a83)] := k
      have k : W0 l Z n0 Q0 G s h84 4 8 83 #[.val (.int p0), .val (.int p1), .val (.int p2), .val (.int p3), .val (.ref a47), .val (.ref a50), .val .null, .val (.ref a83), .unset, .unset, .unset, .unset] [] := k.astore at_81 rfl (Ls' := #[.val (.int p0), .val (.int p1), .val (.int p2), .val (.int p3), .val (.ref a47), .val (.ref a50), .val .null, .val (.ref a83), .unset, .unset, .unset, .unset]) rfl
      have k : W0 l Z n0 Q0 G s h84 4 8 86 #[.val (.int p0), .val (.int p1), .val (.int p2), .val (.int p3), .val (.ref a47), .val (.ref a50), .val .null, .val (.ref a83), .unset, .unset, .unset, .unset] [(.int (p3 &&& (1 : Int32)))] := ((k.iloadN at_83 rfl).iconst (1) at_84 rfl).iand at_85
      obtain ⟨bw, h_bw, k⟩ : ∃ bw : Int32, (bw = 0 ∨ bw = 1) ∧ W0 l Z n0 Q0 G s h84 4 8 94 #[.val (.int p0), .val (.int p1), .val (.int p2), .val (.int p3), .val (.ref a47), .val (.ref a50), .val .null, .val (.ref a83), .unset, .unset, .unset, .unset] [(.int bw)] := by
        by_cases c85 : (p3 &&& (1 : Int32)) = 0
        · have k : W0 l Z n0 Q0 G s h84 4 8 93 #[.val (.int p0), .val (.int p1), .val (.int p2), .val (.int p3), .val (.ref a47), .val (.ref a50), .val .null, .val (.ref a83), .unset, .unset, .unset, .unset] [] := k.ifT (pc' := 93) at_86 (XT.i0_eq_t c85) (by decide)
          have k : W0 l Z n0 Q0 G s h84 4 8 94 #[.val (.int p0), .val (.int p1), .val (.int p2), .val (.int p3), .val (.ref a47), .val (.ref a50), .val .null, .val (.ref a83), .unset, .unset, .unset, .unset] [(.int (0 : Int32))] := k.iconst (0) at_93 rfl
          exact ⟨(0 : Int32), Or.inl rfl, k⟩
        · have k : W0 l Z n0 Q0 G s h84 4 8 89 #[.val (.int p0), .val (.int p1), .val (.int p2), .val (.int p3), .val (.ref a47), .val (.ref a50), .val .null, .val (.ref a83), .unset, .unset, .unset, .unset] [] := k.ifF at_86 (XT.i0_eq_f c85)
          have k : W0 l Z n0 Q0 G s h84 4 8 94 #[.val (.int p0), .val (.int p1), .val (.int p2), .val (.int p3), .val (.ref a47), .val (.ref a50), .val .null, .val (.ref a83), .unset, .unset, .unset, .unset] [(.int (1 : Int32))] := (k.iconst (1) at_89 rfl).goto (pc' := 94) at_90 (by decide)
          exact ⟨(1 : Int32), Or.inr rfl, k⟩
      have k : W0 l Z n0 Q0 G s h84 4 8 99 #[.val (.int p0), .val (.int p1), .val (.int p2), .val (.int p3), .val (.ref a47), .val (.ref a50), .val .null, .val (.ref a83), .val (.int bw), .unset, .unset, .unset] [(.int (p3 &&& (2 : Int32)))] := (((k.istore at_94 (Ls' := #[.val (.int p0), .val (.int p1), .val (.int p2), .val (.int p3), .val (.ref a47), .val (.ref a50), .val .null, .val (.ref a83), .val (.int bw), .unset, .unset, .unset]) rfl).iloadN at_96 rfl).iconst (2) at_97 rfl).iand at_98
      obtain ⟨sc, h_sc, k⟩ : ∃ sc : Int32, (sc = 0 ∨ sc = 1) ∧ W0 l Z n0 Q0 G s h84 4 8 107 #[.val (.int p0), .val (.int p1), .val (.int p2), .val (.int p3), .val (.ref a47), .val (.ref a50), .val .null, .val (.ref a83), .val (.int bw), .unset, .unset, .unset] [(.int sc)] := by
        by_cases c86 : (p3 &&& (2 : Int32)) = 0
        · have k : W0 l Z n0 Q0 G s h84 4 8 106 #[.val (.int p0), .val (.int p1), .val (.int p2), .val (.int p3), .val (.ref a47), .val (.ref a50), .val .null, .val (.ref a83), .val (.int bw), .unset, .unset, .unset] [] := k.ifT (pc' := 106) at_99 (XT.i0_eq_t c86) (by decide)
          have k : W0 l Z n0 Q0 G s h84 4 8 107 #[.val (.int p0), .val (.int p1), .val (.int p2), .val (.int p3), .val (.ref a47), .val (.ref a50), .val .null, .val (.ref a83), .val (.int bw), .unset, .unset, .unset] [(.int (0 : Int32))] := k.iconst (0) at_106 rfl
          exact ⟨(0 : Int32), Or.inl rfl, k⟩
        · have k : W0 l Z n0 Q0 G s h84 4 8 102 #[.val (.int p0), .val (.int p1), .val (.int p2), .val (.int p3), .val (.ref a47), .val (.ref a50), .val .null, .val (.ref a83), .val (.int bw), .unset, .unset, .unset] [] := k.ifF at_99 (XT.i0_eq_f c86)
          have k : W0 l Z n0 Q0 G s h84 4 8 107 #[.val (.int p0), .val (.int p1), .val (.int p2), .val (.int p3), .val (.ref a47), .val (.ref a50), .val .null, .val (.ref a83), .val (.int bw), .unset, .unset, .unset] [(.int (1 : Int32))] := (k.iconst (1) at_102 rfl).goto (pc' := 107) at_103 (by decide)
          exact ⟨(1 : Int32), Or.inr rfl, k⟩
      have k : W0 l Z n0 Q0 G s h84 4 8 109 #[.val (.int p0), .val (.int p1), .val (.int p2), .val (.int p3), .val (.ref a47), .val (.ref a50), .val .null, .val (.ref a83), .val (.int bw), .val (.int sc), .unset, .unset] [] := k.istore at_107 (Ls' := #[.val (.int p0), .val (.int p1), .val (.int p2), .val (.int p3), .val (.ref a47), .val (.ref a50), .val .null, .val (.ref a83), .val (.int bw), .val (.int sc), .unset, .unset]) rfl
      obtain ⟨h87, K87, E87, D87, k⟩ := k.newO (hw _ (List.mem_of_getElem? (i := 30) rfl)) (hw _ (List.mem_of_getElem? (i := 31) rfl)) (hw _ (List.mem_of_getElem? (i := 32) rfl)) at_109 (by decide) (by decide)
      obtain ⟨a87, ea87⟩ : ∃ z, z = h84.size := ⟨_, rfl⟩
      rw [← ea87] at E87 D87 k
      have n_a87 : n0 ≤ a87 := by omega
      have o_a47_a87 : a47 < a87 := by have q : a47 < h84.size := A47.lt; omega
      have o_a50_a87 : a50 < a87 := by have q : a50 < h84.size := A50.lt; omega
      have o_a83_a87 : a83 < a87 := by have q : a83 < h84.size := E83.lt; omega
      have O := O.keep K87 all0
      have A47 := A47.keep K87 nin0
      have A50 := A50.keep K87 nin0
      have E83 := E83.keep K87
      have F87_name : Fld Z h87 a87 "com/example/amherst/amherst/storage/SearchIndex" "name" "Ljava/lang/String;" .null := D87 (Or.inr (hw _ (List.mem_of_getElem? (i := 43) rfl))) (ty := (.object "java/lang/String")) (by decide)
      have F87_property : Fld Z h87 a87 "com/example/amherst/amherst/storage/SearchIndex" "property" "Ljava/lang/String;" .null := D87 (Or.inr (hw _ (List.mem_of_getElem? (i := 45) rfl))) (ty := (.object "java/lang/String")) (by decide)
      have F87_byWords : Fld Z h87 a87 "com/example/amherst/amherst/storage/SearchIndex" "byWords" "Z" (.int (0 : Int32)) := D87 (Or.inr (hw _ (List.mem_of_getElem? (i := 47) rfl))) (ty := .boolean) (by decide)
      have F87_serverChoice : Fld Z h87 a87 "com/example/amherst/amherst/storage/SearchIndex" "serverChoice" "Z" (.int (0 : Int32)) := D87 (Or.inr (hw _ (List.mem_of_getElem? (i := 49) rfl))) (ty := .boolean) (by decide)
      have s_h87 : n0 ≤ h87.size := Nat.le_trans (by omega) K87.1
      have k : W0 l Z n0 Q0 G s h87 5 12 112 #[.val (.int p0), .val (.int p1), .val (.int p2), .val (.int p3), .val (.ref a47), .val (.ref a50), .val .null, .val (.ref a83), .val (.int bw), .val (.int sc), .unset, .unset] [(.ref a87)] := k
      have k : W0 l Z n0 Q0 G s h87 5 12 121 #[.val (.int p0), .val (.int p1), .val (.int p2), .val (.int p3), .val (.ref a47), .val (.ref a50), .val .null, .val (.ref a83), .val (.int bw), .val (.int sc), .unset, .unset] [(.int sc), (.int bw), (.ref a83), .null, (.ref a87), (.ref a87)] := ((((k.dup at_112 rfl).aload at_113 rfl rfl).aload at_115 rfl rfl).iload at_117 rfl).iload at_119 rfl
      obtain ⟨v88, h88, ⟨rfl, K88, E88, F188, F288, F388, F488⟩, k⟩ := k.callN rfl (hw _ (List.mem_of_getElem? (i := 33) rfl)) (hw _ (List.mem_of_getElem? (i := 34) rfl)) (hw _ (List.mem_of_getElem? (i := 32) rfl)) (hw _ (List.mem_of_getElem? (i := 35) rfl)) (by decide) (con71 l Z a0 hw a87 a83 bw sc h_bw h_sc h87 n0 (by omega) n_a87 E87 F87_name F87_property F87_byWords F87_serverChoice) (argsL := [.null, (.ref a83), (.int bw), (.int sc)]) (rest := [(.ref a87)]) (lenOf pd7 rfl) at_121 rfl rfl 1 (Nat.le_of_eq rfl) (by decide) (by decide) (by decide) (by decide)
      have O := O.keep K88 (allS (by omega) all0)
      have A47 := A47.keep K88 (nS (by omega) nin0)
      have A50 := A50.keep K88 (nS (by omega) nin0)
      have E83 := E83.keep K88
      have s_h88 : n0 ≤ h88.size := Nat.le_trans (by omega) K88.1
      have k : W0 l Z n0 Q0 G s h88 5 12 124 #[.val (.int p0), .val (.int p1), .val (.int p2), .val (.int p3), .val (.ref a47), .val (.ref a50), .val .null, .val (.ref a83), .val (.int bw), .val (.int sc), .unset, .unset] [(.ref a87)] := k
      have k : W0 l Z n0 Q0 G s h88 5 12 128 #[.val (.int p0), .val (.int p1), .val (.int p2), .val (.int p3), .val (.ref a47), .val (.ref a50), .val .null, .val (.ref a83), .val (.int bw), .val (.int sc), .val (.ref a87), .unset] [(.ref a87)] := (k.astore at_124 rfl (Ls' := #[.val (.int p0), .val (.int p1), .val (.int p2), .val (.int p3), .val (.ref a47), .val (.ref a50), .val .null, .val (.ref a83), .val (.int bw), .val (.int sc), .val (.ref a87), .unset]) rfl).aload at_126 rfl rfl
      obtain ⟨v89, h89, ⟨r89, rfl, g89, K89, E89, F189, F289, F389, F489⟩, k⟩ := k.callV (hw _ (List.mem_of_getElem? (i := 50) rfl)) (hw _ (List.mem_of_getElem? (i := 51) rfl)) (hw _ (List.mem_of_getElem? (i := 52) rfl)) (hw _ (List.mem_of_getElem? (i := 53) rfl)) rfl (hw _ (List.mem_of_getElem? (i := 32) rfl)) (hw _ (List.mem_of_getElem? (i := 54) rfl)) (by decide) E88 (con81 l Z a0 hw a87 a83 bw h_bw h88 n0 (by omega) E88 F188 F288 F388) (argsL := []) (rest := []) (lenOf pd8 rfl) at_128 rfl rfl 0 (Nat.le_of_eq rfl) (by decide) (by decide) (by decide) (by decide)
      have O := O.keep K89 all0
      have A47 := A47.keep K89 nin0
      have A50 := A50.keep K89 nin0
      have E83 := E83.keep K89
      have E88 := E88.keep K89
      have F188 := F188.keep K89 nin0
      have F288 := F288.keep K89 nin0
      have F388 := F388.keep K89 nin0
      have F488 := F488.keep K89 nin0
      have s_h89 : n0 ≤ h89.size := Nat.le_trans (by omega) K89.1
      have k : W0 l Z n0 Q0 G s h89 6 16 131 #[.val (.int p0), .val (.int p1), .val (.int p2), .val (.int p3), .val (.ref a47), .val (.ref a50), .val .null, .val (.ref a83), .val (.int bw), .val (.int sc), .val (.ref a87), .unset] [(.ref r89)] := k
      have k : W0 l Z n0 Q0 G s h89 6 16 137 #[.val (.int p0), .val (.int p1), .val (.int p2), .val (.int p3), .val (.ref a47), .val (.ref a50), .val .null, .val (.ref a83), .val (.int bw), .val (.int sc), .val (.ref a87), .val (.ref r89)] [(.ref r89), .null] := ((k.astore at_131 rfl (Ls' := #[.val (.int p0), .val (.int p1), .val (.int p2), .val (.int p3), .val (.ref a47), .val (.ref a50), .val .null, .val (.ref a83), .val (.int bw), .val (.int sc), .val (.ref a87), .val (.ref r89)]) rfl).aload at_133 rfl rfl).aload at_135 rfl rfl
      obtain ⟨v90, h90, ⟨rfl, rfl⟩, k⟩ := k.callV (hw _ (List.mem_of_getElem? (i := 57) rfl)) (hw _ (List.mem_of_getElem? (i := 58) rfl)) (hw _ (List.mem_of_getElem? (i := 59) rfl)) (hw _ (List.mem_of_getElem? (i := 60) rfl)) rfl (hw _ (List.mem_of_getElem? (i := 32) rfl)) (hw _ (List.mem_of_getElem? (i := 61) rfl)) (by decide) E89 (con9n l Z a0 hw r89 .null rfl h89 n0 F189) (argsL := []) (rest := [.null]) (lenOf pd9n rfl) at_137 rfl rfl 1 (Nat.le_of_eq rfl) (by decide) (by decide) (by decide) (by decide)
      have k : W0 l Z n0 Q0 G s h89 6 16 140 #[.val (.int p0), .val (.int p1), .val (.int p2), .val (.int p3), .val (.ref a47), .val (.ref a50), .val .null, .val (.ref a83), .val (.int bw), .val (.int sc), .val (.ref a87), .val (.ref r89)] [.null, .null] := k
      obtain ⟨v91, h91, ⟨rfl, rfl⟩, k⟩ := k.callS (hw _ (List.mem_of_getElem? (i := 62) rfl)) (hw _ (List.mem_of_getElem? (i := 63) rfl)) (hw _ (List.mem_of_getElem? (i := 64) rfl)) (hw _ (List.mem_of_getElem? (i := 65) rfl)) (by decide) (consN l Z a0 hw h89 n0) (argsL := [.null, .null]) (rest := []) (lenOf pds rfl) at_140 rfl rfl 0 (Nat.le_of_eq rfl) (by decide) (by decide) (by decide) (by decide)
      have k : W0 l Z n0 Q0 G s h89 6 16 143 #[.val (.int p0), .val (.int p1), .val (.int p2), .val (.int p3), .val (.ref a47), .val (.ref a50), .val .null, .val (.ref a83), .val (.int bw), .val (.int sc), .val (.ref a87), .val (.ref r89)] [(.int (1 : Int32))] := k
      have k : W0 l Z n0 Q0 G s h89 6 16 146 #[.val (.int p0), .val (.int p1), .val (.int p2), .val (.int p3), .val (.ref a47), .val (.ref a50), .val .null, .val (.ref a83), .val (.int bw), .val (.int sc), .val (.ref a87), .val (.ref r89)] [] := k.ifF at_143 (XT.i0_eq_f (by decide))
      have k : W0 l Z n0 Q0 G s h89 6 16 150 #[.val (.int p0), .val (.int p1), .val (.int p2), .val (.int p3), .val (.ref a47), .val (.ref a50), .val .null, .val (.ref a83), .val (.int bw), .val (.int sc), .val (.ref a87), .val (.ref r89)] [(.ref r89), (.ref a83)] := (k.aload at_146 rfl rfl).aload at_148 rfl rfl
      obtain ⟨v92, h92, ⟨rfl, rfl⟩, k⟩ := k.callV (hw _ (List.mem_of_getElem? (i := 71) rfl)) (hw _ (List.mem_of_getElem? (i := 72) rfl)) (hw _ (List.mem_of_getElem? (i := 73) rfl)) (hw _ (List.mem_of_getElem? (i := 74) rfl)) rfl (hw _ (List.mem_of_getElem? (i := 32) rfl)) (hw _ (List.mem_of_getElem? (i := 75) rfl)) (by decide) E89 (con9p l Z a0 hw r89 (.ref a83) rfl h89 n0 F289) (argsL := []) (rest := [(.ref a83)]) (lenOf pd9p rfl) at_150 rfl rfl 1 (Nat.le_of_eq rfl) (by decide) (by decide) (by decide) (by decide)
      have k : W0 l Z n0 Q0 G s h89 6 16 153 #[.val (.int p0), .val (.int p1), .val (.int p2), .val (.int p3), .val (.ref a47), .val (.ref a50), .val .null, .val (.ref a83), .val (.int bw), .val (.int sc), .val (.ref a87), .val (.ref r89)] [(.ref a83), (.ref a83)] := k
      obtain ⟨v93, h93, ⟨rfl, rfl⟩, k⟩ := k.callS (hw _ (List.mem_of_getElem? (i := 62) rfl)) (hw _ (List.mem_of_getElem? (i := 63) rfl)) (hw _ (List.mem_of_getElem? (i := 64) rfl)) (hw _ (List.mem_of_getElem? (i := 65) rfl)) (by decide) (consR l Z a0 hw a83 h89 n0 E83) (argsL := [(.ref a83), (.ref a83)]) (rest := []) (lenOf pds rfl) at_153 rfl rfl 0 (Nat.le_of_eq rfl) (by decide) (by decide) (by decide) (by decide)
      have k : W0 l Z n0 Q0 G s h89 6 16 156 #[.val (.int p0), .val (.int p1), .val (.int p2), .val (.int p3), .val (.ref a47), .val (.ref a50), .val .null, .val (.ref a83), .val (.int bw), .val (.int sc), .val (.ref a87), .val (.ref r89)] [(.int (1 : Int32))] := k
      have k : W0 l Z n0 Q0 G s h89 6 16 159 #[.val (.int p0), .val (.int p1), .val (.int p2), .val (.int p3), .val (.ref a47), .val (.ref a50), .val .null, .val (.ref a83), .val (.int bw), .val (.int sc), .val (.ref a87), .val (.ref r89)] [] := k.ifF at_156 (XT.i0_eq_f (by decide))
      have k : W0 l Z n0 Q0 G s h89 6 16 161 #[.val (.int p0), .val (.int p1), .val (.int p2), .val (.int p3), .val (.ref a47), .val (.ref a50), .val .null, .val (.ref a83), .val (.int bw), .val (.int sc), .val (.ref a87), .val (.ref r89)] [(.ref r89)] := k.aload at_159 rfl rfl
      obtain ⟨v94, h94, ⟨rfl, rfl⟩, k⟩ := k.callV (hw _ (List.mem_of_getElem? (i := 76) rfl)) (hw _ (List.mem_of_getElem? (i := 77) rfl)) (hw _ (List.mem_of_getElem? (i := 78) rfl)) (hw _ (List.mem_of_getElem? (i := 79) rfl)) rfl (hw _ (List.mem_of_getElem? (i := 32) rfl)) (hw _ (List.mem_of_getElem? (i := 80) rfl)) (by decide) E89 (con9b l Z a0 hw r89 bw h_bw h89 n0 F389) (argsL := []) (rest := []) (lenOf pd9b rfl) at_161 rfl rfl 0 (Nat.le_of_eq rfl) (by decide) (by decide) (by decide) (by decide)
      have k : W0 l Z n0 Q0 G s h89 6 16 164 #[.val (.int p0), .val (.int p1), .val (.int p2), .val (.int p3), .val (.ref a47), .val (.ref a50), .val .null, .val (.ref a83), .val (.int bw), .val (.int sc), .val (.ref a87), .val (.ref r89)] [(.int bw)] := k
      have k : W0 l Z n0 Q0 G s h89 6 16 166 #[.val (.int p0), .val (.int p1), .val (.int p2), .val (.int p3), .val (.ref a47), .val (.ref a50), .val .null, .val (.ref a83), .val (.int bw), .val (.int sc), .val (.ref a87), .val (.ref r89)] [(.int bw), (.int bw)] := k.iload at_164 rfl
      have k : W0 l Z n0 Q0 G s h89 6 16 169 #[.val (.int p0), .val (.int p1), .val (.int p2), .val (.int p3), .val (.ref a47), .val (.ref a50), .val .null, .val (.ref a83), .val (.int bw), .val (.int sc), .val (.ref a87), .val (.ref r89)] [] := k.icF at_166 (XT.ii_ne_f rfl)
      have k : W0 l Z n0 Q0 G s h89 6 16 171 #[.val (.int p0), .val (.int p1), .val (.int p2), .val (.int p3), .val (.ref a47), .val (.ref a50), .val .null, .val (.ref a83), .val (.int bw), .val (.int sc), .val (.ref a87), .val (.ref r89)] [(.ref r89)] := k.aload at_169 rfl rfl
      obtain ⟨v95, h95, ⟨rfl, rfl⟩, k⟩ := k.callV (hw _ (List.mem_of_getElem? (i := 81) rfl)) (hw _ (List.mem_of_getElem? (i := 82) rfl)) (hw _ (List.mem_of_getElem? (i := 83) rfl)) (hw _ (List.mem_of_getElem? (i := 84) rfl)) rfl (hw _ (List.mem_of_getElem? (i := 32) rfl)) (hw _ (List.mem_of_getElem? (i := 85) rfl)) (by decide) E89 (con9s l Z a0 hw r89 (1 : Int32) (Or.inr rfl) h89 n0 F489) (argsL := []) (rest := []) (lenOf pd9s rfl) at_171 rfl rfl 0 (Nat.le_of_eq rfl) (by decide) (by decide) (by decide) (by decide)
      have k : W0 l Z n0 Q0 G s h89 6 16 174 #[.val (.int p0), .val (.int p1), .val (.int p2), .val (.int p3), .val (.ref a47), .val (.ref a50), .val .null, .val (.ref a83), .val (.int bw), .val (.int sc), .val (.ref a87), .val (.ref r89)] [(.int (1 : Int32))] := k
      have k : W0 l Z n0 Q0 G s h89 6 16 177 #[.val (.int p0), .val (.int p1), .val (.int p2), .val (.int p3), .val (.ref a47), .val (.ref a50), .val .null, .val (.ref a83), .val (.int bw), .val (.int sc), .val (.ref a87), .val (.ref r89)] [] := k.ifF at_174 (XT.i0_eq_f (by decide))
      have k : W0 l Z n0 Q0 G s h89 6 16 179 #[.val (.int p0), .val (.int p1), .val (.int p2), .val (.int p3), .val (.ref a47), .val (.ref a50), .val .null, .val (.ref a83), .val (.int bw), .val (.int sc), .val (.ref a87), .val (.ref r89)] [(.ref a87)] := k.aload at_177 rfl rfl
      obtain ⟨v96, h96, ⟨rfl, rfl⟩, k⟩ := k.callV (hw _ (List.mem_of_getElem? (i := 81) rfl)) (hw _ (List.mem_of_getElem? (i := 82) rfl)) (hw _ (List.mem_of_getElem? (i := 83) rfl)) (hw _ (List.mem_of_getElem? (i := 84) rfl)) rfl (hw _ (List.mem_of_getElem? (i := 32) rfl)) (hw _ (List.mem_of_getElem? (i := 85) rfl)) (by decide) E88 (con9s l Z a0 hw a87 sc h_sc h89 n0 F488) (argsL := []) (rest := []) (lenOf pd9s rfl) at_179 rfl rfl 0 (Nat.le_of_eq rfl) (by decide) (by decide) (by decide) (by decide)
      have k : W0 l Z n0 Q0 G s h89 6 16 182 #[.val (.int p0), .val (.int p1), .val (.int p2), .val (.int p3), .val (.ref a47), .val (.ref a50), .val .null, .val (.ref a83), .val (.int bw), .val (.int sc), .val (.ref a87), .val (.ref r89)] [(.int sc)] := k
      have k : W0 l Z n0 Q0 G s h89 6 16 184 #[.val (.int p0), .val (.int p1), .val (.int p2), .val (.int p3), .val (.ref a47), .val (.ref a50), .val .null, .val (.ref a83), .val (.int bw), .val (.int sc), .val (.ref a87), .val (.ref r89)] [(.int sc), (.int sc)] := k.iload at_182 rfl
      have k : W0 l Z n0 Q0 G s h89 6 16 187 #[.val (.int p0), .val (.int p1), .val (.int p2), .val (.int p3), .val (.ref a47), .val (.ref a50), .val .null, .val (.ref a83), .val (.int bw), .val (.int sc), .val (.ref a87), .val (.ref r89)] [] := k.icF at_184 (XT.ii_ne_f rfl)
      have k : W0 l Z n0 Q0 G s h89 6 16 192 #[.val (.int p0), .val (.int p1), .val (.int p2), .val (.int p3), .val (.ref a47), .val (.ref a50), .val .null, .val (.ref a83), .val (.int bw), .val (.int sc), .val (.ref a87), .val (.ref r89)] [(.int (1 : Int32))] := (k.iconst (1) at_187 rfl).goto (pc' := 192) at_188 (by decide)
      exact k.outZ (Or.inr rfl) at_192 (by decide) (by decide) rfl
    · have k : W0 l Z n0 Q0 G s h51 2 3 68 #[.val (.int p0), .val (.int p1), .val (.int p2), .val (.int p3), .val (.ref a47), .val (.ref a50), .val .null, .unset, .unset, .unset, .unset, .unset] [] := k.ifF at_65 (XT.i0_eq_f c82)
      have k : W0 l Z n0 Q0 G s h51 2 3 81 #[.val (.int p0), .val (.int p1), .val (.int p2), .val (.int p3), .val (.ref a47), .val (.ref a50), .val .null, .unset, .unset, .unset, .unset, .unset] [.null] := (k.anull at_68).goto (pc' := 81) at_69 (by decide)
      have k : W0 l Z n0 Q0 G s h51 2 3 83 #[.val (.int p0), .val (.int p1), .val (.int p2), .val (.int p3), .val (.ref a47), .val (.ref a50), .val .null, .val .null, .unset, .unset, .unset, .unset] [] := k.astore at_81 rfl (Ls' := #[.val (.int p0), .val (.int p1), .val (.int p2), .val (.int p3), .val (.ref a47), .val (.ref a50), .val .null, .val .null, .unset, .unset, .unset, .unset]) rfl
      have k : W0 l Z n0 Q0 G s h51 2 3 86 #[.val (.int p0), .val (.int p1), .val (.int p2), .val (.int p3), .val (.ref a47), .val (.ref a50), .val .null, .val .null, .unset, .unset, .unset, .unset] [(.int (p3 &&& (1 : Int32)))] := ((k.iloadN at_83 rfl).iconst (1) at_84 rfl).iand at_85
      obtain ⟨bw, h_bw, k⟩ : ∃ bw : Int32, (bw = 0 ∨ bw = 1) ∧ W0 l Z n0 Q0 G s h51 2 3 94 #[.val (.int p0), .val (.int p1), .val (.int p2), .val (.int p3), .val (.ref a47), .val (.ref a50), .val .null, .val .null, .unset, .unset, .unset, .unset] [(.int bw)] := by
        by_cases c97 : (p3 &&& (1 : Int32)) = 0
        · have k : W0 l Z n0 Q0 G s h51 2 3 93 #[.val (.int p0), .val (.int p1), .val (.int p2), .val (.int p3), .val (.ref a47), .val (.ref a50), .val .null, .val .null, .unset, .unset, .unset, .unset] [] := k.ifT (pc' := 93) at_86 (XT.i0_eq_t c97) (by decide)
          have k : W0 l Z n0 Q0 G s h51 2 3 94 #[.val (.int p0), .val (.int p1), .val (.int p2), .val (.int p3), .val (.ref a47), .val (.ref a50), .val .null, .val .null, .unset, .unset, .unset, .unset] [(.int (0 : Int32))] := k.iconst (0) at_93 rfl
          exact ⟨(0 : Int32), Or.inl rfl, k⟩
        · have k : W0 l Z n0 Q0 G s h51 2 3 89 #[.val (.int p0), .val (.int p1), .val (.int p2), .val (.int p3), .val (.ref a47), .val (.ref a50), .val .null, .val .null, .unset, .unset, .unset, .unset] [] := k.ifF at_86 (XT.i0_eq_f c97)
          have k : W0 l Z n0 Q0 G s h51 2 3 94 #[.val (.int p0), .val (.int p1), .val (.int p2), .val (.int p3), .val (.ref a47), .val (.ref a50), .val .null, .val .null, .unset, .unset, .unset, .unset] [(.int (1 : Int32))] := (k.iconst (1) at_89 rfl).goto (pc' := 94) at_90 (by decide)
          exact ⟨(1 : Int32), Or.inr rfl, k⟩
      have k : W0 l Z n0 Q0 G s h51 2 3 99 #[.val (.int p0), .val (.int p1), .val (.int p2), .val (.int p3), .val (.ref a47), .val (.ref a50), .val .null, .val .null, .val (.int bw), .unset, .unset, .unset] [(.int (p3 &&& (2 : Int32)))] := (((k.istore at_94 (Ls' := #[.val (.int p0), .val (.int p1), .val (.int p2), .val (.int p3), .val (.ref a47), .val (.ref a50), .val .null, .val .null, .val (.int bw), .unset, .unset, .unset]) rfl).iloadN at_96 rfl).iconst (2) at_97 rfl).iand at_98
      obtain ⟨sc, h_sc, k⟩ : ∃ sc : Int32, (sc = 0 ∨ sc = 1) ∧ W0 l Z n0 Q0 G s h51 2 3 107 #[.val (.int p0), .val (.int p1), .val (.int p2), .val (.int p3), .val (.ref a47), .val (.ref a50), .val .null, .val .null, .val (.int bw), .unset, .unset, .unset] [(.int sc)] := by
        by_cases c98 : (p3 &&& (2 : Int32)) = 0
        · have k : W0 l Z n0 Q0 G s h51 2 3 106 #[.val (.int p0), .val (.int p1), .val (.int p2), .val (.int p3), .val (.ref a47), .val (.ref a50), .val .null, .val .null, .val (.int bw), .unset, .unset, .unset] [] := k.ifT (pc' := 106) at_99 (XT.i0_eq_t c98) (by decide)
          have k : W0 l Z n0 Q0 G s h51 2 3 107 #[.val (.int p0), .val (.int p1), .val (.int p2), .val (.int p3), .val (.ref a47), .val (.ref a50), .val .null, .val .null, .val (.int bw), .unset, .unset, .unset] [(.int (0 : Int32))] := k.iconst (0) at_106 rfl
          exact ⟨(0 : Int32), Or.inl rfl, k⟩
        · have k : W0 l Z n0 Q0 G s h51 2 3 102 #[.val (.int p0), .val (.int p1), .val (.int p2), .val (.int p3), .val (.ref a47), .val (.ref a50), .val .null, .val .null, .val (.int bw), .unset, .unset, .unset] [] := k.ifF at_99 (XT.i0_eq_f c98)
          have k : W0 l Z n0 Q0 G s h51 2 3 107 #[.val (.int p0), .val (.int p1), .val (.int p2), .val (.int p3), .val (.ref a47), .val (.ref a50), .val .null, .val .null, .val (.int bw), .unset, .unset, .unset] [(.int (1 : Int32))] := (k.iconst (1) at_102 rfl).goto (pc' := 107) at_103 (by decide)
          exact ⟨(1 : Int32), Or.inr rfl, k⟩
      have k : W0 l Z n0 Q0 G s h51 2 3 109 #[.val (.int p0), .val (.int p1), .val (.int p2), .val (.int p3), .val (.ref a47), .val (.ref a50), .val .null, .val .null, .val (.int bw), .val (.int sc), .unset, .unset] [] := k.istore at_107 (Ls' := #[.val (.int p0), .val (.int p1), .val (.int p2), .val (.int p3), .val (.ref a47), .val (.ref a50), .val .null, .val .null, .val (.int bw), .val (.int sc), .unset, .unset]) rfl
      obtain ⟨h99, K99, E99, D99, k⟩ := k.newO (hw _ (List.mem_of_getElem? (i := 30) rfl)) (hw _ (List.mem_of_getElem? (i := 31) rfl)) (hw _ (List.mem_of_getElem? (i := 32) rfl)) at_109 (by decide) (by decide)
      obtain ⟨a99, ea99⟩ : ∃ z, z = h51.size := ⟨_, rfl⟩
      rw [← ea99] at E99 D99 k
      have n_a99 : n0 ≤ a99 := by omega
      have o_a47_a99 : a47 < a99 := by have q : a47 < h51.size := A47.lt; omega
      have o_a50_a99 : a50 < a99 := by have q : a50 < h51.size := A50.lt; omega
      have O := O.keep K99 all0
      have A47 := A47.keep K99 nin0
      have A50 := A50.keep K99 nin0
      have F99_name : Fld Z h99 a99 "com/example/amherst/amherst/storage/SearchIndex" "name" "Ljava/lang/String;" .null := D99 (Or.inr (hw _ (List.mem_of_getElem? (i := 43) rfl))) (ty := (.object "java/lang/String")) (by decide)
      have F99_property : Fld Z h99 a99 "com/example/amherst/amherst/storage/SearchIndex" "property" "Ljava/lang/String;" .null := D99 (Or.inr (hw _ (List.mem_of_getElem? (i := 45) rfl))) (ty := (.object "java/lang/String")) (by decide)
      have F99_byWords : Fld Z h99 a99 "com/example/amherst/amherst/storage/SearchIndex" "byWords" "Z" (.int (0 : Int32)) := D99 (Or.inr (hw _ (List.mem_of_getElem? (i := 47) rfl))) (ty := .boolean) (by decide)
      have F99_serverChoice : Fld Z h99 a99 "com/example/amherst/amherst/storage/SearchIndex" "serverChoice" "Z" (.int (0 : Int32)) := D99 (Or.inr (hw _ (List.mem_of_getElem? (i := 49) rfl))) (ty := .boolean) (by decide)
      have s_h99 : n0 ≤ h99.size := Nat.le_trans (by omega) K99.1
      have k : W0 l Z n0 Q0 G s h99 3 7 112 #[.val (.int p0), .val (.int p1), .val (.int p2), .val (.int p3), .val (.ref a47), .val (.ref a50), .val .null, .val .null, .val (.int bw), .val (.int sc), .unset, .unset] [(.ref a99)] := k
      have k : W0 l Z n0 Q0 G s h99 3 7 121 #[.val (.int p0), .val (.int p1), .val (.int p2), .val (.int p3), .val (.ref a47), .val (.ref a50), .val .null, .val .null, .val (.int bw), .val (.int sc), .unset, .unset] [(.int sc), (.int bw), .null, .null, (.ref a99), (.ref a99)] := ((((k.dup at_112 rfl).aload at_113 rfl rfl).aload at_115 rfl rfl).iload at_117 rfl).iload at_119 rfl
      obtain ⟨v100, h100, ⟨rfl, K100, E100, F1100, F2100, F3100, F4100⟩, k⟩ := k.callN rfl (hw _ (List.mem_of_getElem? (i := 33) rfl)) (hw _ (List.mem_of_getElem? (i := 34) rfl)) (hw _ (List.mem_of_getElem? (i := 32) rfl)) (hw _ (List.mem_of_getElem? (i := 35) rfl)) (by decide) (con70 l Z a0 hw a99 bw sc h_bw h_sc h99 n0 (by omega) n_a99 E99 F99_name F99_property F99_byWords F99_serverChoice) (argsL := [.null, .null, (.int bw), (.int sc)]) (rest := [(.ref a99)]) (lenOf pd7 rfl) at_121 rfl rfl 1 (Nat.le_of_eq rfl) (by decide) (by decide) (by decide) (by decide)
      have O := O.keep K100 (allS (by omega) all0)
      have A47 := A47.keep K100 (nS (by omega) nin0)
      have A50 := A50.keep K100 (nS (by omega) nin0)
      have s_h100 : n0 ≤ h100.size := Nat.le_trans (by omega) K100.1
      have k : W0 l Z n0 Q0 G s h100 3 7 124 #[.val (.int p0), .val (.int p1), .val (.int p2), .val (.int p3), .val (.ref a47), .val (.ref a50), .val .null, .val .null, .val (.int bw), .val (.int sc), .unset, .unset] [(.ref a99)] := k
      have k : W0 l Z n0 Q0 G s h100 3 7 128 #[.val (.int p0), .val (.int p1), .val (.int p2), .val (.int p3), .val (.ref a47), .val (.ref a50), .val .null, .val .null, .val (.int bw), .val (.int sc), .val (.ref a99), .unset] [(.ref a99)] := (k.astore at_124 rfl (Ls' := #[.val (.int p0), .val (.int p1), .val (.int p2), .val (.int p3), .val (.ref a47), .val (.ref a50), .val .null, .val .null, .val (.int bw), .val (.int sc), .val (.ref a99), .unset]) rfl).aload at_126 rfl rfl
      obtain ⟨v101, h101, ⟨r101, rfl, g101, K101, E101, F1101, F2101, F3101, F4101⟩, k⟩ := k.callV (hw _ (List.mem_of_getElem? (i := 50) rfl)) (hw _ (List.mem_of_getElem? (i := 51) rfl)) (hw _ (List.mem_of_getElem? (i := 52) rfl)) (hw _ (List.mem_of_getElem? (i := 53) rfl)) rfl (hw _ (List.mem_of_getElem? (i := 32) rfl)) (hw _ (List.mem_of_getElem? (i := 54) rfl)) (by decide) E100 (con80 l Z a0 hw a99 bw h_bw h100 n0 (by omega) E100 F1100 F2100 F3100) (argsL := []) (rest := []) (lenOf pd8 rfl) at_128 rfl rfl 0 (Nat.le_of_eq rfl) (by decide) (by decide) (by decide) (by decide)
      have O := O.keep K101 all0
      have A47 := A47.keep K101 nin0
      have A50 := A50.keep K101 nin0
      have E100 := E100.keep K101
      have F1100 := F1100.keep K101 nin0
      have F2100 := F2100.keep K101 nin0
      have F3100 := F3100.keep K101 nin0
      have F4100 := F4100.keep K101 nin0
      have s_h101 : n0 ≤ h101.size := Nat.le_trans (by omega) K101.1
      have k : W0 l Z n0 Q0 G s h101 4 11 131 #[.val (.int p0), .val (.int p1), .val (.int p2), .val (.int p3), .val (.ref a47), .val (.ref a50), .val .null, .val .null, .val (.int bw), .val (.int sc), .val (.ref a99), .unset] [(.ref r101)] := k
      have k : W0 l Z n0 Q0 G s h101 4 11 137 #[.val (.int p0), .val (.int p1), .val (.int p2), .val (.int p3), .val (.ref a47), .val (.ref a50), .val .null, .val .null, .val (.int bw), .val (.int sc), .val (.ref a99), .val (.ref r101)] [(.ref r101), .null] := ((k.astore at_131 rfl (Ls' := #[.val (.int p0), .val (.int p1), .val (.int p2), .val (.int p3), .val (.ref a47), .val (.ref a50), .val .null, .val .null, .val (.int bw), .val (.int sc), .val (.ref a99), .val (.ref r101)]) rfl).aload at_133 rfl rfl).aload at_135 rfl rfl
      obtain ⟨v102, h102, ⟨rfl, rfl⟩, k⟩ := k.callV (hw _ (List.mem_of_getElem? (i := 57) rfl)) (hw _ (List.mem_of_getElem? (i := 58) rfl)) (hw _ (List.mem_of_getElem? (i := 59) rfl)) (hw _ (List.mem_of_getElem? (i := 60) rfl)) rfl (hw _ (List.mem_of_getElem? (i := 32) rfl)) (hw _ (List.mem_of_getElem? (i := 61) rfl)) (by decide) E101 (con9n l Z a0 hw r101 .null rfl h101 n0 F1101) (argsL := []) (rest := [.null]) (lenOf pd9n rfl) at_137 rfl rfl 1 (Nat.le_of_eq rfl) (by decide) (by decide) (by decide) (by decide)
      have k : W0 l Z n0 Q0 G s h101 4 11 140 #[.val (.int p0), .val (.int p1), .val (.int p2), .val (.int p3), .val (.ref a47), .val (.ref a50), .val .null, .val .null, .val (.int bw), .val (.int sc), .val (.ref a99), .val (.ref r101)] [.null, .null] := k
      obtain ⟨v103, h103, ⟨rfl, rfl⟩, k⟩ := k.callS (hw _ (List.mem_of_getElem? (i := 62) rfl)) (hw _ (List.mem_of_getElem? (i := 63) rfl)) (hw _ (List.mem_of_getElem? (i := 64) rfl)) (hw _ (List.mem_of_getElem? (i := 65) rfl)) (by decide) (consN l Z a0 hw h101 n0) (argsL := [.null, .null]) (rest := []) (lenOf pds rfl) at_140 rfl rfl 0 (Nat.le_of_eq rfl) (by decide) (by decide) (by decide) (by decide)
      have k : W0 l Z n0 Q0 G s h101 4 11 143 #[.val (.int p0), .val (.int p1), .val (.int p2), .val (.int p3), .val (.ref a47), .val (.ref a50), .val .null, .val .null, .val (.int bw), .val (.int sc), .val (.ref a99), .val (.ref r101)] [(.int (1 : Int32))] := k
      have k : W0 l Z n0 Q0 G s h101 4 11 146 #[.val (.int p0), .val (.int p1), .val (.int p2), .val (.int p3), .val (.ref a47), .val (.ref a50), .val .null, .val .null, .val (.int bw), .val (.int sc), .val (.ref a99), .val (.ref r101)] [] := k.ifF at_143 (XT.i0_eq_f (by decide))
      have k : W0 l Z n0 Q0 G s h101 4 11 150 #[.val (.int p0), .val (.int p1), .val (.int p2), .val (.int p3), .val (.ref a47), .val (.ref a50), .val .null, .val .null, .val (.int bw), .val (.int sc), .val (.ref a99), .val (.ref r101)] [(.ref r101), .null] := (k.aload at_146 rfl rfl).aload at_148 rfl rfl
      obtain ⟨v104, h104, ⟨rfl, rfl⟩, k⟩ := k.callV (hw _ (List.mem_of_getElem? (i := 71) rfl)) (hw _ (List.mem_of_getElem? (i := 72) rfl)) (hw _ (List.mem_of_getElem? (i := 73) rfl)) (hw _ (List.mem_of_getElem? (i := 74) rfl)) rfl (hw _ (List.mem_of_getElem? (i := 32) rfl)) (hw _ (List.mem_of_getElem? (i := 75) rfl)) (by decide) E101 (con9p l Z a0 hw r101 .null rfl h101 n0 F2101) (argsL := []) (rest := [.null]) (lenOf pd9p rfl) at_150 rfl rfl 1 (Nat.le_of_eq rfl) (by decide) (by decide) (by decide) (by decide)
      have k : W0 l Z n0 Q0 G s h101 4 11 153 #[.val (.int p0), .val (.int p1), .val (.int p2), .val (.int p3), .val (.ref a47), .val (.ref a50), .val .null, .val .null, .val (.int bw), .val (.int sc), .val (.ref a99), .val (.ref r101)] [.null, .null] := k
      obtain ⟨v105, h105, ⟨rfl, rfl⟩, k⟩ := k.callS (hw _ (List.mem_of_getElem? (i := 62) rfl)) (hw _ (List.mem_of_getElem? (i := 63) rfl)) (hw _ (List.mem_of_getElem? (i := 64) rfl)) (hw _ (List.mem_of_getElem? (i := 65) rfl)) (by decide) (consN l Z a0 hw h101 n0) (argsL := [.null, .null]) (rest := []) (lenOf pds rfl) at_153 rfl rfl 0 (Nat.le_of_eq rfl) (by decide) (by decide) (by decide) (by decide)
      have k : W0 l Z n0 Q0 G s h101 4 11 156 #[.val (.int p0), .val (.int p1), .val (.int p2), .val (.int p3), .val (.ref a47), .val (.ref a50), .val .null, .val .null, .val (.int bw), .val (.int sc), .val (.ref a99), .val (.ref r101)] [(.int (1 : Int32))] := k
      have k : W0 l Z n0 Q0 G s h101 4 11 159 #[.val (.int p0), .val (.int p1), .val (.int p2), .val (.int p3), .val (.ref a47), .val (.ref a50), .val .null, .val .null, .val (.int bw), .val (.int sc), .val (.ref a99), .val (.ref r101)] [] := k.ifF at_156 (XT.i0_eq_f (by decide))
      have k : W0 l Z n0 Q0 G s h101 4 11 161 #[.val (.int p0), .val (.int p1), .val (.int p2), .val (.int p3), .val (.ref a47), .val (.ref a50), .val .null, .val .null, .val (.int bw), .val (.int sc), .val (.ref a99), .val (.ref r101)] [(.ref r101)] := k.aload at_159 rfl rfl
      obtain ⟨v106, h106, ⟨rfl, rfl⟩, k⟩ := k.callV (hw _ (List.mem_of_getElem? (i := 76) rfl)) (hw _ (List.mem_of_getElem? (i := 77) rfl)) (hw _ (List.mem_of_getElem? (i := 78) rfl)) (hw _ (List.mem_of_getElem? (i := 79) rfl)) rfl (hw _ (List.mem_of_getElem? (i := 32) rfl)) (hw _ (List.mem_of_getElem? (i := 80) rfl)) (by decide) E101 (con9b l Z a0 hw r101 bw h_bw h101 n0 F3101) (argsL := []) (rest := []) (lenOf pd9b rfl) at_161 rfl rfl 0 (Nat.le_of_eq rfl) (by decide) (by decide) (by decide) (by decide)
      have k : W0 l Z n0 Q0 G s h101 4 11 164 #[.val (.int p0), .val (.int p1), .val (.int p2), .val (.int p3), .val (.ref a47), .val (.ref a50), .val .null, .val .null, .val (.int bw), .val (.int sc), .val (.ref a99), .val (.ref r101)] [(.int bw)] := k
      have k : W0 l Z n0 Q0 G s h101 4 11 166 #[.val (.int p0), .val (.int p1), .val (.int p2), .val (.int p3), .val (.ref a47), .val (.ref a50), .val .null, .val .null, .val (.int bw), .val (.int sc), .val (.ref a99), .val (.ref r101)] [(.int bw), (.int bw)] := k.iload at_164 rfl
      have k : W0 l Z n0 Q0 G s h101 4 11 169 #[.val (.int p0), .val (.int p1), .val (.int p2), .val (.int p3), .val (.ref a47), .val (.ref a50), .val .null, .val .null, .val (.int bw), .val (.int sc), .val (.ref a99), .val (.ref r101)] [] := k.icF at_166 (XT.ii_ne_f rfl)
      have k : W0 l Z n0 Q0 G s h101 4 11 171 #[.val (.int p0), .val (.int p1), .val (.int p2), .val (.int p3), .val (.ref a47), .val (.ref a50), .val .null, .val .null, .val (.int bw), .val (.int sc), .val (.ref a99), .val (.ref r101)] [(.ref r101)] := k.aload at_169 rfl rfl
      obtain ⟨v107, h107, ⟨rfl, rfl⟩, k⟩ := k.callV (hw _ (List.mem_of_getElem? (i := 81) rfl)) (hw _ (List.mem_of_getElem? (i := 82) rfl)) (hw _ (List.mem_of_getElem? (i := 83) rfl)) (hw _ (List.mem_of_getElem? (i := 84) rfl)) rfl (hw _ (List.mem_of_getElem? (i := 32) rfl)) (hw _ (List.mem_of_getElem? (i := 85) rfl)) (by decide) E101 (con9s l Z a0 hw r101 (1 : Int32) (Or.inr rfl) h101 n0 F4101) (argsL := []) (rest := []) (lenOf pd9s rfl) at_171 rfl rfl 0 (Nat.le_of_eq rfl) (by decide) (by decide) (by decide) (by decide)
      have k : W0 l Z n0 Q0 G s h101 4 11 174 #[.val (.int p0), .val (.int p1), .val (.int p2), .val (.int p3), .val (.ref a47), .val (.ref a50), .val .null, .val .null, .val (.int bw), .val (.int sc), .val (.ref a99), .val (.ref r101)] [(.int (1 : Int32))] := k
      have k : W0 l Z n0 Q0 G s h101 4 11 177 #[.val (.int p0), .val (.int p1), .val (.int p2), .val (.int p3), .val (.ref a47), .val (.ref a50), .val .null, .val .null, .val (.int bw), .val (.int sc), .val (.ref a99), .val (.ref r101)] [] := k.ifF at_174 (XT.i0_eq_f (by decide))
      have k : W0 l Z n0 Q0 G s h101 4 11 179 #[.val (.int p0), .val (.int p1), .val (.int p2), .val (.int p3), .val (.ref a47), .val (.ref a50), .val .null, .val .null, .val (.int bw), .val (.int sc), .val (.ref a99), .val (.ref r101)] [(.ref a99)] := k.aload at_177 rfl rfl
      obtain ⟨v108, h108, ⟨rfl, rfl⟩, k⟩ := k.callV (hw _ (List.mem_of_getElem? (i := 81) rfl)) (hw _ (List.mem_of_getElem? (i := 82) rfl)) (hw _ (List.mem_of_getElem? (i := 83) rfl)) (hw _ (List.mem_of_getElem? (i := 84) rfl)) rfl (hw _ (List.mem_of_getElem? (i := 32) rfl)) (hw _ (List.mem_of_getElem? (i := 85) rfl)) (by decide) E100 (con9s l Z a0 hw a99 sc h_sc h101 n0 F4100) (argsL := []) (rest := []) (lenOf pd9s rfl) at_179 rfl rfl 0 (Nat.le_of_eq rfl) (by decide) (by decide) (by decide) (by decide)
      have k : W0 l Z n0 Q0 G s h101 4 11 182 #[.val (.int p0), .val (.int p1), .val (.int p2), .val (.int p3), .val (.ref a47), .val (.ref a50), .val .null, .val .null, .val (.int bw), .val (.int sc), .val (.ref a99), .val (.ref r101)] [(.int sc)] := k
      have k : W0 l Z n0 Q0 G s h101 4 11 184 #[.val (.int p0), .val (.int p1), .val (.int p2), .val (.int p3), .val (.ref a47), .val (.ref a50), .val .null, .val .null, .val (.int bw), .val (.int sc), .val (.ref a99), .val (.ref r101)] [(.int sc), (.int sc)] := k.iload at_182 rfl
      have k : W0 l Z n0 Q0 G s h101 4 11 187 #[.val (.int p0), .val (.int p1), .val (.int p2), .val (.int p3), .val (.ref a47), .val (.ref a50), .val .null, .val .null, .val (.int bw), .val (.int sc), .val (.ref a99), .val (.ref r101)] [] := k.icF at_184 (XT.ii_ne_f rfl)
      have k : W0 l Z n0 Q0 G s h101 4 11 192 #[.val (.int p0), .val (.int p1), .val (.int p2), .val (.int p3), .val (.ref a47), .val (.ref a50), .val .null, .val .null, .val (.int bw), .val (.int sc), .val (.ref a99), .val (.ref r101)] [(.int (1 : Int32))] := (k.iconst (1) at_187 rfl).goto (pc' := 192) at_188 (by decide)
      exact k.outZ (Or.inr rfl) at_192 (by decide) (by decide) rfl
set_option maxRecDepth 65536 in
set_option maxHeartbeats 40000000 in
theorem comes_1 {Post : Tables → Env → Array Value → State → Outcome → State → Prop} (hpost : ∀ tb e args s v u, (limb_1_1.after args s (.returned v) u = true ∧ limb_1_2.after args s (.returned v) u = true ∧ True) → FrameEnd s (.returned v) u (Jvm.fieldLocs frame_1_writes args s ++ Jvm.arrayLocs frame_1_arrays args s ++ Jvm.staticLocs frame_1_statics s) 24 128 → Post tb e args s (.returned v) u) :
    ArmFor flags0 classFile x code maxLocals ret World_1 tables_1 room_1 Calls_1 rest_1 Pre_1 Post := by
  intro l hfl _ _ p e ha hc hk s m args below hf hA hF happ hP
  obtain ⟨hcalls, hrest, hpre⟩ := hP
  obtain ⟨-, -, -, hnamed, -, -, -, hat⟩ := (Spec.applies_iff hf).mp happ
  obtain ⟨hg, hn⟩ := and_e (Cond.before_iff.mp (show (Jvm.Cond.and given_1 narrow_1).before args s = true from hpre))
  obtain ⟨h1, g0⟩ := and_e hg
  obtain ⟨w0, w1, w2, w3, rfl⟩ : ∃ w0 w1 w2 w3 : Value, args = #[w0, w1, w2, w3] := by
    have hs : args.size = 4 := by simpa [Cond.value, given_1] using h1
    obtain ⟨L⟩ := args
    match L, hs with
    | [w0, w1, w2, w3], _ => exact ⟨w0, w1, w2, w3, rfl⟩
  have hw := fun d (hd : d ∈ tables_1) => atoms_spec (ws := Jvm.Cond.code x code maxLocals ret :: tables_1) hat d (List.mem_cons_of_mem _ hd)
  obtain ⟨q0, g1⟩ := and_e g0
  obtain ⟨i0, e0⟩ := is_v q0
  obtain rfl : w0 = (.int i0) := Option.some.inj e0
  obtain ⟨q1, g2⟩ := and_e g1
  obtain ⟨i1, e1⟩ := is_v q1
  obtain rfl : w1 = (.int i1) := Option.some.inj e1
  obtain ⟨q2, g3⟩ := and_e g2
  obtain ⟨i2, e2⟩ := is_v q2
  obtain rfl : w2 = (.int i2) := Option.some.inj e2
  have q3 := g3
  obtain ⟨i3, e3⟩ := is_v q3
  obtain rfl : w3 = (.int i3) := Option.some.inj e3
  obtain ⟨zc, ev, hz⟩ : ∃ zc : Int32, (Term.static "java/lang/String" "COMPACT_STRINGS" "Z").eval _ s none [] s = some (.int zc) ∧ ¬ zc = 0 := own_sets hrest
  have S : Sta s s.heap "java/lang/String" "COMPACT_STRINGS" "Z" (.int zc) := Sta.start ev (Or.inl (own_sets0 hrest))
  obtain ⟨n, o, h1, h2, h3, _, L, rfl, ⟨N, rfl⟩, hq⟩ := con0 l s _ hw i0 i1 i2 i3 s.heap s.heap.size (Nat.le_refl _) zc S hz (Old.start s) tables_1 p e ha hc hk s m _ below hf ((Spec.applies_iff_loose hf).mp happ).1 ⟨rfl, State.Warmed39.refl s, rfl⟩ trivial
  refine ⟨n, _, h1, h2, h3, hpost _ _ _ _ _ _ ⟨Cond.after_iff.mpr rfl, Cond.after_iff.mpr (eq_i res_at (Term.int_eval (1)) rfl), trivial⟩ ⟨hq.1, hq.2.1, (hq.2.2.sift fun y hy => Or.inr (N y hy)).mono (by decide) (by decide)⟩⟩
theorem main_1_1 : Claimed_1_1 := comes_1 fun _ _ _ _ _ _ h hF => ⟨h.1, hF⟩
theorem main_1_2 : Claimed_1_2 := comes_1 fun _ _ _ _ _ _ h hF => ⟨h.2.1, hF⟩
end Jvm.Pilot.@@N@@
namespace Jvm.Pilot.@@N@@
open Jvm Jvm.ClassFile Sem Op Lib Jvm.Free Jvm.Stand Jvm.Pilot.@@N@@.Jvm.D
/-! MADE BY PROGRAM (witnessworld.py) out of the Statement's table words and the real class files: 21 classes; the members and pool entries that the words name. The judged class is class 1, her method 2. -/
namespace start1
open Jvm.ClassFile
def u (s : String) : CpInfo := .utf8 (stringToUtf16 s)
/-- a pool by its gaps: so many unusable entries, then the entry; so many at the end -/
def gap : Nat → List CpInfo → List CpInfo
  | 0, r => r
  | n + 1, r => .unusable :: gap n r
def poolList (es : List (Nat × CpInfo)) (last : Nat) : List CpInfo := es.foldr (fun e r => gap e.1 (e.2 :: r)) (gap last [])
def pool (es : List (Nat × CpInfo)) (last : Nat) : Array CpInfo := ⟨poolList es last⟩
def fileOf (pool : Array CpInfo) (this : Nat) (attrs : Array Attribute := #[]) (ms : Array MethodInfo := #[]) (fl : Nat := 33) (sup : Nat := 0) (ifs : Array Nat := #[]) (fds : Array FieldInfo := #[]) : ClassFile where
  minorVersion := 0
  majorVersion := 65
  constantPool := pool
  accessFlags := fl
  thisClass := this
  superClass := sup
  interfaces := ifs
  fields := fds
  methods := ms
  attributes := attrs
def plain (name : String) (sup : Option ClassId) : Class where
  name := name
  kind := .ordinary
  loader := none
  accessFlags := 33
  super := sup
  interfaces := #[]
  cf := none
  fields := #[]
  methods := #[]
  instanceTypes := #[]
  staticTypes := #[]
  resolved := #[]
  callSites := []
  init := .initialized
  statics := none
  mirror := none

def pool0 : Array CpInfo := pool [(5, u "<init>"), (0, u "()V"), (1, .class_ 10), (1, u "java/lang/Object")] 113

def k0c0 : Code := { maxStack := 0, maxLocals := 1, code := object_method_1_code, exceptionTable := #[], attributes := #[] }
def k0m0 : Method := { name := "<init>", desc := "()V", sig := { parameters := [], returnType := none }, accessFlags := 1, code := some k0c0 }
/-- java/lang/Object -/
def k0 : Class := { plain "java/lang/Object" none with
  accessFlags := 33
  interfaces := #[]
  cf := some (fileOf pool0 8 #[] #[{ accessFlags := 1, nameIndex := 5, descriptorIndex := 6, attributes := #[] }] 33 0 #[] #[])
  fields := #[]
  methods := #[k0m0]
  instanceTypes := #[]
  staticTypes := #[]
  resolved := Array.replicate 124 none
  statics := none }

def pool1 : Array CpInfo := pool [(2, .class_ 4), (1, u "java/lang/Object"), (0, u "<init>"), (0, u "()V"), (0, .methodref 8 9), (0, .class_ 10), (0, .nameAndType 11 12), (0, u "java/lang/String"), (0, u "equals"), (0, u "(Ljava/lang/Object;)Z"), (0, .methodref 8 14), (0, .nameAndType 5 15), (0, u "([C)V"), (0, .class_ 17), (0, u "com/example/amherst/amherst/storage/SearchIndex"), (0, .methodref 16 19), (0, .nameAndType 5 20), (0, u "(Ljava/lang/String;Ljava/lang/String;ZZ)V"), (0, .methodref 16 22), (0, .nameAndType 23 24), (0, u "asServerChoice"), (0, u "()Lcom/example/amherst/amherst/storage/SearchIndex;"), (0, .methodref 16 26), (0, .nameAndType 27 28), (0, u "name"), (0, u "()Ljava/lang/String;"), (0, .methodref 30 31), (0, .class_ 32), (0, .nameAndType 33 34), (0, u "com/example/amherst/amherst/storage/SearchIndexAsServerChoicePinLaw"), (0, u "same"), (0, u "(Ljava/lang/String;Ljava/lang/String;)Z"), (0, .methodref 16 36), (0, .nameAndType 37 28), (0, u "property"), (0, .methodref 16 39), (0, .nameAndType 40 41), (0, u "byWords"), (0, u "()Z"), (0, .methodref 16 43), (0, .nameAndType 44 41), (0, u "serverChoice"), (3, u "law"), (0, u "(IIII)Z")] 4

def k1m0 : Method := { name := "<init>", desc := "()V", sig := { parameters := [], returnType := none }, accessFlags := 1, code := none }
def k1c1 : Code := { maxStack := 2, maxLocals := 2, code := method_2_code, exceptionTable := #[], attributes := #[] }
def k1m1 : Method := { name := "same", desc := "(Ljava/lang/String;Ljava/lang/String;)Z", sig := { parameters := [(.object "java/lang/String"), (.object "java/lang/String")], returnType := some .boolean }, accessFlags := 10, code := some k1c1 }
def k1c2 : Code := { maxStack := 6, maxLocals := 12, code := code, exceptionTable := #[], attributes := #[] }
def k1m2 : Method := { name := "law", desc := "(IIII)Z", sig := { parameters := [.int, .int, .int, .int], returnType := some .boolean }, accessFlags := 9, code := some k1c2 }
/-- com/example/amherst/amherst/storage/SearchIndexAsServerChoicePinLaw -/
def k1 : Class := { plain "com/example/amherst/amherst/storage/SearchIndexAsServerChoicePinLaw" (some 0) with
  accessFlags := 49
  interfaces := #[]
  cf := some (fileOf pool1 30 #[] #[{ accessFlags := 1, nameIndex := 5, descriptorIndex := 6, attributes := #[] }, { accessFlags := 10, nameIndex := 33, descriptorIndex := 34, attributes := #[] }, { accessFlags := 9, nameIndex := 48, descriptorIndex := 49, attributes := #[] }] 49 2 #[] #[])
  fields := #[]
  methods := #[k1m0, k1m1, k1m2]
  instanceTypes := #[]
  staticTypes := #[]
  resolved := Array.replicate 54 none
  statics := none }

def pool2 : Array CpInfo := pool [(1, .class_ 2), (0, u "java/io/Serializable"), (0, .class_ 4), (0, u "java/lang/Object")] 2

/-- java/io/Serializable -/
def k2 : Class := { plain "java/io/Serializable" (some 0) with
  accessFlags := 1537
  interfaces := #[]
  cf := some (fileOf pool2 1 #[] #[] 1537 3 #[] #[])
  fields := #[]
  methods := #[]
  instanceTypes := #[]
  staticTypes := #[]
  resolved := Array.replicate 7 none
  statics := none }

def pool3 : Array CpInfo := pool [(1, .class_ 2), (0, u "java/lang/Comparable"), (0, .class_ 4), (0, u "java/lang/Object")] 7

/-- java/lang/Comparable -/
def k3 : Class := { plain "java/lang/Comparable" (some 0) with
  accessFlags := 1537
  interfaces := #[]
  cf := some (fileOf pool3 1 #[] #[] 1537 3 #[] #[])
  fields := #[]
  methods := #[]
  instanceTypes := #[]
  staticTypes := #[]
  resolved := Array.replicate 12 none
  statics := none }

def pool4 : Array CpInfo := pool [(2, .class_ 4), (1, u "java/lang/CharSequence"), (42, .class_ 48), (0, u "java/lang/CharSequence$1CodePointIterator"), (10, .class_ 60), (0, u "java/lang/CharSequence$1CharIterator"), (5, .class_ 67), (0, u "java/lang/Object")] 63

/-- java/lang/CharSequence -/
def k4 : Class := { plain "java/lang/CharSequence" (some 0) with
  accessFlags := 1537
  interfaces := #[]
  cf := some (fileOf pool4 2 #[.nestMembers #[47, 59]] #[] 1537 66 #[] #[])
  fields := #[]
  methods := #[]
  instanceTypes := #[]
  staticTypes := #[]
  resolved := Array.replicate 131 none
  statics := none }

def pool5 : Array CpInfo := pool [(1, .class_ 2), (0, u "java/lang/constant/Constable"), (0, .class_ 4), (0, u "java/lang/Object")] 6

/-- java/lang/constant/Constable -/
def k5 : Class := { plain "java/lang/constant/Constable" (some 0) with
  accessFlags := 1537
  interfaces := #[]
  cf := some (fileOf pool5 1 #[] #[] 1537 3 #[] #[])
  fields := #[]
  methods := #[]
  instanceTypes := #[]
  staticTypes := #[]
  resolved := Array.replicate 11 none
  statics := none }

def pool6 : Array CpInfo := pool [(1, .class_ 2), (0, u "java/lang/constant/ConstantDesc"), (0, .class_ 4), (0, u "java/lang/Object")] 32

/-- java/lang/constant/ConstantDesc -/
def k6 : Class := { plain "java/lang/constant/ConstantDesc" (some 0) with
  accessFlags := 1537
  interfaces := #[]
  cf := some (fileOf pool6 1 #[] #[] 1537 3 #[] #[])
  fields := #[]
  methods := #[]
  instanceTypes := #[]
  staticTypes := #[]
  resolved := Array.replicate 37 none
  statics := none }

def pool7 : Array CpInfo := pool [(1, .methodref 2 3), (0, .class_ 4), (0, .nameAndType 5 6), (0, u "java/lang/Object"), (0, u "<init>"), (0, u "()V"), (2, .fieldref 10 11), (0, .class_ 12), (0, .nameAndType 13 14), (0, u "java/lang/String"), (0, u "value"), (0, u "[B"), (0, .fieldref 10 16), (0, .nameAndType 17 18), (0, u "coder"), (0, u "B"), (2, u "hash"), (0, u "I"), (2, u "hashIsZero"), (0, u "Z"), (0, .methodref 10 28), (0, .nameAndType 5 29), (0, u "([CIILjava/lang/Void;)V"), (8, .fieldref 10 39), (0, .nameAndType 40 26), (0, u "COMPACT_STRINGS"), (1, .class_ 44), (1, u "java/lang/StringUTF16"), (0, u "compress"), (1, .methodref 42 48), (0, .nameAndType 49 50), (0, u "coderFromArrayLen"), (0, u "([BI)B"), (126, .methodref 42 178), (0, .nameAndType 45 179), (0, u "([CII)[B"), (363, u "equals"), (29, u "(Ljava/lang/Object;)Z"), (1, .class_ 576), (0, u "java/lang/CharSequence"), (22, u "CASE_INSENSITIVE_ORDER"), (0, u "Ljava/util/Comparator;"), (409, u "([C)V"), (90, u "serialPersistentFields"), (0, u "[Ljava/io/ObjectStreamField;"), (0, .class_ 1104), (0, u "java/lang/String$CaseInsensitiveComparator"), (1, .class_ 1107), (0, u "java/io/Serializable"), (0, .class_ 1109), (0, u "java/lang/Comparable"), (0, .class_ 1111), (0, u "java/lang/constant/Constable"), (0, .class_ 1113), (0, u "java/lang/constant/ConstantDesc"), (2, u "serialVersionUID"), (0, u "J"), (3, u "REPL"), (0, u "C"), (2, u "LATIN1"), (1, u "UTF16")] 323

def k7m0 : Method := { name := "<init>", desc := "()V", sig := { parameters := [], returnType := none }, accessFlags := 1, code := none }
def k7c1 : Code := { maxStack := 5, maxLocals := 2, code := jdk_42_method_3_code, exceptionTable := #[], attributes := #[] }
def k7m1 : Method := { name := "<init>", desc := "([C)V", sig := { parameters := [(.array .char)], returnType := none }, accessFlags := 1, code := some k7c1 }
def k7c2 : Code := { maxStack := 2, maxLocals := 3, code := jdk_42_method_66_code, exceptionTable := #[], attributes := #[] }
def k7m2 : Method := { name := "equals", desc := "(Ljava/lang/Object;)Z", sig := { parameters := [(.object "java/lang/Object")], returnType := some .boolean }, accessFlags := 1, code := some k7c2 }
def k7c3 : Code := { maxStack := 4, maxLocals := 6, code := jdk_42_method_149_code, exceptionTable := #[], attributes := #[] }
def k7m3 : Method := { name := "<init>", desc := "([CIILjava/lang/Void;)V", sig := { parameters := [(.array .char), .int, .int, (.object "java/lang/Void")], returnType := none }, accessFlags := 2, code := some k7c3 }
/-- java/lang/String -/
def k7 : Class := { plain "java/lang/String" (some 0) with
  accessFlags := 49
  interfaces := #[2, 3, 4, 5, 6]
  cf := some (fileOf pool7 10 #[.nestMembers #[1103]] #[{ accessFlags := 1, nameIndex := 5, descriptorIndex := 6, attributes := #[] }, { accessFlags := 1, nameIndex := 5, descriptorIndex := 1010, attributes := #[] }, { accessFlags := 1, nameIndex := 543, descriptorIndex := 573, attributes := #[] }, { accessFlags := 2, nameIndex := 5, descriptorIndex := 29, attributes := #[] }] 49 2 #[1106, 1108, 575, 1110, 1112] #[{ accessFlags := 18, nameIndex := 13, descriptorIndex := 14, attributes := #[] }, { accessFlags := 18, nameIndex := 17, descriptorIndex := 18, attributes := #[] }, { accessFlags := 2, nameIndex := 21, descriptorIndex := 22, attributes := #[] }, { accessFlags := 2, nameIndex := 25, descriptorIndex := 26, attributes := #[] }, { accessFlags := 26, nameIndex := 1116, descriptorIndex := 1117, attributes := #[] }, { accessFlags := 24, nameIndex := 40, descriptorIndex := 26, attributes := #[] }, { accessFlags := 26, nameIndex := 1101, descriptorIndex := 1102, attributes := #[] }, { accessFlags := 26, nameIndex := 1121, descriptorIndex := 1122, attributes := #[] }, { accessFlags := 25, nameIndex := 599, descriptorIndex := 600, attributes := #[] }, { accessFlags := 24, nameIndex := 1125, descriptorIndex := 18, attributes := #[] }, { accessFlags := 24, nameIndex := 1127, descriptorIndex := 18, attributes := #[] }])
  fields := #[{ name := "value", type := (.array .byte), accessFlags := 18, slot := 0, constantValue := 0 }, { name := "coder", type := .byte, accessFlags := 18, slot := 1, constantValue := 0 }, { name := "hash", type := .int, accessFlags := 2, slot := 2, constantValue := 0 }, { name := "hashIsZero", type := .boolean, accessFlags := 2, slot := 3, constantValue := 0 }, { name := "serialVersionUID", type := .long, accessFlags := 26, slot := 0, constantValue := 0 }, { name := "COMPACT_STRINGS", type := .boolean, accessFlags := 24, slot := 1, constantValue := 0 }, { name := "serialPersistentFields", type := (.array (.object "java/io/ObjectStreamField")), accessFlags := 26, slot := 2, constantValue := 0 }, { name := "REPL", type := .char, accessFlags := 26, slot := 3, constantValue := 0 }, { name := "CASE_INSENSITIVE_ORDER", type := (.object "java/util/Comparator"), accessFlags := 25, slot := 4, constantValue := 0 }, { name := "LATIN1", type := .byte, accessFlags := 24, slot := 5, constantValue := 0 }, { name := "UTF16", type := .byte, accessFlags := 24, slot := 6, constantValue := 0 }]
  methods := #[k7m0, k7m1, k7m2, k7m3]
  instanceTypes := #[(.array .byte), .byte, .int, .boolean]
  staticTypes := #[.long, .boolean, (.array (.object "java/io/ObjectStreamField")), .char, (.object "java/util/Comparator"), .byte, .byte]
  resolved := Array.replicate 1451 none
  statics := some 0 }

def pool8 : Array CpInfo := pool [(6, .class_ 8), (1, u "java/lang/Object"), (0, u "<init>"), (0, u "()V"), (1, .class_ 14), (1, u "java/lang/StringUTF16"), (31, u "$assertionsDisabled"), (0, u "Z"), (13, u "HI_BYTE_SHIFT"), (0, u "I"), (2, u "LO_BYTE_SHIFT"), (49, .methodref 12 116), (0, .nameAndType 117 118), (0, u "compress"), (0, u "([CI[BII)I"), (3, u "([CII)[B"), (138, u "coderFromArrayLen"), (0, u "([BI)B"), (106, .class_ 371), (1, u "java/lang/StringUTF16$LinesSpliterator"), (58, u "MAX_LENGTH"), (196, .class_ 628), (0, u "java/lang/StringUTF16$CodePointsSpliterator"), (0, .class_ 630), (0, u "java/lang/StringUTF16$CharsSpliterator")] 4

def k8m0 : Method := { name := "<init>", desc := "()V", sig := { parameters := [], returnType := none }, accessFlags := 0, code := none }
def k8c1 : Code := { maxStack := 2, maxLocals := 2, code := jdk_52_method_15_code, exceptionTable := #[], attributes := #[] }
def k8m1 : Method := { name := "coderFromArrayLen", desc := "([BI)B", sig := { parameters := [(.array .byte), .int], returnType := some .byte }, accessFlags := 8, code := some k8c1 }
def k8c2 : Code := { maxStack := 5, maxLocals := 6, code := jdk_52_method_16_code, exceptionTable := #[], attributes := #[] }
def k8m2 : Method := { name := "compress", desc := "([CII)[B", sig := { parameters := [(.array .char), .int, .int], returnType := some (.array .byte) }, accessFlags := 9, code := some k8c2 }
def k8c3 : Code := { maxStack := 3, maxLocals := 7, code := jdk_52_method_21_code, exceptionTable := #[], attributes := #[] }
def k8m3 : Method := { name := "compress", desc := "([CI[BII)I", sig := { parameters := [(.array .char), .int, (.array .byte), .int, .int], returnType := some .int }, accessFlags := 9, code := some k8c3 }
/-- java/lang/StringUTF16 -/
def k8 : Class := { plain "java/lang/StringUTF16" (some 0) with
  accessFlags := 48
  interfaces := #[]
  cf := some (fileOf pool8 12 #[.nestMembers #[627, 629, 369]] #[{ accessFlags := 0, nameIndex := 9, descriptorIndex := 10, attributes := #[] }, { accessFlags := 8, nameIndex := 261, descriptorIndex := 262, attributes := #[] }, { accessFlags := 9, nameIndex := 117, descriptorIndex := 122, attributes := #[] }, { accessFlags := 9, nameIndex := 117, descriptorIndex := 118, attributes := #[] }] 48 6 #[] #[{ accessFlags := 26, nameIndex := 61, descriptorIndex := 62, attributes := #[] }, { accessFlags := 26, nameIndex := 65, descriptorIndex := 62, attributes := #[] }, { accessFlags := 24, nameIndex := 430, descriptorIndex := 62, attributes := #[] }, { accessFlags := 4120, nameIndex := 46, descriptorIndex := 47, attributes := #[] }])
  fields := #[{ name := "HI_BYTE_SHIFT", type := .int, accessFlags := 26, slot := 0, constantValue := 0 }, { name := "LO_BYTE_SHIFT", type := .int, accessFlags := 26, slot := 1, constantValue := 0 }, { name := "MAX_LENGTH", type := .int, accessFlags := 24, slot := 2, constantValue := 0 }, { name := "$assertionsDisabled", type := .boolean, accessFlags := 4120, slot := 3, constantValue := 0 }]
  methods := #[k8m0, k8m1, k8m2, k8m3]
  instanceTypes := #[]
  staticTypes := #[.int, .int, .int, .boolean]
  resolved := Array.replicate 635 none
  statics := none }

def pool9 : Array CpInfo := pool [(1, .methodref 2 3), (0, .class_ 4), (0, .nameAndType 5 6), (0, u "java/lang/Object"), (0, u "<init>"), (0, u "()V"), (0, .class_ 8), (0, u "java/lang/Record")] 13

def k9c0 : Code := { maxStack := 1, maxLocals := 1, code := jdk_30_method_1_code, exceptionTable := #[], attributes := #[] }
def k9m0 : Method := { name := "<init>", desc := "()V", sig := { parameters := [], returnType := none }, accessFlags := 4, code := some k9c0 }
/-- java/lang/Record -/
def k9 : Class := { plain "java/lang/Record" (some 0) with
  accessFlags := 1057
  interfaces := #[]
  cf := some (fileOf pool9 7 #[] #[{ accessFlags := 4, nameIndex := 5, descriptorIndex := 6, attributes := #[] }] 1057 2 #[] #[])
  fields := #[]
  methods := #[k9m0]
  instanceTypes := #[]
  staticTypes := #[]
  resolved := Array.replicate 22 none
  statics := none }

def pool10 : Array CpInfo := pool [(1, .methodref 2 3), (0, .class_ 4), (0, .nameAndType 5 6), (0, u "java/lang/Record"), (0, u "<init>"), (0, u "()V"), (0, .fieldref 8 9), (0, .class_ 10), (0, .nameAndType 11 12), (0, u "com/example/amherst/amherst/storage/SearchIndex"), (0, u "name"), (0, u "Ljava/lang/String;"), (0, .fieldref 8 14), (0, .nameAndType 15 12), (0, u "property"), (0, .fieldref 8 17), (0, .nameAndType 18 19), (0, u "byWords"), (0, u "Z"), (0, .fieldref 8 21), (0, .nameAndType 22 19), (0, u "serverChoice"), (0, .methodref 8 24), (0, .nameAndType 5 25), (0, u "(Ljava/lang/String;Ljava/lang/String;ZZ)V"), (16, u "asServerChoice"), (0, u "()Lcom/example/amherst/amherst/storage/SearchIndex;"), (0, u "()Ljava/lang/String;"), (2, u "()Z")] 23

def k10c0 : Code := { maxStack := 2, maxLocals := 5, code := prog_33_method_2_code, exceptionTable := #[], attributes := #[] }
def k10m0 : Method := { name := "<init>", desc := "(Ljava/lang/String;Ljava/lang/String;ZZ)V", sig := { parameters := [(.object "java/lang/String"), (.object "java/lang/String"), .boolean, .boolean], returnType := none }, accessFlags := 0, code := some k10c0 }
def k10c1 : Code := { maxStack := 6, maxLocals := 1, code := prog_33_method_3_code, exceptionTable := #[], attributes := #[] }
def k10m1 : Method := { name := "asServerChoice", desc := "()Lcom/example/amherst/amherst/storage/SearchIndex;", sig := { parameters := [], returnType := some (.object "com/example/amherst/amherst/storage/SearchIndex") }, accessFlags := 0, code := some k10c1 }
def k10c2 : Code := { maxStack := 1, maxLocals := 1, code := prog_33_method_7_code, exceptionTable := #[], attributes := #[] }
def k10m2 : Method := { name := "name", desc := "()Ljava/lang/String;", sig := { parameters := [], returnType := some (.object "java/lang/String") }, accessFlags := 1, code := some k10c2 }
def k10c3 : Code := { maxStack := 1, maxLocals := 1, code := prog_33_method_8_code, exceptionTable := #[], attributes := #[] }
def k10m3 : Method := { name := "property", desc := "()Ljava/lang/String;", sig := { parameters := [], returnType := some (.object "java/lang/String") }, accessFlags := 1, code := some k10c3 }
def k10c4 : Code := { maxStack := 1, maxLocals := 1, code := prog_33_method_9_code, exceptionTable := #[], attributes := #[] }
def k10m4 : Method := { name := "byWords", desc := "()Z", sig := { parameters := [], returnType := some .boolean }, accessFlags := 1, code := some k10c4 }
def k10c5 : Code := { maxStack := 1, maxLocals := 1, code := prog_33_method_10_code, exceptionTable := #[], attributes := #[] }
def k10m5 : Method := { name := "serverChoice", desc := "()Z", sig := { parameters := [], returnType := some .boolean }, accessFlags := 1, code := some k10c5 }
/-- com/example/amherst/amherst/storage/SearchIndex -/
def k10 : Class := { plain "com/example/amherst/amherst/storage/SearchIndex" (some 9) with
  accessFlags := 48
  interfaces := #[]
  cf := some (fileOf pool10 8 #[] #[{ accessFlags := 0, nameIndex := 5, descriptorIndex := 25, attributes := #[] }, { accessFlags := 0, nameIndex := 42, descriptorIndex := 43, attributes := #[] }, { accessFlags := 1, nameIndex := 11, descriptorIndex := 44, attributes := #[] }, { accessFlags := 1, nameIndex := 15, descriptorIndex := 44, attributes := #[] }, { accessFlags := 1, nameIndex := 18, descriptorIndex := 47, attributes := #[] }, { accessFlags := 1, nameIndex := 22, descriptorIndex := 47, attributes := #[] }] 48 2 #[] #[{ accessFlags := 18, nameIndex := 11, descriptorIndex := 12, attributes := #[] }, { accessFlags := 18, nameIndex := 15, descriptorIndex := 12, attributes := #[] }, { accessFlags := 18, nameIndex := 18, descriptorIndex := 19, attributes := #[] }, { accessFlags := 18, nameIndex := 22, descriptorIndex := 19, attributes := #[] }])
  fields := #[{ name := "name", type := (.object "java/lang/String"), accessFlags := 18, slot := 0, constantValue := 0 }, { name := "property", type := (.object "java/lang/String"), accessFlags := 18, slot := 1, constantValue := 0 }, { name := "byWords", type := .boolean, accessFlags := 18, slot := 2, constantValue := 0 }, { name := "serverChoice", type := .boolean, accessFlags := 18, slot := 3, constantValue := 0 }]
  methods := #[k10m0, k10m1, k10m2, k10m3, k10m4, k10m5]
  instanceTypes := #[(.object "java/lang/String"), (.object "java/lang/String"), .boolean, .boolean]
  staticTypes := #[]
  resolved := Array.replicate 71 none
  statics := none }

def pool11 : Array CpInfo := pool [(4, .class_ 6), (1, u "java/lang/Object"), (0, u "<init>"), (0, u "()V"), (5, .class_ 16), (1, u "java/lang/StringLatin1"), (104, u "$assertionsDisabled"), (0, u "Z"), (98, .class_ 223), (1, u "java/lang/StringLatin1$LinesSpliterator"), (166, .class_ 391), (0, u "java/lang/StringLatin1$CharsSpliterator")] 3

def k11m0 : Method := { name := "<init>", desc := "()V", sig := { parameters := [], returnType := none }, accessFlags := 0, code := none }
/-- java/lang/StringLatin1 -/
def k11 : Class := { plain "java/lang/StringLatin1" (some 0) with
  accessFlags := 48
  interfaces := #[]
  cf := some (fileOf pool11 14 #[.nestMembers #[390, 221]] #[{ accessFlags := 0, nameIndex := 7, descriptorIndex := 8, attributes := #[] }] 48 4 #[] #[{ accessFlags := 4120, nameIndex := 121, descriptorIndex := 122, attributes := #[] }])
  fields := #[{ name := "$assertionsDisabled", type := .boolean, accessFlags := 4120, slot := 0, constantValue := 0 }]
  methods := #[k11m0]
  instanceTypes := #[]
  staticTypes := #[.boolean]
  resolved := Array.replicate 395 none
  statics := none }

def pool12 : Array CpInfo := pool [(2, .class_ 4), (1, u "java/lang/Object"), (0, u "<init>"), (0, u "()V"), (17, .class_ 26), (1, u "jdk/internal/util/Preconditions"), (28, .class_ 56), (0, u "jdk/internal/util/Preconditions$4"), (57, .class_ 115), (0, u "jdk/internal/util/Preconditions$1"), (7, u "SIOOBE_FORMATTER"), (0, u "Ljava/util/function/BiFunction;"), (0, .class_ 126), (0, u "jdk/internal/util/Preconditions$2"), (3, u "AIOOBE_FORMATTER"), (0, .class_ 132), (0, u "jdk/internal/util/Preconditions$3"), (3, u "IOOBE_FORMATTER")] 57

def k12m0 : Method := { name := "<init>", desc := "()V", sig := { parameters := [], returnType := none }, accessFlags := 1, code := none }
/-- jdk/internal/util/Preconditions -/
def k12 : Class := { plain "jdk/internal/util/Preconditions" (some 0) with
  accessFlags := 33
  interfaces := #[]
  cf := some (fileOf pool12 24 #[.nestMembers #[55, 131, 125, 114]] #[{ accessFlags := 1, nameIndex := 5, descriptorIndex := 6, attributes := #[] }] 33 2 #[] #[{ accessFlags := 25, nameIndex := 123, descriptorIndex := 124, attributes := #[] }, { accessFlags := 25, nameIndex := 130, descriptorIndex := 124, attributes := #[] }, { accessFlags := 25, nameIndex := 136, descriptorIndex := 124, attributes := #[] }])
  fields := #[{ name := "SIOOBE_FORMATTER", type := (.object "java/util/function/BiFunction"), accessFlags := 25, slot := 0, constantValue := 0 }, { name := "AIOOBE_FORMATTER", type := (.object "java/util/function/BiFunction"), accessFlags := 25, slot := 1, constantValue := 0 }, { name := "IOOBE_FORMATTER", type := (.object "java/util/function/BiFunction"), accessFlags := 25, slot := 2, constantValue := 0 }]
  methods := #[k12m0]
  instanceTypes := #[]
  staticTypes := #[(.object "java/util/function/BiFunction"), (.object "java/util/function/BiFunction"), (.object "java/util/function/BiFunction")]
  resolved := Array.replicate 194 none
  statics := some 1 }

def pool13 : Array CpInfo := pool [(9, u "<init>"), (6, .class_ 18), (1, u "java/lang/Object"), (0, u "()V"), (1, .class_ 23), (1, u "jdk/internal/util/ArraysSupport"), (0, u "LOG2_ARRAY_LONG_INDEX_SCALE"), (0, u "I"), (2, u "U"), (0, u "Ljdk/internal/misc/Unsafe;"), (8, u "BIG_ENDIAN"), (0, u "Z"), (8, u "LOG2_BYTE_BIT_SIZE"), (4, u "LOG2_ARRAY_INT_INDEX_SCALE"), (54, u "JLA"), (0, u "Ljdk/internal/access/JavaLangAccess;"), (11, u "LOG2_ARRAY_BOOLEAN_INDEX_SCALE"), (9, u "LOG2_ARRAY_BYTE_INDEX_SCALE"), (5, u "LOG2_ARRAY_CHAR_INDEX_SCALE"), (5, u "LOG2_ARRAY_SHORT_INDEX_SCALE"), (18, u "LOG2_ARRAY_FLOAT_INDEX_SCALE"), (24, u "LOG2_ARRAY_DOUBLE_INDEX_SCALE"), (89, u "T_BOOLEAN"), (2, u "T_CHAR"), (1, u "T_FLOAT"), (1, u "T_DOUBLE"), (1, u "T_BYTE"), (1, u "T_SHORT"), (1, u "T_INT"), (1, u "T_LONG"), (1, u "SOFT_MAX_ARRAY_LENGTH")] 83

def k13m0 : Method := { name := "<init>", desc := "()V", sig := { parameters := [], returnType := none }, accessFlags := 2, code := none }
/-- jdk/internal/util/ArraysSupport -/
def k13 : Class := { plain "jdk/internal/util/ArraysSupport" (some 0) with
  accessFlags := 33
  interfaces := #[]
  cf := some (fileOf pool13 21 #[] #[{ accessFlags := 2, nameIndex := 9, descriptorIndex := 19, attributes := #[] }] 33 16 #[] #[{ accessFlags := 24, nameIndex := 28, descriptorIndex := 29, attributes := #[] }, { accessFlags := 26, nameIndex := 38, descriptorIndex := 39, attributes := #[] }, { accessFlags := 25, nameIndex := 121, descriptorIndex := 25, attributes := #[] }, { accessFlags := 25, nameIndex := 131, descriptorIndex := 25, attributes := #[] }, { accessFlags := 25, nameIndex := 137, descriptorIndex := 25, attributes := #[] }, { accessFlags := 25, nameIndex := 143, descriptorIndex := 25, attributes := #[] }, { accessFlags := 25, nameIndex := 53, descriptorIndex := 25, attributes := #[] }, { accessFlags := 25, nameIndex := 24, descriptorIndex := 25, attributes := #[] }, { accessFlags := 25, nameIndex := 162, descriptorIndex := 25, attributes := #[] }, { accessFlags := 25, nameIndex := 187, descriptorIndex := 25, attributes := #[] }, { accessFlags := 26, nameIndex := 48, descriptorIndex := 25, attributes := #[] }, { accessFlags := 25, nameIndex := 277, descriptorIndex := 25, attributes := #[] }, { accessFlags := 25, nameIndex := 280, descriptorIndex := 25, attributes := #[] }, { accessFlags := 25, nameIndex := 282, descriptorIndex := 25, attributes := #[] }, { accessFlags := 25, nameIndex := 284, descriptorIndex := 25, attributes := #[] }, { accessFlags := 25, nameIndex := 286, descriptorIndex := 25, attributes := #[] }, { accessFlags := 25, nameIndex := 288, descriptorIndex := 25, attributes := #[] }, { accessFlags := 25, nameIndex := 290, descriptorIndex := 25, attributes := #[] }, { accessFlags := 25, nameIndex := 292, descriptorIndex := 25, attributes := #[] }, { accessFlags := 26, nameIndex := 108, descriptorIndex := 109, attributes := #[] }, { accessFlags := 25, nameIndex := 294, descriptorIndex := 25, attributes := #[] }])
  fields := #[{ name := "U", type := (.object "jdk/internal/misc/Unsafe"), accessFlags := 24, slot := 0, constantValue := 0 }, { name := "BIG_ENDIAN", type := .boolean, accessFlags := 26, slot := 1, constantValue := 0 }, { name := "LOG2_ARRAY_BOOLEAN_INDEX_SCALE", type := .int, accessFlags := 25, slot := 2, constantValue := 0 }, { name := "LOG2_ARRAY_BYTE_INDEX_SCALE", type := .int, accessFlags := 25, slot := 3, constantValue := 0 }, { name := "LOG2_ARRAY_CHAR_INDEX_SCALE", type := .int, accessFlags := 25, slot := 4, constantValue := 0 }, { name := "LOG2_ARRAY_SHORT_INDEX_SCALE", type := .int, accessFlags := 25, slot := 5, constantValue := 0 }, { name := "LOG2_ARRAY_INT_INDEX_SCALE", type := .int, accessFlags := 25, slot := 6, constantValue := 0 }, { name := "LOG2_ARRAY_LONG_INDEX_SCALE", type := .int, accessFlags := 25, slot := 7, constantValue := 0 }, { name := "LOG2_ARRAY_FLOAT_INDEX_SCALE", type := .int, accessFlags := 25, slot := 8, constantValue := 0 }, { name := "LOG2_ARRAY_DOUBLE_INDEX_SCALE", type := .int, accessFlags := 25, slot := 9, constantValue := 0 }, { name := "LOG2_BYTE_BIT_SIZE", type := .int, accessFlags := 26, slot := 10, constantValue := 0 }, { name := "T_BOOLEAN", type := .int, accessFlags := 25, slot := 11, constantValue := 0 }, { name := "T_CHAR", type := .int, accessFlags := 25, slot := 12, constantValue := 0 }, { name := "T_FLOAT", type := .int, accessFlags := 25, slot := 13, constantValue := 0 }, { name := "T_DOUBLE", type := .int, accessFlags := 25, slot := 14, constantValue := 0 }, { name := "T_BYTE", type := .int, accessFlags := 25, slot := 15, constantValue := 0 }, { name := "T_SHORT", type := .int, accessFlags := 25, slot := 16, constantValue := 0 }, { name := "T_INT", type := .int, accessFlags := 25, slot := 17, constantValue := 0 }, { name := "T_LONG", type := .int, accessFlags := 25, slot := 18, constantValue := 0 }, { name := "JLA", type := (.object "jdk/internal/access/JavaLangAccess"), accessFlags := 26, slot := 19, constantValue := 0 }, { name := "SOFT_MAX_ARRAY_LENGTH", type := .int, accessFlags := 25, slot := 20, constantValue := 0 }]
  methods := #[k13m0]
  instanceTypes := #[]
  staticTypes := #[(.object "jdk/internal/misc/Unsafe"), .boolean, .int, .int, .int, .int, .int, .int, .int, .int, .int, .int, .int, .int, .int, .int, .int, .int, .int, (.object "jdk/internal/access/JavaLangAccess"), .int]
  resolved := Array.replicate 378 none
  statics := none }

def pool14 : Array CpInfo := pool [(1, u "java/lang/Cloneable"), (0, .class_ 1), (0, u "java/lang/Object"), (0, .class_ 3)] 3

/-- java/lang/Cloneable -/
def k14 : Class := { plain "java/lang/Cloneable" (some 0) with
  accessFlags := 1537
  interfaces := #[]
  cf := some (fileOf pool14 2 #[] #[] 1537 4 #[] #[])
  fields := #[]
  methods := #[]
  instanceTypes := #[]
  staticTypes := #[]
  resolved := Array.replicate 8 none
  statics := none }

/-- the primitive byte -/
def k15 : Class := { plain "byte" none with kind := .primitive 'B', accessFlags := 0x411 }
/-- [B -/
def k16 : Class := { plain "[B" (some 0) with kind := .array 15 .byte, interfaces := #[14, 2], accessFlags := 1041 }

/-- the primitive char -/
def k17 : Class := { plain "char" none with kind := .primitive 'C', accessFlags := 0x411 }
/-- [C -/
def k18 : Class := { plain "[C" (some 0) with kind := .array 17 .char, interfaces := #[14, 2], accessFlags := 1041 }

/-- the primitive int -/
def k19 : Class := { plain "int" none with kind := .primitive 'I', accessFlags := 0x411 }
/-- [I -/
def k20 : Class := { plain "[I" (some 0) with kind := .array 19 .int, interfaces := #[14, 2], accessFlags := 1041 }

def heap : Heap := #[{ cls := 7, slots := #[.long 0, .int 1, .null, .int 0, .null, .int 0, .int 0], vm := .statics 7 },
  { cls := 12, slots := #[.null, .null, .null], vm := .statics 12 }]
def classes : Array Class := #[k0, k1, k2, k3, k4, k5, k6, k7, k8, k9, k10, k11, k12, k13, k14, k15, k16, k17, k18, k19, k20]
def interned : List (Array UInt16 × Addr) := []
def slotsUsed : Nat := 10
def theMethod : MethodId := ⟨1, 2⟩
def args0 : Array Value := #[.int 5, .int 7, .int 9, .int 1]
def aboutOver (below : List Frame) : State where
  vm := { classes := classes, interned := interned.toArray }
  heap := heap
  slotsUsed := slotsUsed
  threads := #[{ frames := .invoking theMethod args0 :: below }]
def below0 : List Frame := [.native { method := ⟨0, 0⟩, args := #[] }]
def about1 : State := aboutOver below0
def p0 : Program := .bare "" "" ""
def e0 : Env := launch0.env 0 0 0
theorem w_frames : about1.frames = Frame.invoking theMethod args0 :: below0 := rfl
set_option maxRecDepth 65536 in
theorem w_args : argsFit about1.vm theMethod args0 = true := by decide +kernel
set_option maxRecDepth 65536 in
theorem w_heap : heapFits about1 = true := by decide +kernel
set_option maxRecDepth 65536 in
theorem w_runnable : about1.curStatus? = some .runnable := by decide +kernel
set_option maxRecDepth 65536 in
theorem w_alone : about1.alone = true := by decide +kernel
set_option maxRecDepth 65536 in
theorem w_named : about1.methodNamed? x = some theMethod := by decide +kernel
set_option maxRecDepth 65536 in
theorem w_hears : about1.hears theMethod below0 = true := by decide +kernel
set_option maxRecDepth 65536 in
theorem w_ripe : about1.ripe theMethod args0 below0 = true := by decide +kernel
theorem w_running : about1.status = .running := rfl
set_option maxRecDepth 65536 in
theorem w_room : about1.hasRoom e0.platform room_1 = true :=
  launch0.hasRoom_least _ room_1 (by decide +kernel) (by decide +kernel) (by decide +kernel) (by decide +kernel) (by decide +kernel) (by decide +kernel)
theorem allAtoms_all (ts : List Jvm.Cond) (a : Array Jvm.Value) (st : Jvm.State) : (allAtoms ts).before a st = ts.all (fun c => c.before a st) := by
  induction ts with
  | nil => rfl
  | cons c t ih =>
    show (Jvm.Cond.and c (allAtoms t)).before a st = _
    rw [Jvm.Cond.before_and, ih, List.all_cons]
def words1 : List Jvm.Cond := Jvm.Cond.code x code maxLocals ret :: tables_1
/-- a 'code' word, met by the world's own term for the bytes: nothing is compared byte by byte -/
theorem code_word {y : MethodName} {bytes : ByteArray} {mx : Nat} {rt : Option FieldType} {a : Array Value} {s : State} {m : MethodId} {meth : Method} {c : Code} (h1 : s.methodNamed? y = some m) (h2 : s.vm.method? m = some meth) (h3 : meth.code = some c) (h4 : c.code = bytes)
    (h5 : (c.maxLocals == mx && c.exceptionTable.isEmpty && decide (c.maxStack ≤ mostOperands) && decide (meth.sig.returnType = rt) && !meth.locks && decide (parseMethodDescriptor y.desc = some meth.sig)) = true) : (Jvm.Cond.code y bytes mx rt).before a s = true := by
  simp only [Bool.and_eq_true, beq_iff_eq, Bool.not_eq_true', decide_eq_true_eq] at h5
  obtain ⟨⟨⟨⟨⟨g1, g2⟩, g3⟩, g4⟩, g5⟩, g6⟩ := h5
  simp [Cond.before, Cond.holds, Cond.value, h1, h2, h3, h4, g1, g2, g3, g4, g5, g6]
def isCode : Jvm.Cond → Bool
  | .code _ _ _ _ => true
  | _ => false
theorem all_split {L : List Jvm.Cond} {P : Jvm.Cond → Bool} (h1 : L.all (fun c => isCode c || P c) = true) (h2 : ∀ c ∈ L.filter isCode, P c = true) : L.all P = true := by
  refine List.all_eq_true.mpr fun c hc => ?_
  have h := List.all_eq_true.mp h1 c hc
  rcases Bool.eq_false_or_eq_true (isCode c) with hi | hi
  · exact h2 c (List.mem_filter.mpr ⟨hc, hi⟩)
  · simpa [hi] using h
set_option maxRecDepth 65536 in
theorem w_c0 : (Jvm.Cond.code x code maxLocals ret).before args0 about1 = true := code_word (m := ⟨1, 2⟩) (meth := k1m2) (c := k1c2) (by decide +kernel) rfl rfl rfl (by decide +kernel)
set_option maxRecDepth 65536 in
theorem w_c1 : (Jvm.Cond.code ({ cls := "java/lang/String", name := "<init>", desc := "([C)V" } : Jvm.MethodName) jdk_42_method_3_code (2 : Nat) (Option.none : Option Jvm.ClassFile.FieldType)).before args0 about1 = true := code_word (m := ⟨7, 1⟩) (meth := k7m1) (c := k7c1) (by decide +kernel) rfl rfl rfl (by decide +kernel)
set_option maxRecDepth 65536 in
theorem w_c2 : (Jvm.Cond.code ({ cls := "java/lang/String", name := "<init>", desc := "([CIILjava/lang/Void;)V" } : Jvm.MethodName) jdk_42_method_149_code (6 : Nat) (Option.none : Option Jvm.ClassFile.FieldType)).before args0 about1 = true := code_word (m := ⟨7, 3⟩) (meth := k7m3) (c := k7c3) (by decide +kernel) rfl rfl rfl (by decide +kernel)
set_option maxRecDepth 65536 in
theorem w_c3 : (Jvm.Cond.code ({ cls := "java/lang/Object", name := "<init>", desc := "()V" } : Jvm.MethodName) object_method_1_code (1 : Nat) (Option.none : Option Jvm.ClassFile.FieldType)).before args0 about1 = true := code_word (m := ⟨0, 0⟩) (meth := k0m0) (c := k0c0) (by decide +kernel) rfl rfl rfl (by decide +kernel)
set_option maxRecDepth 65536 in
theorem w_c4 : (Jvm.Cond.code ({ cls := "java/lang/StringUTF16", name := "compress", desc := "([CII)[B" } : Jvm.MethodName) jdk_52_method_16_code (6 : Nat) (Option.some (Jvm.ClassFile.FieldType.array Jvm.ClassFile.FieldType.byte))).before args0 about1 = true := code_word (m := ⟨8, 2⟩) (meth := k8m2) (c := k8c2) (by decide +kernel) rfl rfl rfl (by decide +kernel)
set_option maxRecDepth 65536 in
theorem w_c5 : (Jvm.Cond.code ({ cls := "java/lang/StringUTF16", name := "compress", desc := "([CI[BII)I" } : Jvm.MethodName) jdk_52_method_21_code (7 : Nat) (Option.some Jvm.ClassFile.FieldType.int)).before args0 about1 = true := code_word (m := ⟨8, 3⟩) (meth := k8m3) (c := k8c3) (by decide +kernel) rfl rfl rfl (by decide +kernel)
set_option maxRecDepth 65536 in
theorem w_c6 : (Jvm.Cond.code ({ cls := "java/lang/StringUTF16", name := "coderFromArrayLen", desc := "([BI)B" } : Jvm.MethodName) jdk_52_method_15_code (2 : Nat) (Option.some Jvm.ClassFile.FieldType.byte)).before args0 about1 = true := code_word (m := ⟨8, 1⟩) (meth := k8m1) (c := k8c1) (by decide +kernel) rfl rfl rfl (by decide +kernel)
set_option maxRecDepth 65536 in
theorem w_c7 : (Jvm.Cond.code ({ cls := "com/example/amherst/amherst/storage/SearchIndex", name := "<init>", desc := "(Ljava/lang/String;Ljava/lang/String;ZZ)V" } : Jvm.MethodName) prog_33_method_2_code (5 : Nat) (Option.none : Option Jvm.ClassFile.FieldType)).before args0 about1 = true := code_word (m := ⟨10, 0⟩) (meth := k10m0) (c := k10c0) (by decide +kernel) rfl rfl rfl (by decide +kernel)
set_option maxRecDepth 65536 in
theorem w_c8 : (Jvm.Cond.code ({ cls := "java/lang/Record", name := "<init>", desc := "()V" } : Jvm.MethodName) jdk_30_method_1_code (1 : Nat) (Option.none : Option Jvm.ClassFile.FieldType)).before args0 about1 = true := code_word (m := ⟨9, 0⟩) (meth := k9m0) (c := k9c0) (by decide +kernel) rfl rfl rfl (by decide +kernel)
set_option maxRecDepth 65536 in
theorem w_c9 : (Jvm.Cond.code ({ cls := "com/example/amherst/amherst/storage/SearchIndex", name := "asServerChoice", desc := "()Lcom/example/amherst/amherst/storage/SearchIndex;" } : Jvm.MethodName) prog_33_method_3_code (1 : Nat) (Option.some (Jvm.ClassFile.FieldType.object "com/example/amherst/amherst/storage/SearchIndex"))).before args0 about1 = true := code_word (m := ⟨10, 1⟩) (meth := k10m1) (c := k10c1) (by decide +kernel) rfl rfl rfl (by decide +kernel)
set_option maxRecDepth 65536 in
theorem w_c10 : (Jvm.Cond.code ({ cls := "com/example/amherst/amherst/storage/SearchIndex", name := "name", desc := "()Ljava/lang/String;" } : Jvm.MethodName) prog_33_method_7_code (1 : Nat) (Option.some (Jvm.ClassFile.FieldType.object "java/lang/String"))).before args0 about1 = true := code_word (m := ⟨10, 2⟩) (meth := k10m2) (c := k10c2) (by decide +kernel) rfl rfl rfl (by decide +kernel)
set_option maxRecDepth 65536 in
theorem w_c11 : (Jvm.Cond.code ({ cls := "com/example/amherst/amherst/storage/SearchIndexAsServerChoicePinLaw", name := "same", desc := "(Ljava/lang/String;Ljava/lang/String;)Z" } : Jvm.MethodName) method_2_code (2 : Nat) (Option.some Jvm.ClassFile.FieldType.boolean)).before args0 about1 = true := code_word (m := ⟨1, 1⟩) (meth := k1m1) (c := k1c1) (by decide +kernel) rfl rfl rfl (by decide +kernel)
set_option maxRecDepth 65536 in
theorem w_c12 : (Jvm.Cond.code ({ cls := "java/lang/String", name := "equals", desc := "(Ljava/lang/Object;)Z" } : Jvm.MethodName) jdk_42_method_66_code (3 : Nat) (Option.some Jvm.ClassFile.FieldType.boolean)).before args0 about1 = true := code_word (m := ⟨7, 2⟩) (meth := k7m2) (c := k7c2) (by decide +kernel) rfl rfl rfl (by decide +kernel)
set_option maxRecDepth 65536 in
theorem w_c13 : (Jvm.Cond.code ({ cls := "com/example/amherst/amherst/storage/SearchIndex", name := "property", desc := "()Ljava/lang/String;" } : Jvm.MethodName) prog_33_method_8_code (1 : Nat) (Option.some (Jvm.ClassFile.FieldType.object "java/lang/String"))).before args0 about1 = true := code_word (m := ⟨10, 3⟩) (meth := k10m3) (c := k10c3) (by decide +kernel) rfl rfl rfl (by decide +kernel)
set_option maxRecDepth 65536 in
theorem w_c14 : (Jvm.Cond.code ({ cls := "com/example/amherst/amherst/storage/SearchIndex", name := "byWords", desc := "()Z" } : Jvm.MethodName) prog_33_method_9_code (1 : Nat) (Option.some Jvm.ClassFile.FieldType.boolean)).before args0 about1 = true := code_word (m := ⟨10, 4⟩) (meth := k10m4) (c := k10c4) (by decide +kernel) rfl rfl rfl (by decide +kernel)
set_option maxRecDepth 65536 in
theorem w_c15 : (Jvm.Cond.code ({ cls := "com/example/amherst/amherst/storage/SearchIndex", name := "serverChoice", desc := "()Z" } : Jvm.MethodName) prog_33_method_10_code (1 : Nat) (Option.some Jvm.ClassFile.FieldType.boolean)).before args0 about1 = true := code_word (m := ⟨10, 5⟩) (meth := k10m5) (c := k10c5) (by decide +kernel) rfl rfl rfl (by decide +kernel)
def codes1 : List Jvm.Cond := [Jvm.Cond.code x code maxLocals ret, Jvm.Cond.code ({ cls := "java/lang/String", name := "<init>", desc := "([C)V" } : Jvm.MethodName) jdk_42_method_3_code (2 : Nat) (Option.none : Option Jvm.ClassFile.FieldType), Jvm.Cond.code ({ cls := "java/lang/String", name := "<init>", desc := "([CIILjava/lang/Void;)V" } : Jvm.MethodName) jdk_42_method_149_code (6 : Nat) (Option.none : Option Jvm.ClassFile.FieldType), Jvm.Cond.code ({ cls := "java/lang/Object", name := "<init>", desc := "()V" } : Jvm.MethodName) object_method_1_code (1 : Nat) (Option.none : Option Jvm.ClassFile.FieldType), Jvm.Cond.code ({ cls := "java/lang/StringUTF16", name := "compress", desc := "([CII)[B" } : Jvm.MethodName) jdk_52_method_16_code (6 : Nat) (Option.some (Jvm.ClassFile.FieldType.array Jvm.ClassFile.FieldType.byte)), Jvm.Cond.code ({ cls := "java/lang/StringUTF16", name := "compress", desc := "([CI[BII)I" } : Jvm.MethodName) jdk_52_method_21_code (7 : Nat) (Option.some Jvm.ClassFile.FieldType.int), Jvm.Cond.code ({ cls := "java/lang/StringUTF16", name := "coderFromArrayLen", desc := "([BI)B" } : Jvm.MethodName) jdk_52_method_15_code (2 : Nat) (Option.some Jvm.ClassFile.FieldType.byte), Jvm.Cond.code ({ cls := "com/example/amherst/amherst/storage/SearchIndex", name := "<init>", desc := "(Ljava/lang/String;Ljava/lang/String;ZZ)V" } : Jvm.MethodName) prog_33_method_2_code (5 : Nat) (Option.none : Option Jvm.ClassFile.FieldType), Jvm.Cond.code ({ cls := "java/lang/Record", name := "<init>", desc := "()V" } : Jvm.MethodName) jdk_30_method_1_code (1 : Nat) (Option.none : Option Jvm.ClassFile.FieldType), Jvm.Cond.code ({ cls := "com/example/amherst/amherst/storage/SearchIndex", name := "asServerChoice", desc := "()Lcom/example/amherst/amherst/storage/SearchIndex;" } : Jvm.MethodName) prog_33_method_3_code (1 : Nat) (Option.some (Jvm.ClassFile.FieldType.object "com/example/amherst/amherst/storage/SearchIndex")), Jvm.Cond.code ({ cls := "com/example/amherst/amherst/storage/SearchIndex", name := "name", desc := "()Ljava/lang/String;" } : Jvm.MethodName) prog_33_method_7_code (1 : Nat) (Option.some (Jvm.ClassFile.FieldType.object "java/lang/String")), Jvm.Cond.code ({ cls := "com/example/amherst/amherst/storage/SearchIndexAsServerChoicePinLaw", name := "same", desc := "(Ljava/lang/String;Ljava/lang/String;)Z" } : Jvm.MethodName) method_2_code (2 : Nat) (Option.some Jvm.ClassFile.FieldType.boolean), Jvm.Cond.code ({ cls := "java/lang/String", name := "equals", desc := "(Ljava/lang/Object;)Z" } : Jvm.MethodName) jdk_42_method_66_code (3 : Nat) (Option.some Jvm.ClassFile.FieldType.boolean), Jvm.Cond.code ({ cls := "com/example/amherst/amherst/storage/SearchIndex", name := "property", desc := "()Ljava/lang/String;" } : Jvm.MethodName) prog_33_method_8_code (1 : Nat) (Option.some (Jvm.ClassFile.FieldType.object "java/lang/String")), Jvm.Cond.code ({ cls := "com/example/amherst/amherst/storage/SearchIndex", name := "byWords", desc := "()Z" } : Jvm.MethodName) prog_33_method_9_code (1 : Nat) (Option.some Jvm.ClassFile.FieldType.boolean), Jvm.Cond.code ({ cls := "com/example/amherst/amherst/storage/SearchIndex", name := "serverChoice", desc := "()Z" } : Jvm.MethodName) prog_33_method_10_code (1 : Nat) (Option.some Jvm.ClassFile.FieldType.boolean)]
set_option maxRecDepth 65536 in
theorem codes_eq : words1.filter isCode = codes1 := rfl
theorem w_codes : ∀ c ∈ words1.filter isCode, c.before args0 about1 = true := by
  rw [codes_eq]
  intro c hc
  simp only [codes1, List.mem_cons, List.not_mem_nil, or_false] at hc
  rcases hc with rfl | rfl | rfl | rfl | rfl | rfl | rfl | rfl | rfl | rfl | rfl | rfl | rfl | rfl | rfl | rfl
  · exact w_c0
  · exact w_c1
  · exact w_c2
  · exact w_c3
  · exact w_c4
  · exact w_c5
  · exact w_c6
  · exact w_c7
  · exact w_c8
  · exact w_c9
  · exact w_c10
  · exact w_c11
  · exact w_c12
  · exact w_c13
  · exact w_c14
  · exact w_c15
set_option maxRecDepth 65536 in
theorem w_t1 : (words1.take 24).all (fun c => isCode c || c.before args0 about1) = true := by decide +kernel
set_option maxRecDepth 65536 in
theorem w_t2 : ((words1.drop 24).take 24).all (fun c => isCode c || c.before args0 about1) = true := by decide +kernel
set_option maxRecDepth 65536 in
theorem w_t3 : (((words1.drop 24).drop 24).take 24).all (fun c => isCode c || c.before args0 about1) = true := by decide +kernel
set_option maxRecDepth 65536 in
theorem w_t4 : (((words1.drop 24).drop 24).drop 24).all (fun c => isCode c || c.before args0 about1) = true := by decide +kernel
theorem w_tables : (allAtoms (Jvm.Cond.code x code maxLocals ret :: tables_1)).before args0 about1 = true := by
  rw [allAtoms_all]
  show words1.all (fun c => c.before args0 about1) = true
  refine all_split ?_ w_codes
  rw [← List.take_append_drop 24 words1, List.all_append, w_t1, ← List.take_append_drop 24 (words1.drop 24), List.all_append, w_t2, ← List.take_append_drop 24 ((words1.drop 24).drop 24), List.all_append, w_t3, w_t4]
  rfl
set_option maxRecDepth 65536 in
theorem w_rest : rest_1_c.before args0 about1 = true := by decide +kernel
set_option maxRecDepth 65536 in
theorem w_case : (Jvm.Cond.and given_1 narrow_1).before args0 about1 = true := by decide +kernel
theorem w_applies : (headSpec (Jvm.Cond.code x code maxLocals ret :: tables_1) room_1).applies x e0.platform about1 = true :=
  (Spec.applies_iff w_frames).mpr ⟨w_running, w_runnable, w_alone, w_named, w_hears, w_ripe, w_room, w_tables⟩
theorem atStart : AtStart classFile x code maxLocals ret World_1 tables_1 room_1 Calls_1 rest_1 Pre_1 launch0 p0 e0 about1 theMethod args0 below0 :=
  ⟨lists_1, trivial, launch0.admits_env _ _ _, launch0.least_env, fairChoices_fair.cas, fairChoices_fair.clock, w_frames, w_args, w_heap, w_applies, trivial, w_rest, w_case⟩
end start1
theorem witness_1 : WitnessClaimed_1 := ⟨start1.p0, start1.e0, start1.about1, start1.theMethod, start1.args0, start1.below0, start1.atStart⟩
end Jvm.Pilot.@@N@@
