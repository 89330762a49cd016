import JvmDerived
import JvmDerived.Pilot.@@N@@Statement
import JvmDerived.Pilot.@@N@@Code
set_option linter.unusedVariables false
set_option linter.unusedSimpArgs false
namespace Jvm.Wk
open Sem ClassFile Op Lib Jvm.Stand Jvm.Free Jvm.LawKit Jvm.RoadKit
def Fin_ (p : Program) (e : Env) (s : State) (below : List Frame) (R : Room) (n0 : Nat) (P : Option Value → Heap → Prop) (S0 : State) : Prop :=
  ∃ s₂ o, Steps p.tables e below S0 s₂ ∧ s₂.status = .running ∧ Ended s₂ below o ∧ ∃ v L, o = .returned v ∧ (Fr n0 L ∧ P v s₂.heap) ∧ FrameEnd s o s₂ L R.cells R.slots
def Fa (Z : State) (y : MethodName) (bytes : ByteArray) (maxL : Nat) (ret : Option FieldType) (p : Program) (s : State) (m : MethodId) (meth : Method) (c : Code) : Prop :=
  p.tables.exec = Jvm.exec ∧ c.code = bytes ∧ c.maxLocals = maxL ∧ Z.Warmed39 s.vm ∧ s.vm.findClass y.cls = some m.cls ∧ meth.name = y.name ∧ meth.sig.returnType = ret ∧ meth.locks = false
/-- a walk that has come to pc with these locals and this operand stack over the heap h; G: what it is walked for -/
def Wk (l : Launch) (Z : State) (R : Room) (y : MethodName) (bytes : ByteArray) (maxL : Nat) (ret : Option FieldType) (n0 : Nat) (Xt : Program → Env → List Frame → State → Prop) (s : State) (h : Heap) (cells slots pc : Nat) (Ls : Array Slot) (st : List Value) : Prop :=
  ∃ (p : Program) (e : Env) (m : MethodId) (args : Array Value) (below : List Frame) (meth : Method) (c : Code) (S0 T : State) (locs : List Loc), Fa Z y bytes maxL ret p s m meth c ∧
    Stand p l e R s m args below meth c T locs cells slots ∧ T.heap = h ∧ Fr n0 locs ∧ (∀ t, Steps p.tables e below (T.setTop (mkF m pc Ls st)) t → Steps p.tables e below S0 t) ∧ Xt p e below S0
/-- how a walk of a contract ends: G is what it is walked for -/
abbrev Ex (s : State) (R : Room) (n0 : Nat) (P : Option Value → Heap → Prop) (G : Prop) : Program → Env → List Frame → State → Prop := fun p e below S0 => Fin_ p e s below R n0 P S0 → G
/-- a callee's contract: entered with the arguments as' over the heap h0 it returns; P says what and over which heap -/
def Con (l : Launch) (Z : State) (y : MethodName) (bytes : ByteArray) (maxL : Nat) (ret : Option FieldType) (rm : Room) (as' : Array Value) (h0 : Heap) (n0 : Nat) (P : Option Value → Heap → Prop) : Prop :=
  ∀ ws : List Jvm.Cond, MetFree l y (head1 (Jvm.Cond.code y bytes maxL ret :: ws) rm) (fun a U => a = as' ∧ Z.Warmed39 U.vm ∧ U.heap = h0) (fun _ _ _ _ _ => True) (fun _ U o U' => ∃ v L, o = .returned v ∧ (Fr n0 L ∧ P v U'.heap) ∧ FrameEnd U o U' L rm.cells rm.slots)
/-- an array of the component type ty that holds vs -/
def AV (Z : State) (h : Heap) (a : Addr) (ty : FieldType) (vs : List Value) : Prop := vs.length < 2 ^ 31 ∧ ∃ c : Cell, Arr Z h a c ty ∧ c.slots = vs.toArray
section L
variable {l : Launch} {Z : State} {R : Room} {y : MethodName} {bytes : ByteArray} {maxL : Nat} {ret : Option FieldType} {n0 : Nat} {P : Option Value → Heap → Prop} {G : Prop} {Xt : Program → Env → List Frame → State → Prop} {s : State} {h h' : Heap} {cells slots pc : Nat} {Ls : Array Slot} {st : List Value} {a0 : Array Value} {a : Addr} {ty : FieldType} {vs : List Value} {ws : List Addr}
theorem AV.lt (A : AV Z h a ty vs) : a < h.size := by obtain ⟨-, c, A, -⟩ := A; exact A.lt
theorem AV.keep (A : AV Z h a ty vs) (K : Keep h h' ws) (q : a ∉ ws) : AV Z h' a ty vs := by obtain ⟨n, c, A, r⟩ := A; exact ⟨n, c, ⟨K.2.1 a c A.1 q, A.2⟩, r⟩
theorem nS {x y : Nat} {L : List Addr} (q : ¬ x = y) (r : (x : Addr) ∉ L) : (x : Addr) ∉ (y : Addr) :: L := ninS q r
theorem Keep.of_ext (E : Ext h h') : Keep h h' [] := (Keep.refl h []).ext E
theorem mk {p : Program} {e : Env} {m : MethodId} {args : Array Value} {below : List Frame} {meth : Method} {c : Code} {S0 T : State} {locs : List Loc} (F : Fa Z y bytes maxL ret p s m meth c)
    (X : Stand p l e R s m args below meth c T locs cells slots) (eT : T.heap = h) (N : Fr n0 locs) (r : ∀ t, Steps p.tables e below (T.setTop (mkF m pc Ls st)) t → Steps p.tables e below S0 t) (ex : Xt p e below S0) : Wk l Z R y bytes maxL ret n0 Xt s h cells slots pc Ls st :=
  Exists.intro p ⟨e, m, args, below, meth, c, S0, T, locs, F, X, eT, N, r, ex⟩
theorem Con.of {as' : Array Value} (hpn : plainFor y = true) (hef : ∀ m, entryFrame m as' maxL = mkF m 0 Ls []) (body : ∀ (G : Prop) (s : State), Wk l Z R y bytes maxL ret n0 (Ex s R n0 P G) s h 0 0 0 Ls [] → G) : Con l Z y bytes maxL ret R as' h n0 P := by
  intro ws
  refine MetFree.of_bodySF hpn hisR ?_
  intro p e s m args below meth c s₁ Bd hml0 hP hK
  obtain ⟨rfl, hZ, hh⟩ := hP
  refine body _ s ?_
  have X0 : Stand p l e R s m args below meth c s₁ [] 0 0 := Stand.of_body Bd
  exact mk (S0 := s₁.setTop (entryFrame m args maxL)) ⟨Bd.exec, Bd.bytes, hml0, hZ, findClass_of_methodNamed Bd.named, (name_of_methodNamed Bd.named Bd.method).1, Bd.returns, Bd.notSynchronized⟩ X0 (by rw [← hh, Bd.state]; rfl) (Fr.nil n0) (fun t k => castTop (hef m) k) (fun q => q)
theorem Wk.pure {pc' : Nat} {Ls' : Array Slot} {st' : List Value} (k : Wk l Z R y bytes maxL ret n0 Xt s h cells slots pc Ls st) (f : ∀ {tb : Tables} [Ours tb] {e : Env} {below : List Frame} {T t : State} {m : MethodId} {c : Code}, At T m c below → tb.exec = Jvm.exec → c.code = bytes → Steps tb e below (T.setTop (mkF m pc' Ls' st')) t → Steps tb e below (T.setTop (mkF m pc Ls st)) t) : Wk l Z R y bytes maxL ret n0 Xt s h cells slots pc' Ls' st' := by
  obtain ⟨p, e, m, args, below, meth, c, S0, T, locs, F, X, eT, N, r, ex⟩ := k
  exact mk F X eT N (fun t q => r t (f X.here F.1 F.2.1 q)) ex
/-- more cells and slots booked than were made -/
theorem Wk.more {cells' slots' : Nat} (k : Wk l Z R y bytes maxL ret n0 Xt s h cells slots pc Ls st) (h1 : cells ≤ cells') (h2 : slots ≤ slots') : Wk l Z R y bytes maxL ret n0 Xt s h cells' slots' pc Ls st := by
  obtain ⟨p, e, m, args, below, meth, c, S0, T, locs, F, X, eT, N, r, ex⟩ := k
  exact mk F { X with same := X.same.mono h1 h2 } eT N r ex
theorem Wk.aloadN {j : Fin 4} {v : Value} (k : Wk l Z R y bytes maxL ret n0 Xt s h cells slots pc Ls st) (hd : decode bytes pc = .ok (.aload_n j, 1)) (hl : Ls[j.val]? = some (.val v)) (hv : v.isRef = true) : Wk l Z R y bytes maxL ret n0 Xt s h cells slots (pc + 1) Ls (v :: st) := k.pure fun a hx hb' q => XS.aloadN a hx rfl (hb hb' hd) hl hv q
theorem Wk.aload {j : Nat} {v : Value} (k : Wk l Z R y bytes maxL ret n0 Xt s h cells slots pc Ls st) (hd : decode bytes pc = .ok (.aload j, 2)) (hl : Ls[j]? = some (.val v)) (hv : v.isRef = true) : Wk l Z R y bytes maxL ret n0 Xt s h cells slots (pc + 2) Ls (v :: st) := k.pure fun a hx hb' q => XS.aload a hx rfl (hb hb' hd) hl hv q
theorem Wk.iloadN {j : Fin 4} {v : Int32} (k : Wk l Z R y bytes maxL ret n0 Xt s h cells slots pc Ls st) (hd : decode bytes pc = .ok (.iload_n j, 1)) (hl : Ls[j.val]? = some (.val (.int v))) : Wk l Z R y bytes maxL ret n0 Xt s h cells slots (pc + 1) Ls (.int v :: st) := k.pure fun a hx hb' q => XS.iloadN a hx rfl (hb hb' hd) hl q
theorem Wk.iload {j : Nat} {v : Int32} (k : Wk l Z R y bytes maxL ret n0 Xt s h cells slots pc Ls st) (hd : decode bytes pc = .ok (.iload j, 2)) (hl : Ls[j]? = some (.val (.int v))) : Wk l Z R y bytes maxL ret n0 Xt s h cells slots (pc + 2) Ls (.int v :: st) := k.pure fun a hx hb' q => XS.iload a hx rfl (hb hb' hd) hl q
theorem Wk.lloadN {j : Fin 4} {v : Int64} (k : Wk l Z R y bytes maxL ret n0 Xt s h cells slots pc Ls st) (hd : decode bytes pc = .ok (.lload_n j, 1)) (hl : Ls[j.val]? = some (.val (.long v))) : Wk l Z R y bytes maxL ret n0 Xt s h cells slots (pc + 1) Ls (.long v :: st) := k.pure fun a hx hb' q => XT.lloadN a hx rfl (hb hb' hd) hl q
theorem Wk.lload {j : Nat} {v : Int64} (k : Wk l Z R y bytes maxL ret n0 Xt s h cells slots pc Ls st) (hd : decode bytes pc = .ok (.lload j, 2)) (hl : Ls[j]? = some (.val (.long v))) : Wk l Z R y bytes maxL ret n0 Xt s h cells slots (pc + 2) Ls (.long v :: st) := k.pure fun a hx hb' q => XT.lload a hx rfl (hb hb' hd) hl q
theorem Wk.istoreN {j : Fin 4} {v : Int32} {Ls' : Array Slot} (k : Wk l Z R y bytes maxL ret n0 Xt s h cells slots pc Ls (.int v :: st)) (hd : decode bytes pc = .ok (.istore_n j, 1)) (hl : storeLocals Ls j.val (.int v) = some Ls') : Wk l Z R y bytes maxL ret n0 Xt s h cells slots (pc + 1) Ls' st := k.pure fun a hx hb' q => XS.istoreN a hx rfl (hb hb' hd) rfl hl q
theorem Wk.istore {j : Nat} {v : Int32} {Ls' : Array Slot} (k : Wk l Z R y bytes maxL ret n0 Xt s h cells slots pc Ls (.int v :: st)) (hd : decode bytes pc = .ok (.istore j, 2)) (hl : storeLocals Ls j (.int v) = some Ls') : Wk l Z R y bytes maxL ret n0 Xt s h cells slots (pc + 2) Ls' st := k.pure fun a hx hb' q => XS.istore a hx rfl (hb hb' hd) rfl hl q
theorem Wk.lstoreN {j : Fin 4} {v : Int64} {Ls' : Array Slot} (k : Wk l Z R y bytes maxL ret n0 Xt s h cells slots pc Ls (.long v :: st)) (hd : decode bytes pc = .ok (.lstore_n j, 1)) (hl : storeLocals Ls j.val (.long v) = some Ls') : Wk l Z R y bytes maxL ret n0 Xt s h cells slots (pc + 1) Ls' st := k.pure fun a hx hb' q => XT.lstoreN a hx rfl (hb hb' hd) rfl hl q
theorem Wk.lstore {j : Nat} {v : Int64} {Ls' : Array Slot} (k : Wk l Z R y bytes maxL ret n0 Xt s h cells slots pc Ls (.long v :: st)) (hd : decode bytes pc = .ok (.lstore j, 2)) (hl : storeLocals Ls j (.long v) = some Ls') : Wk l Z R y bytes maxL ret n0 Xt s h cells slots (pc + 2) Ls' st := k.pure fun a hx hb' q => XT.lstore a hx rfl (hb hb' hd) rfl hl q
theorem Wk.astoreN {j : Fin 4} {v : Value} {Ls' : Array Slot} (k : Wk l Z R y bytes maxL ret n0 Xt s h cells slots pc Ls (v :: st)) (hd : decode bytes pc = .ok (.astore_n j, 1)) (hv : v.isRef = true) (hl : storeLocals Ls j.val v = some Ls') : Wk l Z R y bytes maxL ret n0 Xt s h cells slots (pc + 1) Ls' st := k.pure fun a hx hb' q => XS.astoreN a hx rfl (hb hb' hd) rfl hv hl q
theorem Wk.astore {j : Nat} {v : Value} {Ls' : Array Slot} (k : Wk l Z R y bytes maxL ret n0 Xt s h cells slots pc Ls (v :: st)) (hd : decode bytes pc = .ok (.astore j, 2)) (hv : v.isRef = true) (hl : storeLocals Ls j v = some Ls') : Wk l Z R y bytes maxL ret n0 Xt s h cells slots (pc + 2) Ls' st := k.pure fun a hx hb' q => XS.astore a hx rfl (hb hb' hd) rfl hv hl q
theorem Wk.iconst {i : Int} (k : Wk l Z R y bytes maxL ret n0 Xt s h cells slots pc Ls st) (v : Int32) (hd : decode bytes pc = .ok (.iconst i, 1)) (hv : Int32.ofInt i = v) : Wk l Z R y bytes maxL ret n0 Xt s h cells slots (pc + 1) Ls (.int v :: st) := k.pure fun a hx hb' q => XT.iconstV a hx rfl v (hb hb' hd) hv q
theorem Wk.bipush {i : Int} (k : Wk l Z R y bytes maxL ret n0 Xt s h cells slots pc Ls st) (v : Int32) (hd : decode bytes pc = .ok (.bipush i, 2)) (hv : (Int8.ofInt i).toInt32 = v) : Wk l Z R y bytes maxL ret n0 Xt s h cells slots (pc + 2) Ls (.int v :: st) := k.pure fun a hx hb' q => XT.bipushV a hx rfl v (hb hb' hd) hv q
theorem Wk.sipush {i : Int} (k : Wk l Z R y bytes maxL ret n0 Xt s h cells slots pc Ls st) (v : Int32) (hd : decode bytes pc = .ok (.sipush i, 3)) (hv : (Int16.ofInt i).toInt32 = v) : Wk l Z R y bytes maxL ret n0 Xt s h cells slots (pc + 3) Ls (.int v :: st) := k.pure fun a hx hb' q => XT.sipushV a hx rfl v (hb hb' hd) hv q
theorem Wk.lconst {i : Fin 2} (k : Wk l Z R y bytes maxL ret n0 Xt s h cells slots pc Ls st) (v : Int64) (hd : decode bytes pc = .ok (.lconst i, 1)) (hv : Int64.ofNat i = v) : Wk l Z R y bytes maxL ret n0 Xt s h cells slots (pc + 1) Ls (.long v :: st) := k.pure fun a hx hb' q => XT.lconstV a hx rfl v (hb hb' hd) hv q
theorem Wk.anull (k : Wk l Z R y bytes maxL ret n0 Xt s h cells slots pc Ls st) (hd : decode bytes pc = .ok (.aconst_null, 1)) : Wk l Z R y bytes maxL ret n0 Xt s h cells slots (pc + 1) Ls (.null :: st) := k.pure fun a hx hb' q => XS.aconstNull a hx rfl (hb hb' hd) q
theorem Wk.iadd {x z : Int32} (k : Wk l Z R y bytes maxL ret n0 Xt s h cells slots pc Ls (.int z :: .int x :: st)) (hd : decode bytes pc = .ok (.iadd, 1)) : Wk l Z R y bytes maxL ret n0 Xt s h cells slots (pc + 1) Ls (.int (x + z) :: st) := k.pure fun a hx hb' q => XS.iadd a hx rfl (hb hb' hd) rfl q
theorem Wk.isub {x z : Int32} (k : Wk l Z R y bytes maxL ret n0 Xt s h cells slots pc Ls (.int z :: .int x :: st)) (hd : decode bytes pc = .ok (.isub, 1)) : Wk l Z R y bytes maxL ret n0 Xt s h cells slots (pc + 1) Ls (.int (x - z) :: st) := k.pure fun a hx hb' q => XS.isub a hx rfl (hb hb' hd) rfl q
theorem Wk.imul {x z : Int32} (k : Wk l Z R y bytes maxL ret n0 Xt s h cells slots pc Ls (.int z :: .int x :: st)) (hd : decode bytes pc = .ok (.imul, 1)) : Wk l Z R y bytes maxL ret n0 Xt s h cells slots (pc + 1) Ls (.int (x * z) :: st) := k.pure fun a hx hb' q => XS.imul a hx rfl (hb hb' hd) rfl q
theorem Wk.iand {x z : Int32} (k : Wk l Z R y bytes maxL ret n0 Xt s h cells slots pc Ls (.int z :: .int x :: st)) (hd : decode bytes pc = .ok (.iand, 1)) : Wk l Z R y bytes maxL ret n0 Xt s h cells slots (pc + 1) Ls (.int (x &&& z) :: st) := k.pure fun a hx hb' q => XS.iand a hx rfl (hb hb' hd) rfl q
theorem Wk.ior {x z : Int32} (k : Wk l Z R y bytes maxL ret n0 Xt s h cells slots pc Ls (.int z :: .int x :: st)) (hd : decode bytes pc = .ok (.ior, 1)) : Wk l Z R y bytes maxL ret n0 Xt s h cells slots (pc + 1) Ls (.int (x ||| z) :: st) := k.pure fun a hx hb' q => XT.ior a hx rfl (hb hb' hd) rfl q
theorem Wk.ixor {x z : Int32} (k : Wk l Z R y bytes maxL ret n0 Xt s h cells slots pc Ls (.int z :: .int x :: st)) (hd : decode bytes pc = .ok (.ixor, 1)) : Wk l Z R y bytes maxL ret n0 Xt s h cells slots (pc + 1) Ls (.int (x ^^^ z) :: st) := k.pure fun a hx hb' q => XT.ixor a hx rfl (hb hb' hd) rfl q
theorem Wk.iushr {x z : Int32} (k : Wk l Z R y bytes maxL ret n0 Xt s h cells slots pc Ls (.int z :: .int x :: st)) (hd : decode bytes pc = .ok (.iushr, 1)) : Wk l Z R y bytes maxL ret n0 Xt s h cells slots (pc + 1) Ls (.int (XT.ushr x z) :: st) := k.pure fun a hx hb' q => XT.iushr a hx rfl (hb hb' hd) rfl q
theorem Wk.ladd {x z : Int64} (k : Wk l Z R y bytes maxL ret n0 Xt s h cells slots pc Ls (.long z :: .long x :: st)) (hd : decode bytes pc = .ok (.ladd, 1)) : Wk l Z R y bytes maxL ret n0 Xt s h cells slots (pc + 1) Ls (.long (x + z) :: st) := k.pure fun a hx hb' q => XT.ladd a hx rfl (hb hb' hd) rfl q
theorem Wk.lsub {x z : Int64} (k : Wk l Z R y bytes maxL ret n0 Xt s h cells slots pc Ls (.long z :: .long x :: st)) (hd : decode bytes pc = .ok (.lsub, 1)) : Wk l Z R y bytes maxL ret n0 Xt s h cells slots (pc + 1) Ls (.long (x - z) :: st) := k.pure fun a hx hb' q => XT.lsub a hx rfl (hb hb' hd) rfl q
theorem Wk.lmul {x z : Int64} (k : Wk l Z R y bytes maxL ret n0 Xt s h cells slots pc Ls (.long z :: .long x :: st)) (hd : decode bytes pc = .ok (.lmul, 1)) : Wk l Z R y bytes maxL ret n0 Xt s h cells slots (pc + 1) Ls (.long (x * z) :: st) := k.pure fun a hx hb' q => XT.lmul a hx rfl (hb hb' hd) rfl q
theorem Wk.land {x z : Int64} (k : Wk l Z R y bytes maxL ret n0 Xt s h cells slots pc Ls (.long z :: .long x :: st)) (hd : decode bytes pc = .ok (.land, 1)) : Wk l Z R y bytes maxL ret n0 Xt s h cells slots (pc + 1) Ls (.long (x &&& z) :: st) := k.pure fun a hx hb' q => XT.land a hx rfl (hb hb' hd) rfl q
theorem Wk.lor {x z : Int64} (k : Wk l Z R y bytes maxL ret n0 Xt s h cells slots pc Ls (.long z :: .long x :: st)) (hd : decode bytes pc = .ok (.lor, 1)) : Wk l Z R y bytes maxL ret n0 Xt s h cells slots (pc + 1) Ls (.long (x ||| z) :: st) := k.pure fun a hx hb' q => XT.lor a hx rfl (hb hb' hd) rfl q
theorem Wk.lxor {x z : Int64} (k : Wk l Z R y bytes maxL ret n0 Xt s h cells slots pc Ls (.long z :: .long x :: st)) (hd : decode bytes pc = .ok (.lxor, 1)) : Wk l Z R y bytes maxL ret n0 Xt s h cells slots (pc + 1) Ls (.long (x ^^^ z) :: st) := k.pure fun a hx hb' q => XT.lxor a hx rfl (hb hb' hd) rfl q
theorem Wk.lcmp {x z : Int64} (k : Wk l Z R y bytes maxL ret n0 Xt s h cells slots pc Ls (.long z :: .long x :: st)) (hd : decode bytes pc = .ok (.lcmp, 1)) : Wk l Z R y bytes maxL ret n0 Xt s h cells slots (pc + 1) Ls (.int (XT.cmpL x z) :: st) := k.pure fun a hx hb' q => XT.lcmp a hx rfl (hb hb' hd) rfl q
theorem Wk.lshl {x : Int64} {z : Int32} (k : Wk l Z R y bytes maxL ret n0 Xt s h cells slots pc Ls (.int z :: .long x :: st)) (hd : decode bytes pc = .ok (.lshl, 1)) : Wk l Z R y bytes maxL ret n0 Xt s h cells slots (pc + 1) Ls (.long (x <<< (z.toInt64 &&& 63)) :: st) := k.pure fun a hx hb' q => XT.lshl a hx rfl (hb hb' hd) rfl q
theorem Wk.lushr {x : Int64} {z : Int32} (k : Wk l Z R y bytes maxL ret n0 Xt s h cells slots pc Ls (.int z :: .long x :: st)) (hd : decode bytes pc = .ok (.lushr, 1)) : Wk l Z R y bytes maxL ret n0 Xt s h cells slots (pc + 1) Ls (.long (XT.ushrL x z) :: st) := k.pure fun a hx hb' q => XT.lushr a hx rfl (hb hb' hd) rfl q
theorem Wk.i2l {x : Int32} (k : Wk l Z R y bytes maxL ret n0 Xt s h cells slots pc Ls (.int x :: st)) (hd : decode bytes pc = .ok (.i2l, 1)) : Wk l Z R y bytes maxL ret n0 Xt s h cells slots (pc + 1) Ls (.long x.toInt64 :: st) := k.pure fun a hx hb' q => XT.i2l a hx rfl (hb hb' hd) rfl q
theorem Wk.l2i {x : Int64} (k : Wk l Z R y bytes maxL ret n0 Xt s h cells slots pc Ls (.long x :: st)) (hd : decode bytes pc = .ok (.l2i, 1)) : Wk l Z R y bytes maxL ret n0 Xt s h cells slots (pc + 1) Ls (.int x.toInt32 :: st) := k.pure fun a hx hb' q => XT.l2i a hx rfl (hb hb' hd) rfl q
theorem Wk.i2b {x : Int32} (k : Wk l Z R y bytes maxL ret n0 Xt s h cells slots pc Ls (.int x :: st)) (hd : decode bytes pc = .ok (.i2b, 1)) : Wk l Z R y bytes maxL ret n0 Xt s h cells slots (pc + 1) Ls (.int x.toInt8.toInt32 :: st) := k.pure fun a hx hb' q => XT.i2b a hx rfl (hb hb' hd) rfl q
theorem Wk.i2c {x : Int32} (k : Wk l Z R y bytes maxL ret n0 Xt s h cells slots pc Ls (.int x :: st)) (hd : decode bytes pc = .ok (.i2c, 1)) : Wk l Z R y bytes maxL ret n0 Xt s h cells slots (pc + 1) Ls (.int x.toUInt32.toUInt16.toUInt32.toInt32 :: st) := k.pure fun a hx hb' q => XT.i2c a hx rfl (hb hb' hd) rfl q
theorem Wk.dup {x : Value} (k : Wk l Z R y bytes maxL ret n0 Xt s h cells slots pc Ls (x :: st)) (hd : decode bytes pc = .ok (.dup, 1)) (hc : x.category = 1) : Wk l Z R y bytes maxL ret n0 Xt s h cells slots (pc + 1) Ls (x :: x :: st) := k.pure fun a hx hb' q => XS.dup a hx rfl (hb hb' hd) rfl hc q
theorem Wk.pop {x : Value} (k : Wk l Z R y bytes maxL ret n0 Xt s h cells slots pc Ls (x :: st)) (hd : decode bytes pc = .ok (.pop, 1)) (hc : x.category = 1) : Wk l Z R y bytes maxL ret n0 Xt s h cells slots (pc + 1) Ls st := k.pure fun a hx hb' q => XT.pop a hx rfl (hb hb' hd) rfl hc q
theorem Wk.iinc {j : Nat} {i : Int} {x : Int32} {Ls' : Array Slot} (k : Wk l Z R y bytes maxL ret n0 Xt s h cells slots pc Ls st) (v : Int32) (hd : decode bytes pc = .ok (.iinc j i, 3)) (hv : Int32.ofInt i = v) (hl : Ls[j]? = some (.val (.int x))) (hl' : storeLocals Ls j (.int (x + v)) = some Ls') : Wk l Z R y bytes maxL ret n0 Xt s h cells slots (pc + 3) Ls' st := k.pure fun a hx hb' q => XT.iincV a hx rfl v (hb hb' hd) hv hl hl' q
theorem Wk.goto {o : Int} {pc' : Nat} (k : Wk l Z R y bytes maxL ret n0 Xt s h cells slots pc Ls st) (hd : decode bytes pc = .ok (.goto o, 3)) (hp : 0 ≤ (pc : Int) + o ∧ ((pc : Int) + o).toNat = pc') : Wk l Z R y bytes maxL ret n0 Xt s h cells slots pc' Ls st := k.pure fun a hx hb' q => XS.goto a hx rfl (pc0 := pc) (pc' := pc') rfl (hb hb' hd) hp.1 hp.2 q
theorem Wk.ifT {x : Int32} {cd : ClassFile.Cond} {o : Int} {pc' : Nat} (k : Wk l Z R y bytes maxL ret n0 Xt s h cells slots pc Ls (.int x :: st)) (hd : decode bytes pc = .ok (.ifCond cd o, 3)) (hc : ifCond.holds cd x = true) (hp : 0 ≤ (pc : Int) + o ∧ ((pc : Int) + o).toNat = pc') : Wk l Z R y bytes maxL ret n0 Xt s h cells slots pc' Ls st := k.pure fun a hx hb' q => XS.ifYes a hx rfl (pc0 := pc) (pc' := pc') rfl (hb hb' hd) rfl hc hp.1 hp.2 q
theorem Wk.ifF {x : Int32} {cd : ClassFile.Cond} {o : Int} (k : Wk l Z R y bytes maxL ret n0 Xt s h cells slots pc Ls (.int x :: st)) (hd : decode bytes pc = .ok (.ifCond cd o, 3)) (hc : ifCond.holds cd x = false) : Wk l Z R y bytes maxL ret n0 Xt s h cells slots (pc + 3) Ls st := k.pure fun a hx hb' q => XS.ifNo a hx rfl (hb hb' hd) rfl hc q
theorem Wk.icT {x z : Int32} {cd : ClassFile.Cond} {o : Int} {pc' : Nat} (k : Wk l Z R y bytes maxL ret n0 Xt s h cells slots pc Ls (.int z :: .int x :: st)) (hd : decode bytes pc = .ok (.if_icmp cd o, 3)) (hc : if_icmp.holds cd x z = true) (hp : 0 ≤ (pc : Int) + o ∧ ((pc : Int) + o).toNat = pc') : Wk l Z R y bytes maxL ret n0 Xt s h cells slots pc' Ls st := k.pure fun a hx hb' q => XS.icmpYes a hx rfl (pc0 := pc) (pc' := pc') rfl (hb hb' hd) rfl hc hp.1 hp.2 q
theorem Wk.icF {x z : Int32} {cd : ClassFile.Cond} {o : Int} (k : Wk l Z R y bytes maxL ret n0 Xt s h cells slots pc Ls (.int z :: .int x :: st)) (hd : decode bytes pc = .ok (.if_icmp cd o, 3)) (hc : if_icmp.holds cd x z = false) : Wk l Z R y bytes maxL ret n0 Xt s h cells slots (pc + 3) Ls st := k.pure fun a hx hb' q => XS.icmpNo a hx rfl (hb hb' hd) rfl hc q
theorem Wk.acT {x z : Value} {cd : ClassFile.ACond} {o : Int} {pc' : Nat} (k : Wk l Z R y bytes maxL ret n0 Xt s h cells slots pc Ls (z :: x :: st)) (hd : decode bytes pc = .ok (.if_acmp cd o, 3)) (h1 : x.isRef = true) (h2 : z.isRef = true) (hc : XT.acmp cd x z = true) (hp : 0 ≤ (pc : Int) + o ∧ ((pc : Int) + o).toNat = pc') : Wk l Z R y bytes maxL ret n0 Xt s h cells slots pc' Ls st := k.pure fun a hx hb' q => XT.acmpYes a hx rfl (pc0 := pc) (pc' := pc') rfl (hb hb' hd) rfl h1 h2 hc hp.1 hp.2 q
theorem Wk.acF {x z : Value} {cd : ClassFile.ACond} {o : Int} (k : Wk l Z R y bytes maxL ret n0 Xt s h cells slots pc Ls (z :: x :: st)) (hd : decode bytes pc = .ok (.if_acmp cd o, 3)) (h1 : x.isRef = true) (h2 : z.isRef = true) (hc : XT.acmp cd x z = false) : Wk l Z R y bytes maxL ret n0 Xt s h cells slots (pc + 3) Ls st := k.pure fun a hx hb' q => XT.acmpNo a hx rfl (hb hb' hd) rfl h1 h2 hc q
theorem Wk.nnT {b : Addr} {o : Int} {pc' : Nat} (k : Wk l Z R y bytes maxL ret n0 Xt s h cells slots pc Ls (.ref b :: st)) (hd : decode bytes pc = .ok (.ifnonnull o, 3)) (hp : 0 ≤ (pc : Int) + o ∧ ((pc : Int) + o).toNat = pc') : Wk l Z R y bytes maxL ret n0 Xt s h cells slots pc' Ls st := k.pure fun a hx hb' q => XT.ifnonnullYes a hx rfl (pc0 := pc) (pc' := pc') rfl (hb hb' hd) rfl hp.1 hp.2 q
theorem Wk.nnF {o : Int} (k : Wk l Z R y bytes maxL ret n0 Xt s h cells slots pc Ls (.null :: st)) (hd : decode bytes pc = .ok (.ifnonnull o, 3)) : Wk l Z R y bytes maxL ret n0 Xt s h cells slots (pc + 3) Ls st := k.pure fun a hx hb' q => XT.ifnonnullNo a hx rfl (hb hb' hd) rfl q
theorem Wk.irem {x z : Int32} (k : Wk l Z R y bytes maxL ret n0 Xt s h cells slots pc Ls (.int z :: .int x :: st)) (hd : decode bytes pc = .ok (.irem, 1)) (hz : z ≠ 0) : Wk l Z R y bytes maxL ret n0 Xt s h cells slots (pc + 1) Ls (.int (x % z) :: st) := by
  obtain ⟨p, e, m, args, below, meth, c, S0, T, locs, F, X, eT, N, r, ex⟩ := k
  exact mk F X eT N (fun t q => r t (iremM X F.1 rfl (hb F.2.1 hd) rfl hz q)) ex
theorem Wk.ldc {i : Nat} {v : Int32} (k : Wk l Z R y bytes maxL ret n0 Xt s h cells slots pc Ls st) (w : (Jvm.Cond.constant y.cls i v).before a0 Z = true) (hd : decode bytes pc = .ok (.ldc i, 2)) : Wk l Z R y bytes maxL ret n0 Xt s h cells slots (pc + 2) Ls (.int v :: st) := by
  obtain ⟨p, e, m, args, below, meth, c, S0, T, locs, F, X, eT, N, r, ex⟩ := k
  exact mk F X eT N (fun t q => r t (X.ldcI F.1 F.2.2.2.2.1 (mvT F.2.2.2.1 w) rfl (hb F.2.1 hd) q)) ex
theorem Wk.ldc2 {i : Nat} {v : Int64} (k : Wk l Z R y bytes maxL ret n0 Xt s h cells slots pc Ls st) (w : (Jvm.Cond.constantLong y.cls i v).before a0 Z = true) (hd : decode bytes pc = .ok (.ldc2_w i, 3)) : Wk l Z R y bytes maxL ret n0 Xt s h cells slots (pc + 3) Ls (.long v :: st) := by
  obtain ⟨p, e, m, args, below, meth, c, S0, T, locs, F, X, eT, N, r, ex⟩ := k
  exact mk F X eT N (fun t q => r t (X.ldc2J F.1 F.2.2.2.2.1 (mvT F.2.2.2.1 w) rfl (hb F.2.1 hd) q)) ex
theorem Wk.getF {i : Nat} {O n d : String} {v : Value} (k : Wk l Z R y bytes maxL ret n0 Xt s h cells slots pc Ls (.ref a :: st)) (w : (Jvm.Cond.fieldLink y.cls i O n d).before a0 Z = true) (A : Fld Z h a O n d v) (hd : decode bytes pc = .ok (.getfield i, 3)) : Wk l Z R y bytes maxL ret n0 Xt s h cells slots (pc + 3) Ls (v :: st) := by
  obtain ⟨p, e, m, args, below, meth, c, S0, T, locs, F, X, eT, N, r, ex⟩ := k
  obtain ⟨T', X', e', q⟩ := RoadKit.getF X F.1 F.2.2.2.1 F.2.2.2.2.1 (host := "") (Or.inl w) Via.refl eT A (g := mkF m pc Ls (.ref a :: st)) rfl rfl (hb F.2.1 hd)
  exact mk F X' e' N (fun t u => r t (q t u)) ex
theorem Wk.getS {i : Nat} {O n d : String} {v : Value} (k : Wk l Z R y bytes maxL ret n0 Xt s h cells slots pc Ls st) (w : (Jvm.Cond.fieldLink y.cls i O n d).before a0 Z = true) (A : Sta Z h O n d v) (hd : decode bytes pc = .ok (.getstatic i, 3)) : Wk l Z R y bytes maxL ret n0 Xt s h cells slots (pc + 3) Ls (v :: st) := by
  obtain ⟨p, e, m, args, below, meth, c, S0, T, locs, F, X, eT, N, r, ex⟩ := k
  obtain ⟨T', X', e', q⟩ := RoadKit.getS X F.1 F.2.2.2.1 F.2.2.2.2.1 (host := "") w Via.refl eT A (g := mkF m pc Ls st) rfl (hb F.2.1 hd)
  exact mk F X' e' N (fun t u => r t (q t u)) ex
theorem Wk.putF {i kk : Nat} {O n d C : String} {v old : Value} (k : Wk l Z R y bytes maxL ret n0 Xt s h cells slots pc Ls (v :: .ref a :: st)) (w : (Jvm.Cond.fieldLink y.cls i O n d).before a0 Z = true) (A : Fld Z h a O n d old) (E : Exa Z h a C)
    (L : (Jvm.Cond.lays C O n d).before a0 Z = true ∨ ((Jvm.Cond.laysFinal C O n d).before a0 Z = true ∧ y.cls = O ∧ y.name = "<init>")) (wi : (Jvm.Cond.instantiable C kk).before a0 Z = true)
    (hty : parseFieldDescriptor d = some ty) (hn : narrow ty v = v) (hf : fits ty v = true) (hg : n0 ≤ a) (hd : decode bytes pc = .ok (.putfield i, 3)) :
    ∃ h', Wr h h' a (RoadKit.slotOf Z O n d) v ∧ Keep h h' [a] ∧ Fld Z h' a O n d v ∧ Exa Z h' a C ∧ Wk l Z R y bytes maxL ret n0 Xt s h' cells slots (pc + 3) Ls st := by
  obtain ⟨p, e, m, args, below, meth, c, S0, T, locs, F, X, eT, N, r, ex⟩ := k
  obtain ⟨T', h', X', e', W1, q⟩ := RoadKit.putF X F.1 F.2.2.2.1 F.2.2.2.2.1 (host := "") (Or.inl w) Via.refl eT A E (L.imp id fun z => ⟨z.1, z.2.1, F.2.2.2.2.2.1.trans z.2.2⟩) wi hty hn hf (g := mkF m pc Ls (v :: .ref a :: st)) rfl rfl (hb F.2.1 hd)
  exact ⟨h', W1, Keep.of_wr W1, A.same W1, E.wr W1, mk F X' e' (Fr.snoc X' N hg) (fun t u => r t (q t u)) ex⟩
theorem Wk.newO {i n : Nat} {C : String} (k : Wk l Z R y bytes maxL ret n0 Xt s h cells slots pc Ls st) (w : (Jvm.Cond.classLink y.cls i C).before a0 Z = true) (wi : (Jvm.Cond.instantiable C n).before a0 Z = true) (wz : (Jvm.Cond.initialized C).before a0 Z = true) (hd : decode bytes pc = .ok (.new i, 3)) (hc : cells + 1 ≤ R.cells) (hl : slots + n ≤ R.slots) :
    ∃ h', Keep h h' [] ∧ Exa Z h' h.size C ∧ (∀ {O nm d : String} {ty : FieldType}, Laid Z a0 C O nm d → parseFieldDescriptor d = some ty → Fld Z h' h.size O nm d (defaultValue ty)) ∧ Wk l Z R y bytes maxL ret n0 Xt s h' (cells + 1) (slots + n) (pc + 3) Ls (.ref h.size :: st) := by
  obtain ⟨p, e, m, args, below, meth, c, S0, T, locs, F, X, eT, N, r, ex⟩ := k
  obtain ⟨T', h', X', e', E, A, D, -, q⟩ := RoadKit.newO X F.1 F.2.2.2.1 F.2.2.2.2.1 w wi wz eT (g := mkF m pc Ls st) rfl (hb F.2.1 hd) hc hl
  exact ⟨h', Keep.of_ext E, A, D, mk F X' e' N (fun t u => r t (q t u)) ex⟩
theorem Wk.newA {n : Int32} {aty : ArrayType} (k : Wk l Z R y bytes maxL ret n0 Xt s h cells slots pc Ls (.int n :: st)) (w : (Jvm.Cond.arrayClass (newarray.typeOf aty)).before a0 Z = true) (hd : decode bytes pc = .ok (.newarray aty, 2)) (n' : Nat) (hN : n.toNatClampNeg = n') (hn : ¬ n < 0) (hm : n' ≤ 1000) (hc : cells + 1 ≤ R.cells) (hl : slots + n' ≤ R.slots) :
    ∃ h', Keep h h' [] ∧ AV Z h' h.size (newarray.typeOf aty) (List.replicate n' (defaultValue (newarray.typeOf aty))) ∧ Wk l Z R y bytes maxL ret n0 Xt s h' (cells + 1) (slots + n') (pc + 2) Ls (.ref h.size :: st) := by
  obtain ⟨p, e, m, args, below, meth, c, S0, T, locs, F, X, eT, N, r, ex⟩ := k
  obtain ⟨T', h', cA, X', e', E, A, q⟩ := newP X F.1 F.2.2.2.1 w eT (g := mkF m pc Ls (.int n :: st)) rfl (hb F.2.1 hd) rfl hn (cap := n') (Nat.le_of_eq hN) (by omega) hc hl
  refine ⟨h', Keep.of_ext E, ⟨by rw [List.length_replicate]; omega, _, A, ?_⟩, mk F X' e' N (fun t u => r t (q t u)) ex⟩
  subst hN; rfl
theorem AV.inb {c : Cell} {j : Int32} {i : Nat} (e : c.slots = vs.toArray) (h0 : ¬ j < 0) (hj : j.toNatClampNeg = i) (hi : i < vs.length) : ¬ (j < 0 ∨ c.slots.size ≤ j.toNatClampNeg) := by
  rintro (q | q)
  · exact h0 q
  · rw [e, hj, List.size_toArray] at q; omega
theorem AV.set {c : Cell} {i : Nat} {v : Value} (e : c.slots = vs.toArray) : (c.setSlot i v).slots = (vs.set i v).toArray := by
  show c.slots.setIfInBounds i v = _
  rw [e, List.setIfInBounds_toArray]
theorem Wk.stI {x j : Int32} (k : Wk l Z R y bytes maxL ret n0 Xt s h cells slots pc Ls (.int x :: .int j :: .ref a :: st)) (A : AV Z h a .int vs) (i : Nat) (hj : j.toNatClampNeg = i) (h0 : ¬ j < 0) (hi : i < vs.length) (hg : n0 ≤ a) (hd : decode bytes pc = .ok (.iastore, 1)) :
    ∃ h', Keep h h' [a] ∧ AV Z h' a .int (vs.set i (.int (x))) ∧ Wk l Z R y bytes maxL ret n0 Xt s h' cells slots (pc + 1) Ls st := by
  obtain ⟨p, e, m, args, below, meth, c, S0, T, locs, F, X, eT, N, r, ex⟩ := k
  obtain ⟨hlen, cl, A, hcl⟩ := A
  obtain ⟨T', h', X', e', W1, q⟩ := RoadKit.stI X F.1 F.2.2.2.1 eT A (AV.inb hcl h0 hj hi) (g := mkF m pc Ls (.int x :: .int j :: .ref a :: st)) rfl rfl (hb F.2.1 hd)
  refine ⟨h', Keep.of_wr W1, ⟨by rw [List.length_set]; exact hlen, _, A.same W1, ?_⟩, mk F X' e' (Fr.snoc X' N hg) (fun t u => r t (q t u)) ex⟩
  rw [hj]; exact AV.set hcl
theorem Wk.stB {x j : Int32} (k : Wk l Z R y bytes maxL ret n0 Xt s h cells slots pc Ls (.int x :: .int j :: .ref a :: st)) (A : AV Z h a .byte vs) (i : Nat) (hj : j.toNatClampNeg = i) (h0 : ¬ j < 0) (hi : i < vs.length) (hg : n0 ≤ a) (hd : decode bytes pc = .ok (.bastore, 1)) :
    ∃ h', Keep h h' [a] ∧ AV Z h' a .byte (vs.set i (.int (nar .byte x))) ∧ Wk l Z R y bytes maxL ret n0 Xt s h' cells slots (pc + 1) Ls st := by
  obtain ⟨p, e, m, args, below, meth, c, S0, T, locs, F, X, eT, N, r, ex⟩ := k
  obtain ⟨hlen, cl, A, hcl⟩ := A
  obtain ⟨T', h', X', e', W1, q⟩ := RoadKit.stB X F.1 F.2.2.2.1 eT A (AV.inb hcl h0 hj hi) (g := mkF m pc Ls (.int x :: .int j :: .ref a :: st)) rfl rfl (hb F.2.1 hd)
  refine ⟨h', Keep.of_wr W1, ⟨by rw [List.length_set]; exact hlen, _, A.same W1, ?_⟩, mk F X' e' (Fr.snoc X' N hg) (fun t u => r t (q t u)) ex⟩
  rw [hj]; exact AV.set hcl
theorem Wk.stC {x j : Int32} (k : Wk l Z R y bytes maxL ret n0 Xt s h cells slots pc Ls (.int x :: .int j :: .ref a :: st)) (A : AV Z h a .char vs) (i : Nat) (hj : j.toNatClampNeg = i) (h0 : ¬ j < 0) (hi : i < vs.length) (hg : n0 ≤ a) (hd : decode bytes pc = .ok (.castore, 1)) :
    ∃ h', Keep h h' [a] ∧ AV Z h' a .char (vs.set i (.int (nar .char x))) ∧ Wk l Z R y bytes maxL ret n0 Xt s h' cells slots (pc + 1) Ls st := by
  obtain ⟨p, e, m, args, below, meth, c, S0, T, locs, F, X, eT, N, r, ex⟩ := k
  obtain ⟨hlen, cl, A, hcl⟩ := A
  obtain ⟨T', h', X', e', W1, q⟩ := RoadKit.stC X F.1 F.2.2.2.1 eT A (AV.inb hcl h0 hj hi) (g := mkF m pc Ls (.int x :: .int j :: .ref a :: st)) rfl rfl (hb F.2.1 hd)
  refine ⟨h', Keep.of_wr W1, ⟨by rw [List.length_set]; exact hlen, _, A.same W1, ?_⟩, mk F X' e' (Fr.snoc X' N hg) (fun t u => r t (q t u)) ex⟩
  rw [hj]; exact AV.set hcl
theorem Wk.ldI {j : Int32} {v : Value} (k : Wk l Z R y bytes maxL ret n0 Xt s h cells slots pc Ls (.int j :: .ref a :: st)) (A : AV Z h a .int vs) (h0 : ¬ j < 0) (hv : vs[j.toNatClampNeg]? = some v) (hd : decode bytes pc = .ok (.iaload, 1)) : Wk l Z R y bytes maxL ret n0 Xt s h cells slots (pc + 1) Ls (v :: st) := by
  obtain ⟨p, e, m, args, below, meth, c, S0, T, locs, F, X, eT, N, r, ex⟩ := k
  obtain ⟨hlen, cl, A, hcl⟩ := A
  have hi : j.toNatClampNeg < vs.length := (List.getElem?_eq_some_iff.mp hv).1
  exact mk F X eT N (fun t u => r t (X.iaload F.1 (j := j) (v := v) (by rw [eT]; exact A.1) (State.isArrayOf_alike F.2.2.2.1.alike A.2.1) A.2.2 (AV.inb hcl h0 rfl hi) (by rw [hcl, List.getElem?_toArray]; exact hv) (g := mkF m pc Ls (.int j :: .ref a :: st)) rfl rfl (hb F.2.1 hd) t u)) ex
theorem Wk.ldB {j : Int32} {v : Value} (k : Wk l Z R y bytes maxL ret n0 Xt s h cells slots pc Ls (.int j :: .ref a :: st)) (A : AV Z h a .byte vs) (h0 : ¬ j < 0) (hv : vs[j.toNatClampNeg]? = some v) (hd : decode bytes pc = .ok (.baload, 1)) : Wk l Z R y bytes maxL ret n0 Xt s h cells slots (pc + 1) Ls (v :: st) := by
  obtain ⟨p, e, m, args, below, meth, c, S0, T, locs, F, X, eT, N, r, ex⟩ := k
  obtain ⟨hlen, cl, A, hcl⟩ := A
  have hi : j.toNatClampNeg < vs.length := (List.getElem?_eq_some_iff.mp hv).1
  exact mk F X eT N (fun t u => r t (X.baloadBytes F.1 (j := j) (v := v) (by rw [eT]; exact A.1) (State.isArrayOf_alike F.2.2.2.1.alike A.2.1) A.2.2 (AV.inb hcl h0 rfl hi) (by rw [hcl, List.getElem?_toArray]; exact hv) (g := mkF m pc Ls (.int j :: .ref a :: st)) rfl rfl (hb F.2.1 hd) t u)) ex
theorem Wk.ldC {j : Int32} {v : Value} (k : Wk l Z R y bytes maxL ret n0 Xt s h cells slots pc Ls (.int j :: .ref a :: st)) (A : AV Z h a .char vs) (h0 : ¬ j < 0) (hv : vs[j.toNatClampNeg]? = some v) (hd : decode bytes pc = .ok (.caload, 1)) : Wk l Z R y bytes maxL ret n0 Xt s h cells slots (pc + 1) Ls (v :: st) := by
  obtain ⟨p, e, m, args, below, meth, c, S0, T, locs, F, X, eT, N, r, ex⟩ := k
  obtain ⟨hlen, cl, A, hcl⟩ := A
  have hi : j.toNatClampNeg < vs.length := (List.getElem?_eq_some_iff.mp hv).1
  exact mk F X eT N (fun t u => r t (X.caload F.1 (j := j) (v := v) (by rw [eT]; exact A.1) (State.isArrayOf_alike F.2.2.2.1.alike A.2.1) A.2.2 (AV.inb hcl h0 rfl hi) (by rw [hcl, List.getElem?_toArray]; exact hv) (g := mkF m pc Ls (.int j :: .ref a :: st)) rfl rfl (hb F.2.1 hd) t u)) ex
theorem Wk.len {n : Int32} (k : Wk l Z R y bytes maxL ret n0 Xt s h cells slots pc Ls (.ref a :: st)) (A : AV Z h a ty vs) (hn : vs.length.toInt32 = n) (hd : decode bytes pc = .ok (.arraylength, 1)) : Wk l Z R y bytes maxL ret n0 Xt s h cells slots (pc + 1) Ls (.int n :: st) := by
  obtain ⟨p, e, m, args, below, meth, c, S0, T, locs, F, X, eT, N, r, ex⟩ := k
  obtain ⟨hlen, cl, A, hcl⟩ := A
  have e : cl.slots.size.toInt32 = n := by rw [hcl, List.size_toArray]; exact hn
  exact mk F X eT N (fun t u => r t (X.arraylength F.1 (cell := cl) (by rw [eT]; exact A.1) (State.isArrayOf_alike F.2.2.2.1.alike A.2.1) (g := mkF m pc Ls (.ref a :: st)) rfl rfl (hb F.2.1 hd) t (by rw [e]; exact u))) ex
theorem Wk.callS {i : Nat} {y' : MethodName} {bytes' : ByteArray} {maxL' : Nat} {ret' : Option FieldType} {rm : Room} {P' : Option Value → Heap → Prop} {argsL rest : List Value} (k : Wk l Z R y bytes maxL ret n0 Xt s h cells slots pc Ls st) (wl : (Jvm.Cond.methodLink y.cls i y').before a0 Z = true) (wt : (Jvm.Cond.static y').before a0 Z = true) (wi : (Jvm.Cond.initialized y'.cls).before a0 Z = true) (wc : (Jvm.Cond.code y' bytes' maxL' ret').before a0 Z = true)
    (hy : y'.cls ≠ "java/lang/invoke/MethodHandle" ∧ y'.cls ≠ "java/lang/invoke/VarHandle") (hC : Con l Z y' bytes' maxL' ret' rm argsL.toArray h n0 P') (hlen : ∀ sig, parseMethodDescriptor y'.desc = some sig → argsL.length = sig.parameters.length)
    (hd : decode bytes pc = .ok (.invokestatic i, 3)) (hst : st = argsL.reverse ++ rest) (hL : Ls.size = maxL) (W0 : Nat) (hW : (rest.map fun v => v.category).sum ≤ W0) (hf : rm.frames + 1 ≤ R.frames) (hl : W0 + (maxL' + 11) + rm.locals ≤ R.locals) (hc : cells + rm.cells ≤ R.cells) (hs : slots + rm.slots ≤ R.slots) : ∃ v h', P' v h' ∧ Wk l Z R y bytes maxL ret n0 Xt s h' (cells + rm.cells) (slots + rm.slots) (pc + 3) Ls (v.toList ++ rest) := by
  obtain ⟨p, e, m, args, below, meth, c, S0, T, locs, F, X, eT, N, r, ex⟩ := k
  obtain ⟨v, vm₁, ⟨T', L', k', n'⟩, -, X', ⟨Lc, hQ, l1, y1, z1⟩, q⟩ := Jvm.LawKit.callS X F.1 (y := y') F.2.2.2.2.1 (mvT F.2.2.2.1 wl) (mvT F.2.2.2.1 wt) (mvT F.2.2.2.1 wi) (mvT F.2.2.2.1 wc) hy (backOf (W := W0) (Q := fun v h L => Fr n0 L ∧ P' v h) (hC []) F.2.2.2.1 wc wi hf hl) (g := mkF m pc Ls st) rfl (by rw [F.2.2.1]; exact hL) (argsL := argsL) (rest := rest) hlen hst (by show 2 * 0 + _ ≤ _; omega) (hb F.2.1 hd) (fun _ _ => ⟨rfl, eT, hc, hs⟩)
  dsimp only [Pt.U, Pt.locs, Pt.cells, Pt.slots] at X' l1 y1 z1 q hQ
  subst l1 y1 z1
  exact ⟨v, T'.heap, hQ.2, mk F X' rfl (Fr.app N hQ.1) (fun t u => r t (q t u)) ex⟩
theorem Wk.callSN {i : Nat} {y' : MethodName} {bytes' : ByteArray} {maxL' : Nat} {ret' : Option FieldType} {rm : Room} {P' : Option Value → Heap → Prop} {argsL rest : List Value} {host : String} (k : Wk l Z R y bytes maxL ret n0 Xt s h cells slots pc Ls st) (wl : (Jvm.Cond.methodLinkNest y.cls i y' host).before a0 Z = true) (wt : (Jvm.Cond.static y').before a0 Z = true) (wi : (Jvm.Cond.initialized y'.cls).before a0 Z = true) (wc : (Jvm.Cond.code y' bytes' maxL' ret').before a0 Z = true)
    (hy : y'.cls ≠ "java/lang/invoke/MethodHandle" ∧ y'.cls ≠ "java/lang/invoke/VarHandle") (hC : Con l Z y' bytes' maxL' ret' rm argsL.toArray h n0 P') (hlen : ∀ sig, parseMethodDescriptor y'.desc = some sig → argsL.length = sig.parameters.length)
    (hd : decode bytes pc = .ok (.invokestatic i, 3)) (hst : st = argsL.reverse ++ rest) (hL : Ls.size = maxL) (W0 : Nat) (hW : (rest.map fun v => v.category).sum ≤ W0) (hf : rm.frames + 1 ≤ R.frames) (hl : W0 + (maxL' + 11) + rm.locals ≤ R.locals) (hc : cells + rm.cells ≤ R.cells) (hs : slots + rm.slots ≤ R.slots) : ∃ v h', P' v h' ∧ Wk l Z R y bytes maxL ret n0 Xt s h' (cells + rm.cells) (slots + rm.slots) (pc + 3) Ls (v.toList ++ rest) := by
  obtain ⟨p, e, m, args, below, meth, c, S0, T, locs, F, X, eT, N, r, ex⟩ := k
  obtain ⟨v, vm₁, ⟨T', L', k', n'⟩, -, X', ⟨Lc, hQ, l1, y1, z1⟩, q⟩ := RoadKit.callSN X F.1 (y := y') F.2.2.2.2.1 (Jvm.Cond.methodLinkNest_wide F.2.2.2.1 wl :) (mvT F.2.2.2.1 wt) (mvT F.2.2.2.1 wi) (mvT F.2.2.2.1 wc) hy (backOf (W := W0) (Q := fun v h L => Fr n0 L ∧ P' v h) (hC []) F.2.2.2.1 wc wi hf hl) (g := mkF m pc Ls st) rfl (by rw [F.2.2.1]; exact hL) (argsL := argsL) (rest := rest) hlen hst (by show 2 * 0 + _ ≤ _; omega) (hb F.2.1 hd) (fun _ _ => ⟨rfl, eT, hc, hs⟩)
  dsimp only [Pt.U, Pt.locs, Pt.cells, Pt.slots] at X' l1 y1 z1 q hQ
  subst l1 y1 z1
  exact ⟨v, T'.heap, hQ.2, mk F X' rfl (Fr.app N hQ.1) (fun t u => r t (q.trans u)) ex⟩
theorem Wk.callN {i : Nat} {y' : MethodName} {bytes' : ByteArray} {maxL' : Nat} {rm : Room} {P' : Option Value → Heap → Prop} {argsL rest : List Value} (k : Wk l Z R y bytes maxL ret n0 Xt s h cells slots pc Ls st) (hy1 : y'.name = "<init>") (wl : (Jvm.Cond.methodLink y.cls i y').before a0 Z = true) (wm : (Jvm.Cond.instanceMethod y').before a0 Z = true) (wi : (Jvm.Cond.initialized y'.cls).before a0 Z = true) (wc : (Jvm.Cond.code y' bytes' maxL' none).before a0 Z = true)
    (hy : y'.cls ≠ "java/lang/invoke/MethodHandle" ∧ y'.cls ≠ "java/lang/invoke/VarHandle") (hC : Con l Z y' bytes' maxL' none rm (.ref a :: argsL).toArray h n0 P') (hlen : ∀ sig, parseMethodDescriptor y'.desc = some sig → argsL.length = sig.parameters.length)
    (hd : decode bytes pc = .ok (.invokespecial i, 3)) (hst : st = argsL.reverse ++ .ref a :: rest) (hL : Ls.size = maxL) (W0 : Nat) (hW : (rest.map fun v => v.category).sum ≤ W0) (hf : rm.frames + 1 ≤ R.frames) (hl : W0 + (maxL' + 11) + rm.locals ≤ R.locals) (hc : cells + rm.cells ≤ R.cells) (hs : slots + rm.slots ≤ R.slots) : ∃ v h', P' v h' ∧ Wk l Z R y bytes maxL ret n0 Xt s h' (cells + rm.cells) (slots + rm.slots) (pc + 3) Ls (v.toList ++ rest) := by
  obtain ⟨p, e, m, args, below, meth, c, S0, T, locs, F, X, eT, N, r, ex⟩ := k
  obtain ⟨v, vm₁, ⟨T', L', k', n'⟩, -, X', ⟨Lc, hQ, l1, y1, z1⟩, q⟩ := X.specialBack F.1 (y := y') hy1 F.2.2.2.2.1 (mvT F.2.2.2.1 wl) (mvT F.2.2.2.1 wm) (mvT F.2.2.2.1 wc) hy (backOf (W := W0) (Q := fun v h L => Fr n0 L ∧ P' v h) (hC []) F.2.2.2.1 wc wi hf hl) (g := mkF m pc Ls st) rfl (by rw [F.2.2.1]; exact hL) (Steps.refl _) (a := a) (argsL := argsL) (rest := rest) hlen hst (by show 2 * 0 + _ ≤ _; omega) (hb F.2.1 hd) (fun _ _ => ⟨rfl, eT, hc, hs⟩)
  dsimp only [Pt.U, Pt.locs, Pt.cells, Pt.slots] at X' l1 y1 z1 q hQ
  subst l1 y1 z1
  exact ⟨v, T'.heap, hQ.2, mk F X' rfl (Fr.app N hQ.1) (fun t u => r t (q.trans u)) ex⟩
theorem Wk.callV {i : Nat} {y' : MethodName} {bytes' : ByteArray} {maxL' : Nat} {ret' : Option FieldType} {rm : Room} {P' : Option Value → Heap → Prop} {argsL rest : List Value} {C : String} (k : Wk l Z R y bytes maxL ret n0 Xt s h cells slots pc Ls st) (wl : (Jvm.Cond.methodLink y.cls i y').before a0 Z = true) (wd : (Jvm.Cond.declares y').before a0 Z = true) (wm : (Jvm.Cond.instanceMethod y').before a0 Z = true) (wsl : (Jvm.Cond.selects C y' y').before a0 Z = true) (hCy : C = y'.cls) (wi : (Jvm.Cond.initialized y'.cls).before a0 Z = true) (wc : (Jvm.Cond.code y' bytes' maxL' ret').before a0 Z = true)
    (hy : y'.cls ≠ "java/lang/invoke/MethodHandle" ∧ y'.cls ≠ "java/lang/invoke/VarHandle") (E : Exa Z h a C) (hC : Con l Z y' bytes' maxL' ret' rm (.ref a :: argsL).toArray h n0 P') (hlen : ∀ sig, parseMethodDescriptor y'.desc = some sig → argsL.length = sig.parameters.length)
    (hd : decode bytes pc = .ok (.invokevirtual i, 3)) (hst : st = argsL.reverse ++ .ref a :: rest) (hL : Ls.size = maxL) (W0 : Nat) (hW : (rest.map fun v => v.category).sum ≤ W0) (hf : rm.frames + 1 ≤ R.frames) (hl : W0 + (maxL' + 11) + rm.locals ≤ R.locals) (hc : cells + rm.cells ≤ R.cells) (hs : slots + rm.slots ≤ R.slots) : ∃ v h', P' v h' ∧ Wk l Z R y bytes maxL ret n0 Xt s h' (cells + rm.cells) (slots + rm.slots) (pc + 3) Ls (v.toList ++ rest) := by
  obtain ⟨p, e, m, args, below, meth, c, S0, T, locs, F, X, eT, N, r, ex⟩ := k
  subst hCy
  obtain ⟨cq, kq, q1, q2, q3⟩ := isOf F.2.2.2.1 eT E
  obtain ⟨v, vm₁, ⟨T', L', k', n'⟩, -, X', ⟨Lc, hQ, l1, y1, z1⟩, q⟩ := X.virtualBack F.1 (y := y') (z := y') F.2.2.2.2.1 (mvT F.2.2.2.1 wl) (mvT F.2.2.2.1 wd) (notFace_of_selects (args := #[]) (mvT F.2.2.2.1 wsl)) (mvT F.2.2.2.1 wsl) (mvT F.2.2.2.1 wm) hy (backOf (W := W0) (Q := fun v h L => Fr n0 L ∧ P' v h) (hC []) F.2.2.2.1 wc wi hf hl) q1 q3 (g := mkF m pc Ls st) rfl (by rw [F.2.2.1]; exact hL) (Steps.refl _) (argsL := argsL) (rest := rest) hlen hst (by show 2 * 0 + _ ≤ _; omega) (hb F.2.1 hd) (fun _ _ => ⟨rfl, eT, hc, hs⟩)
  dsimp only [Pt.U, Pt.locs, Pt.cells, Pt.slots] at X' l1 y1 z1 q hQ
  subst l1 y1 z1
  exact ⟨v, T'.heap, hQ.2, mk F X' rfl (Fr.app N hQ.1) (fun t u => r t (q.trans u)) ex⟩
theorem Wk.callP {i : Nat} {y' : MethodName} {bytes' : ByteArray} {maxL' : Nat} {ret' : Option FieldType} {rm : Room} {P' : Option Value → Heap → Prop} {argsL rest : List Value} {z : MethodName} (k : Wk l Z R y bytes maxL ret n0 Xt s h cells slots pc Ls st) (wl : (Jvm.Cond.methodLink y.cls i y').before a0 Z = true) (wm : (Jvm.Cond.instanceMethod y').before a0 Z = true) (wp : (Jvm.Cond.privateMethod y').before a0 Z = true) (wz : (Jvm.Cond.selects y'.cls z z).before a0 Z = true) (hz : z.cls = y'.cls) (wi : (Jvm.Cond.initialized y'.cls).before a0 Z = true) (wc : (Jvm.Cond.code y' bytes' maxL' ret').before a0 Z = true)
    (hy : y'.cls ≠ "java/lang/invoke/MethodHandle" ∧ y'.cls ≠ "java/lang/invoke/VarHandle") (E : Exa Z h a y'.cls) (hC : Con l Z y' bytes' maxL' ret' rm (.ref a :: argsL).toArray h n0 P') (hlen : ∀ sig, parseMethodDescriptor y'.desc = some sig → argsL.length = sig.parameters.length)
    (hd : decode bytes pc = .ok (.invokevirtual i, 3)) (hst : st = argsL.reverse ++ .ref a :: rest) (hL : Ls.size = maxL) (W0 : Nat) (hW : (rest.map fun v => v.category).sum ≤ W0) (hf : rm.frames + 1 ≤ R.frames) (hl : W0 + (maxL' + 11) + rm.locals ≤ R.locals) (hc : cells + rm.cells ≤ R.cells) (hs : slots + rm.slots ≤ R.slots) : ∃ v h', P' v h' ∧ Wk l Z R y bytes maxL ret n0 Xt s h' (cells + rm.cells) (slots + rm.slots) (pc + 3) Ls (v.toList ++ rest) := by
  obtain ⟨p, e, m, args, below, meth, c, S0, T, locs, F, X, eT, N, r, ex⟩ := k
  obtain ⟨cq, q1, q2⟩ := E.cell
  have hsz : (Jvm.Cond.selects y'.cls z z).before args s = true := mvT F.2.2.2.1 wz
  have hpv : s.PrivateAt y' := Jvm.Cond.privateMethod_at (mvP F.2.2.2.1 wp (args := #[]))
  have hsel : (Jvm.Cond.selects y'.cls y' y').before args s = true := by
    obtain ⟨c2, r2, m2, u1, u2, u3, u4, kP, u5, u6⟩ := Jvm.Cond.selects_spec hsz
    have u7 : s.vm.findClass z.cls = some m2.cls := findClass_of_methodNamed u3
    rw [hz] at u7
    exact selects_self_of_private u7 u5 u6 hpv (mvT F.2.2.2.1 wm) hy
  obtain ⟨v, vm₁, ⟨T', L', k', n'⟩, -, X', ⟨Lc, hQ, l1, y1, z1⟩, q⟩ := X.privateBack F.1 (y := y') F.2.2.2.2.1 (mvT F.2.2.2.1 wl) (mvT F.2.2.2.1 wm) hsel hpv (mvT F.2.2.2.1 wc) hy (backOf (W := W0) (Q := fun v h L => Fr n0 L ∧ P' v h) (hC []) F.2.2.2.1 wc wi hf hl) (g := mkF m pc Ls st) rfl (by rw [F.2.2.1]; exact hL) (Steps.refl _) (a := a) (by rw [eT]; exact q1) q2 (argsL := argsL) (rest := rest) hlen hst (by show 2 * 0 + _ ≤ _; omega) (hb F.2.1 hd) (fun _ _ => ⟨rfl, eT, hc, hs⟩)
  dsimp only [Pt.U, Pt.locs, Pt.cells, Pt.slots] at X' l1 y1 z1 q hQ
  subst l1 y1 z1
  exact ⟨v, T'.heap, hQ.2, mk F X' rfl (Fr.app N hQ.1) (fun t u => r t (q.trans u)) ex⟩
theorem Wk.tswIn {x : Int32} {dflt low high : Int} {offs : Array Int} {len : Nat} {o : Int} {pc' : Nat} (k : Wk l Z R y bytes maxL ret n0 Xt s h cells slots pc Ls (.int x :: st)) (hd : decode bytes pc = .ok (.tableswitch dflt low high offs, len)) (hin : ¬ (x.toInt < low ∨ x.toInt > high)) (hoff : offs[(x.toInt - low).toNat]? = some o) (hp : 0 ≤ (pc : Int) + o ∧ ((pc : Int) + o).toNat = pc') : Wk l Z R y bytes maxL ret n0 Xt s h cells slots pc' Ls st := k.pure fun a hx hb' q => XS.tswIn a hx rfl (pc0 := pc) (pc' := pc') rfl (hb hb' hd) rfl hin hoff hp.1 hp.2 q
theorem Wk.tswOut {x : Int32} {dflt low high : Int} {offs : Array Int} {len : Nat} {pc' : Nat} (k : Wk l Z R y bytes maxL ret n0 Xt s h cells slots pc Ls (.int x :: st)) (hd : decode bytes pc = .ok (.tableswitch dflt low high offs, len)) (hout : x.toInt < low ∨ x.toInt > high) (hp : 0 ≤ (pc : Int) + dflt ∧ ((pc : Int) + dflt).toNat = pc') : Wk l Z R y bytes maxL ret n0 Xt s h cells slots pc' Ls st := k.pure fun a hx hb' q => XS.tswOut a hx rfl (pc0 := pc) (pc' := pc') rfl (hb hb' hd) rfl hout hp.1 hp.2 q
theorem Wk.out {t : FieldType} {w : Value} {i : Instr} (k : Wk l Z R y bytes maxL (some t) n0 (Ex s R n0 P G) s h cells slots pc Ls (w :: st)) (hn : narrow t w = w)
    (hi : (i = .ireturn ∧ (t = .int ∨ t = .boolean ∨ t = .byte ∨ t = .char ∨ t = .short) ∧ ∃ z, w = .int z) ∨ (i = .lreturn ∧ t = .long ∧ ∃ z, w = .long z) ∨ (i = .dreturn ∧ t = .double ∧ ∃ z, w = .double z) ∨ (i = .freturn ∧ t = .float ∧ ∃ z, w = .float z) ∨ (i = .areturn ∧ t.isReference = true ∧ w.isRef = true))
    (hd : decode bytes pc = .ok (i, 1)) (hc : cells ≤ R.cells) (hs : slots ≤ R.slots) (hP : P (some w) h) : G := by
  obtain ⟨p, e, m, args, below, meth, c, S0, T, locs, F, X, eT, N, r, ex⟩ := k
  have hlk : meth.locks = false := F.2.2.2.2.2.2.2
  obtain ⟨fs, hr, hrun, hended, hW, hsame⟩ := X.leave (v := some w) (fun z => by rw [F.2.2.2.2.2.2.1] at z; cases z)
  refine ex ⟨_, _, r _ (retOut X F.1 F.2.2.2.2.2.2.1 hn hi (hb F.2.1 hd) hr), hrun, hended, _, locs, rfl, ⟨N, ?_⟩, ⟨_, rfl⟩, hW, hsame.mono hc hs⟩
  show P (some w) T.heap
  rw [eT]; exact hP
theorem Wk.outN (k : Wk l Z R y bytes maxL none n0 (Ex s R n0 P G) s h cells slots pc Ls []) (hd : decode bytes pc = .ok (.return_, 1)) (hc : cells ≤ R.cells) (hs : slots ≤ R.slots) (hP : P none h) : G := by
  obtain ⟨p, e, m, args, below, meth, c, S0, T, locs, F, X, eT, N, r, ex⟩ := k
  have hlk : meth.locks = false := F.2.2.2.2.2.2.2
  obtain ⟨fs, hr, hrun, hended, hW, hsame⟩ := X.leave (v := none) (fun _ => rfl)
  refine ex ⟨_, _, r _ (X.returnOut F.1 F.2.2.2.2.2.2.1 (hb F.2.1 hd) hr), hrun, hended, _, locs, rfl, ⟨N, ?_⟩, ⟨_, rfl⟩, hW, hsame.mono hc hs⟩
  show P none T.heap
  rw [eT]; exact hP
theorem Wk.outI {z : Int32} (k : Wk l Z R y bytes maxL (some .int) n0 (Ex s R n0 P G) s h cells slots pc Ls (.int z :: st)) (hd : decode bytes pc = .ok (.ireturn, 1)) (hc : cells ≤ R.cells) (hs : slots ≤ R.slots) (hP : P (some (.int z)) h) : G := k.out rfl (Or.inl ⟨rfl, Or.inl rfl, z, rfl⟩) hd hc hs hP
theorem Wk.outZ {z : Int32} (k : Wk l Z R y bytes maxL (some .boolean) n0 (Ex s R n0 P G) s h cells slots pc Ls (.int z :: st)) (hz : z = 0 ∨ z = 1) (hd : decode bytes pc = .ok (.ireturn, 1)) (hc : cells ≤ R.cells) (hs : slots ≤ R.slots) (hP : P (some (.int z)) h) : G := k.out (by rcases hz with rfl | rfl <;> rfl) (Or.inl ⟨rfl, Or.inr (Or.inl rfl), z, rfl⟩) hd hc hs hP
theorem Wk.outC {z : Int32} (k : Wk l Z R y bytes maxL (some .char) n0 (Ex s R n0 P G) s h cells slots pc Ls (.int z :: st)) (hz : z.toUInt32.toUInt16.toUInt32.toInt32 = z) (hd : decode bytes pc = .ok (.ireturn, 1)) (hc : cells ≤ R.cells) (hs : slots ≤ R.slots) (hP : P (some (.int z)) h) : G := k.out (congrArg Value.int hz) (Or.inl ⟨rfl, Or.inr (Or.inr (Or.inr (Or.inl rfl))), z, rfl⟩) hd hc hs hP
theorem Wk.outB {z : Int32} (k : Wk l Z R y bytes maxL (some .byte) n0 (Ex s R n0 P G) s h cells slots pc Ls (.int z :: st)) (hz : z.toInt8.toInt32 = z) (hd : decode bytes pc = .ok (.ireturn, 1)) (hc : cells ≤ R.cells) (hs : slots ≤ R.slots) (hP : P (some (.int z)) h) : G := k.out (congrArg Value.int hz) (Or.inl ⟨rfl, Or.inr (Or.inr (Or.inl rfl)), z, rfl⟩) hd hc hs hP
theorem Wk.outJ {z : Int64} (k : Wk l Z R y bytes maxL (some .long) n0 (Ex s R n0 P G) s h cells slots pc Ls (.long z :: st)) (hd : decode bytes pc = .ok (.lreturn, 1)) (hc : cells ≤ R.cells) (hs : slots ≤ R.slots) (hP : P (some (.long z)) h) : G := k.out rfl (Or.inr (Or.inl ⟨rfl, rfl, z, rfl⟩)) hd hc hs hP
theorem Wk.outA {w : Value} {t : FieldType} (k : Wk l Z R y bytes maxL (some t) n0 (Ex s R n0 P G) s h cells slots pc Ls (w :: st)) (ht : t.isReference = true) (hw : w.isRef = true) (hd : decode bytes pc = .ok (.areturn, 1)) (hc : cells ≤ R.cells) (hs : slots ≤ R.slots) (hP : P (some w) h) : G := k.out (by cases t <;> first | rfl | cases ht) (Or.inr (Or.inr (Or.inr (Or.inr ⟨rfl, ht, hw⟩)))) hd hc hs hP
end L
end Jvm.Wk
namespace Jvm.Pilot.@@N@@
open Jvm Jvm.ClassFile Sem Op Lib Jvm.Free Jvm.Stand Jvm.LawKit Jvm.RoadKit Bundle Jvm.Wk Jvm.Pilot.@@N@@.Jvm.D
theorem d1_0 : decode prog_32_method_2_code 0 = .ok (.ldc2_w 9, 3) := by decide +kernel
theorem d1_3 : decode prog_32_method_2_code 3 = .ok (.lload_n 0, 1) := by decide +kernel
theorem d1_4 : decode prog_32_method_2_code 4 = .ok (.lmul, 1) := by decide +kernel
theorem d1_5 : decode prog_32_method_2_code 5 = .ok (.ldc2_w 11, 3) := by decide +kernel
theorem d1_8 : decode prog_32_method_2_code 8 = .ok (.iload_n 2, 1) := by decide +kernel
theorem d1_9 : decode prog_32_method_2_code 9 = .ok (.i2l, 1) := by decide +kernel
theorem d1_10 : decode prog_32_method_2_code 10 = .ok (.lmul, 1) := by decide +kernel
theorem d1_11 : decode prog_32_method_2_code 11 = .ok (.ladd, 1) := by decide +kernel
theorem d1_12 : decode prog_32_method_2_code 12 = .ok (.lreturn, 1) := by decide +kernel
theorem pn1 : plainFor (⟨"com/example/amherst/amherst/storage/ReadShare", "of", "(JI)J"⟩ : MethodName) = true := plainFor_of_name (show plainName "com/example/amherst/amherst/storage/ReadShare" = true by first | (simp [plainName, overriddenIn]; done) | decide +kernel)
theorem pd1 : parseMethodDescriptor "(JI)J" = some ⟨[.long, .int], some .long⟩ := by decide +kernel
abbrev W1 (l : Launch) (Z : State) (n0 : Nat) (P : Option Value → Heap → Prop) (G : Prop) (s : State) := Wk l Z ({ frames := 0, cells := 0, slots := 0, locals := 0 } : Room) (⟨"com/example/amherst/amherst/storage/ReadShare", "of", "(JI)J"⟩ : MethodName) prog_32_method_2_code 3 (some .long) n0 (Ex s ({ frames := 0, cells := 0, slots := 0, locals := 0 } : Room) n0 P G) s
abbrev Q1 (c : Int64) (i : Int32) (h0 : Heap) : Option Value → Heap → Prop := fun v h => h0 = h ∧ v = some (.long ((2 : Int64) * c + (8 : Int64) * i.toInt64))
theorem con1 (l : Launch) (Z : State) (a0 : Array Value) (hw : ∀ d ∈ tables_1, d.before a0 Z = true) (c : Int64) (i : Int32) (h0 : Heap) (n0 : Nat) : Con l Z (⟨"com/example/amherst/amherst/storage/ReadShare", "of", "(JI)J"⟩ : MethodName) prog_32_method_2_code 3 (some .long) ({ frames := 0, cells := 0, slots := 0, locals := 0 } : Room) #[.long c, .int i] h0 n0 (Q1 c i h0) := by
  refine Con.of pn1 (Ls := #[.val (.long c), .second, .val (.int i)]) (fun m => by first | (simp [entryFrame, mkF, argsToLocals, Value.category]; done) | rfl) ?_
  intro G s k
  have k : W1 l Z n0 (Q1 c i h0) G s h0 0 0 10 #[.val (.long c), .second, .val (.int i)] [(.long i.toInt64), (.long (8 : Int64)), (.long ((2 : Int64) * c))] := (((((k.ldc2 (hw _ (List.mem_of_getElem? (i := 4) rfl)) d1_0).lloadN d1_3 rfl).lmul d1_4).ldc2 (hw _ (List.mem_of_getElem? (i := 5) rfl)) d1_5).iloadN d1_8 rfl).i2l d1_9
  have k : W1 l Z n0 (Q1 c i h0) G s h0 0 0 12 #[.val (.long c), .second, .val (.int i)] [(.long (((2 : Int64) * c) + ((8 : Int64) * i.toInt64)))] := (k.lmul d1_10).ladd d1_11
  exact k.outJ d1_12 (by decide) (by decide) ⟨rfl, rfl⟩
theorem own_eq (c : Int64) (i : Int32) : (2 : Int64) * c + (8 : Int64) * i.toInt64 = (c + c) + (i.toInt64 <<< ((3 : Int32).toInt64 &&& 63)) := by
  have e : ((3 : Int32).toInt64 &&& 63) = (3 : Int64) := by decide
  rw [e]
  generalize i.toInt64 = z
  have s : z <<< (3 : Int64) = (8 : Int64) * z := by
    apply Int64.toBitVec_inj.mp
    have h1 : (z <<< (3 : Int64)).toBitVec = z.toBitVec <<< 3 := rfl
    have h2 : ((8 : Int64) * z).toBitVec = 8#64 * z.toBitVec := rfl
    rw [h1, h2]
    apply BitVec.eq_of_toNat_eq
    rw [BitVec.toNat_shiftLeft, BitVec.toNat_mul, Nat.shiftLeft_eq]
    show z.toBitVec.toNat * 2 ^ 3 % 2 ^ 64 = 8 * z.toBitVec.toNat % 2 ^ 64
    congr 1
    omega
  rw [s, Int64.two_mul]
theorem pn0 : plainFor x = true := plainFor_of_name (show plainName "com/example/amherst/amherst/storage/ReadShareOfPinLaw" = true by first | (simp [plainName, overriddenIn]; done) | decide +kernel)
abbrev W0 (l : Launch) (Z : State) (n0 : Nat) (P : Option Value → Heap → Prop) (G : Prop) (s : State) := Wk l Z room_1 x code maxLocals ret n0 (Ex s room_1 n0 P G) s
abbrev Q0 : Option Value → Heap → Prop := fun v h => v = some (.int 1)
set_option maxRecDepth 65536 in
set_option maxHeartbeats 40000000 in
theorem con0 (l : Launch) (Z : State) (a0 : Array Value) (hw : ∀ d ∈ tables_1, d.before a0 Z = true) (c : Int64) (i : Int32) (h0 : Heap) (n0 : Nat) (Z0 : n0 ≤ h0.size) : Con l Z x code maxLocals ret room_1 #[.long c, .int i] h0 n0 Q0 := by
  refine Con.of pn0 (Ls := #[.val (.long c), .second, .val (.int i), .unset, .unset, .unset, .unset]) (fun m => by first | (simp [entryFrame, mkF, argsToLocals, Value.category, maxLocals]; done) | rfl) ?_
  intro G s k
  have k : W0 l Z n0 Q0 G s h0 0 0 6 #[.val (.long c), .second, .val (.int i), .val (.long (c + c)), .second, .unset, .unset] [(.long i.toInt64)] := (((((k.lloadN at_0 rfl).lloadN at_1 rfl).ladd at_2).lstoreN at_3 (Ls' := #[.val (.long c), .second, .val (.int i), .val (.long (c + c)), .second, .unset, .unset]) rfl).iloadN at_4 rfl).i2l at_5
  have k : W0 l Z n0 Q0 G s h0 0 0 12 #[.val (.long c), .second, .val (.int i), .val (.long (c + c)), .second, .val (.long (i.toInt64 <<< ((3 : Int32).toInt64 &&& 63))), .second] [(.int i), (.long c)] := ((((k.iconst (3) at_6 rfl).lshl at_7).lstore at_8 (Ls' := #[.val (.long c), .second, .val (.int i), .val (.long (c + c)), .second, .val (.long (i.toInt64 <<< ((3 : Int32).toInt64 &&& 63))), .second]) rfl).lloadN at_10 rfl).iloadN at_11 rfl
  obtain ⟨v1, h1, ⟨rfl, rfl⟩, k⟩ := k.callS (hw _ (List.mem_of_getElem? (i := 0) rfl)) (hw _ (List.mem_of_getElem? (i := 1) rfl)) (hw _ (List.mem_of_getElem? (i := 2) rfl)) (hw _ (List.mem_of_getElem? (i := 3) rfl)) (by decide) (con1 l Z a0 hw c i h0 n0) (argsL := [(.long c), (.int i)]) (rest := []) (lenOf pd1 rfl) at_12 rfl rfl 0 (Nat.le_of_eq rfl) (by decide) (by decide) (by decide) (by decide)
  have k : W0 l Z n0 Q0 G s h0 0 0 15 #[.val (.long c), .second, .val (.int i), .val (.long (c + c)), .second, .val (.long (i.toInt64 <<< ((3 : Int32).toInt64 &&& 63))), .second] [(.long ((2 : Int64) * c + (8 : Int64) * i.toInt64))] := k
  have k : W0 l Z n0 Q0 G s h0 0 0 20 #[.val (.long c), .second, .val (.int i), .val (.long (c + c)), .second, .val (.long (i.toInt64 <<< ((3 : Int32).toInt64 &&& 63))), .second] [(.int (XT.cmpL ((2 : Int64) * c + (8 : Int64) * i.toInt64) ((c + c) + (i.toInt64 <<< ((3 : Int32).toInt64 &&& 63)))))] := (((k.lloadN at_15 rfl).lload at_16 rfl).ladd at_18).lcmp at_19
  have k : W0 l Z n0 Q0 G s h0 0 0 23 #[.val (.long c), .second, .val (.int i), .val (.long (c + c)), .second, .val (.long (i.toInt64 <<< ((3 : Int32).toInt64 &&& 63))), .second] [] := k.ifF at_20 (XT.ll_ne_f (own_eq c i))
  have k : W0 l Z n0 Q0 G s h0 0 0 28 #[.val (.long c), .second, .val (.int i), .val (.long (c + c)), .second, .val (.long (i.toInt64 <<< ((3 : Int32).toInt64 &&& 63))), .second] [(.int (1 : Int32))] := (k.iconst (1) at_23 rfl).goto (pc' := 28) at_24 (by decide)
  exact k.outZ (Or.inr rfl) at_28 (by decide) (by decide) rfl
set_option maxRecDepth 65536 in
set_option maxHeartbeats 40000000 in
theorem comes_1 {Post : Tables → Env → Array Value → State → Outcome → State → Prop} (hpost : ∀ tb e args s v u, (limb_1_1.after args s (.returned v) u = true ∧ limb_1_2.after args s (.returned v) u = true ∧ True) → FrameEnd s (.returned v) u (Jvm.fieldLocs frame_1_writes args s ++ Jvm.arrayLocs frame_1_arrays args s ++ Jvm.staticLocs frame_1_statics s) 0 0 → Post tb e args s (.returned v) u) :
    ArmFor flags0 classFile x code maxLocals ret World_1 tables_1 room_1 Calls_1 rest_1 Pre_1 Post := by
  intro l hfl _ _ p e ha hc hk s m args below hf hA hF happ hP
  obtain ⟨hcalls, hrest, hpre⟩ := hP
  obtain ⟨-, -, -, hnamed, -, -, -, hat⟩ := (Spec.applies_iff hf).mp happ
  obtain ⟨hg, hn⟩ := and_e (Cond.before_iff.mp (show (Jvm.Cond.and given_1 narrow_1).before args s = true from hpre))
  obtain ⟨h1, g0⟩ := and_e hg
  obtain ⟨w0, w1, rfl⟩ : ∃ w0 w1 : Value, args = #[w0, w1] := by
    have hs : args.size = 2 := by simpa [Cond.value, given_1] using h1
    obtain ⟨L⟩ := args
    match L, hs with
    | [w0, w1], _ => exact ⟨w0, w1, rfl⟩
  have hw := fun d (hd : d ∈ tables_1) => atoms_spec (ws := Jvm.Cond.code x code maxLocals ret :: tables_1) hat d (List.mem_cons_of_mem _ hd)
  obtain ⟨q0, g1⟩ := and_e g0
  obtain ⟨i0, e0⟩ := isL_v q0
  obtain rfl : w0 = (.long i0) := Option.some.inj e0
  have q1 := g1
  obtain ⟨i1, e1⟩ := is_v q1
  obtain rfl : w1 = (.int i1) := Option.some.inj e1
  obtain ⟨n, o, h1, h2, h3, _, L, rfl, ⟨N, rfl⟩, hq⟩ := con0 l s _ hw i0 i1 s.heap s.heap.size (Nat.le_refl _) tables_1 p e ha hc hk s m _ below hf ((Spec.applies_iff_loose hf).mp happ).1 ⟨rfl, State.Warmed39.refl s, rfl⟩ trivial
  refine ⟨n, _, h1, h2, h3, hpost _ _ _ _ _ _ ⟨Cond.after_iff.mpr rfl, Cond.after_iff.mpr (eq_i res_at (Term.int_eval (1)) rfl), trivial⟩ ⟨hq.1, hq.2.1, (hq.2.2.sift fun y hy => Or.inr (N y hy)).mono (by decide) (by decide)⟩⟩
theorem main_1_1 : Claimed_1_1 := comes_1 fun _ _ _ _ _ _ h hF => ⟨h.1, hF⟩
theorem main_1_2 : Claimed_1_2 := comes_1 fun _ _ _ _ _ _ h hF => ⟨h.2.1, hF⟩
end Jvm.Pilot.@@N@@
namespace Jvm.Pilot.@@N@@
open Jvm Jvm.ClassFile Sem Op Lib Jvm.Free Jvm.Stand Jvm.Pilot.@@N@@.Jvm.D
/-! MADE BY PROGRAM (witnessworld.py) out of the Statement's table words and the real class files: 9 classes; the members and pool entries that the words name. The judged class is class 1, her method 1. -/
namespace start1
open Jvm.ClassFile
def u (s : String) : CpInfo := .utf8 (stringToUtf16 s)
/-- a pool by its gaps: so many unusable entries, then the entry; so many at the end -/
def gap : Nat → List CpInfo → List CpInfo
  | 0, r => r
  | n + 1, r => .unusable :: gap n r
def poolList (es : List (Nat × CpInfo)) (last : Nat) : List CpInfo := es.foldr (fun e r => gap e.1 (e.2 :: r)) (gap last [])
def pool (es : List (Nat × CpInfo)) (last : Nat) : Array CpInfo := ⟨poolList es last⟩
def fileOf (pool : Array CpInfo) (this : Nat) (attrs : Array Attribute := #[]) (ms : Array MethodInfo := #[]) (fl : Nat := 33) (sup : Nat := 0) (ifs : Array Nat := #[]) (fds : Array FieldInfo := #[]) : ClassFile where
  minorVersion := 0
  majorVersion := 65
  constantPool := pool
  accessFlags := fl
  thisClass := this
  superClass := sup
  interfaces := ifs
  fields := fds
  methods := ms
  attributes := attrs
def plain (name : String) (sup : Option ClassId) : Class where
  name := name
  kind := .ordinary
  loader := none
  accessFlags := 33
  super := sup
  interfaces := #[]
  cf := none
  fields := #[]
  methods := #[]
  instanceTypes := #[]
  staticTypes := #[]
  resolved := #[]
  callSites := []
  init := .initialized
  statics := none
  mirror := none

def pool0 : Array CpInfo := pool [(5, u "<init>"), (0, u "()V"), (1, .class_ 10), (1, u "java/lang/Object")] 113

def k0m0 : Method := { name := "<init>", desc := "()V", sig := { parameters := [], returnType := none }, accessFlags := 1, code := none }
/-- java/lang/Object -/
def k0 : Class := { plain "java/lang/Object" none with
  accessFlags := 33
  interfaces := #[]
  cf := some (fileOf pool0 8 #[] #[{ accessFlags := 1, nameIndex := 5, descriptorIndex := 6, attributes := #[] }] 33 0 #[] #[])
  fields := #[]
  methods := #[k0m0]
  instanceTypes := #[]
  staticTypes := #[]
  resolved := Array.replicate 124 none
  statics := none }

def pool1 : Array CpInfo := pool [(2, .class_ 4), (1, u "java/lang/Object"), (0, u "<init>"), (0, u "()V"), (0, .methodref 8 9), (0, .class_ 10), (0, .nameAndType 11 12), (0, u "com/example/amherst/amherst/storage/ReadShare"), (0, u "of"), (0, u "(JI)J"), (0, .class_ 14), (0, u "com/example/amherst/amherst/storage/ReadShareOfPinLaw"), (2, u "law"), (0, u "(JI)Z")] 3

def k1m0 : Method := { name := "<init>", desc := "()V", sig := { parameters := [], returnType := none }, accessFlags := 2, code := none }
def k1c1 : Code := { maxStack := 6, maxLocals := 7, code := code, exceptionTable := #[], attributes := #[] }
def k1m1 : Method := { name := "law", desc := "(JI)Z", sig := { parameters := [.long, .int], returnType := some .boolean }, accessFlags := 9, code := some k1c1 }
/-- com/example/amherst/amherst/storage/ReadShareOfPinLaw -/
def k1 : Class := { plain "com/example/amherst/amherst/storage/ReadShareOfPinLaw" (some 0) with
  accessFlags := 49
  interfaces := #[]
  cf := some (fileOf pool1 13 #[] #[{ accessFlags := 2, nameIndex := 5, descriptorIndex := 6, attributes := #[] }, { accessFlags := 9, nameIndex := 17, descriptorIndex := 18, attributes := #[] }] 49 2 #[] #[])
  fields := #[]
  methods := #[k1m0, k1m1]
  instanceTypes := #[]
  staticTypes := #[]
  resolved := Array.replicate 22 none
  statics := none }

def pool2 : Array CpInfo := pool [(2, .class_ 4), (1, u "java/lang/Object"), (0, u "<init>"), (0, u "()V"), (0, .class_ 8), (0, u "com/example/amherst/amherst/storage/ReadShare"), (0, .long 2), (1, .long 8), (1, u "HELD_PER_CHARACTER"), (0, u "I"), (2, u "READ_PER_CHARACTER"), (1, u "AT_MOST"), (0, u "J"), (4, u "of"), (0, u "(JI)J")] 2

def k2m0 : Method := { name := "<init>", desc := "()V", sig := { parameters := [], returnType := none }, accessFlags := 2, code := none }
def k2c1 : Code := { maxStack := 6, maxLocals := 3, code := prog_32_method_2_code, exceptionTable := #[], attributes := #[] }
def k2m1 : Method := { name := "of", desc := "(JI)J", sig := { parameters := [.long, .int], returnType := some .long }, accessFlags := 8, code := some k2c1 }
/-- com/example/amherst/amherst/storage/ReadShare -/
def k2 : Class := { plain "com/example/amherst/amherst/storage/ReadShare" (some 0) with
  accessFlags := 32
  interfaces := #[]
  cf := some (fileOf pool2 7 #[] #[{ accessFlags := 2, nameIndex := 5, descriptorIndex := 6, attributes := #[] }, { accessFlags := 8, nameIndex := 25, descriptorIndex := 26, attributes := #[] }] 32 2 #[] #[{ accessFlags := 26, nameIndex := 13, descriptorIndex := 14, attributes := #[] }, { accessFlags := 26, nameIndex := 17, descriptorIndex := 14, attributes := #[] }, { accessFlags := 24, nameIndex := 19, descriptorIndex := 20, attributes := #[] }])
  fields := #[{ name := "HELD_PER_CHARACTER", type := .int, accessFlags := 26, slot := 0, constantValue := 0 }, { name := "READ_PER_CHARACTER", type := .int, accessFlags := 26, slot := 1, constantValue := 0 }, { name := "AT_MOST", type := .long, accessFlags := 24, slot := 2, constantValue := 0 }]
  methods := #[k2m0, k2m1]
  instanceTypes := #[]
  staticTypes := #[.int, .int, .long]
  resolved := Array.replicate 29 none
  statics := none }

def pool3 : Array CpInfo := pool [(1, u "java/lang/Cloneable"), (0, .class_ 1), (0, u "java/lang/Object"), (0, .class_ 3)] 3

/-- java/lang/Cloneable -/
def k3 : Class := { plain "java/lang/Cloneable" (some 0) with
  accessFlags := 1537
  interfaces := #[]
  cf := some (fileOf pool3 2 #[] #[] 1537 4 #[] #[])
  fields := #[]
  methods := #[]
  instanceTypes := #[]
  staticTypes := #[]
  resolved := Array.replicate 8 none
  statics := none }

def pool4 : Array CpInfo := pool [(1, u "java/io/Serializable"), (0, .class_ 1), (0, u "java/lang/Object"), (0, .class_ 3)] 3

/-- java/io/Serializable -/
def k4 : Class := { plain "java/io/Serializable" (some 0) with
  accessFlags := 1537
  interfaces := #[]
  cf := some (fileOf pool4 2 #[] #[] 1537 4 #[] #[])
  fields := #[]
  methods := #[]
  instanceTypes := #[]
  staticTypes := #[]
  resolved := Array.replicate 8 none
  statics := none }

/-- the primitive byte -/
def k5 : Class := { plain "byte" none with kind := .primitive 'B', accessFlags := 0x411 }
/-- [B -/
def k6 : Class := { plain "[B" (some 0) with kind := .array 5 .byte, interfaces := #[3, 4], accessFlags := 1041 }

/-- the primitive int -/
def k7 : Class := { plain "int" none with kind := .primitive 'I', accessFlags := 0x411 }
/-- [I -/
def k8 : Class := { plain "[I" (some 0) with kind := .array 7 .int, interfaces := #[3, 4], accessFlags := 1041 }

def heap : Heap := #[]
def classes : Array Class := #[k0, k1, k2, k3, k4, k5, k6, k7, k8]
def interned : List (Array UInt16 × Addr) := []
def slotsUsed : Nat := 0
def theMethod : MethodId := ⟨1, 1⟩
def args0 : Array Value := #[.long 5, .int 7]
def aboutOver (below : List Frame) : State where
  vm := { classes := classes, interned := interned.toArray }
  heap := heap
  slotsUsed := slotsUsed
  threads := #[{ frames := .invoking theMethod args0 :: below }]
def below0 : List Frame := [.native { method := ⟨0, 0⟩, args := #[] }]
def about1 : State := aboutOver below0
def p0 : Program := .bare "" "" ""
def e0 : Env := launch0.env 0 0 0
theorem w_frames : about1.frames = Frame.invoking theMethod args0 :: below0 := rfl
set_option maxRecDepth 65536 in
theorem w_args : argsFit about1.vm theMethod args0 = true := by decide +kernel
set_option maxRecDepth 65536 in
theorem w_heap : heapFits about1 = true := by decide +kernel
set_option maxRecDepth 65536 in
theorem w_runnable : about1.curStatus? = some .runnable := by decide +kernel
set_option maxRecDepth 65536 in
theorem w_alone : about1.alone = true := by decide +kernel
set_option maxRecDepth 65536 in
theorem w_named : about1.methodNamed? x = some theMethod := by decide +kernel
set_option maxRecDepth 65536 in
theorem w_hears : about1.hears theMethod below0 = true := by decide +kernel
set_option maxRecDepth 65536 in
theorem w_ripe : about1.ripe theMethod args0 below0 = true := by decide +kernel
theorem w_running : about1.status = .running := rfl
set_option maxRecDepth 65536 in
theorem w_room : about1.hasRoom e0.platform room_1 = true :=
  launch0.hasRoom_least _ room_1 (by decide +kernel) (by decide +kernel) (by decide +kernel) (by decide +kernel) (by decide +kernel) (by decide +kernel)
theorem allAtoms_all (ts : List Jvm.Cond) (a : Array Jvm.Value) (st : Jvm.State) : (allAtoms ts).before a st = ts.all (fun c => c.before a st) := by
  induction ts with
  | nil => rfl
  | cons c t ih =>
    show (Jvm.Cond.and c (allAtoms t)).before a st = _
    rw [Jvm.Cond.before_and, ih, List.all_cons]
def words1 : List Jvm.Cond := Jvm.Cond.code x code maxLocals ret :: tables_1
/-- a 'code' word, met by the world's own term for the bytes: nothing is compared byte by byte -/
theorem code_word {y : MethodName} {bytes : ByteArray} {mx : Nat} {rt : Option FieldType} {a : Array Value} {s : State} {m : MethodId} {meth : Method} {c : Code} (h1 : s.methodNamed? y = some m) (h2 : s.vm.method? m = some meth) (h3 : meth.code = some c) (h4 : c.code = bytes)
    (h5 : (c.maxLocals == mx && c.exceptionTable.isEmpty && decide (c.maxStack ≤ mostOperands) && decide (meth.sig.returnType = rt) && !meth.locks && decide (parseMethodDescriptor y.desc = some meth.sig)) = true) : (Jvm.Cond.code y bytes mx rt).before a s = true := by
  simp only [Bool.and_eq_true, beq_iff_eq, Bool.not_eq_true', decide_eq_true_eq] at h5
  obtain ⟨⟨⟨⟨⟨g1, g2⟩, g3⟩, g4⟩, g5⟩, g6⟩ := h5
  simp [Cond.before, Cond.holds, Cond.value, h1, h2, h3, h4, g1, g2, g3, g4, g5, g6]
def isCode : Jvm.Cond → Bool
  | .code _ _ _ _ => true
  | _ => false
theorem all_split {L : List Jvm.Cond} {P : Jvm.Cond → Bool} (h1 : L.all (fun c => isCode c || P c) = true) (h2 : ∀ c ∈ L.filter isCode, P c = true) : L.all P = true := by
  refine List.all_eq_true.mpr fun c hc => ?_
  have h := List.all_eq_true.mp h1 c hc
  rcases Bool.eq_false_or_eq_true (isCode c) with hi | hi
  · exact h2 c (List.mem_filter.mpr ⟨hc, hi⟩)
  · simpa [hi] using h
set_option maxRecDepth 65536 in
theorem w_c0 : (Jvm.Cond.code x code maxLocals ret).before args0 about1 = true := code_word (m := ⟨1, 1⟩) (meth := k1m1) (c := k1c1) (by decide +kernel) rfl rfl rfl (by decide +kernel)
set_option maxRecDepth 65536 in
theorem w_c1 : (Jvm.Cond.code ({ cls := "com/example/amherst/amherst/storage/ReadShare", name := "of", desc := "(JI)J" } : Jvm.MethodName) prog_32_method_2_code (3 : Nat) (Option.some Jvm.ClassFile.FieldType.long)).before args0 about1 = true := code_word (m := ⟨2, 1⟩) (meth := k2m1) (c := k2c1) (by decide +kernel) rfl rfl rfl (by decide +kernel)
def codes1 : List Jvm.Cond := [Jvm.Cond.code x code maxLocals ret, Jvm.Cond.code ({ cls := "com/example/amherst/amherst/storage/ReadShare", name := "of", desc := "(JI)J" } : Jvm.MethodName) prog_32_method_2_code (3 : Nat) (Option.some Jvm.ClassFile.FieldType.long)]
set_option maxRecDepth 65536 in
theorem codes_eq : words1.filter isCode = codes1 := rfl
theorem w_codes : ∀ c ∈ words1.filter isCode, c.before args0 about1 = true := by
  rw [codes_eq]
  intro c hc
  simp only [codes1, List.mem_cons, List.not_mem_nil, or_false] at hc
  rcases hc with rfl | rfl
  · exact w_c0
  · exact w_c1
set_option maxRecDepth 65536 in
theorem w_t1 : words1.all (fun c => isCode c || c.before args0 about1) = true := by decide +kernel
theorem w_tables : (allAtoms (Jvm.Cond.code x code maxLocals ret :: tables_1)).before args0 about1 = true := by
  rw [allAtoms_all]
  show words1.all (fun c => c.before args0 about1) = true
  refine all_split ?_ w_codes
  rw [w_t1]
set_option maxRecDepth 65536 in
theorem w_case : (Jvm.Cond.and given_1 narrow_1).before args0 about1 = true := by decide +kernel
theorem w_applies : (headSpec (Jvm.Cond.code x code maxLocals ret :: tables_1) room_1).applies x e0.platform about1 = true :=
  (Spec.applies_iff w_frames).mpr ⟨w_running, w_runnable, w_alone, w_named, w_hears, w_ripe, w_room, w_tables⟩
theorem atStart : AtStart classFile x code maxLocals ret World_1 tables_1 room_1 Calls_1 rest_1 Pre_1 launch0 p0 e0 about1 theMethod args0 below0 :=
  ⟨lists_1, trivial, launch0.admits_env _ _ _, launch0.least_env, fairChoices_fair.cas, fairChoices_fair.clock, w_frames, w_args, w_heap, w_applies, trivial, trivial, w_case⟩
end start1
theorem witness_1 : WitnessClaimed_1 := ⟨start1.p0, start1.e0, start1.about1, start1.theMethod, start1.args0, start1.below0, start1.atStart⟩
end Jvm.Pilot.@@N@@
