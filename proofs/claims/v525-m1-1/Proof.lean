import JvmDerived
import JvmDerived.Pilot.@@N@@Statement
import JvmDerived.Pilot.@@N@@Code
set_option linter.unusedVariables false
set_option linter.unusedSimpArgs false
namespace Jvm.Own
open Sem ClassFile Op Lib Jvm.Stand Jvm.Free Jvm.LawKit Jvm.RoadKit
/-! THE OWN LAYER: a walk as a predicate on (heap, cells spent, slots spent, pc, locals, stack); each step is one rule 'what follows holds there -> what is asked holds here'. -/
abbrev Wk := Heap → Nat → Nat → Nat → Array Slot → List Value → Prop
def Ends (Z s : State) (R : Room) (Q : Option Value → Heap → Prop) (o : Outcome) (u : State) : Prop :=
  ∃ v L, o = .returned v ∧ (Q v u.heap ∧ Ext Z.heap u.heap ∧ Fr Z.heap.size L) ∧ FrameEnd s o u L R.cells R.slots
def Run (p : Program) (l : Launch) (e : Env) (R : Room) (s : State) (m : MethodId) (args : Array Value) (below : List Frame) (meth : Method) (c : Code) (Z : State) (Q : Option Value → Heap → Prop) : Wk := fun h k n pc Ls st =>
  Ext Z.heap h → ∀ T locs, Stand p l e R s m args below meth c T locs k n → T.heap = h → Fr Z.heap.size locs →
    ∃ u o, Steps p.tables e below (T.setTop (mkF m pc Ls st)) u ∧ u.status = .running ∧ Ended u below o ∧ Ends Z s R Q o u
def Ok (p : Program) (s : State) (m : MethodId) (meth : Method) (c : Code) (Z : State) (a0 : Array Value) (tb : List Jvm.Cond) (own : String) (code : ByteArray) (ml : Nat) (rt : Option FieldType) (nm : String) : Prop :=
  p.tables.exec = Jvm.exec ∧ c.code = code ∧ c.maxLocals = ml ∧ s.vm.findClass own = some m.cls ∧ meth.sig.returnType = rt ∧ meth.locks = false ∧ Z.Warmed39 s.vm ∧ meth.name = nm ∧ (∀ d ∈ tb, d.before a0 Z = true)
def Walk (W : Wk) (l : Launch) (Z : State) (a0 : Array Value) (tb : List Jvm.Cond) (own : String) (code : ByteArray) (ml : Nat) (rt : Option FieldType) (nm : String) (R : Room) (Q : Option Value → Heap → Prop) : Prop :=
  ∃ p e s m args below meth c, W = Run p l e R s m args below meth c Z Q ∧ Ok p s m meth c Z a0 tb own code ml rt nm
/-- what a method does, called on these arguments over this heap -/
def Con (l : Launch) (Z : State) (y : MethodName) (code : ByteArray) (ml : Nat) (rt : Option FieldType) (rm : Room) (as : Array Value) (h : Heap) (Q : Option Value → Heap → Prop) : Prop :=
  Ext Z.heap h → ∀ ws, MetFree l y (head1 (Jvm.Cond.code y code ml rt :: ws) rm) (fun a U => a = as ∧ Z.Warmed39 U.vm ∧ U.heap = h) (fun _ _ _ _ _ => True) (fun _ U o U' => Ends Z U rm Q o U')
/-- it returns v and the heap stands as it was -/
def Same (v : Option Value) (h : Heap) : Option Value → Heap → Prop := fun v' h' => v' = v ∧ h' = h
theorem same_intro {v : Option Value} {h : Heap} {P : Option Value → Heap → Prop} (K : P v h) : ∀ v' h', Same v h v' h' → P v' h' := by
  rintro _ _ ⟨rfl, rfl⟩; exact K
theorem Con.of {l : Launch} {Z : State} {a0 : Array Value} {tb : List Jvm.Cond} {y : MethodName} {code : ByteArray} {ml : Nat} {rt : Option FieldType} {rm : Room} {as : Array Value} {h : Heap} {Q : Option Value → Heap → Prop} {Ls : Array Slot}
    (hw : ∀ d ∈ tb, d.before a0 Z = true) (hpn : plainFor y = true) (hef : ∀ m, entryFrame m as ml = mkF m 0 Ls []) (H : ∀ W : Wk, Walk W l Z a0 tb y.cls code ml rt y.name rm Q → W h 0 0 0 Ls []) : Con l Z y code ml rt rm as h Q := by
  intro hE ws
  refine MetFree.of_bodySF hpn hisR ?_
  intro p e s m args below meth c s₁ Bd hml0 hP hK
  obtain ⟨rfl, hZ, hh⟩ := hP
  have X0 : Stand p l e rm s m args below meth c s₁ [] 0 0 := Stand.of_body Bd
  have e0 : s₁.heap = h := by rw [← hh, Bd.state]; rfl
  obtain ⟨u, o, h1, h2, h3, h4⟩ := H _ ⟨p, e, s, m, args, below, meth, c, rfl, Bd.exec, Bd.bytes, hml0, findClass_of_methodNamed Bd.named, Bd.returns, BodyLoose.notSynchronized Bd, hZ, (name_of_methodNamed Bd.named Bd.method).1, hw⟩ hE s₁ [] X0 e0 (Fr.nil _)
  exact ⟨u, o, castTop (hef m) h1, h2, h3, h4⟩
section Rules
variable {W : Wk} {l : Launch} {Z : State} {a0 : Array Value} {tb : List Jvm.Cond} {own : String} {code : ByteArray} {ml : Nat} {rt : Option FieldType} {nm : String} {R : Room} {Q : Option Value → Heap → Prop} {h : Heap} {k n pc : Nat} {Ls : Array Slot} {st : List Value}
theorem Walk.word (C : Walk W l Z a0 tb own code ml rt nm R Q) {d : Jvm.Cond} (q : d ∈ tb) : d.before a0 Z = true := by
  obtain ⟨p, e, s, m, args, below, meth, c, rfl, ok⟩ := C
  exact ok.2.2.2.2.2.2.2.2 d q
theorem Walk.more (C : Walk W l Z a0 tb own code ml rt nm R Q) {k' n' : Nat} (hk : k ≤ k') (hn : n ≤ n') (K : W h k' n' pc Ls st) : W h k n pc Ls st := by
  obtain ⟨p, e, s, m, args, below, meth, c, rfl, ok⟩ := C
  exact fun hE T locs X eT N => K hE T locs (X.more hk hn) eT N
theorem Walk.kept (C : Walk W l Z a0 tb own code ml rt nm R Q) (K : Ext Z.heap h → W h k n pc Ls st) : W h k n pc Ls st := by
  obtain ⟨p, e, s, m, args, below, meth, c, rfl, ok⟩ := C
  exact fun hE => K hE hE
/-- a step that moves neither heap nor tables -/
theorem Walk.plain (C : Walk W l Z a0 tb own code ml rt nm R Q) {pc' : Nat} {Ls' : Array Slot} {st' : List Value}
    (S : ∀ {tb' : Tables} [Ours tb'] {e : Env} {below : List Frame} {T target : State} {m : MethodId} {c : Code}, At T m c below → tb'.exec = Jvm.exec → c.code = code → Steps tb' e below (T.setTop (mkF m pc' Ls' st')) target → Steps tb' e below (T.setTop (mkF m pc Ls st)) target)
    (K : W h k n pc' Ls' st') : W h k n pc Ls st := by
  obtain ⟨p, e, s, m, args, below, meth, c, rfl, ok⟩ := C
  intro hE T locs X eT N
  obtain ⟨u, o, h1, h2⟩ := K hE T locs X eT N
  exact ⟨u, o, S X.here ok.1 ok.2.1 h1, h2⟩
theorem Walk.iloadN (C : Walk W l Z a0 tb own code ml rt nm R Q) (pc' : Nat) {i : Fin 4} {v : Int32} (hd : decode code pc = .ok (.iload_n i, 1)) (hp : pc' = pc + 1) (hl : Ls[i.val]? = some (.val (.int v))) (K : W h k n pc' Ls (.int v :: st)) : W h k n pc Ls st := by
  subst hp; exact C.plain (fun hA hx hb' hr => XS.iloadN hA hx rfl (hb hb' hd) hl hr) K
theorem Walk.iload (C : Walk W l Z a0 tb own code ml rt nm R Q) (pc' : Nat) {i : Nat} {v : Int32} (hd : decode code pc = .ok (.iload i, 2)) (hp : pc' = pc + 2) (hl : Ls[i]? = some (.val (.int v))) (K : W h k n pc' Ls (.int v :: st)) : W h k n pc Ls st := by
  subst hp; exact C.plain (fun hA hx hb' hr => XS.iload hA hx rfl (hb hb' hd) hl hr) K
theorem Walk.lloadN (C : Walk W l Z a0 tb own code ml rt nm R Q) (pc' : Nat) {i : Fin 4} {v : Int64} (hd : decode code pc = .ok (.lload_n i, 1)) (hp : pc' = pc + 1) (hl : Ls[i.val]? = some (.val (.long v))) (K : W h k n pc' Ls (.long v :: st)) : W h k n pc Ls st := by
  subst hp; exact C.plain (fun hA hx hb' hr => XT.lloadN hA hx rfl (hb hb' hd) hl hr) K
theorem Walk.lload (C : Walk W l Z a0 tb own code ml rt nm R Q) (pc' : Nat) {i : Nat} {v : Int64} (hd : decode code pc = .ok (.lload i, 2)) (hp : pc' = pc + 2) (hl : Ls[i]? = some (.val (.long v))) (K : W h k n pc' Ls (.long v :: st)) : W h k n pc Ls st := by
  subst hp; exact C.plain (fun hA hx hb' hr => XT.lload hA hx rfl (hb hb' hd) hl hr) K
theorem Walk.aloadN (C : Walk W l Z a0 tb own code ml rt nm R Q) (pc' : Nat) {i : Fin 4} {v : Value} (hd : decode code pc = .ok (.aload_n i, 1)) (hp : pc' = pc + 1) (hl : Ls[i.val]? = some (.val v)) (hv : v.isRef = true) (K : W h k n pc' Ls (v :: st)) : W h k n pc Ls st := by
  subst hp; exact C.plain (fun hA hx hb' hr => XS.aloadN hA hx rfl (hb hb' hd) hl hv hr) K
theorem Walk.aload (C : Walk W l Z a0 tb own code ml rt nm R Q) (pc' : Nat) {i : Nat} {v : Value} (hd : decode code pc = .ok (.aload i, 2)) (hp : pc' = pc + 2) (hl : Ls[i]? = some (.val v)) (hv : v.isRef = true) (K : W h k n pc' Ls (v :: st)) : W h k n pc Ls st := by
  subst hp; exact C.plain (fun hA hx hb' hr => XS.aload hA hx rfl (hb hb' hd) hl hv hr) K
theorem Walk.istoreN (C : Walk W l Z a0 tb own code ml rt nm R Q) (pc' : Nat) (Ls' : Array Slot) {i : Fin 4} {x : Int32} (hd : decode code pc = .ok (.istore_n i, 1)) (hp : pc' = pc + 1) (hl : storeLocals Ls i.val (.int x) = some Ls') (K : W h k n pc' Ls' st) : W h k n pc Ls (.int x :: st) := by
  subst hp; exact C.plain (fun hA hx hb' hr => XS.istoreN hA hx rfl (hb hb' hd) rfl hl hr) K
theorem Walk.istore (C : Walk W l Z a0 tb own code ml rt nm R Q) (pc' : Nat) (Ls' : Array Slot) {i : Nat} {x : Int32} (hd : decode code pc = .ok (.istore i, 2)) (hp : pc' = pc + 2) (hl : storeLocals Ls i (.int x) = some Ls') (K : W h k n pc' Ls' st) : W h k n pc Ls (.int x :: st) := by
  subst hp; exact C.plain (fun hA hx hb' hr => XS.istore hA hx rfl (hb hb' hd) rfl hl hr) K
theorem Walk.lstoreN (C : Walk W l Z a0 tb own code ml rt nm R Q) (pc' : Nat) (Ls' : Array Slot) {i : Fin 4} {x : Int64} (hd : decode code pc = .ok (.lstore_n i, 1)) (hp : pc' = pc + 1) (hl : storeLocals Ls i.val (.long x) = some Ls') (K : W h k n pc' Ls' st) : W h k n pc Ls (.long x :: st) := by
  subst hp; exact C.plain (fun hA hx hb' hr => XT.lstoreN hA hx rfl (hb hb' hd) rfl hl hr) K
theorem Walk.lstore (C : Walk W l Z a0 tb own code ml rt nm R Q) (pc' : Nat) (Ls' : Array Slot) {i : Nat} {x : Int64} (hd : decode code pc = .ok (.lstore i, 2)) (hp : pc' = pc + 2) (hl : storeLocals Ls i (.long x) = some Ls') (K : W h k n pc' Ls' st) : W h k n pc Ls (.long x :: st) := by
  subst hp; exact C.plain (fun hA hx hb' hr => XT.lstore hA hx rfl (hb hb' hd) rfl hl hr) K
theorem Walk.astoreN (C : Walk W l Z a0 tb own code ml rt nm R Q) (pc' : Nat) (Ls' : Array Slot) {i : Fin 4} {x : Value} (hd : decode code pc = .ok (.astore_n i, 1)) (hp : pc' = pc + 1) (hv : x.isRef = true) (hl : storeLocals Ls i.val x = some Ls') (K : W h k n pc' Ls' st) : W h k n pc Ls (x :: st) := by
  subst hp; exact C.plain (fun hA hx hb' hr => XS.astoreN hA hx rfl (hb hb' hd) rfl hv hl hr) K
theorem Walk.astore (C : Walk W l Z a0 tb own code ml rt nm R Q) (pc' : Nat) (Ls' : Array Slot) {i : Nat} {x : Value} (hd : decode code pc = .ok (.astore i, 2)) (hp : pc' = pc + 2) (hv : x.isRef = true) (hl : storeLocals Ls i x = some Ls') (K : W h k n pc' Ls' st) : W h k n pc Ls (x :: st) := by
  subst hp; exact C.plain (fun hA hx hb' hr => XS.astore hA hx rfl (hb hb' hd) rfl hv hl hr) K
theorem Walk.iconst (C : Walk W l Z a0 tb own code ml rt nm R Q) (pc' : Nat) (v : Int32) {i : Int} (hd : decode code pc = .ok (.iconst i, 1)) (hp : pc' = pc + 1) (hv : Int32.ofInt i = v) (K : W h k n pc' Ls (.int v :: st)) : W h k n pc Ls st := by
  subst hp hv; exact C.plain (fun hA hx hb' hr => XS.iconst hA hx rfl (hb hb' hd) hr) K
theorem Walk.bipush (C : Walk W l Z a0 tb own code ml rt nm R Q) (pc' : Nat) (v : Int32) {i : Int} (hd : decode code pc = .ok (.bipush i, 2)) (hp : pc' = pc + 2) (hv : (Int8.ofInt i).toInt32 = v) (K : W h k n pc' Ls (.int v :: st)) : W h k n pc Ls st := by
  subst hp hv; exact C.plain (fun hA hx hb' hr => XS.bipush hA hx rfl (hb hb' hd) hr) K
theorem Walk.sipush (C : Walk W l Z a0 tb own code ml rt nm R Q) (pc' : Nat) (v : Int32) {i : Int} (hd : decode code pc = .ok (.sipush i, 3)) (hp : pc' = pc + 3) (hv : (Int16.ofInt i).toInt32 = v) (K : W h k n pc' Ls (.int v :: st)) : W h k n pc Ls st := by
  subst hp hv; exact C.plain (fun hA hx hb' hr => XS.sipush hA hx rfl (hb hb' hd) hr) K
theorem Walk.lconst (C : Walk W l Z a0 tb own code ml rt nm R Q) (pc' : Nat) (v : Int64) {i : Fin 2} (hd : decode code pc = .ok (.lconst i, 1)) (hp : pc' = pc + 1) (hv : Int64.ofNat i = v) (K : W h k n pc' Ls (.long v :: st)) : W h k n pc Ls st := by
  subst hp hv; exact C.plain (fun hA hx hb' hr => XT.lconst hA hx rfl (hb hb' hd) hr) K
theorem Walk.aconstNull (C : Walk W l Z a0 tb own code ml rt nm R Q) (pc' : Nat) (hd : decode code pc = .ok (.aconst_null, 1)) (hp : pc' = pc + 1) (K : W h k n pc' Ls (.null :: st)) : W h k n pc Ls st := by
  subst hp; exact C.plain (fun hA hx hb' hr => XS.aconstNull hA hx rfl (hb hb' hd) hr) K
theorem Walk.iadd (C : Walk W l Z a0 tb own code ml rt nm R Q) (pc' : Nat) {x y : Int32} (hd : decode code pc = .ok (.iadd, 1)) (hp : pc' = pc + 1) (K : W h k n pc' Ls (.int (x + y) :: st)) : W h k n pc Ls (.int y :: .int x :: st) := by
  subst hp; exact C.plain (fun hA hx hb' hr => XS.iadd hA hx rfl (hb hb' hd) rfl hr) K
theorem Walk.isub (C : Walk W l Z a0 tb own code ml rt nm R Q) (pc' : Nat) {x y : Int32} (hd : decode code pc = .ok (.isub, 1)) (hp : pc' = pc + 1) (K : W h k n pc' Ls (.int (x - y) :: st)) : W h k n pc Ls (.int y :: .int x :: st) := by
  subst hp; exact C.plain (fun hA hx hb' hr => XS.isub hA hx rfl (hb hb' hd) rfl hr) K
theorem Walk.iand (C : Walk W l Z a0 tb own code ml rt nm R Q) (pc' : Nat) {x y : Int32} (hd : decode code pc = .ok (.iand, 1)) (hp : pc' = pc + 1) (K : W h k n pc' Ls (.int (x &&& y) :: st)) : W h k n pc Ls (.int y :: .int x :: st) := by
  subst hp; exact C.plain (fun hA hx hb' hr => XS.iand hA hx rfl (hb hb' hd) rfl hr) K
theorem Walk.imul (C : Walk W l Z a0 tb own code ml rt nm R Q) (pc' : Nat) {x y : Int32} (hd : decode code pc = .ok (.imul, 1)) (hp : pc' = pc + 1) (K : W h k n pc' Ls (.int (x * y) :: st)) : W h k n pc Ls (.int y :: .int x :: st) := by
  subst hp; exact C.plain (fun hA hx hb' hr => XS.imul hA hx rfl (hb hb' hd) rfl hr) K
theorem Walk.ixor (C : Walk W l Z a0 tb own code ml rt nm R Q) (pc' : Nat) {x y : Int32} (hd : decode code pc = .ok (.ixor, 1)) (hp : pc' = pc + 1) (K : W h k n pc' Ls (.int (x ^^^ y) :: st)) : W h k n pc Ls (.int y :: .int x :: st) := by
  subst hp; exact C.plain (fun hA hx hb' hr => XT.ixor hA hx rfl (hb hb' hd) rfl hr) K
theorem Walk.ior (C : Walk W l Z a0 tb own code ml rt nm R Q) (pc' : Nat) {x y : Int32} (hd : decode code pc = .ok (.ior, 1)) (hp : pc' = pc + 1) (K : W h k n pc' Ls (.int (x ||| y) :: st)) : W h k n pc Ls (.int y :: .int x :: st) := by
  subst hp; exact C.plain (fun hA hx hb' hr => XT.ior hA hx rfl (hb hb' hd) rfl hr) K
theorem Walk.ishl (C : Walk W l Z a0 tb own code ml rt nm R Q) (pc' : Nat) {x y : Int32} (hd : decode code pc = .ok (.ishl, 1)) (hp : pc' = pc + 1) (K : W h k n pc' Ls (.int (x <<< (y &&& 31)) :: st)) : W h k n pc Ls (.int y :: .int x :: st) := by
  subst hp; exact C.plain (fun hA hx hb' hr => XT.ishl hA hx rfl (hb hb' hd) rfl hr) K
theorem Walk.ishr (C : Walk W l Z a0 tb own code ml rt nm R Q) (pc' : Nat) {x y : Int32} (hd : decode code pc = .ok (.ishr, 1)) (hp : pc' = pc + 1) (K : W h k n pc' Ls (.int (x >>> (y &&& 31)) :: st)) : W h k n pc Ls (.int y :: .int x :: st) := by
  subst hp; exact C.plain (fun hA hx hb' hr => XT.ishr hA hx rfl (hb hb' hd) rfl hr) K
theorem Walk.iushr (C : Walk W l Z a0 tb own code ml rt nm R Q) (pc' : Nat) {x y : Int32} (hd : decode code pc = .ok (.iushr, 1)) (hp : pc' = pc + 1) (K : W h k n pc' Ls (.int (XT.ushr x y) :: st)) : W h k n pc Ls (.int y :: .int x :: st) := by
  subst hp; exact C.plain (fun hA hx hb' hr => XT.iushr hA hx rfl (hb hb' hd) rfl hr) K
theorem Walk.ladd (C : Walk W l Z a0 tb own code ml rt nm R Q) (pc' : Nat) {x y : Int64} (hd : decode code pc = .ok (.ladd, 1)) (hp : pc' = pc + 1) (K : W h k n pc' Ls (.long (x + y) :: st)) : W h k n pc Ls (.long y :: .long x :: st) := by
  subst hp; exact C.plain (fun hA hx hb' hr => XT.ladd hA hx rfl (hb hb' hd) rfl hr) K
theorem Walk.lsub (C : Walk W l Z a0 tb own code ml rt nm R Q) (pc' : Nat) {x y : Int64} (hd : decode code pc = .ok (.lsub, 1)) (hp : pc' = pc + 1) (K : W h k n pc' Ls (.long (x - y) :: st)) : W h k n pc Ls (.long y :: .long x :: st) := by
  subst hp; exact C.plain (fun hA hx hb' hr => XT.lsub hA hx rfl (hb hb' hd) rfl hr) K
theorem Walk.lmul (C : Walk W l Z a0 tb own code ml rt nm R Q) (pc' : Nat) {x y : Int64} (hd : decode code pc = .ok (.lmul, 1)) (hp : pc' = pc + 1) (K : W h k n pc' Ls (.long (x * y) :: st)) : W h k n pc Ls (.long y :: .long x :: st) := by
  subst hp; exact C.plain (fun hA hx hb' hr => XT.lmul hA hx rfl (hb hb' hd) rfl hr) K
theorem Walk.land (C : Walk W l Z a0 tb own code ml rt nm R Q) (pc' : Nat) {x y : Int64} (hd : decode code pc = .ok (.land, 1)) (hp : pc' = pc + 1) (K : W h k n pc' Ls (.long (x &&& y) :: st)) : W h k n pc Ls (.long y :: .long x :: st) := by
  subst hp; exact C.plain (fun hA hx hb' hr => XT.land hA hx rfl (hb hb' hd) rfl hr) K
theorem Walk.lor (C : Walk W l Z a0 tb own code ml rt nm R Q) (pc' : Nat) {x y : Int64} (hd : decode code pc = .ok (.lor, 1)) (hp : pc' = pc + 1) (K : W h k n pc' Ls (.long (x ||| y) :: st)) : W h k n pc Ls (.long y :: .long x :: st) := by
  subst hp; exact C.plain (fun hA hx hb' hr => XT.lor hA hx rfl (hb hb' hd) rfl hr) K
theorem Walk.lxor (C : Walk W l Z a0 tb own code ml rt nm R Q) (pc' : Nat) {x y : Int64} (hd : decode code pc = .ok (.lxor, 1)) (hp : pc' = pc + 1) (K : W h k n pc' Ls (.long (x ^^^ y) :: st)) : W h k n pc Ls (.long y :: .long x :: st) := by
  subst hp; exact C.plain (fun hA hx hb' hr => XT.lxor hA hx rfl (hb hb' hd) rfl hr) K
theorem Walk.lcmp (C : Walk W l Z a0 tb own code ml rt nm R Q) (pc' : Nat) {x y : Int64} (hd : decode code pc = .ok (.lcmp, 1)) (hp : pc' = pc + 1) (K : W h k n pc' Ls (.int (XT.cmpL x y) :: st)) : W h k n pc Ls (.long y :: .long x :: st) := by
  subst hp; exact C.plain (fun hA hx hb' hr => XT.lcmp hA hx rfl (hb hb' hd) rfl hr) K
theorem Walk.idiv (C : Walk W l Z a0 tb own code ml rt nm R Q) (pc' : Nat) {x y : Int32} (hd : decode code pc = .ok (.idiv, 1)) (hp : pc' = pc + 1) (hy : y ≠ 0) (K : W h k n pc' Ls (.int (x / y) :: st)) : W h k n pc Ls (.int y :: .int x :: st) := by
  subst hp; exact C.plain (fun hA hx hb' hr => XS.idiv hA hx rfl (hb hb' hd) rfl hy hr) K
theorem Walk.irem (C : Walk W l Z a0 tb own code ml rt nm R Q) (pc' : Nat) {x y : Int32} (hd : decode code pc = .ok (.irem, 1)) (hp : pc' = pc + 1) (hy : y ≠ 0) (K : W h k n pc' Ls (.int (x % y) :: st)) : W h k n pc Ls (.int y :: .int x :: st) := by
  subst hp; rw [← irem_eq_mod] at K; exact C.plain (fun hA hx hb' hr => XS.irem hA hx rfl (hb hb' hd) rfl hy hr) K
theorem Walk.i2l (C : Walk W l Z a0 tb own code ml rt nm R Q) (pc' : Nat) {x : Int32} (hd : decode code pc = .ok (.i2l, 1)) (hp : pc' = pc + 1) (K : W h k n pc' Ls (.long x.toInt64 :: st)) : W h k n pc Ls (.int x :: st) := by
  subst hp; exact C.plain (fun hA hx hb' hr => XT.i2l hA hx rfl (hb hb' hd) rfl hr) K
theorem Walk.l2i (C : Walk W l Z a0 tb own code ml rt nm R Q) (pc' : Nat) {x : Int64} (hd : decode code pc = .ok (.l2i, 1)) (hp : pc' = pc + 1) (K : W h k n pc' Ls (.int x.toInt32 :: st)) : W h k n pc Ls (.long x :: st) := by
  subst hp; exact C.plain (fun hA hx hb' hr => XT.l2i hA hx rfl (hb hb' hd) rfl hr) K
theorem Walk.i2b (C : Walk W l Z a0 tb own code ml rt nm R Q) (pc' : Nat) {x : Int32} (hd : decode code pc = .ok (.i2b, 1)) (hp : pc' = pc + 1) (K : W h k n pc' Ls (.int x.toInt8.toInt32 :: st)) : W h k n pc Ls (.int x :: st) := by
  subst hp; exact C.plain (fun hA hx hb' hr => XT.i2b hA hx rfl (hb hb' hd) rfl hr) K
theorem Walk.i2c (C : Walk W l Z a0 tb own code ml rt nm R Q) (pc' : Nat) {x : Int32} (hd : decode code pc = .ok (.i2c, 1)) (hp : pc' = pc + 1) (K : W h k n pc' Ls (.int x.toUInt32.toUInt16.toUInt32.toInt32 :: st)) : W h k n pc Ls (.int x :: st) := by
  subst hp; exact C.plain (fun hA hx hb' hr => XT.i2c hA hx rfl (hb hb' hd) rfl hr) K
theorem Walk.ineg (C : Walk W l Z a0 tb own code ml rt nm R Q) (pc' : Nat) {x : Int32} (hd : decode code pc = .ok (.ineg, 1)) (hp : pc' = pc + 1) (K : W h k n pc' Ls (.int (-x) :: st)) : W h k n pc Ls (.int x :: st) := by
  subst hp; exact C.plain (fun hA hx hb' hr => XS.ineg hA hx rfl (hb hb' hd) rfl hr) K
theorem Walk.dup (C : Walk W l Z a0 tb own code ml rt nm R Q) (pc' : Nat) {x : Value} (hd : decode code pc = .ok (.dup, 1)) (hp : pc' = pc + 1) (hc : x.category = 1) (K : W h k n pc' Ls (x :: x :: st)) : W h k n pc Ls (x :: st) := by
  subst hp; exact C.plain (fun hA hx hb' hr => XS.dup hA hx rfl (hb hb' hd) rfl hc hr) K
theorem Walk.dupX1 (C : Walk W l Z a0 tb own code ml rt nm R Q) (pc' : Nat) {x y : Value} (hd : decode code pc = .ok (.dup_x1, 1)) (hp : pc' = pc + 1) (hc : x.category = 1) (hc' : y.category = 1) (K : W h k n pc' Ls (x :: y :: x :: st)) : W h k n pc Ls (x :: y :: st) := by
  subst hp; exact C.plain (fun hA hx hb' hr => XT.dupX1 hA hx rfl (hb hb' hd) rfl hc hc' hr) K
theorem Walk.dup2 (C : Walk W l Z a0 tb own code ml rt nm R Q) (pc' : Nat) {x y : Value} (hd : decode code pc = .ok (.dup2, 1)) (hp : pc' = pc + 1) (hc : x.category = 1) (hc' : y.category = 1) (K : W h k n pc' Ls (x :: y :: x :: y :: st)) : W h k n pc Ls (x :: y :: st) := by
  subst hp; exact C.plain (fun hA hx hb' hr => XT.dup2 hA hx rfl (hb hb' hd) rfl hc hc' hr) K
theorem Walk.pop (C : Walk W l Z a0 tb own code ml rt nm R Q) (pc' : Nat) {x : Value} (hd : decode code pc = .ok (.pop, 1)) (hp : pc' = pc + 1) (hc : x.category = 1) (K : W h k n pc' Ls st) : W h k n pc Ls (x :: st) := by
  subst hp; exact C.plain (fun hA hx hb' hr => XT.pop hA hx rfl (hb hb' hd) rfl hc hr) K
theorem Walk.iinc (C : Walk W l Z a0 tb own code ml rt nm R Q) (pc' : Nat) (Ls' : Array Slot) {i : Nat} {cst : Int} {x : Int32} (hd : decode code pc = .ok (.iinc i cst, 3)) (hp : pc' = pc + 3) (hl : Ls[i]? = some (.val (.int x))) (hl' : storeLocals Ls i (.int (x + Int32.ofInt cst)) = some Ls') (K : W h k n pc' Ls' st) : W h k n pc Ls st := by
  subst hp; exact C.plain (fun hA hx hb' hr => XS.iinc hA hx rfl (hb hb' hd) hl hl' hr) K
theorem Walk.goto (C : Walk W l Z a0 tb own code ml rt nm R Q) (pc' : Nat) {o : Int} (hd : decode code pc = .ok (.goto o, 3)) (hp : (pc : Int) + o = (pc' : Int)) (K : W h k n pc' Ls st) : W h k n pc Ls st :=
  C.plain (fun hA hx hb' hr => XS.goto hA hx rfl (pc0 := pc) (pc' := pc') rfl (hb hb' hd) (by omega) (by omega) hr) K
theorem Walk.ifT (C : Walk W l Z a0 tb own code ml rt nm R Q) (pc' : Nat) {cd : ClassFile.Cond} {x : Int32} {o : Int} (hd : decode code pc = .ok (.ifCond cd o, 3)) (hp : (pc : Int) + o = (pc' : Int)) (hc : ifCond.holds cd x = true) (K : W h k n pc' Ls st) : W h k n pc Ls (.int x :: st) :=
  C.plain (fun hA hx hb' hr => XS.ifYes hA hx rfl (pc0 := pc) (pc' := pc') rfl (hb hb' hd) rfl hc (by omega) (by omega) hr) K
theorem Walk.ifF (C : Walk W l Z a0 tb own code ml rt nm R Q) (pc' : Nat) {cd : ClassFile.Cond} {x : Int32} {o : Int} (hd : decode code pc = .ok (.ifCond cd o, 3)) (hp : pc' = pc + 3) (hc : ifCond.holds cd x = false) (K : W h k n pc' Ls st) : W h k n pc Ls (.int x :: st) := by
  subst hp; exact C.plain (fun hA hx hb' hr => XS.ifNo hA hx rfl (hb hb' hd) rfl hc hr) K
theorem Walk.icmpT (C : Walk W l Z a0 tb own code ml rt nm R Q) (pc' : Nat) {cd : ClassFile.Cond} {x y : Int32} {o : Int} (hd : decode code pc = .ok (.if_icmp cd o, 3)) (hp : (pc : Int) + o = (pc' : Int)) (hc : if_icmp.holds cd x y = true) (K : W h k n pc' Ls st) : W h k n pc Ls (.int y :: .int x :: st) :=
  C.plain (fun hA hx hb' hr => XS.icmpYes hA hx rfl (pc0 := pc) (pc' := pc') rfl (hb hb' hd) rfl hc (by omega) (by omega) hr) K
theorem Walk.icmpF (C : Walk W l Z a0 tb own code ml rt nm R Q) (pc' : Nat) {cd : ClassFile.Cond} {x y : Int32} {o : Int} (hd : decode code pc = .ok (.if_icmp cd o, 3)) (hp : pc' = pc + 3) (hc : if_icmp.holds cd x y = false) (K : W h k n pc' Ls st) : W h k n pc Ls (.int y :: .int x :: st) := by
  subst hp; exact C.plain (fun hA hx hb' hr => XS.icmpNo hA hx rfl (hb hb' hd) rfl hc hr) K
theorem Walk.acmpT (C : Walk W l Z a0 tb own code ml rt nm R Q) (pc' : Nat) {cd : ClassFile.ACond} {x y : Value} {o : Int} (hd : decode code pc = .ok (.if_acmp cd o, 3)) (hp : (pc : Int) + o = (pc' : Int)) (h1 : x.isRef = true) (h2 : y.isRef = true) (hc : XT.acmp cd x y = true) (K : W h k n pc' Ls st) : W h k n pc Ls (y :: x :: st) :=
  C.plain (fun hA hx hb' hr => XT.acmpYes hA hx rfl (pc0 := pc) (pc' := pc') rfl (hb hb' hd) rfl h1 h2 hc (by omega) (by omega) hr) K
theorem Walk.acmpF (C : Walk W l Z a0 tb own code ml rt nm R Q) (pc' : Nat) {cd : ClassFile.ACond} {x y : Value} {o : Int} (hd : decode code pc = .ok (.if_acmp cd o, 3)) (hp : pc' = pc + 3) (h1 : x.isRef = true) (h2 : y.isRef = true) (hc : XT.acmp cd x y = false) (K : W h k n pc' Ls st) : W h k n pc Ls (y :: x :: st) := by
  subst hp; exact C.plain (fun hA hx hb' hr => XT.acmpNo hA hx rfl (hb hb' hd) rfl h1 h2 hc hr) K
theorem Walk.ifnullT (C : Walk W l Z a0 tb own code ml rt nm R Q) (pc' : Nat) {o : Int} (hd : decode code pc = .ok (.ifnull o, 3)) (hp : (pc : Int) + o = (pc' : Int)) (K : W h k n pc' Ls st) : W h k n pc Ls (.null :: st) :=
  C.plain (fun hA hx hb' hr => XS.ifnullYes hA hx rfl (pc0 := pc) (pc' := pc') rfl (hb hb' hd) rfl (by omega) (by omega) hr) K
theorem Walk.ifnullF (C : Walk W l Z a0 tb own code ml rt nm R Q) (pc' : Nat) {b : Addr} {o : Int} (hd : decode code pc = .ok (.ifnull o, 3)) (hp : pc' = pc + 3) (K : W h k n pc' Ls st) : W h k n pc Ls (.ref b :: st) := by
  subst hp; exact C.plain (fun hA hx hb' hr => XS.ifnullNo hA hx rfl (hb hb' hd) rfl hr) K
theorem Walk.ifnonnullT (C : Walk W l Z a0 tb own code ml rt nm R Q) (pc' : Nat) {b : Addr} {o : Int} (hd : decode code pc = .ok (.ifnonnull o, 3)) (hp : (pc : Int) + o = (pc' : Int)) (K : W h k n pc' Ls st) : W h k n pc Ls (.ref b :: st) :=
  C.plain (fun hA hx hb' hr => XT.ifnonnullYes hA hx rfl (pc0 := pc) (pc' := pc') rfl (hb hb' hd) rfl (by omega) (by omega) hr) K
theorem Walk.ifnonnullF (C : Walk W l Z a0 tb own code ml rt nm R Q) (pc' : Nat) {o : Int} (hd : decode code pc = .ok (.ifnonnull o, 3)) (hp : pc' = pc + 3) (K : W h k n pc' Ls st) : W h k n pc Ls (.null :: st) := by
  subst hp; exact C.plain (fun hA hx hb' hr => XT.ifnonnullNo hA hx rfl (hb hb' hd) rfl hr) K
theorem Walk.lshl (C : Walk W l Z a0 tb own code ml rt nm R Q) (pc' : Nat) {x : Int64} {y : Int32} (hd : decode code pc = .ok (.lshl, 1)) (hp : pc' = pc + 1) (K : W h k n pc' Ls (.long (x <<< (y.toInt64 &&& 63)) :: st)) : W h k n pc Ls (.int y :: .long x :: st) := by
  subst hp; exact C.plain (fun hA hx hb' hr => XT.lshl hA hx rfl (hb hb' hd) rfl hr) K
theorem Walk.lshr (C : Walk W l Z a0 tb own code ml rt nm R Q) (pc' : Nat) {x : Int64} {y : Int32} (hd : decode code pc = .ok (.lshr, 1)) (hp : pc' = pc + 1) (K : W h k n pc' Ls (.long (x >>> (y.toInt64 &&& 63)) :: st)) : W h k n pc Ls (.int y :: .long x :: st) := by
  subst hp; exact C.plain (fun hA hx hb' hr => XT.lshr hA hx rfl (hb hb' hd) rfl hr) K
theorem Walk.lushr (C : Walk W l Z a0 tb own code ml rt nm R Q) (pc' : Nat) {x : Int64} {y : Int32} (hd : decode code pc = .ok (.lushr, 1)) (hp : pc' = pc + 1) (K : W h k n pc' Ls (.long (XT.ushrL x y) :: st)) : W h k n pc Ls (.int y :: .long x :: st) := by
  subst hp; exact C.plain (fun hA hx hb' hr => XT.lushr hA hx rfl (hb hb' hd) rfl hr) K
/-! the returns -/
theorem Walk.ret (C : Walk W l Z a0 tb own code ml rt nm R Q) {v : Value} {t : FieldType} {i : Instr} (hd : decode code pc = .ok (i, 1)) (hrt : rt = some t) (hn : narrow t v = v)
    (hi : (i = .ireturn ∧ (t = .int ∨ t = .boolean ∨ t = .byte ∨ t = .char ∨ t = .short) ∧ ∃ z, v = .int z) ∨ (i = .lreturn ∧ t = .long ∧ ∃ z, v = .long z) ∨ (i = .dreturn ∧ t = .double ∧ ∃ z, v = .double z) ∨ (i = .freturn ∧ t = .float ∧ ∃ z, v = .float z) ∨ (i = .areturn ∧ t.isReference = true ∧ v.isRef = true))
    (hq : Q (some v) h) (hk : k ≤ R.cells) (hs : n ≤ R.slots) : W h k n pc Ls (v :: st) := by
  obtain ⟨p, e, s, m, args, below, meth, c, rfl, hx, hby, hml, hown, hrt', hlk, hZ, hnm, hw⟩ := C
  intro hE T locs X eT N
  subst eT hrt
  obtain ⟨fs, hr, hrun, hended, hW, hsame⟩ := X.leave (v := some v) (fun h => by rw [hrt'] at h; cases h)
  exact ⟨_, _, retOut X hx hrt' hn hi (hb hby hd) hr, hrun, hended, _, _, rfl, ⟨hq, hE, N⟩, ⟨_, rfl⟩, hW, hsame.mono hk hs⟩
theorem Walk.retI (C : Walk W l Z a0 tb own code ml rt nm R Q) {x : Int32} (t : FieldType) (hd : decode code pc = .ok (.ireturn, 1)) (hrt : rt = some t) (ht : t = .int ∨ t = .boolean ∨ t = .byte ∨ t = .char ∨ t = .short) (hn : nar t x = x)
    (hk : k ≤ R.cells) (hs : n ≤ R.slots) (hq : Q (some (.int x)) h) : W h k n pc Ls (.int x :: st) :=
  C.ret hd hrt (by have e : narrow t (.int x) = .int (nar t x) := by rcases ht with rfl | rfl | rfl | rfl | rfl <;> rfl
                   rw [e, hn]) (Or.inl ⟨rfl, ht, _, rfl⟩) hq hk hs
theorem Walk.retA (C : Walk W l Z a0 tb own code ml rt nm R Q) {v : Value} (t : FieldType) (hd : decode code pc = .ok (.areturn, 1)) (hrt : rt = some t) (ht : t.isReference = true) (hv : v.isRef = true)
    (hk : k ≤ R.cells) (hs : n ≤ R.slots) (hq : Q (some v) h) : W h k n pc Ls (v :: st) :=
  C.ret hd hrt (by cases t <;> first | (cases ht; done) | (cases v <;> first | (cases hv; done) | rfl)) (Or.inr (Or.inr (Or.inr (Or.inr ⟨rfl, ht, hv⟩)))) hq hk hs
theorem Walk.ret0 (C : Walk W l Z a0 tb own code ml rt nm R Q) (hd : decode code pc = .ok (.return_, 1)) (hrt : rt = none) (hk : k ≤ R.cells) (hs : n ≤ R.slots) (hq : Q none h) : W h k n pc Ls [] := by
  obtain ⟨p, e, s, m, args, below, meth, c, rfl, hx, hby, hml, hown, hrt', hlk, hZ, hnm, hw⟩ := C
  intro hE T locs X eT N
  subst eT hrt
  obtain ⟨fs, hr, hrun, hended, hW, hsame⟩ := X.leave (v := none) (fun _ => rfl)
  exact ⟨_, _, X.returnOut hx hrt' (hb hby hd) hr, hrun, hended, _, _, rfl, ⟨hq, hE, N⟩, ⟨_, rfl⟩, hW, hsame.mono hk hs⟩
/-! constants of the pool, static fields, fields -/
theorem Walk.ldc (C : Walk W l Z a0 tb own code ml rt nm R Q) (pc' : Nat) (v : Int32) {idx : Nat} (hd : decode code pc = .ok (.ldc idx, 2)) (hp : pc' = pc + 2) (w : Jvm.Cond.constant own idx v ∈ tb) (K : W h k n pc' Ls (.int v :: st)) : W h k n pc Ls st := by
  obtain ⟨p, e, s, m, args, below, meth, c, rfl, hx, hby, hml, hown, hrt', hlk, hZ, hnm, hw⟩ := C
  intro hE T locs X eT N
  subst hp
  obtain ⟨u, o, h1, h2⟩ := K hE T locs X eT N
  exact ⟨u, o, X.ldcI hx hown (mv hZ (hw _ w)) rfl (hb hby hd) h1, h2⟩
theorem Walk.ldcW (C : Walk W l Z a0 tb own code ml rt nm R Q) (pc' : Nat) (v : Int32) {idx : Nat} (hd : decode code pc = .ok (.ldc_w idx, 3)) (hp : pc' = pc + 3) (w : Jvm.Cond.constant own idx v ∈ tb) (K : W h k n pc' Ls (.int v :: st)) : W h k n pc Ls st := by
  obtain ⟨p, e, s, m, args, below, meth, c, rfl, hx, hby, hml, hown, hrt', hlk, hZ, hnm, hw⟩ := C
  intro hE T locs X eT N
  subst hp
  obtain ⟨u, o, h1, h2⟩ := K hE T locs X eT N
  exact ⟨u, o, X.ldcWI hx hown (mv hZ (hw _ w)) rfl (hb hby hd) h1, h2⟩
theorem Walk.ldc2 (C : Walk W l Z a0 tb own code ml rt nm R Q) (pc' : Nat) (v : Int64) {idx : Nat} (hd : decode code pc = .ok (.ldc2_w idx, 3)) (hp : pc' = pc + 3) (w : Jvm.Cond.constantLong own idx v ∈ tb) (K : W h k n pc' Ls (.long v :: st)) : W h k n pc Ls st := by
  obtain ⟨p, e, s, m, args, below, meth, c, rfl, hx, hby, hml, hown, hrt', hlk, hZ, hnm, hw⟩ := C
  intro hE T locs X eT N
  subst hp
  obtain ⟨u, o, h1, h2⟩ := K hE T locs X eT N
  exact ⟨u, o, X.ldc2J hx hown (mv hZ (hw _ w)) rfl (hb hby hd) h1, h2⟩
theorem Walk.getstatic (C : Walk W l Z a0 tb own code ml rt nm R Q) (pc' : Nat) {idx : Nat} {O f d : String} {v : Value} (hd : decode code pc = .ok (.getstatic idx, 3)) (hp : pc' = pc + 3) (w : Jvm.Cond.fieldLink own idx O f d ∈ tb) (F : Sta Z Z.heap O f d v) (K : W h k n pc' Ls (v :: st)) : W h k n pc Ls st := by
  obtain ⟨p, e, s, m, args, below, meth, c, rfl, hx, hby, hml, hown, hrt', hlk, hZ, hnm, hw⟩ := C
  intro hE T locs X eT N
  subst hp
  obtain ⟨T', X', e', S⟩ := getS X hx hZ hown (host := "") (hw _ w) Via.refl eT (F.ext hE) (g := mkF m pc Ls st) rfl (hb hby hd)
  obtain ⟨u, o, h1, h2⟩ := K hE T' locs X' e' N
  exact ⟨u, o, S _ h1, h2⟩
theorem Walk.getfield (C : Walk W l Z a0 tb own code ml rt nm R Q) (pc' : Nat) {idx : Nat} {R0 O f d : String} {a : Addr} {v : Value} (hd : decode code pc = .ok (.getfield idx, 3)) (hp : pc' = pc + 3) (w : Jvm.Cond.fieldLink own idx R0 f d ∈ tb) (via : Via Z R0 O f d) (F : Fld Z h a O f d v) (K : W h k n pc' Ls (v :: st)) : W h k n pc Ls (.ref a :: st) := by
  obtain ⟨p, e, s, m, args, below, meth, c, rfl, hx, hby, hml, hown, hrt', hlk, hZ, hnm, hw⟩ := C
  intro hE T locs X eT N
  subst hp
  obtain ⟨T', X', e', S⟩ := getF X hx hZ hown (host := "") (Or.inl (hw _ w)) via eT F (g := mkF m pc Ls (.ref a :: st)) rfl rfl (hb hby hd)
  obtain ⟨u, o, h1, h2⟩ := K hE T' locs X' e' N
  exact ⟨u, o, S _ h1, h2⟩
theorem Walk.getfieldOld (C : Walk W l Z a0 tb own code ml rt nm R Q) (pc' : Nat) {idx : Nat} {R0 O f d : String} {a : Addr} {v : Value} (hd : decode code pc = .ok (.getfield idx, 3)) (hp : pc' = pc + 3) (w : Jvm.Cond.fieldLink own idx R0 f d ∈ tb) (via : Via Z R0 O f d) (F : Fld Z Z.heap a O f d v) (K : W h k n pc' Ls (v :: st)) : W h k n pc Ls (.ref a :: st) :=
  C.kept fun hE => C.getfield pc' hd hp w via (F.ext hE) K
theorem Walk.putfield (C : Walk W l Z a0 tb own code ml rt nm R Q) (pc' : Nat) {idx kk : Nat} {R0 O f d D : String} {a : Addr} {v v' old : Value} (ty : FieldType) (hd : decode code pc = .ok (.putfield idx, 3)) (hp : pc' = pc + 3) (w : Jvm.Cond.fieldLink own idx R0 f d ∈ tb) (via : Via Z R0 O f d) (F : Fld Z h a O f d old) (E : Exa Z h a D)
    (L : Jvm.Cond.lays D O f d ∈ tb ∨ (Jvm.Cond.laysFinal D O f d ∈ tb ∧ own = O ∧ nm = "<init>")) (wi : Jvm.Cond.instantiable D kk ∈ tb) (hty : parseFieldDescriptor d = some ty) (hn : narrow ty v = v') (hf : fits ty v' = true) (ha : Z.heap.size ≤ a)
    (K : ∀ h', Wr h h' a (Jvm.RoadKit.slotOf Z O f d) v' → W h' k n pc' Ls st) : W h k n pc Ls (v :: .ref a :: st) := by
  obtain ⟨p, e, s, m, args, below, meth, c, rfl, hx, hby, hml, hown, hrt', hlk, hZ, hnm, hw⟩ := C
  intro hE T locs X eT N
  subst hp
  obtain ⟨T', h', X', e', Wr', S⟩ := putFN X hx hZ hown (hw _ w) via eT F E (L.imp (hw _) fun q => ⟨hw _ q.1, q.2.1, hnm.trans q.2.2⟩) (hw _ wi) hty hn hf (g := mkF m pc Ls (v :: .ref a :: st)) rfl rfl (hb hby hd)
  obtain ⟨u, o, h1, h2⟩ := K h' Wr' (Old.wr (n0 := Z.heap.size) ⟨rfl, hE⟩ Wr' ha).2 T' _ X' e' (Fr.snoc X' N ha)
  exact ⟨u, o, S _ h1, h2⟩
/-! arrays: the places' values as a list -/
def Al (Z : State) (h : Heap) (a : Addr) (ty : FieldType) (vs : List Value) : Prop := ∃ c : Cell, Arr Z h a c ty ∧ c.slots.toList = vs
theorem Al.lt {a : Addr} {ty : FieldType} {vs : List Value} (A : Al Z h a ty vs) : a < h.size := by obtain ⟨c, A, -⟩ := A; exact A.lt
theorem Al.ext {h' : Heap} {a : Addr} {ty : FieldType} {vs : List Value} (A : Al Z h a ty vs) (E : Ext h h') : Al Z h' a ty vs := by obtain ⟨c, A, q⟩ := A; exact ⟨c, A.ext E, q⟩
theorem Al.keep {h' : Heap} {a : Addr} {ty : FieldType} {vs : List Value} {ws : List Addr} (A : Al Z h a ty vs) (K : Keep h h' ws) (q : a ∉ ws) : Al Z h' a ty vs := by obtain ⟨c, A, r⟩ := A; exact ⟨c, ⟨K.2.1 a c A.1 q, A.2⟩, r⟩
theorem Al.set {h' : Heap} {a : Addr} {ty : FieldType} {vs : List Value} {i : Nat} {v : Value} (A : Al Z h a ty vs) (Wr' : Wr h h' a i v) : Al Z h' a ty (vs.set i v) := by
  obtain ⟨c, A, rfl⟩ := A
  exact ⟨_, A.same Wr', by simp [Cell.setSlot]⟩
theorem list_at {c : Cell} {vs : List Value} (q : c.slots.toList = vs) (i : Nat) : c.slots[i]? = vs[i]? := by subst q; simp
theorem list_sz {c : Cell} {vs : List Value} (q : c.slots.toList = vs) : c.slots.size = vs.length := by subst q; simp
theorem Walk.newarray (C : Walk W l Z a0 tb own code ml rt nm R Q) (pc' : Nat) {aty : ArrayType} {z : Int32} (cap : Nat) (hd : decode code pc = .ok (.newarray aty, 2)) (hp : pc' = pc + 2) (w : Jvm.Cond.arrayClass (newarray.typeOf aty) ∈ tb) (hz : ¬ z < 0) (hcap : z.toNatClampNeg ≤ cap) (hb' : cap * 8 ≤ 536870912) (hc : k + 1 ≤ R.cells) (hl : n + cap ≤ R.slots)
    (K : ∀ h', Ext h h' → Al Z h' h.size (newarray.typeOf aty) (List.replicate z.toNatClampNeg (defaultValue (newarray.typeOf aty))) → W h' (k + 1) (n + cap) pc' Ls (.ref h.size :: st)) : W h k n pc Ls (.int z :: st) := by
  obtain ⟨p, e, s, m, args, below, meth, c, rfl, hx, hby, hml, hown, hrt', hlk, hZ, hnm, hw⟩ := C
  intro hE T locs X eT N
  subst hp
  obtain ⟨T', h', cA, X', e', E', A', S⟩ := newP X hx hZ (hw _ w) eT (g := mkF m pc Ls (.int z :: st)) rfl (hb hby hd) rfl hz hcap hb' hc hl
  obtain ⟨u, o, h1, h2⟩ := K h' E' ⟨_, A', by simp [newA]⟩ (Old.ext (n0 := Z.heap.size) ⟨rfl, hE⟩ E').2 T' _ X' e' N
  exact ⟨u, o, S _ h1, h2⟩
theorem Walk.anewarray (C : Walk W l Z a0 tb own code ml rt nm R Q) (pc' : Nat) {idx : Nat} {D : String} {z : Int32} (cap : Nat) (hd : decode code pc = .ok (.anewarray idx, 3)) (hp : pc' = pc + 3) (w : Jvm.Cond.classLink own idx D ∈ tb) (w2 : Jvm.Cond.arrayOver (.object D) ∈ tb) (hz : ¬ z < 0) (hcap : z.toNatClampNeg ≤ cap) (hb' : cap * 8 ≤ 536870912) (hc : k + 1 ≤ R.cells) (hl : n + cap ≤ R.slots)
    (K : ∀ h' cA, Ext h h' → (∃ c : Cell, Arr Z h' h.size c (.object D) ∧ c.cls = cA ∧ c.slots.toList = List.replicate z.toNatClampNeg .null) → Ovr Z cA D → W h' (k + 1) (n + cap) pc' Ls (.ref h.size :: st)) : W h k n pc Ls (.int z :: st) := by
  obtain ⟨p, e, s, m, args, below, meth, c, rfl, hx, hby, hml, hown, hrt', hlk, hZ, hnm, hw⟩ := C
  intro hE T locs X eT N
  subst hp
  obtain ⟨T', h', cA, X', e', E', A', O', S⟩ := newR X hx hZ hown (hw _ w) (hw _ w2) eT (g := mkF m pc Ls (.int z :: st)) rfl (hb hby hd) rfl hz hcap hb' hc hl
  obtain ⟨u, o, h1, h2⟩ := K h' cA E' ⟨_, A', rfl, by simp [newA, defaultValue]⟩ O' (Old.ext (n0 := Z.heap.size) ⟨rfl, hE⟩ E').2 T' _ X' e' N
  exact ⟨u, o, S _ h1, h2⟩
/-- an array over the class D: its class, its places -/
def Ro (Z : State) (h : Heap) (a : Addr) (D : String) (cA : ClassId) (vs : List Value) : Prop := ∃ c : Cell, Arr Z h a c (.object D) ∧ c.cls = cA ∧ c.slots.toList = vs
theorem Ro.lt {a : Addr} {D : String} {cA : ClassId} {vs : List Value} (A : Ro Z h a D cA vs) : a < h.size := by obtain ⟨c, A, -⟩ := A; exact A.lt
theorem Ro.ext {h' : Heap} {a : Addr} {D : String} {cA : ClassId} {vs : List Value} (A : Ro Z h a D cA vs) (E : Ext h h') : Ro Z h' a D cA vs := by obtain ⟨c, A, q⟩ := A; exact ⟨c, A.ext E, q⟩
theorem Ro.keep {h' : Heap} {a : Addr} {D : String} {cA : ClassId} {vs : List Value} {ws : List Addr} (A : Ro Z h a D cA vs) (K : Keep h h' ws) (q : a ∉ ws) : Ro Z h' a D cA vs := by obtain ⟨c, A, r⟩ := A; exact ⟨c, ⟨K.2.1 a c A.1 q, A.2⟩, r⟩
theorem Walk.aastore (C : Walk W l Z a0 tb own code ml rt nm R Q) (pc' : Nat) {a b : Addr} {D : String} {cA : ClassId} {vs : List Value} {j : Int32} (i : Nat) (hd : decode code pc = .ok (.aastore, 1)) (hp : pc' = pc + 1) (A : Ro Z h a D cA vs) (O : Ovr Z cA D) (I : Ins Z h b D true) (ha : Z.heap.size ≤ a) (hn : ¬ j < 0) (hi : j.toNatClampNeg = i) (hl : i < vs.length)
    (K : ∀ h', Wr h h' a i (.ref b) → Ro Z h' a D cA (vs.set i (.ref b)) → W h' k n pc' Ls st) : W h k n pc Ls (.ref b :: .int j :: .ref a :: st) := by
  obtain ⟨p, e, s, m, args, below, meth, c, rfl, hx, hby, hml, hown, hrt', hlk, hZ, hnm, hw⟩ := C
  intro hE T locs X eT N
  subst hp
  obtain ⟨cl, A1, A2, A3⟩ := A
  have hj : ¬ (j < 0 ∨ cl.slots.size ≤ j.toNatClampNeg) := by rw [list_sz A3, hi]; exact fun q => q.elim hn (fun q => absurd hl (Nat.not_lt.mpr q))
  obtain ⟨T', h', X', e', Wr', S⟩ := stR X hx hZ eT A1 hj rfl (Sto.ofV A1 A2 O I) (g := mkF m pc Ls (.ref b :: .int j :: .ref a :: st)) rfl rfl (hb hby hd)
  rw [hi] at Wr'
  have R' : Ro Z h' a D cA (vs.set i (.ref b)) := ⟨_, A1.same Wr', by simpa [Cell.setSlot] using A2, by subst A3; simp [Cell.setSlot]⟩
  obtain ⟨u, o, h1, h2⟩ := K h' Wr' R' (Old.wr (n0 := Z.heap.size) ⟨rfl, hE⟩ Wr' ha).2 T' _ X' e' (Fr.snoc X' N ha)
  exact ⟨u, o, S _ h1, h2⟩
theorem Walk.castore (C : Walk W l Z a0 tb own code ml rt nm R Q) (pc' : Nat) {a : Addr} {vs : List Value} {j x : Int32} (i : Nat) (x' : Int32) (hd : decode code pc = .ok (.castore, 1)) (hp : pc' = pc + 1) (A : Al Z h a .char vs) (ha : Z.heap.size ≤ a) (hn : ¬ j < 0) (hi : j.toNatClampNeg = i) (hl : i < vs.length) (hx' : nar .char x = x')
    (K : ∀ h', Wr h h' a i (.int x') → Al Z h' a .char (vs.set i (.int x')) → W h' k n pc' Ls st) : W h k n pc Ls (.int x :: .int j :: .ref a :: st) := by
  obtain ⟨p, e, s, m, args, below, meth, c, rfl, hx, hby, hml, hown, hrt', hlk, hZ, hnm, hw⟩ := C
  intro hE T locs X eT N
  subst hp
  have A' := A
  obtain ⟨cl, A1, A3⟩ := A
  have hj : ¬ (j < 0 ∨ cl.slots.size ≤ j.toNatClampNeg) := by rw [list_sz A3, hi]; exact fun q => q.elim hn (fun q => absurd hl (Nat.not_lt.mpr q))
  obtain ⟨T', h', X', e', Wr', S⟩ := stC X hx hZ eT A1 hj (g := mkF m pc Ls (.int x :: .int j :: .ref a :: st)) rfl rfl (hb hby hd)
  rw [hi, hx'] at Wr'
  obtain ⟨u, o, h1, h2⟩ := K h' Wr' (A'.set Wr') (Old.wr (n0 := Z.heap.size) ⟨rfl, hE⟩ Wr' ha).2 T' _ X' e' (Fr.snoc X' N ha)
  exact ⟨u, o, S _ h1, h2⟩
theorem Walk.bastoreB (C : Walk W l Z a0 tb own code ml rt nm R Q) (pc' : Nat) {a : Addr} {vs : List Value} {j x : Int32} (i : Nat) (x' : Int32) (hd : decode code pc = .ok (.bastore, 1)) (hp : pc' = pc + 1) (A : Al Z h a .byte vs) (ha : Z.heap.size ≤ a) (hn : ¬ j < 0) (hi : j.toNatClampNeg = i) (hl : i < vs.length) (hx' : nar .byte x = x')
    (K : ∀ h', Wr h h' a i (.int x') → Al Z h' a .byte (vs.set i (.int x')) → W h' k n pc' Ls st) : W h k n pc Ls (.int x :: .int j :: .ref a :: st) := by
  obtain ⟨p, e, s, m, args, below, meth, c, rfl, hx, hby, hml, hown, hrt', hlk, hZ, hnm, hw⟩ := C
  intro hE T locs X eT N
  subst hp
  have A' := A
  obtain ⟨cl, A1, A3⟩ := A
  have hj : ¬ (j < 0 ∨ cl.slots.size ≤ j.toNatClampNeg) := by rw [list_sz A3, hi]; exact fun q => q.elim hn (fun q => absurd hl (Nat.not_lt.mpr q))
  obtain ⟨T', h', X', e', Wr', S⟩ := stB X hx hZ eT A1 hj (g := mkF m pc Ls (.int x :: .int j :: .ref a :: st)) rfl rfl (hb hby hd)
  rw [hi, hx'] at Wr'
  obtain ⟨u, o, h1, h2⟩ := K h' Wr' (A'.set Wr') (Old.wr (n0 := Z.heap.size) ⟨rfl, hE⟩ Wr' ha).2 T' _ X' e' (Fr.snoc X' N ha)
  exact ⟨u, o, S _ h1, h2⟩
theorem Walk.bastoreZ (C : Walk W l Z a0 tb own code ml rt nm R Q) (pc' : Nat) {a : Addr} {vs : List Value} {j x : Int32} (i : Nat) (x' : Int32) (hd : decode code pc = .ok (.bastore, 1)) (hp : pc' = pc + 1) (A : Al Z h a .boolean vs) (ha : Z.heap.size ≤ a) (hn : ¬ j < 0) (hi : j.toNatClampNeg = i) (hl : i < vs.length) (hx' : nar .boolean x = x')
    (K : ∀ h', Wr h h' a i (.int x') → Al Z h' a .boolean (vs.set i (.int x')) → W h' k n pc' Ls st) : W h k n pc Ls (.int x :: .int j :: .ref a :: st) := by
  obtain ⟨p, e, s, m, args, below, meth, c, rfl, hx, hby, hml, hown, hrt', hlk, hZ, hnm, hw⟩ := C
  intro hE T locs X eT N
  subst hp
  have A' := A
  obtain ⟨cl, A1, A3⟩ := A
  have hj : ¬ (j < 0 ∨ cl.slots.size ≤ j.toNatClampNeg) := by rw [list_sz A3, hi]; exact fun q => q.elim hn (fun q => absurd hl (Nat.not_lt.mpr q))
  obtain ⟨T', h', X', e', Wr', S⟩ := stZ X hx hZ eT A1 hj (g := mkF m pc Ls (.int x :: .int j :: .ref a :: st)) rfl rfl (hb hby hd)
  rw [hi, hx'] at Wr'
  obtain ⟨u, o, h1, h2⟩ := K h' Wr' (A'.set Wr') (Old.wr (n0 := Z.heap.size) ⟨rfl, hE⟩ Wr' ha).2 T' _ X' e' (Fr.snoc X' N ha)
  exact ⟨u, o, S _ h1, h2⟩
theorem Walk.iastore (C : Walk W l Z a0 tb own code ml rt nm R Q) (pc' : Nat) {a : Addr} {vs : List Value} {j x : Int32} (i : Nat) (hd : decode code pc = .ok (.iastore, 1)) (hp : pc' = pc + 1) (A : Al Z h a .int vs) (ha : Z.heap.size ≤ a) (hn : ¬ j < 0) (hi : j.toNatClampNeg = i) (hl : i < vs.length)
    (K : ∀ h', Wr h h' a i (.int x) → Al Z h' a .int (vs.set i (.int x)) → W h' k n pc' Ls st) : W h k n pc Ls (.int x :: .int j :: .ref a :: st) := by
  obtain ⟨p, e, s, m, args, below, meth, c, rfl, hx, hby, hml, hown, hrt', hlk, hZ, hnm, hw⟩ := C
  intro hE T locs X eT N
  subst hp
  have A' := A
  obtain ⟨cl, A1, A3⟩ := A
  have hj : ¬ (j < 0 ∨ cl.slots.size ≤ j.toNatClampNeg) := by rw [list_sz A3, hi]; exact fun q => q.elim hn (fun q => absurd hl (Nat.not_lt.mpr q))
  obtain ⟨T', h', X', e', Wr', S⟩ := stI X hx hZ eT A1 hj (g := mkF m pc Ls (.int x :: .int j :: .ref a :: st)) rfl rfl (hb hby hd)
  rw [hi] at Wr'
  obtain ⟨u, o, h1, h2⟩ := K h' Wr' (A'.set Wr') (Old.wr (n0 := Z.heap.size) ⟨rfl, hE⟩ Wr' ha).2 T' _ X' e' (Fr.snoc X' N ha)
  exact ⟨u, o, S _ h1, h2⟩
theorem Walk.iaload (C : Walk W l Z a0 tb own code ml rt nm R Q) (pc' : Nat) {a : Addr} {vs : List Value} {j : Int32} (i : Nat) (v : Value) (hd : decode code pc = .ok (.iaload, 1)) (hp : pc' = pc + 1) (A : Al Z h a .int vs) (hn : ¬ j < 0) (hi : j.toNatClampNeg = i) (hv : vs[i]? = some v)
    (K : W h k n pc' Ls (v :: st)) : W h k n pc Ls (.int j :: .ref a :: st) := by
  obtain ⟨p, e, s, m, args, below, meth, c, rfl, hx, hby, hml, hown, hrt', hlk, hZ, hnm, hw⟩ := C
  intro hE T locs X eT N
  subst hp
  obtain ⟨cl, A1, A3⟩ := A
  have hl : i < vs.length := (List.getElem?_eq_some_iff.mp hv).1
  have hj : ¬ (j < 0 ∨ cl.slots.size ≤ j.toNatClampNeg) := by rw [list_sz A3, hi]; exact fun q => q.elim hn (fun q => absurd hl (Nat.not_lt.mpr q))
  obtain ⟨u, o, h1, h2⟩ := K hE T _ X eT N
  exact ⟨u, o, X.iaload hx (by rw [eT]; exact A1.1) (State.isArrayOf_alike hZ.alike A1.2.1) A1.2.2 hj (by rw [hi, list_at A3]; exact hv) (g := mkF m pc Ls (.int j :: .ref a :: st)) rfl rfl (hb hby hd) _ h1, h2⟩
theorem Walk.caload (C : Walk W l Z a0 tb own code ml rt nm R Q) (pc' : Nat) {a : Addr} {vs : List Value} {j : Int32} (i : Nat) (v : Value) (hd : decode code pc = .ok (.caload, 1)) (hp : pc' = pc + 1) (A : Al Z h a .char vs) (hn : ¬ j < 0) (hi : j.toNatClampNeg = i) (hv : vs[i]? = some v)
    (K : W h k n pc' Ls (v :: st)) : W h k n pc Ls (.int j :: .ref a :: st) := by
  obtain ⟨p, e, s, m, args, below, meth, c, rfl, hx, hby, hml, hown, hrt', hlk, hZ, hnm, hw⟩ := C
  intro hE T locs X eT N
  subst hp
  obtain ⟨cl, A1, A3⟩ := A
  have hl : i < vs.length := (List.getElem?_eq_some_iff.mp hv).1
  have hj : ¬ (j < 0 ∨ cl.slots.size ≤ j.toNatClampNeg) := by rw [list_sz A3, hi]; exact fun q => q.elim hn (fun q => absurd hl (Nat.not_lt.mpr q))
  obtain ⟨u, o, h1, h2⟩ := K hE T _ X eT N
  exact ⟨u, o, X.caload hx (by rw [eT]; exact A1.1) (State.isArrayOf_alike hZ.alike A1.2.1) A1.2.2 hj (by rw [hi, list_at A3]; exact hv) (g := mkF m pc Ls (.int j :: .ref a :: st)) rfl rfl (hb hby hd) _ h1, h2⟩
theorem Walk.baloadB (C : Walk W l Z a0 tb own code ml rt nm R Q) (pc' : Nat) {a : Addr} {vs : List Value} {j : Int32} (i : Nat) (v : Value) (hd : decode code pc = .ok (.baload, 1)) (hp : pc' = pc + 1) (A : Al Z h a .byte vs) (hn : ¬ j < 0) (hi : j.toNatClampNeg = i) (hv : vs[i]? = some v)
    (K : W h k n pc' Ls (v :: st)) : W h k n pc Ls (.int j :: .ref a :: st) := by
  obtain ⟨p, e, s, m, args, below, meth, c, rfl, hx, hby, hml, hown, hrt', hlk, hZ, hnm, hw⟩ := C
  intro hE T locs X eT N
  subst hp
  obtain ⟨cl, A1, A3⟩ := A
  have hl : i < vs.length := (List.getElem?_eq_some_iff.mp hv).1
  have hj : ¬ (j < 0 ∨ cl.slots.size ≤ j.toNatClampNeg) := by rw [list_sz A3, hi]; exact fun q => q.elim hn (fun q => absurd hl (Nat.not_lt.mpr q))
  obtain ⟨u, o, h1, h2⟩ := K hE T _ X eT N
  exact ⟨u, o, X.baloadBytes hx (by rw [eT]; exact A1.1) (State.isArrayOf_alike hZ.alike A1.2.1) A1.2.2 hj (by rw [hi, list_at A3]; exact hv) (g := mkF m pc Ls (.int j :: .ref a :: st)) rfl rfl (hb hby hd) _ h1, h2⟩
theorem Walk.baloadZ (C : Walk W l Z a0 tb own code ml rt nm R Q) (pc' : Nat) {a : Addr} {vs : List Value} {j : Int32} (i : Nat) (v : Value) (hd : decode code pc = .ok (.baload, 1)) (hp : pc' = pc + 1) (A : Al Z h a .boolean vs) (hn : ¬ j < 0) (hi : j.toNatClampNeg = i) (hv : vs[i]? = some v)
    (K : W h k n pc' Ls (v :: st)) : W h k n pc Ls (.int j :: .ref a :: st) := by
  obtain ⟨p, e, s, m, args, below, meth, c, rfl, hx, hby, hml, hown, hrt', hlk, hZ, hnm, hw⟩ := C
  intro hE T locs X eT N
  subst hp
  obtain ⟨cl, A1, A3⟩ := A
  have hl : i < vs.length := (List.getElem?_eq_some_iff.mp hv).1
  have hj : ¬ (j < 0 ∨ cl.slots.size ≤ j.toNatClampNeg) := by rw [list_sz A3, hi]; exact fun q => q.elim hn (fun q => absurd hl (Nat.not_lt.mpr q))
  obtain ⟨u, o, h1, h2⟩ := K hE T _ X eT N
  exact ⟨u, o, X.baloadBooleans hx (by rw [eT]; exact A1.1) (State.isArrayOf_alike hZ.alike A1.2.1) A1.2.2 hj (by rw [hi, list_at A3]; exact hv) (g := mkF m pc Ls (.int j :: .ref a :: st)) rfl rfl (hb hby hd) _ h1, h2⟩
theorem Walk.aaload (C : Walk W l Z a0 tb own code ml rt nm R Q) (pc' : Nat) {a : Addr} {D : String} {cA : ClassId} {vs : List Value} {j : Int32} (i : Nat) (v : Value) (hd : decode code pc = .ok (.aaload, 1)) (hp : pc' = pc + 1) (A : Ro Z h a D cA vs) (hn : ¬ j < 0) (hi : j.toNatClampNeg = i) (hv : vs[i]? = some v)
    (K : W h k n pc' Ls (v :: st)) : W h k n pc Ls (.int j :: .ref a :: st) := by
  obtain ⟨p, e, s, m, args, below, meth, c, rfl, hx, hby, hml, hown, hrt', hlk, hZ, hnm, hw⟩ := C
  intro hE T locs X eT N
  subst hp
  obtain ⟨cl, A1, A2, A3⟩ := A
  have hl : i < vs.length := (List.getElem?_eq_some_iff.mp hv).1
  have hj : ¬ (j < 0 ∨ cl.slots.size ≤ j.toNatClampNeg) := by rw [list_sz A3, hi]; exact fun q => q.elim hn (fun q => absurd hl (Nat.not_lt.mpr q))
  obtain ⟨u, o, h1, h2⟩ := K hE T _ X eT N
  exact ⟨u, o, X.aaload hx (by rw [eT]; exact A1.1) (State.isArrayOf_alike hZ.alike A1.2.1) rfl A1.2.2 hj (by rw [hi, list_at A3]; exact hv) (g := mkF m pc Ls (.int j :: .ref a :: st)) rfl rfl (hb hby hd) _ h1, h2⟩
theorem Walk.arraylength (C : Walk W l Z a0 tb own code ml rt nm R Q) (pc' : Nat) {a : Addr} {ty : FieldType} {vs : List Value} (z : Int32) (hd : decode code pc = .ok (.arraylength, 1)) (hp : pc' = pc + 1) (A : Al Z h a ty vs) (hz : vs.length.toInt32 = z)
    (K : W h k n pc' Ls (.int z :: st)) : W h k n pc Ls (.ref a :: st) := by
  obtain ⟨p, e, s, m, args, below, meth, c, rfl, hx, hby, hml, hown, hrt', hlk, hZ, hnm, hw⟩ := C
  intro hE T locs X eT N
  subst hp
  obtain ⟨cl, A1, A3⟩ := A
  obtain ⟨u, o, h1, h2⟩ := K hE T _ X eT N
  rw [← hz, ← list_sz A3] at h1
  exact ⟨u, o, X.arraylength hx (by rw [eT]; exact A1.1) (State.isArrayOf_alike hZ.alike A1.2.1) (g := mkF m pc Ls (.ref a :: st)) rfl rfl (hb hby hd) _ h1, h2⟩
/-! objects, calls -/
theorem Walk.new (C : Walk W l Z a0 tb own code ml rt nm R Q) (pc' : Nat) {idx sz : Nat} {D : String} (hd : decode code pc = .ok (.new idx, 3)) (hp : pc' = pc + 3) (w : Jvm.Cond.classLink own idx D ∈ tb) (wi : Jvm.Cond.instantiable D sz ∈ tb) (wz : Jvm.Cond.initialized D ∈ tb) (hc : k + 1 ≤ R.cells) (hl : n + sz ≤ R.slots)
    (K : ∀ h', Ext h h' → Exa Z h' h.size D → (∀ {O f d : String} {ty : FieldType}, Laid Z a0 D O f d → parseFieldDescriptor d = some ty → Fld Z h' h.size O f d (defaultValue ty)) → W h' (k + 1) (n + sz) pc' Ls (.ref h.size :: st)) : W h k n pc Ls st := by
  obtain ⟨p, e, s, m, args, below, meth, c, rfl, hx, hby, hml, hown, hrt', hlk, hZ, hnm, hw⟩ := C
  intro hE T locs X eT N
  subst hp
  obtain ⟨T', h', X', e', E', A', D', -, S⟩ := newO X hx hZ hown (hw _ w) (hw _ wi) (hw _ wz) eT (g := mkF m pc Ls st) rfl (hb hby hd) hc hl
  obtain ⟨u, o, h1, h2⟩ := K h' E' A' D' (Old.ext (n0 := Z.heap.size) ⟨rfl, hE⟩ E').2 T' _ X' e' N
  exact ⟨u, o, S _ h1, h2⟩
theorem Walk.initObj (C : Walk W l Z a0 tb own code ml rt nm R Q) (pc' : Nat) {idx : Nat} {a : Addr} (wd : Nat) (hd : decode code pc = .ok (.invokespecial idx, 3)) (hp : pc' = pc + 3) (w1 : Jvm.Cond.methodLink own idx Lib.objectInit ∈ tb) (w2 : Jvm.Cond.instanceMethod Lib.objectInit ∈ tb) (w3 : Jvm.Cond.code Lib.objectInit ⟨#[0xb1]⟩ 1 none ∈ tb) (hls : Ls.size = ml) (hf : 1 ≤ R.frames) (hwd : (st.map fun v => v.category).sum ≤ wd) (hl : wd + 12 ≤ R.locals)
    (K : W h k n pc' Ls st) : W h k n pc Ls (.ref a :: st) := by
  obtain ⟨p, e, s, m, args, below, meth, c, rfl, hx, hby, hml, hown, hrt', hlk, hZ, hnm, hw⟩ := C
  intro hE T locs X eT N
  subst hp
  obtain ⟨T', X', e', S⟩ := initO X hx hZ hown (hw _ w1) (hw _ w2) (hw _ w3) eT (g := mkF m pc Ls (.ref a :: st)) rfl (by show Ls.size = _; rw [hls, hml]) rfl (hb hby hd) hf (W := wd) (by show 2 * 0 + _ ≤ _; omega) hl
  obtain ⟨u, o, h1, h2⟩ := K hE T' _ X' e' N
  exact ⟨u, o, S _ h1, h2⟩
theorem Walk.checkcast (C : Walk W l Z a0 tb own code ml rt nm R Q) (pc' : Nat) {idx : Nat} {D : String} {a : Addr} (hd : decode code pc = .ok (.checkcast idx, 3)) (hp : pc' = pc + 3) (w : Jvm.Cond.classLink own idx D ∈ tb) (I : Ins Z h a D true) (K : W h k n pc' Ls (.ref a :: st)) : W h k n pc Ls (.ref a :: st) := by
  obtain ⟨p, e, s, m, args, below, meth, c, rfl, hx, hby, hml, hown, hrt', hlk, hZ, hnm, hw⟩ := C
  intro hE T locs X eT N
  subst hp
  obtain ⟨T', X', e', S⟩ := castY X hx hZ hown (hw _ w) eT I (g := mkF m pc Ls (.ref a :: st)) rfl rfl (hb hby hd)
  obtain ⟨u, o, h1, h2⟩ := K hE T' _ X' e' N
  exact ⟨u, o, S _ h1, h2⟩
theorem Walk.callS (C : Walk W l Z a0 tb own code ml rt nm R Q) (pc' : Nat) {idx : Nat} {y : MethodName} {yc : ByteArray} {ym : Nat} {yr : Option FieldType} {rm : Room} {as : List Value} {rest : List Value} {yQ : Option Value → Heap → Prop} {ps : List FieldType} {r : Option FieldType} (wd : Nat) (hd : decode code pc = .ok (.invokestatic idx, 3)) (hp : pc' = pc + 3) (w1 : Jvm.Cond.methodLink own idx y ∈ tb) (w2 : Jvm.Cond.static y ∈ tb) (w3 : Jvm.Cond.initialized y.cls ∈ tb) (w4 : Jvm.Cond.code y yc ym yr ∈ tb) (hy : y.cls ≠ "java/lang/invoke/MethodHandle" ∧ y.cls ≠ "java/lang/invoke/VarHandle") (con : Con l Z y yc ym yr rm as.toArray h yQ) (pd : parseMethodDescriptor y.desc = some ⟨ps, r⟩) (hlen : as.length = ps.length) (hls : Ls.size = ml) (hwd : (rest.map fun v => v.category).sum ≤ wd) (hf : rm.frames + 1 ≤ R.frames) (hl : wd + (ym + 11) + rm.locals ≤ R.locals) (hc : k + rm.cells ≤ R.cells) (hs : n + rm.slots ≤ R.slots) (hst : st = as.reverse ++ rest)
    (K : ∀ v h', yQ v h' → W h' (k + rm.cells) (n + rm.slots) pc' Ls (v.toList ++ rest)) : W h k n pc Ls st := by
  obtain ⟨p, e, s, m, args, below, meth, c, rfl, hx, hby, hml, hown, hrt', hlk, hZ, hnm, hw⟩ := C
  intro hE T locs X eT N
  subst hp
  obtain ⟨v, vm₁, ⟨T', L', k', n'⟩, -, X', P, S⟩ := Jvm.LawKit.callS X hx (y := y) hown (mvT hZ (hw _ w1)) (mvT hZ (hw _ w2)) (mvT hZ (hw _ w3)) (mvT hZ (hw _ w4)) hy (backOf (Q := fun v h L => yQ v h ∧ Ext Z.heap h ∧ Fr Z.heap.size L) (W := wd) (con hE []) hZ (hw _ w4) (hw _ w3) hf hl) (g := mkF m pc Ls st) rfl (by show Ls.size = _; rw [hls, hml]) (argsL := as) (rest := rest) (lenOf pd hlen) hst (by show 2 * 0 + _ ≤ _; omega) (hb hby hd) (fun _ _ => ⟨rfl, eT, hc, hs⟩)
  obtain ⟨Lc, ⟨hq, hE', hN⟩, l', y', z'⟩ := P
  dsimp only [Pt.U, Pt.locs, Pt.cells, Pt.slots] at X' l' y' z' S hq hE'
  subst l' y' z'
  obtain ⟨u, o, h1, h2⟩ := K v T'.heap hq hE' T' _ X' rfl (Fr.app N hN)
  exact ⟨u, o, S _ h1, h2⟩
theorem Walk.callV (C : Walk W l Z a0 tb own code ml rt nm R Q) (pc' : Nat) {idx : Nat} {a : Addr} {D : String} {x : MethodName} {y : MethodName} {yc : ByteArray} {ym : Nat} {yr : Option FieldType} {rm : Room} {as : List Value} {rest : List Value} {yQ : Option Value → Heap → Prop} {ps : List FieldType} {r : Option FieldType} (wd : Nat) (hd : decode code pc = .ok (.invokevirtual idx, 3)) (hp : pc' = pc + 3) (w1 : Jvm.Cond.methodLink own idx x ∈ tb) (w2 : Jvm.Cond.declares x ∈ tb) (w5 : Jvm.Cond.selects D x y ∈ tb) (nf : ∀ args s, (∀ d ∈ tb, d.before a0 Z = true) → Z.Warmed39 s.vm → (Jvm.Cond.selects D x y).before args s = true → NotFace s x) (w6 : Jvm.Cond.instanceMethod y ∈ tb) (w3 : Jvm.Cond.initialized y.cls ∈ tb) (w4 : Jvm.Cond.code y yc ym yr ∈ tb) (hy : x.cls ≠ "java/lang/invoke/MethodHandle" ∧ x.cls ≠ "java/lang/invoke/VarHandle") (E : Exa Z h a D) (con : Con l Z y yc ym yr rm (.ref a :: as).toArray h yQ) (pd : parseMethodDescriptor x.desc = some ⟨ps, r⟩) (hlen : as.length = ps.length) (hls : Ls.size = ml) (hwd : (rest.map fun v => v.category).sum ≤ wd) (hf : rm.frames + 1 ≤ R.frames) (hl : wd + (ym + 11) + rm.locals ≤ R.locals) (hc : k + rm.cells ≤ R.cells) (hs : n + rm.slots ≤ R.slots) (hst : st = as.reverse ++ .ref a :: rest)
    (K : ∀ v h', yQ v h' → W h' (k + rm.cells) (n + rm.slots) pc' Ls (v.toList ++ rest)) : W h k n pc Ls st := by
  obtain ⟨p, e, s, m, args, below, meth, c, rfl, hx, hby, hml, hown, hrt', hlk, hZ, hnm, hw⟩ := C
  intro hE T locs X eT N
  subst hp
  obtain ⟨cq, kq, q1, q2, q3⟩ := isOf (T := T) hZ eT E
  obtain ⟨v, vm₁, ⟨T', L', k', n'⟩, -, X', P, S⟩ := X.virtualBack hx (y := x) (z := y) hown (mvT hZ (hw _ w1)) (mvT hZ (hw _ w2)) (nf args s hw hZ (mvT hZ (hw _ w5))) (mvT hZ (hw _ w5)) (mvT hZ (hw _ w6)) hy (backOf (Q := fun v h L => yQ v h ∧ Ext Z.heap h ∧ Fr Z.heap.size L) (W := wd) (con hE []) hZ (hw _ w4) (hw _ w3) hf hl) q1 q3 (g := mkF m pc Ls st) rfl (by show Ls.size = _; rw [hls, hml]) (Steps.refl _) (argsL := as) (rest := rest) (lenOf pd hlen) hst (by show 2 * 0 + _ ≤ _; omega) (hb hby hd) (fun _ _ => ⟨rfl, eT, hc, hs⟩)
  obtain ⟨Lc, ⟨hq, hE', hN⟩, l', y', z'⟩ := P
  dsimp only [Pt.U, Pt.locs, Pt.cells, Pt.slots] at X' l' y' z' S hq hE'
  subst l' y' z'
  obtain ⟨u, o, h1, h2⟩ := K v T'.heap hq hE' T' _ X' rfl (Fr.app N hN)
  exact ⟨u, o, S.trans h1, h2⟩
theorem nfSelf {x : MethodName} {D : String} : ∀ args s, (∀ d ∈ tb, d.before a0 Z = true) → Z.Warmed39 s.vm → (Jvm.Cond.selects D x x).before args s = true → NotFace s x := fun _ _ _ _ q => notFace_of_selects q
theorem Walk.callI (C : Walk W l Z a0 tb own code ml rt nm R Q) (pc' : Nat) {idx : Nat} {a : Addr} {y : MethodName} {yc : ByteArray} {ym : Nat} {yr : Option FieldType} {rm : Room} {as : List Value} {rest : List Value} {yQ : Option Value → Heap → Prop} {ps : List FieldType} {r : Option FieldType} (wd : Nat) (hd : decode code pc = .ok (.invokespecial idx, 3)) (hp : pc' = pc + 3) (hy1 : y.name = "<init>") (hyr : yr = none) (w1 : Jvm.Cond.methodLink own idx y ∈ tb) (w6 : Jvm.Cond.instanceMethod y ∈ tb) (w3 : Jvm.Cond.initialized y.cls ∈ tb) (w4 : Jvm.Cond.code y yc ym yr ∈ tb) (hy : y.cls ≠ "java/lang/invoke/MethodHandle" ∧ y.cls ≠ "java/lang/invoke/VarHandle") (con : Con l Z y yc ym yr rm (.ref a :: as).toArray h yQ) (pd : parseMethodDescriptor y.desc = some ⟨ps, r⟩) (hlen : as.length = ps.length) (hls : Ls.size = ml) (hwd : (rest.map fun v => v.category).sum ≤ wd) (hf : rm.frames + 1 ≤ R.frames) (hl : wd + (ym + 11) + rm.locals ≤ R.locals) (hc : k + rm.cells ≤ R.cells) (hs : n + rm.slots ≤ R.slots) (hst : st = as.reverse ++ .ref a :: rest)
    (K : ∀ v h', yQ v h' → W h' (k + rm.cells) (n + rm.slots) pc' Ls (v.toList ++ rest)) : W h k n pc Ls st := by
  obtain ⟨p, e, s, m, args, below, meth, c, rfl, hx, hby, hml, hown, hrt', hlk, hZ, hnm, hw⟩ := C
  intro hE T locs X eT N
  subst hp
  subst hyr
  obtain ⟨v, vm₁, ⟨T', L', k', n'⟩, -, X', P, S⟩ := X.specialBack hx (y := y) hy1 hown (mvT hZ (hw _ w1)) (mvT hZ (hw _ w6)) (mvT hZ (hw _ w4)) hy (backOf (Q := fun v h L => yQ v h ∧ Ext Z.heap h ∧ Fr Z.heap.size L) (W := wd) (con hE []) hZ (hw _ w4) (hw _ w3) hf hl) (g := mkF m pc Ls st) rfl (by show Ls.size = _; rw [hls, hml]) (Steps.refl _) (a := a) (argsL := as) (rest := rest) (lenOf pd hlen) hst (by show 2 * 0 + _ ≤ _; omega) (hb hby hd) (fun _ _ => ⟨rfl, eT, hc, hs⟩)
  obtain ⟨Lc, ⟨hq, hE', hN⟩, l', y', z'⟩ := P
  dsimp only [Pt.U, Pt.locs, Pt.cells, Pt.slots] at X' l' y' z' S hq hE'
  subst l' y' z'
  obtain ⟨u, o, h1, h2⟩ := K v T'.heap hq hE' T' _ X' rfl (Fr.app N hN)
  exact ⟨u, o, S.trans h1, h2⟩
theorem Walk.callP (C : Walk W l Z a0 tb own code ml rt nm R Q) (pc' : Nat) {idx : Nat} {a : Addr} {D : String} {y : MethodName} {yc : ByteArray} {ym : Nat} {yr : Option FieldType} {rm : Room} {as : List Value} {rest : List Value} {yQ : Option Value → Heap → Prop} {ps : List FieldType} {r : Option FieldType} (wd : Nat) (hd : decode code pc = .ok (.invokevirtual idx, 3)) (hp : pc' = pc + 3) (w1 : Jvm.Cond.methodLink own idx y ∈ tb) (w5 : Jvm.Cond.selects y.cls y y ∈ tb) (w7 : Jvm.Cond.privateMethod y ∈ tb) (w6 : Jvm.Cond.instanceMethod y ∈ tb) (w3 : Jvm.Cond.initialized y.cls ∈ tb) (w4 : Jvm.Cond.code y yc ym yr ∈ tb) (hy : y.cls ≠ "java/lang/invoke/MethodHandle" ∧ y.cls ≠ "java/lang/invoke/VarHandle") (E : Exa Z h a D) (con : Con l Z y yc ym yr rm (.ref a :: as).toArray h yQ) (pd : parseMethodDescriptor y.desc = some ⟨ps, r⟩) (hlen : as.length = ps.length) (hls : Ls.size = ml) (hwd : (rest.map fun v => v.category).sum ≤ wd) (hf : rm.frames + 1 ≤ R.frames) (hl : wd + (ym + 11) + rm.locals ≤ R.locals) (hc : k + rm.cells ≤ R.cells) (hs : n + rm.slots ≤ R.slots) (hst : st = as.reverse ++ .ref a :: rest)
    (K : ∀ v h', yQ v h' → W h' (k + rm.cells) (n + rm.slots) pc' Ls (v.toList ++ rest)) : W h k n pc Ls st := by
  obtain ⟨p, e, s, m, args, below, meth, c, rfl, hx, hby, hml, hown, hrt', hlk, hZ, hnm, hw⟩ := C
  intro hE T locs X eT N
  subst hp
  obtain ⟨cell, hcl, hob⟩ := E.cell
  obtain ⟨v, vm₁, ⟨T', L', k', n'⟩, -, X', P, S⟩ := X.privateBack hx (y := y) hown (mvT hZ (hw _ w1)) (mvT hZ (hw _ w6)) (mvT hZ (hw _ w5)) (Cond.privateMethod_at (mvP (args := args) hZ (hw _ w7))) (mvT hZ (hw _ w4)) hy (backOf (Q := fun v h L => yQ v h ∧ Ext Z.heap h ∧ Fr Z.heap.size L) (W := wd) (con hE []) hZ (hw _ w4) (hw _ w3) hf hl) (g := mkF m pc Ls st) rfl (by show Ls.size = _; rw [hls, hml]) (Steps.refl _) (a := a) (by rw [eT]; exact hcl) hob (argsL := as) (rest := rest) (lenOf pd hlen) hst (by show 2 * 0 + _ ≤ _; omega) (hb hby hd) (fun _ _ => ⟨rfl, eT, hc, hs⟩)
  obtain ⟨Lc, ⟨hq, hE', hN⟩, l', y', z'⟩ := P
  dsimp only [Pt.U, Pt.locs, Pt.cells, Pt.slots] at X' l' y' z' S hq hE'
  subst l' y' z'
  obtain ⟨u, o, h1, h2⟩ := K v T'.heap hq hE' T' _ X' rfl (Fr.app N hN)
  exact ⟨u, o, S.trans h1, h2⟩
theorem Walk.callF (C : Walk W l Z a0 tb own code ml rt nm R Q) (pc' : Nat) {idx cnt : Nat} {a : Addr} {D : String} {x : MethodName} {y : MethodName} {yc : ByteArray} {ym : Nat} {yr : Option FieldType} {rm : Room} {as : List Value} {rest : List Value} {yQ : Option Value → Heap → Prop} {ps : List FieldType} {r : Option FieldType} (wd : Nat) (hd : decode code pc = .ok (.invokeinterface idx cnt, 5)) (hp : pc' = pc + 5) (w1 : Jvm.Cond.methodLink own idx x ∈ tb) (w2 : Jvm.Cond.declares x ∈ tb) (w7 : Jvm.Cond.interfaceMethod x.cls x.cls x.name x.desc ∈ tb) (w5 : Jvm.Cond.selects D x y ∈ tb) (w6 : Jvm.Cond.instanceMethod y ∈ tb) (w8 : Jvm.Cond.publicMethod y ∈ tb) (w9 : Jvm.Cond.unhidden D x.name x.desc ∈ tb) (w10 : Jvm.Cond.castable D x.cls ∈ tb) (hI : ((Jvm.Cond.interfaceMethod x.cls x.cls x.name x.desc).onTables && (Jvm.Cond.interfaceMethod x.cls x.cls x.name x.desc).keepsFace) = true) (w3 : Jvm.Cond.initialized y.cls ∈ tb) (w4 : Jvm.Cond.code y yc ym yr ∈ tb) (hy : x.cls ≠ "java/lang/invoke/MethodHandle" ∧ x.cls ≠ "java/lang/invoke/VarHandle") (E : Exa Z h a D) (con : Con l Z y yc ym yr rm (.ref a :: as).toArray h yQ) (pd : parseMethodDescriptor x.desc = some ⟨ps, r⟩) (hlen : as.length = ps.length) (hls : Ls.size = ml) (hwd : (rest.map fun v => v.category).sum ≤ wd) (hf : rm.frames + 1 ≤ R.frames) (hl : wd + (ym + 11) + rm.locals ≤ R.locals) (hc : k + rm.cells ≤ R.cells) (hs : n + rm.slots ≤ R.slots) (hst : st = as.reverse ++ .ref a :: rest)
    (K : ∀ v h', yQ v h' → W h' (k + rm.cells) (n + rm.slots) pc' Ls (v.toList ++ rest)) : W h k n pc Ls st := by
  obtain ⟨p, e, s, m, args, below, meth, c, rfl, hx, hby, hml, hown, hrt', hlk, hZ, hnm, hw⟩ := C
  intro hE T locs X eT N
  subst hp
  obtain ⟨cq, kq, q1, q2, q3⟩ := isOf (T := T) hZ eT E
  obtain ⟨v, vm₁, ⟨T', L', k', n'⟩, -, X', P, S⟩ := X.interfaceBack hx (xi := x) (y := y) hown (mvT hZ (hw _ w1)) (mvT hZ (hw _ w2)) (mvT hZ (hw _ w7) hI) (mvT hZ (hw _ w5)) (mvT hZ (hw _ w6)) (mvT hZ (hw _ w8)) (mvT hZ (hw _ w9)) (mvT hZ (hw _ w10)) hy (backOf (Q := fun v h L => yQ v h ∧ Ext Z.heap h ∧ Fr Z.heap.size L) (W := wd) (con hE []) hZ (hw _ w4) (hw _ w3) hf hl) q1 q2 q3 (g := mkF m pc Ls st) rfl (by show Ls.size = _; rw [hls, hml]) (Steps.refl _) (argsL := as) (rest := rest) (lenOf pd hlen) hst (by show 2 * 0 + _ ≤ _; omega) (hb hby hd) (fun _ _ => ⟨rfl, eT, hc, hs⟩)
  obtain ⟨Lc, ⟨hq, hE', hN⟩, l', y', z'⟩ := P
  dsimp only [Pt.U, Pt.locs, Pt.cells, Pt.slots] at X' l' y' z' S hq hE'
  subst l' y' z'
  obtain ⟨u, o, h1, h2⟩ := K v T'.heap hq hE' T' _ X' rfl (Fr.app N hN)
  exact ⟨u, o, S.trans h1, h2⟩
theorem Walk.instanceofT (C : Walk W l Z a0 tb own code ml rt nm R Q) (pc' : Nat) {idx : Nat} {D : String} {a : Addr} (hd : decode code pc = .ok (.instanceof idx, 3)) (hp : pc' = pc + 3) (w : Jvm.Cond.classLink own idx D ∈ tb) (I : Ins Z h a D true) (K : W h k n pc' Ls (.int 1 :: st)) : W h k n pc Ls (.ref a :: st) := by
  obtain ⟨p, e, s, m, args, below, meth, c, rfl, hx, hby, hml, hown, hrt', hlk, hZ, hnm, hw⟩ := C
  intro hE T locs X eT N
  subst hp
  obtain ⟨T', X', e', S⟩ := instY X hx hZ hown (hw _ w) eT I (g := mkF m pc Ls (.ref a :: st)) rfl rfl (hb hby hd)
  obtain ⟨u, o, h1, h2⟩ := K hE T' _ X' e' N
  exact ⟨u, o, S _ h1, h2⟩
theorem Ro.al {a : Addr} {D : String} {cA : ClassId} {vs : List Value} (A : Ro Z h a D cA vs) : Al Z h a (.object D) vs := by obtain ⟨c, A1, -, A3⟩ := A; exact ⟨c, A1, A3⟩
theorem Walk.aaloadA (C : Walk W l Z a0 tb own code ml rt nm R Q) (pc' : Nat) {a : Addr} {ty : FieldType} {vs : List Value} {j : Int32} (i : Nat) (v : Value) (hd : decode code pc = .ok (.aaload, 1)) (hp : pc' = pc + 1) (hty : ty.isReference = true) (A : Al Z h a ty vs) (hn : ¬ j < 0) (hi : j.toNatClampNeg = i) (hv : vs[i]? = some v)
    (K : W h k n pc' Ls (v :: st)) : W h k n pc Ls (.int j :: .ref a :: st) := by
  obtain ⟨p, e, s, m, args, below, meth, c, rfl, hx, hby, hml, hown, hrt', hlk, hZ, hnm, hw⟩ := C
  intro hE T locs X eT N
  subst hp
  obtain ⟨cl, A1, A3⟩ := A
  have hl : i < vs.length := (List.getElem?_eq_some_iff.mp hv).1
  have hj : ¬ (j < 0 ∨ cl.slots.size ≤ j.toNatClampNeg) := by rw [list_sz A3, hi]; exact fun q => q.elim hn (fun q => absurd hl (Nat.not_lt.mpr q))
  obtain ⟨u, o, h1, h2⟩ := K hE T _ X eT N
  exact ⟨u, o, X.aaload hx (by rw [eT]; exact A1.1) (State.isArrayOf_alike hZ.alike A1.2.1) hty A1.2.2 hj (by rw [hi, list_at A3]; exact hv) (g := mkF m pc Ls (.int j :: .ref a :: st)) rfl rfl (hb hby hd) _ h1, h2⟩
theorem Walk.clone (C : Walk W l Z a0 tb own code ml rt nm R Q) (pc' : Nat) {idx : Nat} {a : Addr} {ad : String} {cl : Cell} {ty : FieldType} (cap wd : Nat) (hd : decode code pc = .ok (.invokevirtual idx, 3)) (hp : pc' = pc + 3) (w1 : Jvm.Cond.methodLink own idx ⟨ad, "clone", "()Ljava/lang/Object;"⟩ ∈ tb) (w2 : Jvm.Cond.sameMethod ad "java/lang/Object" "clone" "()Ljava/lang/Object;" ∈ tb) (w3 : Jvm.Cond.native ⟨"java/lang/Object", "clone", "()Ljava/lang/Object;"⟩ ∈ tb) (w4 : Jvm.Cond.instanceMethod ⟨"java/lang/Object", "clone", "()Ljava/lang/Object;"⟩ ∈ tb) (w5 : Jvm.Cond.selects ad ⟨ad, "clone", "()Ljava/lang/Object;"⟩ ⟨"java/lang/Object", "clone", "()Ljava/lang/Object;"⟩ ∈ tb) (w6 : Jvm.Cond.castable ad "java/lang/Cloneable" ∈ tb)
    (A : Arr Z h a cl ty) (E : Exa Z h a ad) (F : FitC Z cl) (hls : Ls.size = ml) (hf : 1 ≤ R.frames) (hwd : (st.map fun v => v.category).sum ≤ wd) (hl : wd + 14 ≤ R.locals) (hcap : cl.slots.size ≤ cap) (hc : k + 1 ≤ R.cells) (hs : n + cap ≤ R.slots)
    (K : ∀ h', Ext h h' → Al Z h' h.size ty cl.slots.toList → Exa Z h' h.size ad → W h' (k + 1) (n + cap) pc' Ls (.ref h.size :: st)) : W h k n pc Ls (.ref a :: st) := by
  obtain ⟨p, e, s, m, args, below, meth, c, rfl, hx, hby, hml, hown, hrt', hlk, hZ, hnm, hw⟩ := C
  intro hE T locs X eT N
  subst hp
  obtain ⟨T', h', X', e', E', A', X2, S⟩ := cloneA X hx hZ hown (hw _ w1) (hw _ w2) (hw _ w3) (hw _ w4) (hw _ w5) (hw _ w6) eT A E F (g := mkF m pc Ls (.ref a :: st)) rfl (by show Ls.size = _; rw [hls, hml]) rfl (hb hby hd) hf (W := wd) (cap := cap) (by show 2 * 0 + _ ≤ _; omega) hl hcap hc hs
  obtain ⟨u, o, h1, h2⟩ := K h' E' ⟨_, A', rfl⟩ X2 (Old.ext (n0 := Z.heap.size) ⟨rfl, hE⟩ E').2 T' _ X' e' N
  exact ⟨u, o, S _ h1, h2⟩
end Rules
end Jvm.Own

namespace Jvm.Pilot.@@N@@
open Jvm Jvm.ClassFile Sem Op Lib Jvm.Free Jvm.Stand Jvm.LawKit Jvm.RoadKit Bundle Jvm.Own Jvm.Pilot.@@N@@.Jvm.D
theorem tw (i : Nat) {d : Jvm.Cond} (h : tables_1[i]? = some d := by rfl) : d ∈ tables_1 := List.mem_of_getElem? h
theorem d1_0 : decode prog_14_method_26_code 0 = .ok (.aload_n 0, 1) := by decide +kernel
theorem d1_1 : decode prog_14_method_26_code 1 = .ok (.iconst 0, 1) := by decide +kernel
theorem d1_2 : decode prog_14_method_26_code 2 = .ok (.getstatic 307, 3) := by decide +kernel
theorem d1_5 : decode prog_14_method_26_code 5 = .ok (.invokestatic 310, 3) := by decide +kernel
theorem d1_8 : decode prog_14_method_26_code 8 = .ok (.ifCond .eq 10, 3) := by decide +kernel
theorem d1_11 : decode prog_14_method_26_code 11 = .ok (.getstatic 307, 3) := by decide +kernel
theorem d1_14 : decode prog_14_method_26_code 14 = .ok (.arraylength, 1) := by decide +kernel
theorem d1_15 : decode prog_14_method_26_code 15 = .ok (.goto 4, 3) := by decide +kernel
theorem d1_18 : decode prog_14_method_26_code 18 = .ok (.iconst 0, 1) := by decide +kernel
theorem d1_19 : decode prog_14_method_26_code 19 = .ok (.ireturn, 1) := by decide +kernel
theorem pn1 : plainFor (⟨"com/example/weftline/weftline/ExternalEntity", "afterByteOrderMark", "([B)I"⟩ : MethodName) = true := plainFor_of_name (by first | (simp [plainName, overriddenIn]; done) | decide +kernel)
theorem d2_0 : decode prog_14_method_30_code 0 = .ok (.iload_n 1, 1) := by decide +kernel
theorem d2_1 : decode prog_14_method_30_code 1 = .ok (.aload_n 2, 1) := by decide +kernel
theorem d2_2 : decode prog_14_method_30_code 2 = .ok (.arraylength, 1) := by decide +kernel
theorem d2_3 : decode prog_14_method_30_code 3 = .ok (.iadd, 1) := by decide +kernel
theorem d2_4 : decode prog_14_method_30_code 4 = .ok (.aload_n 0, 1) := by decide +kernel
theorem d2_5 : decode prog_14_method_30_code 5 = .ok (.arraylength, 1) := by decide +kernel
theorem d2_6 : decode prog_14_method_30_code 6 = .ok (.if_icmp .le 5, 3) := by decide +kernel
theorem d2_9 : decode prog_14_method_30_code 9 = .ok (.iconst 0, 1) := by decide +kernel
theorem d2_10 : decode prog_14_method_30_code 10 = .ok (.ireturn, 1) := by decide +kernel
theorem d2_11 : decode prog_14_method_30_code 11 = .ok (.iconst 0, 1) := by decide +kernel
theorem d2_12 : decode prog_14_method_30_code 12 = .ok (.istore_n 3, 1) := by decide +kernel
theorem d2_13 : decode prog_14_method_30_code 13 = .ok (.iload_n 3, 1) := by decide +kernel
theorem d2_14 : decode prog_14_method_30_code 14 = .ok (.aload_n 2, 1) := by decide +kernel
theorem d2_15 : decode prog_14_method_30_code 15 = .ok (.arraylength, 1) := by decide +kernel
theorem d2_16 : decode prog_14_method_30_code 16 = .ok (.if_icmp .ge 22, 3) := by decide +kernel
theorem d2_19 : decode prog_14_method_30_code 19 = .ok (.aload_n 0, 1) := by decide +kernel
theorem d2_20 : decode prog_14_method_30_code 20 = .ok (.iload_n 1, 1) := by decide +kernel
theorem d2_21 : decode prog_14_method_30_code 21 = .ok (.iload_n 3, 1) := by decide +kernel
theorem d2_22 : decode prog_14_method_30_code 22 = .ok (.iadd, 1) := by decide +kernel
theorem d2_23 : decode prog_14_method_30_code 23 = .ok (.baload, 1) := by decide +kernel
theorem d2_24 : decode prog_14_method_30_code 24 = .ok (.aload_n 2, 1) := by decide +kernel
theorem d2_25 : decode prog_14_method_30_code 25 = .ok (.iload_n 3, 1) := by decide +kernel
theorem d2_26 : decode prog_14_method_30_code 26 = .ok (.baload, 1) := by decide +kernel
theorem d2_27 : decode prog_14_method_30_code 27 = .ok (.if_icmp .eq 5, 3) := by decide +kernel
theorem d2_30 : decode prog_14_method_30_code 30 = .ok (.iconst 0, 1) := by decide +kernel
theorem d2_31 : decode prog_14_method_30_code 31 = .ok (.ireturn, 1) := by decide +kernel
theorem d2_32 : decode prog_14_method_30_code 32 = .ok (.iinc 3 1, 3) := by decide +kernel
theorem d2_35 : decode prog_14_method_30_code 35 = .ok (.goto (-22), 3) := by decide +kernel
theorem d2_38 : decode prog_14_method_30_code 38 = .ok (.iconst 1, 1) := by decide +kernel
theorem d2_39 : decode prog_14_method_30_code 39 = .ok (.ireturn, 1) := by decide +kernel
theorem pn2 : plainFor (⟨"com/example/weftline/weftline/ExternalEntity", "startsWith", "([BI[B)Z"⟩ : MethodName) = true := plainFor_of_name (by first | (simp [plainName, overriddenIn]; done) | decide +kernel)
theorem pn0 : plainFor x = true := plainFor_of_name (by first | (simp [x, plainName, overriddenIn]; done) | decide +kernel)
theorem pd1 : parseMethodDescriptor "([B)I" = some ⟨[.array .byte], some .int⟩ := by decide +kernel
theorem pd2 : parseMethodDescriptor "([BI[B)Z" = some ⟨[.array .byte, .int, .array .byte], some .boolean⟩ := by decide +kernel
theorem sw_s (l : Launch) (Z : State) (a0' : Array Value) (hw : ∀ d ∈ tables_1, d.before a0' Z = true) (h : Heap) (b : Addr) (vs : List Value) (A : Al Z h b .byte vs) (ub : Addr) (AU : Al Z Z.heap ub .byte [.int (-17 : Int32), .int (-69 : Int32), .int (-65 : Int32)]) (hs : if_icmp.holds .le ((0 : Int32) + (3 : Int32)) vs.length.toInt32 = false) :
    Con l Z (⟨"com/example/weftline/weftline/ExternalEntity", "startsWith", "([BI[B)Z"⟩ : MethodName) prog_14_method_30_code 4 (some .boolean) ⟨0, 0, 0, 0⟩ #[.ref b, .int 0, .ref ub] h (Same (some (.int (0 : Int32))) h) := by
  refine Con.of (Ls := #[.val (.ref b), .val (.int (0 : Int32)), .val (.ref ub), .unset]) hw pn2 (fun m => by first | (simp [entryFrame, mkF, argsToLocals, Value.category, maxLocals]; done) | rfl) fun W C => ?_
  refine C.kept fun hE => ?_
  have AU' := AU.ext hE
  refine C.iloadN 1 d2_0 rfl rfl ?_
  refine C.aloadN 2 d2_1 rfl rfl rfl ?_
  refine C.arraylength 3 (3 : Int32) d2_2 rfl AU' rfl ?_
  refine C.iadd 4 d2_3 rfl ?_
  refine C.aloadN 5 d2_4 rfl rfl rfl ?_
  refine C.arraylength 6 vs.length.toInt32 d2_5 rfl A rfl ?_
  refine C.icmpF 9 d2_6 rfl (hs) ?_
  refine C.iconst 10 (0 : Int32) d2_9 rfl rfl ?_
  exact C.retI .boolean d2_10 rfl (by simp) rfl (by decide) (by decide) ⟨rfl, rfl⟩
theorem sw_0 (l : Launch) (Z : State) (a0' : Array Value) (hw : ∀ d ∈ tables_1, d.before a0' Z = true) (h : Heap) (b : Addr) (vs : List Value) (A : Al Z h b .byte vs) (ub : Addr) (AU : Al Z Z.heap ub .byte [.int (-17 : Int32), .int (-69 : Int32), .int (-65 : Int32)]) (hs : if_icmp.holds .le ((0 : Int32) + (3 : Int32)) vs.length.toInt32 = true) (x0 : Int32) (e0 : vs[0]? = some (.int x0)) (d0 : ¬ x0 = (-17 : Int32)) :
    Con l Z (⟨"com/example/weftline/weftline/ExternalEntity", "startsWith", "([BI[B)Z"⟩ : MethodName) prog_14_method_30_code 4 (some .boolean) ⟨0, 0, 0, 0⟩ #[.ref b, .int 0, .ref ub] h (Same (some (.int (0 : Int32))) h) := by
  refine Con.of (Ls := #[.val (.ref b), .val (.int (0 : Int32)), .val (.ref ub), .unset]) hw pn2 (fun m => by first | (simp [entryFrame, mkF, argsToLocals, Value.category, maxLocals]; done) | rfl) fun W C => ?_
  refine C.kept fun hE => ?_
  have AU' := AU.ext hE
  refine C.iloadN 1 d2_0 rfl rfl ?_
  refine C.aloadN 2 d2_1 rfl rfl rfl ?_
  refine C.arraylength 3 (3 : Int32) d2_2 rfl AU' rfl ?_
  refine C.iadd 4 d2_3 rfl ?_
  refine C.aloadN 5 d2_4 rfl rfl rfl ?_
  refine C.arraylength 6 vs.length.toInt32 d2_5 rfl A rfl ?_
  refine C.icmpT 11 d2_6 rfl (hs) ?_
  refine C.iconst 12 (0 : Int32) d2_11 rfl rfl ?_
  refine C.istoreN 13 #[.val (.ref b), .val (.int (0 : Int32)), .val (.ref ub), .val (.int (0 : Int32))] d2_12 rfl rfl ?_
  refine C.iloadN 14 d2_13 rfl rfl ?_
  refine C.aloadN 15 d2_14 rfl rfl rfl ?_
  refine C.arraylength 16 (3 : Int32) d2_15 rfl AU' rfl ?_
  refine C.icmpF 19 d2_16 rfl (by decide) ?_
  refine C.aloadN 20 d2_19 rfl rfl rfl ?_
  refine C.iloadN 21 d2_20 rfl rfl ?_
  refine C.iloadN 22 d2_21 rfl rfl ?_
  refine C.iadd 23 d2_22 rfl ?_
  refine C.baloadB 24 0 (.int x0) d2_23 rfl A (by decide) rfl e0 ?_
  refine C.aloadN 25 d2_24 rfl rfl rfl ?_
  refine C.iloadN 26 d2_25 rfl rfl ?_
  refine C.baloadB 27 0 (.int (-17 : Int32)) d2_26 rfl AU' (by decide) rfl rfl ?_
  refine C.icmpF 30 d2_27 rfl (feq d0).1 ?_
  refine C.iconst 31 (0 : Int32) d2_30 rfl rfl ?_
  exact C.retI .boolean d2_31 rfl (by simp) rfl (by decide) (by decide) ⟨rfl, rfl⟩
theorem sw_1 (l : Launch) (Z : State) (a0' : Array Value) (hw : ∀ d ∈ tables_1, d.before a0' Z = true) (h : Heap) (b : Addr) (vs : List Value) (A : Al Z h b .byte vs) (ub : Addr) (AU : Al Z Z.heap ub .byte [.int (-17 : Int32), .int (-69 : Int32), .int (-65 : Int32)]) (hs : if_icmp.holds .le ((0 : Int32) + (3 : Int32)) vs.length.toInt32 = true) (x0 : Int32) (e0 : vs[0]? = some (.int x0)) (d0 : x0 = (-17 : Int32)) (x1 : Int32) (e1 : vs[1]? = some (.int x1)) (d1 : ¬ x1 = (-69 : Int32)) :
    Con l Z (⟨"com/example/weftline/weftline/ExternalEntity", "startsWith", "([BI[B)Z"⟩ : MethodName) prog_14_method_30_code 4 (some .boolean) ⟨0, 0, 0, 0⟩ #[.ref b, .int 0, .ref ub] h (Same (some (.int (0 : Int32))) h) := by
  refine Con.of (Ls := #[.val (.ref b), .val (.int (0 : Int32)), .val (.ref ub), .unset]) hw pn2 (fun m => by first | (simp [entryFrame, mkF, argsToLocals, Value.category, maxLocals]; done) | rfl) fun W C => ?_
  refine C.kept fun hE => ?_
  have AU' := AU.ext hE
  refine C.iloadN 1 d2_0 rfl rfl ?_
  refine C.aloadN 2 d2_1 rfl rfl rfl ?_
  refine C.arraylength 3 (3 : Int32) d2_2 rfl AU' rfl ?_
  refine C.iadd 4 d2_3 rfl ?_
  refine C.aloadN 5 d2_4 rfl rfl rfl ?_
  refine C.arraylength 6 vs.length.toInt32 d2_5 rfl A rfl ?_
  refine C.icmpT 11 d2_6 rfl (hs) ?_
  refine C.iconst 12 (0 : Int32) d2_11 rfl rfl ?_
  refine C.istoreN 13 #[.val (.ref b), .val (.int (0 : Int32)), .val (.ref ub), .val (.int (0 : Int32))] d2_12 rfl rfl ?_
  refine C.iloadN 14 d2_13 rfl rfl ?_
  refine C.aloadN 15 d2_14 rfl rfl rfl ?_
  refine C.arraylength 16 (3 : Int32) d2_15 rfl AU' rfl ?_
  refine C.icmpF 19 d2_16 rfl (by decide) ?_
  refine C.aloadN 20 d2_19 rfl rfl rfl ?_
  refine C.iloadN 21 d2_20 rfl rfl ?_
  refine C.iloadN 22 d2_21 rfl rfl ?_
  refine C.iadd 23 d2_22 rfl ?_
  refine C.baloadB 24 0 (.int x0) d2_23 rfl A (by decide) rfl e0 ?_
  refine C.aloadN 25 d2_24 rfl rfl rfl ?_
  refine C.iloadN 26 d2_25 rfl rfl ?_
  refine C.baloadB 27 0 (.int (-17 : Int32)) d2_26 rfl AU' (by decide) rfl rfl ?_
  refine C.icmpT 32 d2_27 rfl (teq d0).1 ?_
  refine C.iinc 35 #[.val (.ref b), .val (.int (0 : Int32)), .val (.ref ub), .val (.int ((0 : Int32) + (1 : Int32)))] d2_32 rfl rfl rfl ?_
  refine C.goto 13 d2_35 rfl ?_
  show W h 0 0 13 #[.val (.ref b), .val (.int (0 : Int32)), .val (.ref ub), .val (.int (1 : Int32))] []
  refine C.iloadN 14 d2_13 rfl rfl ?_
  refine C.aloadN 15 d2_14 rfl rfl rfl ?_
  refine C.arraylength 16 (3 : Int32) d2_15 rfl AU' rfl ?_
  refine C.icmpF 19 d2_16 rfl (by decide) ?_
  refine C.aloadN 20 d2_19 rfl rfl rfl ?_
  refine C.iloadN 21 d2_20 rfl rfl ?_
  refine C.iloadN 22 d2_21 rfl rfl ?_
  refine C.iadd 23 d2_22 rfl ?_
  refine C.baloadB 24 1 (.int x1) d2_23 rfl A (by decide) rfl e1 ?_
  refine C.aloadN 25 d2_24 rfl rfl rfl ?_
  refine C.iloadN 26 d2_25 rfl rfl ?_
  refine C.baloadB 27 1 (.int (-69 : Int32)) d2_26 rfl AU' (by decide) rfl rfl ?_
  refine C.icmpF 30 d2_27 rfl (feq d1).1 ?_
  refine C.iconst 31 (0 : Int32) d2_30 rfl rfl ?_
  exact C.retI .boolean d2_31 rfl (by simp) rfl (by decide) (by decide) ⟨rfl, rfl⟩
theorem sw_2 (l : Launch) (Z : State) (a0' : Array Value) (hw : ∀ d ∈ tables_1, d.before a0' Z = true) (h : Heap) (b : Addr) (vs : List Value) (A : Al Z h b .byte vs) (ub : Addr) (AU : Al Z Z.heap ub .byte [.int (-17 : Int32), .int (-69 : Int32), .int (-65 : Int32)]) (hs : if_icmp.holds .le ((0 : Int32) + (3 : Int32)) vs.length.toInt32 = true) (x0 : Int32) (e0 : vs[0]? = some (.int x0)) (d0 : x0 = (-17 : Int32)) (x1 : Int32) (e1 : vs[1]? = some (.int x1)) (d1 : x1 = (-69 : Int32)) (x2 : Int32) (e2 : vs[2]? = some (.int x2)) (d2 : ¬ x2 = (-65 : Int32)) :
    Con l Z (⟨"com/example/weftline/weftline/ExternalEntity", "startsWith", "([BI[B)Z"⟩ : MethodName) prog_14_method_30_code 4 (some .boolean) ⟨0, 0, 0, 0⟩ #[.ref b, .int 0, .ref ub] h (Same (some (.int (0 : Int32))) h) := by
  refine Con.of (Ls := #[.val (.ref b), .val (.int (0 : Int32)), .val (.ref ub), .unset]) hw pn2 (fun m => by first | (simp [entryFrame, mkF, argsToLocals, Value.category, maxLocals]; done) | rfl) fun W C => ?_
  refine C.kept fun hE => ?_
  have AU' := AU.ext hE
  refine C.iloadN 1 d2_0 rfl rfl ?_
  refine C.aloadN 2 d2_1 rfl rfl rfl ?_
  refine C.arraylength 3 (3 : Int32) d2_2 rfl AU' rfl ?_
  refine C.iadd 4 d2_3 rfl ?_
  refine C.aloadN 5 d2_4 rfl rfl rfl ?_
  refine C.arraylength 6 vs.length.toInt32 d2_5 rfl A rfl ?_
  refine C.icmpT 11 d2_6 rfl (hs) ?_
  refine C.iconst 12 (0 : Int32) d2_11 rfl rfl ?_
  refine C.istoreN 13 #[.val (.ref b), .val (.int (0 : Int32)), .val (.ref ub), .val (.int (0 : Int32))] d2_12 rfl rfl ?_
  refine C.iloadN 14 d2_13 rfl rfl ?_
  refine C.aloadN 15 d2_14 rfl rfl rfl ?_
  refine C.arraylength 16 (3 : Int32) d2_15 rfl AU' rfl ?_
  refine C.icmpF 19 d2_16 rfl (by decide) ?_
  refine C.aloadN 20 d2_19 rfl rfl rfl ?_
  refine C.iloadN 21 d2_20 rfl rfl ?_
  refine C.iloadN 22 d2_21 rfl rfl ?_
  refine C.iadd 23 d2_22 rfl ?_
  refine C.baloadB 24 0 (.int x0) d2_23 rfl A (by decide) rfl e0 ?_
  refine C.aloadN 25 d2_24 rfl rfl rfl ?_
  refine C.iloadN 26 d2_25 rfl rfl ?_
  refine C.baloadB 27 0 (.int (-17 : Int32)) d2_26 rfl AU' (by decide) rfl rfl ?_
  refine C.icmpT 32 d2_27 rfl (teq d0).1 ?_
  refine C.iinc 35 #[.val (.ref b), .val (.int (0 : Int32)), .val (.ref ub), .val (.int ((0 : Int32) + (1 : Int32)))] d2_32 rfl rfl rfl ?_
  refine C.goto 13 d2_35 rfl ?_
  show W h 0 0 13 #[.val (.ref b), .val (.int (0 : Int32)), .val (.ref ub), .val (.int (1 : Int32))] []
  refine C.iloadN 14 d2_13 rfl rfl ?_
  refine C.aloadN 15 d2_14 rfl rfl rfl ?_
  refine C.arraylength 16 (3 : Int32) d2_15 rfl AU' rfl ?_
  refine C.icmpF 19 d2_16 rfl (by decide) ?_
  refine C.aloadN 20 d2_19 rfl rfl rfl ?_
  refine C.iloadN 21 d2_20 rfl rfl ?_
  refine C.iloadN 22 d2_21 rfl rfl ?_
  refine C.iadd 23 d2_22 rfl ?_
  refine C.baloadB 24 1 (.int x1) d2_23 rfl A (by decide) rfl e1 ?_
  refine C.aloadN 25 d2_24 rfl rfl rfl ?_
  refine C.iloadN 26 d2_25 rfl rfl ?_
  refine C.baloadB 27 1 (.int (-69 : Int32)) d2_26 rfl AU' (by decide) rfl rfl ?_
  refine C.icmpT 32 d2_27 rfl (teq d1).1 ?_
  refine C.iinc 35 #[.val (.ref b), .val (.int (0 : Int32)), .val (.ref ub), .val (.int ((1 : Int32) + (1 : Int32)))] d2_32 rfl rfl rfl ?_
  refine C.goto 13 d2_35 rfl ?_
  show W h 0 0 13 #[.val (.ref b), .val (.int (0 : Int32)), .val (.ref ub), .val (.int (2 : Int32))] []
  refine C.iloadN 14 d2_13 rfl rfl ?_
  refine C.aloadN 15 d2_14 rfl rfl rfl ?_
  refine C.arraylength 16 (3 : Int32) d2_15 rfl AU' rfl ?_
  refine C.icmpF 19 d2_16 rfl (by decide) ?_
  refine C.aloadN 20 d2_19 rfl rfl rfl ?_
  refine C.iloadN 21 d2_20 rfl rfl ?_
  refine C.iloadN 22 d2_21 rfl rfl ?_
  refine C.iadd 23 d2_22 rfl ?_
  refine C.baloadB 24 2 (.int x2) d2_23 rfl A (by decide) rfl e2 ?_
  refine C.aloadN 25 d2_24 rfl rfl rfl ?_
  refine C.iloadN 26 d2_25 rfl rfl ?_
  refine C.baloadB 27 2 (.int (-65 : Int32)) d2_26 rfl AU' (by decide) rfl rfl ?_
  refine C.icmpF 30 d2_27 rfl (feq d2).1 ?_
  refine C.iconst 31 (0 : Int32) d2_30 rfl rfl ?_
  exact C.retI .boolean d2_31 rfl (by simp) rfl (by decide) (by decide) ⟨rfl, rfl⟩
theorem sw_3 (l : Launch) (Z : State) (a0' : Array Value) (hw : ∀ d ∈ tables_1, d.before a0' Z = true) (h : Heap) (b : Addr) (vs : List Value) (A : Al Z h b .byte vs) (ub : Addr) (AU : Al Z Z.heap ub .byte [.int (-17 : Int32), .int (-69 : Int32), .int (-65 : Int32)]) (hs : if_icmp.holds .le ((0 : Int32) + (3 : Int32)) vs.length.toInt32 = true) (x0 : Int32) (e0 : vs[0]? = some (.int x0)) (d0 : x0 = (-17 : Int32)) (x1 : Int32) (e1 : vs[1]? = some (.int x1)) (d1 : x1 = (-69 : Int32)) (x2 : Int32) (e2 : vs[2]? = some (.int x2)) (d2 : x2 = (-65 : Int32)) :
    Con l Z (⟨"com/example/weftline/weftline/ExternalEntity", "startsWith", "([BI[B)Z"⟩ : MethodName) prog_14_method_30_code 4 (some .boolean) ⟨0, 0, 0, 0⟩ #[.ref b, .int 0, .ref ub] h (Same (some (.int (1 : Int32))) h) := by
  refine Con.of (Ls := #[.val (.ref b), .val (.int (0 : Int32)), .val (.ref ub), .unset]) hw pn2 (fun m => by first | (simp [entryFrame, mkF, argsToLocals, Value.category, maxLocals]; done) | rfl) fun W C => ?_
  refine C.kept fun hE => ?_
  have AU' := AU.ext hE
  refine C.iloadN 1 d2_0 rfl rfl ?_
  refine C.aloadN 2 d2_1 rfl rfl rfl ?_
  refine C.arraylength 3 (3 : Int32) d2_2 rfl AU' rfl ?_
  refine C.iadd 4 d2_3 rfl ?_
  refine C.aloadN 5 d2_4 rfl rfl rfl ?_
  refine C.arraylength 6 vs.length.toInt32 d2_5 rfl A rfl ?_
  refine C.icmpT 11 d2_6 rfl (hs) ?_
  refine C.iconst 12 (0 : Int32) d2_11 rfl rfl ?_
  refine C.istoreN 13 #[.val (.ref b), .val (.int (0 : Int32)), .val (.ref ub), .val (.int (0 : Int32))] d2_12 rfl rfl ?_
  refine C.iloadN 14 d2_13 rfl rfl ?_
  refine C.aloadN 15 d2_14 rfl rfl rfl ?_
  refine C.arraylength 16 (3 : Int32) d2_15 rfl AU' rfl ?_
  refine C.icmpF 19 d2_16 rfl (by decide) ?_
  refine C.aloadN 20 d2_19 rfl rfl rfl ?_
  refine C.iloadN 21 d2_20 rfl rfl ?_
  refine C.iloadN 22 d2_21 rfl rfl ?_
  refine C.iadd 23 d2_22 rfl ?_
  refine C.baloadB 24 0 (.int x0) d2_23 rfl A (by decide) rfl e0 ?_
  refine C.aloadN 25 d2_24 rfl rfl rfl ?_
  refine C.iloadN 26 d2_25 rfl rfl ?_
  refine C.baloadB 27 0 (.int (-17 : Int32)) d2_26 rfl AU' (by decide) rfl rfl ?_
  refine C.icmpT 32 d2_27 rfl (teq d0).1 ?_
  refine C.iinc 35 #[.val (.ref b), .val (.int (0 : Int32)), .val (.ref ub), .val (.int ((0 : Int32) + (1 : Int32)))] d2_32 rfl rfl rfl ?_
  refine C.goto 13 d2_35 rfl ?_
  show W h 0 0 13 #[.val (.ref b), .val (.int (0 : Int32)), .val (.ref ub), .val (.int (1 : Int32))] []
  refine C.iloadN 14 d2_13 rfl rfl ?_
  refine C.aloadN 15 d2_14 rfl rfl rfl ?_
  refine C.arraylength 16 (3 : Int32) d2_15 rfl AU' rfl ?_
  refine C.icmpF 19 d2_16 rfl (by decide) ?_
  refine C.aloadN 20 d2_19 rfl rfl rfl ?_
  refine C.iloadN 21 d2_20 rfl rfl ?_
  refine C.iloadN 22 d2_21 rfl rfl ?_
  refine C.iadd 23 d2_22 rfl ?_
  refine C.baloadB 24 1 (.int x1) d2_23 rfl A (by decide) rfl e1 ?_
  refine C.aloadN 25 d2_24 rfl rfl rfl ?_
  refine C.iloadN 26 d2_25 rfl rfl ?_
  refine C.baloadB 27 1 (.int (-69 : Int32)) d2_26 rfl AU' (by decide) rfl rfl ?_
  refine C.icmpT 32 d2_27 rfl (teq d1).1 ?_
  refine C.iinc 35 #[.val (.ref b), .val (.int (0 : Int32)), .val (.ref ub), .val (.int ((1 : Int32) + (1 : Int32)))] d2_32 rfl rfl rfl ?_
  refine C.goto 13 d2_35 rfl ?_
  show W h 0 0 13 #[.val (.ref b), .val (.int (0 : Int32)), .val (.ref ub), .val (.int (2 : Int32))] []
  refine C.iloadN 14 d2_13 rfl rfl ?_
  refine C.aloadN 15 d2_14 rfl rfl rfl ?_
  refine C.arraylength 16 (3 : Int32) d2_15 rfl AU' rfl ?_
  refine C.icmpF 19 d2_16 rfl (by decide) ?_
  refine C.aloadN 20 d2_19 rfl rfl rfl ?_
  refine C.iloadN 21 d2_20 rfl rfl ?_
  refine C.iloadN 22 d2_21 rfl rfl ?_
  refine C.iadd 23 d2_22 rfl ?_
  refine C.baloadB 24 2 (.int x2) d2_23 rfl A (by decide) rfl e2 ?_
  refine C.aloadN 25 d2_24 rfl rfl rfl ?_
  refine C.iloadN 26 d2_25 rfl rfl ?_
  refine C.baloadB 27 2 (.int (-65 : Int32)) d2_26 rfl AU' (by decide) rfl rfl ?_
  refine C.icmpT 32 d2_27 rfl (teq d2).1 ?_
  refine C.iinc 35 #[.val (.ref b), .val (.int (0 : Int32)), .val (.ref ub), .val (.int ((2 : Int32) + (1 : Int32)))] d2_32 rfl rfl rfl ?_
  refine C.goto 13 d2_35 rfl ?_
  show W h 0 0 13 #[.val (.ref b), .val (.int (0 : Int32)), .val (.ref ub), .val (.int (3 : Int32))] []
  refine C.iloadN 14 d2_13 rfl rfl ?_
  refine C.aloadN 15 d2_14 rfl rfl rfl ?_
  refine C.arraylength 16 (3 : Int32) d2_15 rfl AU' rfl ?_
  refine C.icmpT 38 d2_16 rfl (by decide) ?_
  refine C.iconst 39 (1 : Int32) d2_38 rfl rfl ?_
  exact C.retI .boolean d2_39 rfl (by simp) rfl (by decide) (by decide) ⟨rfl, rfl⟩
theorem ab_s (l : Launch) (Z : State) (a0' : Array Value) (hw : ∀ d ∈ tables_1, d.before a0' Z = true) (h : Heap) (b : Addr) (vs : List Value) (A : Al Z h b .byte vs) (ub : Addr) (AU : Al Z Z.heap ub .byte [.int (-17 : Int32), .int (-69 : Int32), .int (-65 : Int32)]) (SU : Sta Z Z.heap "com/example/weftline/weftline/ExternalEntity" "UTF8_BOM" "[B" (.ref ub)) (hs : if_icmp.holds .le ((0 : Int32) + (3 : Int32)) vs.length.toInt32 = false) :
    Con l Z (⟨"com/example/weftline/weftline/ExternalEntity", "afterByteOrderMark", "([B)I"⟩ : MethodName) prog_14_method_26_code 1 (some .int) ⟨1, 0, 0, 15⟩ #[.ref b] h (Same (some (.int (0 : Int32))) h) := by
  refine Con.of (Ls := #[.val (.ref b)]) hw pn1 (fun m => by first | (simp [entryFrame, mkF, argsToLocals, Value.category, maxLocals]; done) | rfl) fun W C => ?_
  refine C.kept fun hE => ?_
  have AU' := AU.ext hE
  refine C.aloadN 1 d1_0 rfl rfl rfl ?_
  refine C.iconst 2 (0 : Int32) d1_1 rfl rfl ?_
  refine C.getstatic 5 d1_2 rfl (tw 5) SU ?_
  refine C.callS 8 (as := [.ref b, .int (0 : Int32), .ref ub]) (rest := []) (rm := ⟨0, 0, 0, 0⟩) 0 d1_5 rfl (tw 7) (tw 8) (tw 3) (tw 9) (by decide) (sw_s l Z a0' hw _ b vs A ub AU hs) pd2 rfl rfl (Nat.le_of_eq rfl) (by decide) (by decide) (by decide) (by decide) rfl ?_
  refine same_intro ?_
  show W h 0 0 8 #[.val (.ref b)] [.int (0 : Int32)]
  refine C.ifT 18 d1_8 rfl (by decide) ?_
  refine C.iconst 19 (0 : Int32) d1_18 rfl rfl ?_
  exact C.retI .int d1_19 rfl (by simp) rfl (by decide) (by decide) ⟨rfl, rfl⟩
theorem ab_0 (l : Launch) (Z : State) (a0' : Array Value) (hw : ∀ d ∈ tables_1, d.before a0' Z = true) (h : Heap) (b : Addr) (vs : List Value) (A : Al Z h b .byte vs) (ub : Addr) (AU : Al Z Z.heap ub .byte [.int (-17 : Int32), .int (-69 : Int32), .int (-65 : Int32)]) (SU : Sta Z Z.heap "com/example/weftline/weftline/ExternalEntity" "UTF8_BOM" "[B" (.ref ub)) (hs : if_icmp.holds .le ((0 : Int32) + (3 : Int32)) vs.length.toInt32 = true) (x0 : Int32) (e0 : vs[0]? = some (.int x0)) (d0 : ¬ x0 = (-17 : Int32)) :
    Con l Z (⟨"com/example/weftline/weftline/ExternalEntity", "afterByteOrderMark", "([B)I"⟩ : MethodName) prog_14_method_26_code 1 (some .int) ⟨1, 0, 0, 15⟩ #[.ref b] h (Same (some (.int (0 : Int32))) h) := by
  refine Con.of (Ls := #[.val (.ref b)]) hw pn1 (fun m => by first | (simp [entryFrame, mkF, argsToLocals, Value.category, maxLocals]; done) | rfl) fun W C => ?_
  refine C.kept fun hE => ?_
  have AU' := AU.ext hE
  refine C.aloadN 1 d1_0 rfl rfl rfl ?_
  refine C.iconst 2 (0 : Int32) d1_1 rfl rfl ?_
  refine C.getstatic 5 d1_2 rfl (tw 5) SU ?_
  refine C.callS 8 (as := [.ref b, .int (0 : Int32), .ref ub]) (rest := []) (rm := ⟨0, 0, 0, 0⟩) 0 d1_5 rfl (tw 7) (tw 8) (tw 3) (tw 9) (by decide) (sw_0 l Z a0' hw _ b vs A ub AU hs x0 e0 d0) pd2 rfl rfl (Nat.le_of_eq rfl) (by decide) (by decide) (by decide) (by decide) rfl ?_
  refine same_intro ?_
  show W h 0 0 8 #[.val (.ref b)] [.int (0 : Int32)]
  refine C.ifT 18 d1_8 rfl (by decide) ?_
  refine C.iconst 19 (0 : Int32) d1_18 rfl rfl ?_
  exact C.retI .int d1_19 rfl (by simp) rfl (by decide) (by decide) ⟨rfl, rfl⟩
theorem ab_1 (l : Launch) (Z : State) (a0' : Array Value) (hw : ∀ d ∈ tables_1, d.before a0' Z = true) (h : Heap) (b : Addr) (vs : List Value) (A : Al Z h b .byte vs) (ub : Addr) (AU : Al Z Z.heap ub .byte [.int (-17 : Int32), .int (-69 : Int32), .int (-65 : Int32)]) (SU : Sta Z Z.heap "com/example/weftline/weftline/ExternalEntity" "UTF8_BOM" "[B" (.ref ub)) (hs : if_icmp.holds .le ((0 : Int32) + (3 : Int32)) vs.length.toInt32 = true) (x0 : Int32) (e0 : vs[0]? = some (.int x0)) (d0 : x0 = (-17 : Int32)) (x1 : Int32) (e1 : vs[1]? = some (.int x1)) (d1 : ¬ x1 = (-69 : Int32)) :
    Con l Z (⟨"com/example/weftline/weftline/ExternalEntity", "afterByteOrderMark", "([B)I"⟩ : MethodName) prog_14_method_26_code 1 (some .int) ⟨1, 0, 0, 15⟩ #[.ref b] h (Same (some (.int (0 : Int32))) h) := by
  refine Con.of (Ls := #[.val (.ref b)]) hw pn1 (fun m => by first | (simp [entryFrame, mkF, argsToLocals, Value.category, maxLocals]; done) | rfl) fun W C => ?_
  refine C.kept fun hE => ?_
  have AU' := AU.ext hE
  refine C.aloadN 1 d1_0 rfl rfl rfl ?_
  refine C.iconst 2 (0 : Int32) d1_1 rfl rfl ?_
  refine C.getstatic 5 d1_2 rfl (tw 5) SU ?_
  refine C.callS 8 (as := [.ref b, .int (0 : Int32), .ref ub]) (rest := []) (rm := ⟨0, 0, 0, 0⟩) 0 d1_5 rfl (tw 7) (tw 8) (tw 3) (tw 9) (by decide) (sw_1 l Z a0' hw _ b vs A ub AU hs x0 e0 d0 x1 e1 d1) pd2 rfl rfl (Nat.le_of_eq rfl) (by decide) (by decide) (by decide) (by decide) rfl ?_
  refine same_intro ?_
  show W h 0 0 8 #[.val (.ref b)] [.int (0 : Int32)]
  refine C.ifT 18 d1_8 rfl (by decide) ?_
  refine C.iconst 19 (0 : Int32) d1_18 rfl rfl ?_
  exact C.retI .int d1_19 rfl (by simp) rfl (by decide) (by decide) ⟨rfl, rfl⟩
theorem ab_2 (l : Launch) (Z : State) (a0' : Array Value) (hw : ∀ d ∈ tables_1, d.before a0' Z = true) (h : Heap) (b : Addr) (vs : List Value) (A : Al Z h b .byte vs) (ub : Addr) (AU : Al Z Z.heap ub .byte [.int (-17 : Int32), .int (-69 : Int32), .int (-65 : Int32)]) (SU : Sta Z Z.heap "com/example/weftline/weftline/ExternalEntity" "UTF8_BOM" "[B" (.ref ub)) (hs : if_icmp.holds .le ((0 : Int32) + (3 : Int32)) vs.length.toInt32 = true) (x0 : Int32) (e0 : vs[0]? = some (.int x0)) (d0 : x0 = (-17 : Int32)) (x1 : Int32) (e1 : vs[1]? = some (.int x1)) (d1 : x1 = (-69 : Int32)) (x2 : Int32) (e2 : vs[2]? = some (.int x2)) (d2 : ¬ x2 = (-65 : Int32)) :
    Con l Z (⟨"com/example/weftline/weftline/ExternalEntity", "afterByteOrderMark", "([B)I"⟩ : MethodName) prog_14_method_26_code 1 (some .int) ⟨1, 0, 0, 15⟩ #[.ref b] h (Same (some (.int (0 : Int32))) h) := by
  refine Con.of (Ls := #[.val (.ref b)]) hw pn1 (fun m => by first | (simp [entryFrame, mkF, argsToLocals, Value.category, maxLocals]; done) | rfl) fun W C => ?_
  refine C.kept fun hE => ?_
  have AU' := AU.ext hE
  refine C.aloadN 1 d1_0 rfl rfl rfl ?_
  refine C.iconst 2 (0 : Int32) d1_1 rfl rfl ?_
  refine C.getstatic 5 d1_2 rfl (tw 5) SU ?_
  refine C.callS 8 (as := [.ref b, .int (0 : Int32), .ref ub]) (rest := []) (rm := ⟨0, 0, 0, 0⟩) 0 d1_5 rfl (tw 7) (tw 8) (tw 3) (tw 9) (by decide) (sw_2 l Z a0' hw _ b vs A ub AU hs x0 e0 d0 x1 e1 d1 x2 e2 d2) pd2 rfl rfl (Nat.le_of_eq rfl) (by decide) (by decide) (by decide) (by decide) rfl ?_
  refine same_intro ?_
  show W h 0 0 8 #[.val (.ref b)] [.int (0 : Int32)]
  refine C.ifT 18 d1_8 rfl (by decide) ?_
  refine C.iconst 19 (0 : Int32) d1_18 rfl rfl ?_
  exact C.retI .int d1_19 rfl (by simp) rfl (by decide) (by decide) ⟨rfl, rfl⟩
theorem ab_3 (l : Launch) (Z : State) (a0' : Array Value) (hw : ∀ d ∈ tables_1, d.before a0' Z = true) (h : Heap) (b : Addr) (vs : List Value) (A : Al Z h b .byte vs) (ub : Addr) (AU : Al Z Z.heap ub .byte [.int (-17 : Int32), .int (-69 : Int32), .int (-65 : Int32)]) (SU : Sta Z Z.heap "com/example/weftline/weftline/ExternalEntity" "UTF8_BOM" "[B" (.ref ub)) (hs : if_icmp.holds .le ((0 : Int32) + (3 : Int32)) vs.length.toInt32 = true) (x0 : Int32) (e0 : vs[0]? = some (.int x0)) (d0 : x0 = (-17 : Int32)) (x1 : Int32) (e1 : vs[1]? = some (.int x1)) (d1 : x1 = (-69 : Int32)) (x2 : Int32) (e2 : vs[2]? = some (.int x2)) (d2 : x2 = (-65 : Int32)) :
    Con l Z (⟨"com/example/weftline/weftline/ExternalEntity", "afterByteOrderMark", "([B)I"⟩ : MethodName) prog_14_method_26_code 1 (some .int) ⟨1, 0, 0, 15⟩ #[.ref b] h (Same (some (.int (3 : Int32))) h) := by
  refine Con.of (Ls := #[.val (.ref b)]) hw pn1 (fun m => by first | (simp [entryFrame, mkF, argsToLocals, Value.category, maxLocals]; done) | rfl) fun W C => ?_
  refine C.kept fun hE => ?_
  have AU' := AU.ext hE
  refine C.aloadN 1 d1_0 rfl rfl rfl ?_
  refine C.iconst 2 (0 : Int32) d1_1 rfl rfl ?_
  refine C.getstatic 5 d1_2 rfl (tw 5) SU ?_
  refine C.callS 8 (as := [.ref b, .int (0 : Int32), .ref ub]) (rest := []) (rm := ⟨0, 0, 0, 0⟩) 0 d1_5 rfl (tw 7) (tw 8) (tw 3) (tw 9) (by decide) (sw_3 l Z a0' hw _ b vs A ub AU hs x0 e0 d0 x1 e1 d1 x2 e2 d2) pd2 rfl rfl (Nat.le_of_eq rfl) (by decide) (by decide) (by decide) (by decide) rfl ?_
  refine same_intro ?_
  show W h 0 0 8 #[.val (.ref b)] [.int (1 : Int32)]
  refine C.ifF 11 d1_8 rfl (by decide) ?_
  refine C.getstatic 14 d1_11 rfl (tw 5) SU ?_
  refine C.arraylength 15 (3 : Int32) d1_14 rfl AU' rfl ?_
  refine C.goto 19 d1_15 rfl ?_
  exact C.retI .int d1_19 rfl (by simp) rfl (by decide) (by decide) ⟨rfl, rfl⟩
theorem and7 (p : Int32) : ∃ i : Nat, i < 8 ∧ p &&& (7 : Int32) = Int32.ofNat i := by
  have h1 := c_and p (7 : Int32) (by decide)
  have e : (7 : Int32).toInt = 7 := rfl
  rw [e] at h1
  generalize p &&& (7 : Int32) = r at h1 ⊢
  refine ⟨r.toInt.toNat, by omega, Int32.toInt_inj.mp ?_⟩
  rw [Int32.toInt_ofNat_of_lt (by omega)]; omega
theorem byte_nar (x : Int32) : nar .byte x.toInt8.toInt32 = x.toInt8.toInt32 := by
  show x.toInt8.toInt32.toInt8.toInt32 = x.toInt8.toInt32
  simp
set_option maxRecDepth 65536 in
set_option maxHeartbeats 40000000 in
theorem law_con (l : Launch) (Z : State) (a0' : Array Value) (hw : ∀ d ∈ tables_1, d.before a0' Z = true) (len p0 p1 p2 p3 mode : Int32) (ub : Addr) (AU : Al Z Z.heap ub .byte [.int (-17 : Int32), .int (-69 : Int32), .int (-65 : Int32)]) (SU : Sta Z Z.heap "com/example/weftline/weftline/ExternalEntity" "UTF8_BOM" "[B" (.ref ub)) :
    Con l Z x code maxLocals ret room_1 #[.int len, .int p0, .int p1, .int p2, .int p3, .int mode] Z.heap (fun v _ => v = some (.int 1)) := by
  refine Con.of (Ls := #[.val (.int len), .val (.int p0), .val (.int p1), .val (.int p2), .val (.int p3), .val (.int mode), .unset, .unset, .unset, .unset, .unset, .unset, .unset, .unset]) hw pn0 (fun m => by first | (simp [entryFrame, mkF, argsToLocals, Value.category, maxLocals]; done) | rfl) fun W C => ?_
  have z0 : Z.heap.size ≤ Z.heap.size := Nat.le_refl _
  have J59 : ∀ x0 x1 x2 x3 : Int32, nar .byte x0 = x0 → nar .byte x1 = x1 → nar .byte x2 = x2 → nar .byte x3 = x3 → W Z.heap 0 0 59 #[.val (.int len), .val (.int p0), .val (.int p1), .val (.int p2), .val (.int p3), .val (.int mode), .val (.int (len &&& (7 : Int32))), .val (.int x0), .val (.int x1), .val (.int x2), .val (.int x3), .unset, .unset, .unset] [] := by
    intro x0 x1 x2 x3 n0 n1 n2 n3
    obtain ⟨i, hi, e⟩ := and7 len
    generalize len &&& (7 : Int32) = q at e ⊢
    subst e
    match i, hi with
    | 0, _ =>
      show W Z.heap 0 0 59 #[.val (.int len), .val (.int p0), .val (.int p1), .val (.int p2), .val (.int p3), .val (.int mode), .val (.int (0 : Int32)), .val (.int x0), .val (.int x1), .val (.int x2), .val (.int x3), .unset, .unset, .unset] []
      refine C.iload 61 at_59 rfl rfl ?_
      refine C.newarray 63 0 at_61 rfl (tw 0) (by decide) (by decide) (by decide) (by decide) (by decide) ?_
      intro h1 E1 A1
      obtain ⟨b1, g1⟩ : ∃ z, z = Z.heap.size := ⟨_, rfl⟩
      rw [← g1] at A1 ⊢
      have Ab1_1 : Al Z h1 b1 .byte [] := A1
      have z1 : Z.heap.size ≤ h1.size := Nat.le_trans z0 E1.1
      have zb1 : Z.heap.size ≤ b1 := by rw [g1]; exact z0
      show W h1 1 0 63 #[.val (.int len), .val (.int p0), .val (.int p1), .val (.int p2), .val (.int p3), .val (.int mode), .val (.int (0 : Int32)), .val (.int x0), .val (.int x1), .val (.int x2), .val (.int x3), .unset, .unset, .unset] [.ref b1]
      refine C.astore 65 #[.val (.int len), .val (.int p0), .val (.int p1), .val (.int p2), .val (.int p3), .val (.int mode), .val (.int (0 : Int32)), .val (.int x0), .val (.int x1), .val (.int x2), .val (.int x3), .val (.ref b1), .unset, .unset] at_63 rfl rfl rfl ?_
      refine C.iload 67 at_65 rfl rfl ?_
      refine C.ifT 76 at_67 rfl (by decide) ?_
      refine C.iload 78 at_76 rfl rfl ?_
      refine C.iconst 79 (1 : Int32) at_78 rfl rfl ?_
      refine C.icmpT 88 at_79 rfl (by decide) ?_
      refine C.iload 90 at_88 rfl rfl ?_
      refine C.iconst 91 (2 : Int32) at_90 rfl rfl ?_
      refine C.icmpT 100 at_91 rfl (by decide) ?_
      refine C.iload 102 at_100 rfl rfl ?_
      refine C.iconst 103 (3 : Int32) at_102 rfl rfl ?_
      refine C.icmpT 112 at_103 rfl (by decide) ?_
      refine C.aload 114 at_112 rfl rfl rfl ?_
      refine C.callS 117 (as := [.ref b1]) (rest := []) (rm := ⟨1, 0, 0, 15⟩) 0 at_114 rfl (tw 1) (tw 2) (tw 3) (tw 4) (by decide) (ab_s l Z a0' hw _ b1 _ Ab1_1 ub AU SU rfl) pd1 rfl rfl (Nat.le_of_eq rfl) (by decide) (by decide) (by decide) (by decide) rfl ?_
      refine same_intro ?_
      show W h1 1 0 117 #[.val (.int len), .val (.int p0), .val (.int p1), .val (.int p2), .val (.int p3), .val (.int mode), .val (.int (0 : Int32)), .val (.int x0), .val (.int x1), .val (.int x2), .val (.int x3), .val (.ref b1), .unset, .unset] [.int (0 : Int32)]
      refine C.istore 119 #[.val (.int len), .val (.int p0), .val (.int p1), .val (.int p2), .val (.int p3), .val (.int mode), .val (.int (0 : Int32)), .val (.int x0), .val (.int x1), .val (.int x2), .val (.int x3), .val (.ref b1), .val (.int (0 : Int32)), .unset] at_117 rfl rfl ?_
      refine C.iload 121 at_119 rfl rfl ?_
      refine C.iconst 122 (3 : Int32) at_121 rfl rfl ?_
      refine C.icmpT 150 at_122 rfl (by decide) ?_
      refine C.iconst 151 (0 : Int32) at_150 rfl rfl ?_
      refine C.istore 153 #[.val (.int len), .val (.int p0), .val (.int p1), .val (.int p2), .val (.int p3), .val (.int mode), .val (.int (0 : Int32)), .val (.int x0), .val (.int x1), .val (.int x2), .val (.int x3), .val (.ref b1), .val (.int (0 : Int32)), .val (.int (0 : Int32))] at_151 rfl rfl ?_
      refine C.iload 155 at_153 rfl rfl ?_
      refine C.iload 157 at_155 rfl rfl ?_
      refine C.ifT 164 at_157 rfl (by decide) ?_
      refine C.iconst 165 (0 : Int32) at_164 rfl rfl ?_
      refine C.icmpF 168 at_165 rfl (by decide) ?_
      refine C.iconst 169 (1 : Int32) at_168 rfl rfl ?_
      refine C.goto 173 at_169 rfl ?_
      exact C.retI .boolean at_173 rfl (by simp) rfl (by decide) (by decide) rfl
    | 1, _ =>
      show W Z.heap 0 0 59 #[.val (.int len), .val (.int p0), .val (.int p1), .val (.int p2), .val (.int p3), .val (.int mode), .val (.int (1 : Int32)), .val (.int x0), .val (.int x1), .val (.int x2), .val (.int x3), .unset, .unset, .unset] []
      refine C.iload 61 at_59 rfl rfl ?_
      refine C.newarray 63 1 at_61 rfl (tw 0) (by decide) (by decide) (by decide) (by decide) (by decide) ?_
      intro h2 E2 A2
      obtain ⟨b2, g2⟩ : ∃ z, z = Z.heap.size := ⟨_, rfl⟩
      rw [← g2] at A2 ⊢
      have Ab2_2 : Al Z h2 b2 .byte [.int (0 : Int32)] := A2
      have z2 : Z.heap.size ≤ h2.size := Nat.le_trans z0 E2.1
      have zb2 : Z.heap.size ≤ b2 := by rw [g2]; exact z0
      show W h2 1 1 63 #[.val (.int len), .val (.int p0), .val (.int p1), .val (.int p2), .val (.int p3), .val (.int mode), .val (.int (1 : Int32)), .val (.int x0), .val (.int x1), .val (.int x2), .val (.int x3), .unset, .unset, .unset] [.ref b2]
      refine C.astore 65 #[.val (.int len), .val (.int p0), .val (.int p1), .val (.int p2), .val (.int p3), .val (.int mode), .val (.int (1 : Int32)), .val (.int x0), .val (.int x1), .val (.int x2), .val (.int x3), .val (.ref b2), .unset, .unset] at_63 rfl rfl rfl ?_
      refine C.iload 67 at_65 rfl rfl ?_
      refine C.ifF 70 at_67 rfl (by decide) ?_
      refine C.aload 72 at_70 rfl rfl rfl ?_
      refine C.iconst 73 (0 : Int32) at_72 rfl rfl ?_
      refine C.iload 75 at_73 rfl rfl ?_
      refine C.bastoreB 76 0 x0 at_75 rfl Ab2_2 zb2 (by decide) rfl (Nat.le_of_ble_eq_true rfl) n0 ?_
      intro h3 W3 A3
      have Ab2_3 : Al Z h3 b2 .byte [.int x0] := A3
      have z3 : Z.heap.size ≤ h3.size := by rw [W3.size]; exact z2
      refine C.iload 78 at_76 rfl rfl ?_
      refine C.iconst 79 (1 : Int32) at_78 rfl rfl ?_
      refine C.icmpT 88 at_79 rfl (by decide) ?_
      refine C.iload 90 at_88 rfl rfl ?_
      refine C.iconst 91 (2 : Int32) at_90 rfl rfl ?_
      refine C.icmpT 100 at_91 rfl (by decide) ?_
      refine C.iload 102 at_100 rfl rfl ?_
      refine C.iconst 103 (3 : Int32) at_102 rfl rfl ?_
      refine C.icmpT 112 at_103 rfl (by decide) ?_
      refine C.aload 114 at_112 rfl rfl rfl ?_
      refine C.callS 117 (as := [.ref b2]) (rest := []) (rm := ⟨1, 0, 0, 15⟩) 0 at_114 rfl (tw 1) (tw 2) (tw 3) (tw 4) (by decide) (ab_s l Z a0' hw _ b2 _ Ab2_3 ub AU SU rfl) pd1 rfl rfl (Nat.le_of_eq rfl) (by decide) (by decide) (by decide) (by decide) rfl ?_
      refine same_intro ?_
      show W h3 1 1 117 #[.val (.int len), .val (.int p0), .val (.int p1), .val (.int p2), .val (.int p3), .val (.int mode), .val (.int (1 : Int32)), .val (.int x0), .val (.int x1), .val (.int x2), .val (.int x3), .val (.ref b2), .unset, .unset] [.int (0 : Int32)]
      refine C.istore 119 #[.val (.int len), .val (.int p0), .val (.int p1), .val (.int p2), .val (.int p3), .val (.int mode), .val (.int (1 : Int32)), .val (.int x0), .val (.int x1), .val (.int x2), .val (.int x3), .val (.ref b2), .val (.int (0 : Int32)), .unset] at_117 rfl rfl ?_
      refine C.iload 121 at_119 rfl rfl ?_
      refine C.iconst 122 (3 : Int32) at_121 rfl rfl ?_
      refine C.icmpT 150 at_122 rfl (by decide) ?_
      refine C.iconst 151 (0 : Int32) at_150 rfl rfl ?_
      refine C.istore 153 #[.val (.int len), .val (.int p0), .val (.int p1), .val (.int p2), .val (.int p3), .val (.int mode), .val (.int (1 : Int32)), .val (.int x0), .val (.int x1), .val (.int x2), .val (.int x3), .val (.ref b2), .val (.int (0 : Int32)), .val (.int (0 : Int32))] at_151 rfl rfl ?_
      refine C.iload 155 at_153 rfl rfl ?_
      refine C.iload 157 at_155 rfl rfl ?_
      refine C.ifT 164 at_157 rfl (by decide) ?_
      refine C.iconst 165 (0 : Int32) at_164 rfl rfl ?_
      refine C.icmpF 168 at_165 rfl (by decide) ?_
      refine C.iconst 169 (1 : Int32) at_168 rfl rfl ?_
      refine C.goto 173 at_169 rfl ?_
      exact C.retI .boolean at_173 rfl (by simp) rfl (by decide) (by decide) rfl
    | 2, _ =>
      show W Z.heap 0 0 59 #[.val (.int len), .val (.int p0), .val (.int p1), .val (.int p2), .val (.int p3), .val (.int mode), .val (.int (2 : Int32)), .val (.int x0), .val (.int x1), .val (.int x2), .val (.int x3), .unset, .unset, .unset] []
      refine C.iload 61 at_59 rfl rfl ?_
      refine C.newarray 63 2 at_61 rfl (tw 0) (by decide) (by decide) (by decide) (by decide) (by decide) ?_
      intro h4 E4 A4
      obtain ⟨b4, g4⟩ : ∃ z, z = Z.heap.size := ⟨_, rfl⟩
      rw [← g4] at A4 ⊢
      have Ab4_4 : Al Z h4 b4 .byte [.int (0 : Int32), .int (0 : Int32)] := A4
      have z4 : Z.heap.size ≤ h4.size := Nat.le_trans z0 E4.1
      have zb4 : Z.heap.size ≤ b4 := by rw [g4]; exact z0
      show W h4 1 2 63 #[.val (.int len), .val (.int p0), .val (.int p1), .val (.int p2), .val (.int p3), .val (.int mode), .val (.int (2 : Int32)), .val (.int x0), .val (.int x1), .val (.int x2), .val (.int x3), .unset, .unset, .unset] [.ref b4]
      refine C.astore 65 #[.val (.int len), .val (.int p0), .val (.int p1), .val (.int p2), .val (.int p3), .val (.int mode), .val (.int (2 : Int32)), .val (.int x0), .val (.int x1), .val (.int x2), .val (.int x3), .val (.ref b4), .unset, .unset] at_63 rfl rfl rfl ?_
      refine C.iload 67 at_65 rfl rfl ?_
      refine C.ifF 70 at_67 rfl (by decide) ?_
      refine C.aload 72 at_70 rfl rfl rfl ?_
      refine C.iconst 73 (0 : Int32) at_72 rfl rfl ?_
      refine C.iload 75 at_73 rfl rfl ?_
      refine C.bastoreB 76 0 x0 at_75 rfl Ab4_4 zb4 (by decide) rfl (Nat.le_of_ble_eq_true rfl) n0 ?_
      intro h5 W5 A5
      have Ab4_5 : Al Z h5 b4 .byte [.int x0, .int (0 : Int32)] := A5
      have z5 : Z.heap.size ≤ h5.size := by rw [W5.size]; exact z4
      refine C.iload 78 at_76 rfl rfl ?_
      refine C.iconst 79 (1 : Int32) at_78 rfl rfl ?_
      refine C.icmpF 82 at_79 rfl (by decide) ?_
      refine C.aload 84 at_82 rfl rfl rfl ?_
      refine C.iconst 85 (1 : Int32) at_84 rfl rfl ?_
      refine C.iload 87 at_85 rfl rfl ?_
      refine C.bastoreB 88 1 x1 at_87 rfl Ab4_5 zb4 (by decide) rfl (Nat.le_of_ble_eq_true rfl) n1 ?_
      intro h6 W6 A6
      have Ab4_6 : Al Z h6 b4 .byte [.int x0, .int x1] := A6
      have z6 : Z.heap.size ≤ h6.size := by rw [W6.size]; exact z5
      refine C.iload 90 at_88 rfl rfl ?_
      refine C.iconst 91 (2 : Int32) at_90 rfl rfl ?_
      refine C.icmpT 100 at_91 rfl (by decide) ?_
      refine C.iload 102 at_100 rfl rfl ?_
      refine C.iconst 103 (3 : Int32) at_102 rfl rfl ?_
      refine C.icmpT 112 at_103 rfl (by decide) ?_
      refine C.aload 114 at_112 rfl rfl rfl ?_
      refine C.callS 117 (as := [.ref b4]) (rest := []) (rm := ⟨1, 0, 0, 15⟩) 0 at_114 rfl (tw 1) (tw 2) (tw 3) (tw 4) (by decide) (ab_s l Z a0' hw _ b4 _ Ab4_6 ub AU SU rfl) pd1 rfl rfl (Nat.le_of_eq rfl) (by decide) (by decide) (by decide) (by decide) rfl ?_
      refine same_intro ?_
      show W h6 1 2 117 #[.val (.int len), .val (.int p0), .val (.int p1), .val (.int p2), .val (.int p3), .val (.int mode), .val (.int (2 : Int32)), .val (.int x0), .val (.int x1), .val (.int x2), .val (.int x3), .val (.ref b4), .unset, .unset] [.int (0 : Int32)]
      refine C.istore 119 #[.val (.int len), .val (.int p0), .val (.int p1), .val (.int p2), .val (.int p3), .val (.int mode), .val (.int (2 : Int32)), .val (.int x0), .val (.int x1), .val (.int x2), .val (.int x3), .val (.ref b4), .val (.int (0 : Int32)), .unset] at_117 rfl rfl ?_
      refine C.iload 121 at_119 rfl rfl ?_
      refine C.iconst 122 (3 : Int32) at_121 rfl rfl ?_
      refine C.icmpT 150 at_122 rfl (by decide) ?_
      refine C.iconst 151 (0 : Int32) at_150 rfl rfl ?_
      refine C.istore 153 #[.val (.int len), .val (.int p0), .val (.int p1), .val (.int p2), .val (.int p3), .val (.int mode), .val (.int (2 : Int32)), .val (.int x0), .val (.int x1), .val (.int x2), .val (.int x3), .val (.ref b4), .val (.int (0 : Int32)), .val (.int (0 : Int32))] at_151 rfl rfl ?_
      refine C.iload 155 at_153 rfl rfl ?_
      refine C.iload 157 at_155 rfl rfl ?_
      refine C.ifT 164 at_157 rfl (by decide) ?_
      refine C.iconst 165 (0 : Int32) at_164 rfl rfl ?_
      refine C.icmpF 168 at_165 rfl (by decide) ?_
      refine C.iconst 169 (1 : Int32) at_168 rfl rfl ?_
      refine C.goto 173 at_169 rfl ?_
      exact C.retI .boolean at_173 rfl (by simp) rfl (by decide) (by decide) rfl
    | 3, _ =>
      show W Z.heap 0 0 59 #[.val (.int len), .val (.int p0), .val (.int p1), .val (.int p2), .val (.int p3), .val (.int mode), .val (.int (3 : Int32)), .val (.int x0), .val (.int x1), .val (.int x2), .val (.int x3), .unset, .unset, .unset] []
      refine C.iload 61 at_59 rfl rfl ?_
      refine C.newarray 63 3 at_61 rfl (tw 0) (by decide) (by decide) (by decide) (by decide) (by decide) ?_
      intro h7 E7 A7
      obtain ⟨b7, g7⟩ : ∃ z, z = Z.heap.size := ⟨_, rfl⟩
      rw [← g7] at A7 ⊢
      have Ab7_7 : Al Z h7 b7 .byte [.int (0 : Int32), .int (0 : Int32), .int (0 : Int32)] := A7
      have z7 : Z.heap.size ≤ h7.size := Nat.le_trans z0 E7.1
      have zb7 : Z.heap.size ≤ b7 := by rw [g7]; exact z0
      show W h7 1 3 63 #[.val (.int len), .val (.int p0), .val (.int p1), .val (.int p2), .val (.int p3), .val (.int mode), .val (.int (3 : Int32)), .val (.int x0), .val (.int x1), .val (.int x2), .val (.int x3), .unset, .unset, .unset] [.ref b7]
      refine C.astore 65 #[.val (.int len), .val (.int p0), .val (.int p1), .val (.int p2), .val (.int p3), .val (.int mode), .val (.int (3 : Int32)), .val (.int x0), .val (.int x1), .val (.int x2), .val (.int x3), .val (.ref b7), .unset, .unset] at_63 rfl rfl rfl ?_
      refine C.iload 67 at_65 rfl rfl ?_
      refine C.ifF 70 at_67 rfl (by decide) ?_
      refine C.aload 72 at_70 rfl rfl rfl ?_
      refine C.iconst 73 (0 : Int32) at_72 rfl rfl ?_
      refine C.iload 75 at_73 rfl rfl ?_
      refine C.bastoreB 76 0 x0 at_75 rfl Ab7_7 zb7 (by decide) rfl (Nat.le_of_ble_eq_true rfl) n0 ?_
      intro h8 W8 A8
      have Ab7_8 : Al Z h8 b7 .byte [.int x0, .int (0 : Int32), .int (0 : Int32)] := A8
      have z8 : Z.heap.size ≤ h8.size := by rw [W8.size]; exact z7
      refine C.iload 78 at_76 rfl rfl ?_
      refine C.iconst 79 (1 : Int32) at_78 rfl rfl ?_
      refine C.icmpF 82 at_79 rfl (by decide) ?_
      refine C.aload 84 at_82 rfl rfl rfl ?_
      refine C.iconst 85 (1 : Int32) at_84 rfl rfl ?_
      refine C.iload 87 at_85 rfl rfl ?_
      refine C.bastoreB 88 1 x1 at_87 rfl Ab7_8 zb7 (by decide) rfl (Nat.le_of_ble_eq_true rfl) n1 ?_
      intro h9 W9 A9
      have Ab7_9 : Al Z h9 b7 .byte [.int x0, .int x1, .int (0 : Int32)] := A9
      have z9 : Z.heap.size ≤ h9.size := by rw [W9.size]; exact z8
      refine C.iload 90 at_88 rfl rfl ?_
      refine C.iconst 91 (2 : Int32) at_90 rfl rfl ?_
      refine C.icmpF 94 at_91 rfl (by decide) ?_
      refine C.aload 96 at_94 rfl rfl rfl ?_
      refine C.iconst 97 (2 : Int32) at_96 rfl rfl ?_
      refine C.iload 99 at_97 rfl rfl ?_
      refine C.bastoreB 100 2 x2 at_99 rfl Ab7_9 zb7 (by decide) rfl (Nat.le_of_ble_eq_true rfl) n2 ?_
      intro h10 W10 A10
      have Ab7_10 : Al Z h10 b7 .byte [.int x0, .int x1, .int x2] := A10
      have z10 : Z.heap.size ≤ h10.size := by rw [W10.size]; exact z9
      refine C.iload 102 at_100 rfl rfl ?_
      refine C.iconst 103 (3 : Int32) at_102 rfl rfl ?_
      refine C.icmpT 112 at_103 rfl (by decide) ?_
      refine C.aload 114 at_112 rfl rfl rfl ?_
      by_cases d0 : x0 = (-17 : Int32)
      · by_cases d1 : x1 = (-69 : Int32)
        · by_cases d2 : x2 = (-65 : Int32)
          · refine C.callS 117 (as := [.ref b7]) (rest := []) (rm := ⟨1, 0, 0, 15⟩) 0 at_114 rfl (tw 1) (tw 2) (tw 3) (tw 4) (by decide) (ab_3 l Z a0' hw _ b7 _ Ab7_10 ub AU SU rfl x0 rfl d0 x1 rfl d1 x2 rfl d2) pd1 rfl rfl (Nat.le_of_eq rfl) (by decide) (by decide) (by decide) (by decide) rfl ?_
            refine same_intro ?_
            show W h10 1 3 117 #[.val (.int len), .val (.int p0), .val (.int p1), .val (.int p2), .val (.int p3), .val (.int mode), .val (.int (3 : Int32)), .val (.int x0), .val (.int x1), .val (.int x2), .val (.int x3), .val (.ref b7), .unset, .unset] [.int (3 : Int32)]
            refine C.istore 119 #[.val (.int len), .val (.int p0), .val (.int p1), .val (.int p2), .val (.int p3), .val (.int mode), .val (.int (3 : Int32)), .val (.int x0), .val (.int x1), .val (.int x2), .val (.int x3), .val (.ref b7), .val (.int (3 : Int32)), .unset] at_117 rfl rfl ?_
            refine C.iload 121 at_119 rfl rfl ?_
            refine C.iconst 122 (3 : Int32) at_121 rfl rfl ?_
            refine C.icmpF 125 at_122 rfl (by decide) ?_
            refine C.iload 127 at_125 rfl rfl ?_
            refine C.bipush 129 (-17 : Int32) at_127 rfl rfl ?_
            refine C.icmpF 132 at_129 rfl (teq d0).2 ?_
            refine C.iload 134 at_132 rfl rfl ?_
            refine C.bipush 136 (-69 : Int32) at_134 rfl rfl ?_
            refine C.icmpF 139 at_136 rfl (teq d1).2 ?_
            refine C.iload 141 at_139 rfl rfl ?_
            refine C.bipush 143 (-65 : Int32) at_141 rfl rfl ?_
            refine C.icmpF 146 at_143 rfl (teq d2).2 ?_
            refine C.iconst 147 (1 : Int32) at_146 rfl rfl ?_
            refine C.goto 151 at_147 rfl ?_
            refine C.istore 153 #[.val (.int len), .val (.int p0), .val (.int p1), .val (.int p2), .val (.int p3), .val (.int mode), .val (.int (3 : Int32)), .val (.int x0), .val (.int x1), .val (.int x2), .val (.int x3), .val (.ref b7), .val (.int (3 : Int32)), .val (.int (1 : Int32))] at_151 rfl rfl ?_
            refine C.iload 155 at_153 rfl rfl ?_
            refine C.iload 157 at_155 rfl rfl ?_
            refine C.ifF 160 at_157 rfl (by decide) ?_
            refine C.iconst 161 (3 : Int32) at_160 rfl rfl ?_
            refine C.goto 165 at_161 rfl ?_
            refine C.icmpF 168 at_165 rfl (by decide) ?_
            refine C.iconst 169 (1 : Int32) at_168 rfl rfl ?_
            refine C.goto 173 at_169 rfl ?_
            exact C.retI .boolean at_173 rfl (by simp) rfl (by decide) (by decide) rfl
          · refine C.callS 117 (as := [.ref b7]) (rest := []) (rm := ⟨1, 0, 0, 15⟩) 0 at_114 rfl (tw 1) (tw 2) (tw 3) (tw 4) (by decide) (ab_2 l Z a0' hw _ b7 _ Ab7_10 ub AU SU rfl x0 rfl d0 x1 rfl d1 x2 rfl d2) pd1 rfl rfl (Nat.le_of_eq rfl) (by decide) (by decide) (by decide) (by decide) rfl ?_
            refine same_intro ?_
            show W h10 1 3 117 #[.val (.int len), .val (.int p0), .val (.int p1), .val (.int p2), .val (.int p3), .val (.int mode), .val (.int (3 : Int32)), .val (.int x0), .val (.int x1), .val (.int x2), .val (.int x3), .val (.ref b7), .unset, .unset] [.int (0 : Int32)]
            refine C.istore 119 #[.val (.int len), .val (.int p0), .val (.int p1), .val (.int p2), .val (.int p3), .val (.int mode), .val (.int (3 : Int32)), .val (.int x0), .val (.int x1), .val (.int x2), .val (.int x3), .val (.ref b7), .val (.int (0 : Int32)), .unset] at_117 rfl rfl ?_
            refine C.iload 121 at_119 rfl rfl ?_
            refine C.iconst 122 (3 : Int32) at_121 rfl rfl ?_
            refine C.icmpF 125 at_122 rfl (by decide) ?_
            refine C.iload 127 at_125 rfl rfl ?_
            refine C.bipush 129 (-17 : Int32) at_127 rfl rfl ?_
            refine C.icmpF 132 at_129 rfl (teq d0).2 ?_
            refine C.iload 134 at_132 rfl rfl ?_
            refine C.bipush 136 (-69 : Int32) at_134 rfl rfl ?_
            refine C.icmpF 139 at_136 rfl (teq d1).2 ?_
            refine C.iload 141 at_139 rfl rfl ?_
            refine C.bipush 143 (-65 : Int32) at_141 rfl rfl ?_
            refine C.icmpT 150 at_143 rfl (feq d2).2 ?_
            refine C.iconst 151 (0 : Int32) at_150 rfl rfl ?_
            refine C.istore 153 #[.val (.int len), .val (.int p0), .val (.int p1), .val (.int p2), .val (.int p3), .val (.int mode), .val (.int (3 : Int32)), .val (.int x0), .val (.int x1), .val (.int x2), .val (.int x3), .val (.ref b7), .val (.int (0 : Int32)), .val (.int (0 : Int32))] at_151 rfl rfl ?_
            refine C.iload 155 at_153 rfl rfl ?_
            refine C.iload 157 at_155 rfl rfl ?_
            refine C.ifT 164 at_157 rfl (by decide) ?_
            refine C.iconst 165 (0 : Int32) at_164 rfl rfl ?_
            refine C.icmpF 168 at_165 rfl (by decide) ?_
            refine C.iconst 169 (1 : Int32) at_168 rfl rfl ?_
            refine C.goto 173 at_169 rfl ?_
            exact C.retI .boolean at_173 rfl (by simp) rfl (by decide) (by decide) rfl
        · refine C.callS 117 (as := [.ref b7]) (rest := []) (rm := ⟨1, 0, 0, 15⟩) 0 at_114 rfl (tw 1) (tw 2) (tw 3) (tw 4) (by decide) (ab_1 l Z a0' hw _ b7 _ Ab7_10 ub AU SU rfl x0 rfl d0 x1 rfl d1) pd1 rfl rfl (Nat.le_of_eq rfl) (by decide) (by decide) (by decide) (by decide) rfl ?_
          refine same_intro ?_
          show W h10 1 3 117 #[.val (.int len), .val (.int p0), .val (.int p1), .val (.int p2), .val (.int p3), .val (.int mode), .val (.int (3 : Int32)), .val (.int x0), .val (.int x1), .val (.int x2), .val (.int x3), .val (.ref b7), .unset, .unset] [.int (0 : Int32)]
          refine C.istore 119 #[.val (.int len), .val (.int p0), .val (.int p1), .val (.int p2), .val (.int p3), .val (.int mode), .val (.int (3 : Int32)), .val (.int x0), .val (.int x1), .val (.int x2), .val (.int x3), .val (.ref b7), .val (.int (0 : Int32)), .unset] at_117 rfl rfl ?_
          refine C.iload 121 at_119 rfl rfl ?_
          refine C.iconst 122 (3 : Int32) at_121 rfl rfl ?_
          refine C.icmpF 125 at_122 rfl (by decide) ?_
          refine C.iload 127 at_125 rfl rfl ?_
          refine C.bipush 129 (-17 : Int32) at_127 rfl rfl ?_
          refine C.icmpF 132 at_129 rfl (teq d0).2 ?_
          refine C.iload 134 at_132 rfl rfl ?_
          refine C.bipush 136 (-69 : Int32) at_134 rfl rfl ?_
          refine C.icmpT 150 at_136 rfl (feq d1).2 ?_
          refine C.iconst 151 (0 : Int32) at_150 rfl rfl ?_
          refine C.istore 153 #[.val (.int len), .val (.int p0), .val (.int p1), .val (.int p2), .val (.int p3), .val (.int mode), .val (.int (3 : Int32)), .val (.int x0), .val (.int x1), .val (.int x2), .val (.int x3), .val (.ref b7), .val (.int (0 : Int32)), .val (.int (0 : Int32))] at_151 rfl rfl ?_
          refine C.iload 155 at_153 rfl rfl ?_
          refine C.iload 157 at_155 rfl rfl ?_
          refine C.ifT 164 at_157 rfl (by decide) ?_
          refine C.iconst 165 (0 : Int32) at_164 rfl rfl ?_
          refine C.icmpF 168 at_165 rfl (by decide) ?_
          refine C.iconst 169 (1 : Int32) at_168 rfl rfl ?_
          refine C.goto 173 at_169 rfl ?_
          exact C.retI .boolean at_173 rfl (by simp) rfl (by decide) (by decide) rfl
      · refine C.callS 117 (as := [.ref b7]) (rest := []) (rm := ⟨1, 0, 0, 15⟩) 0 at_114 rfl (tw 1) (tw 2) (tw 3) (tw 4) (by decide) (ab_0 l Z a0' hw _ b7 _ Ab7_10 ub AU SU rfl x0 rfl d0) pd1 rfl rfl (Nat.le_of_eq rfl) (by decide) (by decide) (by decide) (by decide) rfl ?_
        refine same_intro ?_
        show W h10 1 3 117 #[.val (.int len), .val (.int p0), .val (.int p1), .val (.int p2), .val (.int p3), .val (.int mode), .val (.int (3 : Int32)), .val (.int x0), .val (.int x1), .val (.int x2), .val (.int x3), .val (.ref b7), .unset, .unset] [.int (0 : Int32)]
        refine C.istore 119 #[.val (.int len), .val (.int p0), .val (.int p1), .val (.int p2), .val (.int p3), .val (.int mode), .val (.int (3 : Int32)), .val (.int x0), .val (.int x1), .val (.int x2), .val (.int x3), .val (.ref b7), .val (.int (0 : Int32)), .unset] at_117 rfl rfl ?_
        refine C.iload 121 at_119 rfl rfl ?_
        refine C.iconst 122 (3 : Int32) at_121 rfl rfl ?_
        refine C.icmpF 125 at_122 rfl (by decide) ?_
        refine C.iload 127 at_125 rfl rfl ?_
        refine C.bipush 129 (-17 : Int32) at_127 rfl rfl ?_
        refine C.icmpT 150 at_129 rfl (feq d0).2 ?_
        refine C.iconst 151 (0 : Int32) at_150 rfl rfl ?_
        refine C.istore 153 #[.val (.int len), .val (.int p0), .val (.int p1), .val (.int p2), .val (.int p3), .val (.int mode), .val (.int (3 : Int32)), .val (.int x0), .val (.int x1), .val (.int x2), .val (.int x3), .val (.ref b7), .val (.int (0 : Int32)), .val (.int (0 : Int32))] at_151 rfl rfl ?_
        refine C.iload 155 at_153 rfl rfl ?_
        refine C.iload 157 at_155 rfl rfl ?_
        refine C.ifT 164 at_157 rfl (by decide) ?_
        refine C.iconst 165 (0 : Int32) at_164 rfl rfl ?_
        refine C.icmpF 168 at_165 rfl (by decide) ?_
        refine C.iconst 169 (1 : Int32) at_168 rfl rfl ?_
        refine C.goto 173 at_169 rfl ?_
        exact C.retI .boolean at_173 rfl (by simp) rfl (by decide) (by decide) rfl
    | 4, _ =>
      show W Z.heap 0 0 59 #[.val (.int len), .val (.int p0), .val (.int p1), .val (.int p2), .val (.int p3), .val (.int mode), .val (.int (4 : Int32)), .val (.int x0), .val (.int x1), .val (.int x2), .val (.int x3), .unset, .unset, .unset] []
      refine C.iload 61 at_59 rfl rfl ?_
      refine C.newarray 63 4 at_61 rfl (tw 0) (by decide) (by decide) (by decide) (by decide) (by decide) ?_
      intro h11 E11 A11
      obtain ⟨b11, g11⟩ : ∃ z, z = Z.heap.size := ⟨_, rfl⟩
      rw [← g11] at A11 ⊢
      have Ab11_11 : Al Z h11 b11 .byte [.int (0 : Int32), .int (0 : Int32), .int (0 : Int32), .int (0 : Int32)] := A11
      have z11 : Z.heap.size ≤ h11.size := Nat.le_trans z0 E11.1
      have zb11 : Z.heap.size ≤ b11 := by rw [g11]; exact z0
      show W h11 1 4 63 #[.val (.int len), .val (.int p0), .val (.int p1), .val (.int p2), .val (.int p3), .val (.int mode), .val (.int (4 : Int32)), .val (.int x0), .val (.int x1), .val (.int x2), .val (.int x3), .unset, .unset, .unset] [.ref b11]
      refine C.astore 65 #[.val (.int len), .val (.int p0), .val (.int p1), .val (.int p2), .val (.int p3), .val (.int mode), .val (.int (4 : Int32)), .val (.int x0), .val (.int x1), .val (.int x2), .val (.int x3), .val (.ref b11), .unset, .unset] at_63 rfl rfl rfl ?_
      refine C.iload 67 at_65 rfl rfl ?_
      refine C.ifF 70 at_67 rfl (by decide) ?_
      refine C.aload 72 at_70 rfl rfl rfl ?_
      refine C.iconst 73 (0 : Int32) at_72 rfl rfl ?_
      refine C.iload 75 at_73 rfl rfl ?_
      refine C.bastoreB 76 0 x0 at_75 rfl Ab11_11 zb11 (by decide) rfl (Nat.le_of_ble_eq_true rfl) n0 ?_
      intro h12 W12 A12
      have Ab11_12 : Al Z h12 b11 .byte [.int x0, .int (0 : Int32), .int (0 : Int32), .int (0 : Int32)] := A12
      have z12 : Z.heap.size ≤ h12.size := by rw [W12.size]; exact z11
      refine C.iload 78 at_76 rfl rfl ?_
      refine C.iconst 79 (1 : Int32) at_78 rfl rfl ?_
      refine C.icmpF 82 at_79 rfl (by decide) ?_
      refine C.aload 84 at_82 rfl rfl rfl ?_
      refine C.iconst 85 (1 : Int32) at_84 rfl rfl ?_
      refine C.iload 87 at_85 rfl rfl ?_
      refine C.bastoreB 88 1 x1 at_87 rfl Ab11_12 zb11 (by decide) rfl (Nat.le_of_ble_eq_true rfl) n1 ?_
      intro h13 W13 A13
      have Ab11_13 : Al Z h13 b11 .byte [.int x0, .int x1, .int (0 : Int32), .int (0 : Int32)] := A13
      have z13 : Z.heap.size ≤ h13.size := by rw [W13.size]; exact z12
      refine C.iload 90 at_88 rfl rfl ?_
      refine C.iconst 91 (2 : Int32) at_90 rfl rfl ?_
      refine C.icmpF 94 at_91 rfl (by decide) ?_
      refine C.aload 96 at_94 rfl rfl rfl ?_
      refine C.iconst 97 (2 : Int32) at_96 rfl rfl ?_
      refine C.iload 99 at_97 rfl rfl ?_
      refine C.bastoreB 100 2 x2 at_99 rfl Ab11_13 zb11 (by decide) rfl (Nat.le_of_ble_eq_true rfl) n2 ?_
      intro h14 W14 A14
      have Ab11_14 : Al Z h14 b11 .byte [.int x0, .int x1, .int x2, .int (0 : Int32)] := A14
      have z14 : Z.heap.size ≤ h14.size := by rw [W14.size]; exact z13
      refine C.iload 102 at_100 rfl rfl ?_
      refine C.iconst 103 (3 : Int32) at_102 rfl rfl ?_
      refine C.icmpF 106 at_103 rfl (by decide) ?_
      refine C.aload 108 at_106 rfl rfl rfl ?_
      refine C.iconst 109 (3 : Int32) at_108 rfl rfl ?_
      refine C.iload 111 at_109 rfl rfl ?_
      refine C.bastoreB 112 3 x3 at_111 rfl Ab11_14 zb11 (by decide) rfl (Nat.le_of_ble_eq_true rfl) n3 ?_
      intro h15 W15 A15
      have Ab11_15 : Al Z h15 b11 .byte [.int x0, .int x1, .int x2, .int x3] := A15
      have z15 : Z.heap.size ≤ h15.size := by rw [W15.size]; exact z14
      refine C.aload 114 at_112 rfl rfl rfl ?_
      by_cases d0 : x0 = (-17 : Int32)
      · by_cases d1 : x1 = (-69 : Int32)
        · by_cases d2 : x2 = (-65 : Int32)
          · refine C.callS 117 (as := [.ref b11]) (rest := []) (rm := ⟨1, 0, 0, 15⟩) 0 at_114 rfl (tw 1) (tw 2) (tw 3) (tw 4) (by decide) (ab_3 l Z a0' hw _ b11 _ Ab11_15 ub AU SU rfl x0 rfl d0 x1 rfl d1 x2 rfl d2) pd1 rfl rfl (Nat.le_of_eq rfl) (by decide) (by decide) (by decide) (by decide) rfl ?_
            refine same_intro ?_
            show W h15 1 4 117 #[.val (.int len), .val (.int p0), .val (.int p1), .val (.int p2), .val (.int p3), .val (.int mode), .val (.int (4 : Int32)), .val (.int x0), .val (.int x1), .val (.int x2), .val (.int x3), .val (.ref b11), .unset, .unset] [.int (3 : Int32)]
            refine C.istore 119 #[.val (.int len), .val (.int p0), .val (.int p1), .val (.int p2), .val (.int p3), .val (.int mode), .val (.int (4 : Int32)), .val (.int x0), .val (.int x1), .val (.int x2), .val (.int x3), .val (.ref b11), .val (.int (3 : Int32)), .unset] at_117 rfl rfl ?_
            refine C.iload 121 at_119 rfl rfl ?_
            refine C.iconst 122 (3 : Int32) at_121 rfl rfl ?_
            refine C.icmpF 125 at_122 rfl (by decide) ?_
            refine C.iload 127 at_125 rfl rfl ?_
            refine C.bipush 129 (-17 : Int32) at_127 rfl rfl ?_
            refine C.icmpF 132 at_129 rfl (teq d0).2 ?_
            refine C.iload 134 at_132 rfl rfl ?_
            refine C.bipush 136 (-69 : Int32) at_134 rfl rfl ?_
            refine C.icmpF 139 at_136 rfl (teq d1).2 ?_
            refine C.iload 141 at_139 rfl rfl ?_
            refine C.bipush 143 (-65 : Int32) at_141 rfl rfl ?_
            refine C.icmpF 146 at_143 rfl (teq d2).2 ?_
            refine C.iconst 147 (1 : Int32) at_146 rfl rfl ?_
            refine C.goto 151 at_147 rfl ?_
            refine C.istore 153 #[.val (.int len), .val (.int p0), .val (.int p1), .val (.int p2), .val (.int p3), .val (.int mode), .val (.int (4 : Int32)), .val (.int x0), .val (.int x1), .val (.int x2), .val (.int x3), .val (.ref b11), .val (.int (3 : Int32)), .val (.int (1 : Int32))] at_151 rfl rfl ?_
            refine C.iload 155 at_153 rfl rfl ?_
            refine C.iload 157 at_155 rfl rfl ?_
            refine C.ifF 160 at_157 rfl (by decide) ?_
            refine C.iconst 161 (3 : Int32) at_160 rfl rfl ?_
            refine C.goto 165 at_161 rfl ?_
            refine C.icmpF 168 at_165 rfl (by decide) ?_
            refine C.iconst 169 (1 : Int32) at_168 rfl rfl ?_
            refine C.goto 173 at_169 rfl ?_
            exact C.retI .boolean at_173 rfl (by simp) rfl (by decide) (by decide) rfl
          · refine C.callS 117 (as := [.ref b11]) (rest := []) (rm := ⟨1, 0, 0, 15⟩) 0 at_114 rfl (tw 1) (tw 2) (tw 3) (tw 4) (by decide) (ab_2 l Z a0' hw _ b11 _ Ab11_15 ub AU SU rfl x0 rfl d0 x1 rfl d1 x2 rfl d2) pd1 rfl rfl (Nat.le_of_eq rfl) (by decide) (by decide) (by decide) (by decide) rfl ?_
            refine same_intro ?_
            show W h15 1 4 117 #[.val (.int len), .val (.int p0), .val (.int p1), .val (.int p2), .val (.int p3), .val (.int mode), .val (.int (4 : Int32)), .val (.int x0), .val (.int x1), .val (.int x2), .val (.int x3), .val (.ref b11), .unset, .unset] [.int (0 : Int32)]
            refine C.istore 119 #[.val (.int len), .val (.int p0), .val (.int p1), .val (.int p2), .val (.int p3), .val (.int mode), .val (.int (4 : Int32)), .val (.int x0), .val (.int x1), .val (.int x2), .val (.int x3), .val (.ref b11), .val (.int (0 : Int32)), .unset] at_117 rfl rfl ?_
            refine C.iload 121 at_119 rfl rfl ?_
            refine C.iconst 122 (3 : Int32) at_121 rfl rfl ?_
            refine C.icmpF 125 at_122 rfl (by decide) ?_
            refine C.iload 127 at_125 rfl rfl ?_
            refine C.bipush 129 (-17 : Int32) at_127 rfl rfl ?_
            refine C.icmpF 132 at_129 rfl (teq d0).2 ?_
            refine C.iload 134 at_132 rfl rfl ?_
            refine C.bipush 136 (-69 : Int32) at_134 rfl rfl ?_
            refine C.icmpF 139 at_136 rfl (teq d1).2 ?_
            refine C.iload 141 at_139 rfl rfl ?_
            refine C.bipush 143 (-65 : Int32) at_141 rfl rfl ?_
            refine C.icmpT 150 at_143 rfl (feq d2).2 ?_
            refine C.iconst 151 (0 : Int32) at_150 rfl rfl ?_
            refine C.istore 153 #[.val (.int len), .val (.int p0), .val (.int p1), .val (.int p2), .val (.int p3), .val (.int mode), .val (.int (4 : Int32)), .val (.int x0), .val (.int x1), .val (.int x2), .val (.int x3), .val (.ref b11), .val (.int (0 : Int32)), .val (.int (0 : Int32))] at_151 rfl rfl ?_
            refine C.iload 155 at_153 rfl rfl ?_
            refine C.iload 157 at_155 rfl rfl ?_
            refine C.ifT 164 at_157 rfl (by decide) ?_
            refine C.iconst 165 (0 : Int32) at_164 rfl rfl ?_
            refine C.icmpF 168 at_165 rfl (by decide) ?_
            refine C.iconst 169 (1 : Int32) at_168 rfl rfl ?_
            refine C.goto 173 at_169 rfl ?_
            exact C.retI .boolean at_173 rfl (by simp) rfl (by decide) (by decide) rfl
        · refine C.callS 117 (as := [.ref b11]) (rest := []) (rm := ⟨1, 0, 0, 15⟩) 0 at_114 rfl (tw 1) (tw 2) (tw 3) (tw 4) (by decide) (ab_1 l Z a0' hw _ b11 _ Ab11_15 ub AU SU rfl x0 rfl d0 x1 rfl d1) pd1 rfl rfl (Nat.le_of_eq rfl) (by decide) (by decide) (by decide) (by decide) rfl ?_
          refine same_intro ?_
          show W h15 1 4 117 #[.val (.int len), .val (.int p0), .val (.int p1), .val (.int p2), .val (.int p3), .val (.int mode), .val (.int (4 : Int32)), .val (.int x0), .val (.int x1), .val (.int x2), .val (.int x3), .val (.ref b11), .unset, .unset] [.int (0 : Int32)]
          refine C.istore 119 #[.val (.int len), .val (.int p0), .val (.int p1), .val (.int p2), .val (.int p3), .val (.int mode), .val (.int (4 : Int32)), .val (.int x0), .val (.int x1), .val (.int x2), .val (.int x3), .val (.ref b11), .val (.int (0 : Int32)), .unset] at_117 rfl rfl ?_
          refine C.iload 121 at_119 rfl rfl ?_
          refine C.iconst 122 (3 : Int32) at_121 rfl rfl ?_
          refine C.icmpF 125 at_122 rfl (by decide) ?_
          refine C.iload 127 at_125 rfl rfl ?_
          refine C.bipush 129 (-17 : Int32) at_127 rfl rfl ?_
          refine C.icmpF 132 at_129 rfl (teq d0).2 ?_
          refine C.iload 134 at_132 rfl rfl ?_
          refine C.bipush 136 (-69 : Int32) at_134 rfl rfl ?_
          refine C.icmpT 150 at_136 rfl (feq d1).2 ?_
          refine C.iconst 151 (0 : Int32) at_150 rfl rfl ?_
          refine C.istore 153 #[.val (.int len), .val (.int p0), .val (.int p1), .val (.int p2), .val (.int p3), .val (.int mode), .val (.int (4 : Int32)), .val (.int x0), .val (.int x1), .val (.int x2), .val (.int x3), .val (.ref b11), .val (.int (0 : Int32)), .val (.int (0 : Int32))] at_151 rfl rfl ?_
          refine C.iload 155 at_153 rfl rfl ?_
          refine C.iload 157 at_155 rfl rfl ?_
          refine C.ifT 164 at_157 rfl (by decide) ?_
          refine C.iconst 165 (0 : Int32) at_164 rfl rfl ?_
          refine C.icmpF 168 at_165 rfl (by decide) ?_
          refine C.iconst 169 (1 : Int32) at_168 rfl rfl ?_
          refine C.goto 173 at_169 rfl ?_
          exact C.retI .boolean at_173 rfl (by simp) rfl (by decide) (by decide) rfl
      · refine C.callS 117 (as := [.ref b11]) (rest := []) (rm := ⟨1, 0, 0, 15⟩) 0 at_114 rfl (tw 1) (tw 2) (tw 3) (tw 4) (by decide) (ab_0 l Z a0' hw _ b11 _ Ab11_15 ub AU SU rfl x0 rfl d0) pd1 rfl rfl (Nat.le_of_eq rfl) (by decide) (by decide) (by decide) (by decide) rfl ?_
        refine same_intro ?_
        show W h15 1 4 117 #[.val (.int len), .val (.int p0), .val (.int p1), .val (.int p2), .val (.int p3), .val (.int mode), .val (.int (4 : Int32)), .val (.int x0), .val (.int x1), .val (.int x2), .val (.int x3), .val (.ref b11), .unset, .unset] [.int (0 : Int32)]
        refine C.istore 119 #[.val (.int len), .val (.int p0), .val (.int p1), .val (.int p2), .val (.int p3), .val (.int mode), .val (.int (4 : Int32)), .val (.int x0), .val (.int x1), .val (.int x2), .val (.int x3), .val (.ref b11), .val (.int (0 : Int32)), .unset] at_117 rfl rfl ?_
        refine C.iload 121 at_119 rfl rfl ?_
        refine C.iconst 122 (3 : Int32) at_121 rfl rfl ?_
        refine C.icmpF 125 at_122 rfl (by decide) ?_
        refine C.iload 127 at_125 rfl rfl ?_
        refine C.bipush 129 (-17 : Int32) at_127 rfl rfl ?_
        refine C.icmpT 150 at_129 rfl (feq d0).2 ?_
        refine C.iconst 151 (0 : Int32) at_150 rfl rfl ?_
        refine C.istore 153 #[.val (.int len), .val (.int p0), .val (.int p1), .val (.int p2), .val (.int p3), .val (.int mode), .val (.int (4 : Int32)), .val (.int x0), .val (.int x1), .val (.int x2), .val (.int x3), .val (.ref b11), .val (.int (0 : Int32)), .val (.int (0 : Int32))] at_151 rfl rfl ?_
        refine C.iload 155 at_153 rfl rfl ?_
        refine C.iload 157 at_155 rfl rfl ?_
        refine C.ifT 164 at_157 rfl (by decide) ?_
        refine C.iconst 165 (0 : Int32) at_164 rfl rfl ?_
        refine C.icmpF 168 at_165 rfl (by decide) ?_
        refine C.iconst 169 (1 : Int32) at_168 rfl rfl ?_
        refine C.goto 173 at_169 rfl ?_
        exact C.retI .boolean at_173 rfl (by simp) rfl (by decide) (by decide) rfl
    | 5, _ =>
      show W Z.heap 0 0 59 #[.val (.int len), .val (.int p0), .val (.int p1), .val (.int p2), .val (.int p3), .val (.int mode), .val (.int (5 : Int32)), .val (.int x0), .val (.int x1), .val (.int x2), .val (.int x3), .unset, .unset, .unset] []
      refine C.iload 61 at_59 rfl rfl ?_
      refine C.newarray 63 5 at_61 rfl (tw 0) (by decide) (by decide) (by decide) (by decide) (by decide) ?_
      intro h16 E16 A16
      obtain ⟨b16, g16⟩ : ∃ z, z = Z.heap.size := ⟨_, rfl⟩
      rw [← g16] at A16 ⊢
      have Ab16_16 : Al Z h16 b16 .byte [.int (0 : Int32), .int (0 : Int32), .int (0 : Int32), .int (0 : Int32), .int (0 : Int32)] := A16
      have z16 : Z.heap.size ≤ h16.size := Nat.le_trans z0 E16.1
      have zb16 : Z.heap.size ≤ b16 := by rw [g16]; exact z0
      show W h16 1 5 63 #[.val (.int len), .val (.int p0), .val (.int p1), .val (.int p2), .val (.int p3), .val (.int mode), .val (.int (5 : Int32)), .val (.int x0), .val (.int x1), .val (.int x2), .val (.int x3), .unset, .unset, .unset] [.ref b16]
      refine C.astore 65 #[.val (.int len), .val (.int p0), .val (.int p1), .val (.int p2), .val (.int p3), .val (.int mode), .val (.int (5 : Int32)), .val (.int x0), .val (.int x1), .val (.int x2), .val (.int x3), .val (.ref b16), .unset, .unset] at_63 rfl rfl rfl ?_
      refine C.iload 67 at_65 rfl rfl ?_
      refine C.ifF 70 at_67 rfl (by decide) ?_
      refine C.aload 72 at_70 rfl rfl rfl ?_
      refine C.iconst 73 (0 : Int32) at_72 rfl rfl ?_
      refine C.iload 75 at_73 rfl rfl ?_
      refine C.bastoreB 76 0 x0 at_75 rfl Ab16_16 zb16 (by decide) rfl (Nat.le_of_ble_eq_true rfl) n0 ?_
      intro h17 W17 A17
      have Ab16_17 : Al Z h17 b16 .byte [.int x0, .int (0 : Int32), .int (0 : Int32), .int (0 : Int32), .int (0 : Int32)] := A17
      have z17 : Z.heap.size ≤ h17.size := by rw [W17.size]; exact z16
      refine C.iload 78 at_76 rfl rfl ?_
      refine C.iconst 79 (1 : Int32) at_78 rfl rfl ?_
      refine C.icmpF 82 at_79 rfl (by decide) ?_
      refine C.aload 84 at_82 rfl rfl rfl ?_
      refine C.iconst 85 (1 : Int32) at_84 rfl rfl ?_
      refine C.iload 87 at_85 rfl rfl ?_
      refine C.bastoreB 88 1 x1 at_87 rfl Ab16_17 zb16 (by decide) rfl (Nat.le_of_ble_eq_true rfl) n1 ?_
      intro h18 W18 A18
      have Ab16_18 : Al Z h18 b16 .byte [.int x0, .int x1, .int (0 : Int32), .int (0 : Int32), .int (0 : Int32)] := A18
      have z18 : Z.heap.size ≤ h18.size := by rw [W18.size]; exact z17
      refine C.iload 90 at_88 rfl rfl ?_
      refine C.iconst 91 (2 : Int32) at_90 rfl rfl ?_
      refine C.icmpF 94 at_91 rfl (by decide) ?_
      refine C.aload 96 at_94 rfl rfl rfl ?_
      refine C.iconst 97 (2 : Int32) at_96 rfl rfl ?_
      refine C.iload 99 at_97 rfl rfl ?_
      refine C.bastoreB 100 2 x2 at_99 rfl Ab16_18 zb16 (by decide) rfl (Nat.le_of_ble_eq_true rfl) n2 ?_
      intro h19 W19 A19
      have Ab16_19 : Al Z h19 b16 .byte [.int x0, .int x1, .int x2, .int (0 : Int32), .int (0 : Int32)] := A19
      have z19 : Z.heap.size ≤ h19.size := by rw [W19.size]; exact z18
      refine C.iload 102 at_100 rfl rfl ?_
      refine C.iconst 103 (3 : Int32) at_102 rfl rfl ?_
      refine C.icmpF 106 at_103 rfl (by decide) ?_
      refine C.aload 108 at_106 rfl rfl rfl ?_
      refine C.iconst 109 (3 : Int32) at_108 rfl rfl ?_
      refine C.iload 111 at_109 rfl rfl ?_
      refine C.bastoreB 112 3 x3 at_111 rfl Ab16_19 zb16 (by decide) rfl (Nat.le_of_ble_eq_true rfl) n3 ?_
      intro h20 W20 A20
      have Ab16_20 : Al Z h20 b16 .byte [.int x0, .int x1, .int x2, .int x3, .int (0 : Int32)] := A20
      have z20 : Z.heap.size ≤ h20.size := by rw [W20.size]; exact z19
      refine C.aload 114 at_112 rfl rfl rfl ?_
      by_cases d0 : x0 = (-17 : Int32)
      · by_cases d1 : x1 = (-69 : Int32)
        · by_cases d2 : x2 = (-65 : Int32)
          · refine C.callS 117 (as := [.ref b16]) (rest := []) (rm := ⟨1, 0, 0, 15⟩) 0 at_114 rfl (tw 1) (tw 2) (tw 3) (tw 4) (by decide) (ab_3 l Z a0' hw _ b16 _ Ab16_20 ub AU SU rfl x0 rfl d0 x1 rfl d1 x2 rfl d2) pd1 rfl rfl (Nat.le_of_eq rfl) (by decide) (by decide) (by decide) (by decide) rfl ?_
            refine same_intro ?_
            show W h20 1 5 117 #[.val (.int len), .val (.int p0), .val (.int p1), .val (.int p2), .val (.int p3), .val (.int mode), .val (.int (5 : Int32)), .val (.int x0), .val (.int x1), .val (.int x2), .val (.int x3), .val (.ref b16), .unset, .unset] [.int (3 : Int32)]
            refine C.istore 119 #[.val (.int len), .val (.int p0), .val (.int p1), .val (.int p2), .val (.int p3), .val (.int mode), .val (.int (5 : Int32)), .val (.int x0), .val (.int x1), .val (.int x2), .val (.int x3), .val (.ref b16), .val (.int (3 : Int32)), .unset] at_117 rfl rfl ?_
            refine C.iload 121 at_119 rfl rfl ?_
            refine C.iconst 122 (3 : Int32) at_121 rfl rfl ?_
            refine C.icmpF 125 at_122 rfl (by decide) ?_
            refine C.iload 127 at_125 rfl rfl ?_
            refine C.bipush 129 (-17 : Int32) at_127 rfl rfl ?_
            refine C.icmpF 132 at_129 rfl (teq d0).2 ?_
            refine C.iload 134 at_132 rfl rfl ?_
            refine C.bipush 136 (-69 : Int32) at_134 rfl rfl ?_
            refine C.icmpF 139 at_136 rfl (teq d1).2 ?_
            refine C.iload 141 at_139 rfl rfl ?_
            refine C.bipush 143 (-65 : Int32) at_141 rfl rfl ?_
            refine C.icmpF 146 at_143 rfl (teq d2).2 ?_
            refine C.iconst 147 (1 : Int32) at_146 rfl rfl ?_
            refine C.goto 151 at_147 rfl ?_
            refine C.istore 153 #[.val (.int len), .val (.int p0), .val (.int p1), .val (.int p2), .val (.int p3), .val (.int mode), .val (.int (5 : Int32)), .val (.int x0), .val (.int x1), .val (.int x2), .val (.int x3), .val (.ref b16), .val (.int (3 : Int32)), .val (.int (1 : Int32))] at_151 rfl rfl ?_
            refine C.iload 155 at_153 rfl rfl ?_
            refine C.iload 157 at_155 rfl rfl ?_
            refine C.ifF 160 at_157 rfl (by decide) ?_
            refine C.iconst 161 (3 : Int32) at_160 rfl rfl ?_
            refine C.goto 165 at_161 rfl ?_
            refine C.icmpF 168 at_165 rfl (by decide) ?_
            refine C.iconst 169 (1 : Int32) at_168 rfl rfl ?_
            refine C.goto 173 at_169 rfl ?_
            exact C.retI .boolean at_173 rfl (by simp) rfl (by decide) (by decide) rfl
          · refine C.callS 117 (as := [.ref b16]) (rest := []) (rm := ⟨1, 0, 0, 15⟩) 0 at_114 rfl (tw 1) (tw 2) (tw 3) (tw 4) (by decide) (ab_2 l Z a0' hw _ b16 _ Ab16_20 ub AU SU rfl x0 rfl d0 x1 rfl d1 x2 rfl d2) pd1 rfl rfl (Nat.le_of_eq rfl) (by decide) (by decide) (by decide) (by decide) rfl ?_
            refine same_intro ?_
            show W h20 1 5 117 #[.val (.int len), .val (.int p0), .val (.int p1), .val (.int p2), .val (.int p3), .val (.int mode), .val (.int (5 : Int32)), .val (.int x0), .val (.int x1), .val (.int x2), .val (.int x3), .val (.ref b16), .unset, .unset] [.int (0 : Int32)]
            refine C.istore 119 #[.val (.int len), .val (.int p0), .val (.int p1), .val (.int p2), .val (.int p3), .val (.int mode), .val (.int (5 : Int32)), .val (.int x0), .val (.int x1), .val (.int x2), .val (.int x3), .val (.ref b16), .val (.int (0 : Int32)), .unset] at_117 rfl rfl ?_
            refine C.iload 121 at_119 rfl rfl ?_
            refine C.iconst 122 (3 : Int32) at_121 rfl rfl ?_
            refine C.icmpF 125 at_122 rfl (by decide) ?_
            refine C.iload 127 at_125 rfl rfl ?_
            refine C.bipush 129 (-17 : Int32) at_127 rfl rfl ?_
            refine C.icmpF 132 at_129 rfl (teq d0).2 ?_
            refine C.iload 134 at_132 rfl rfl ?_
            refine C.bipush 136 (-69 : Int32) at_134 rfl rfl ?_
            refine C.icmpF 139 at_136 rfl (teq d1).2 ?_
            refine C.iload 141 at_139 rfl rfl ?_
            refine C.bipush 143 (-65 : Int32) at_141 rfl rfl ?_
            refine C.icmpT 150 at_143 rfl (feq d2).2 ?_
            refine C.iconst 151 (0 : Int32) at_150 rfl rfl ?_
            refine C.istore 153 #[.val (.int len), .val (.int p0), .val (.int p1), .val (.int p2), .val (.int p3), .val (.int mode), .val (.int (5 : Int32)), .val (.int x0), .val (.int x1), .val (.int x2), .val (.int x3), .val (.ref b16), .val (.int (0 : Int32)), .val (.int (0 : Int32))] at_151 rfl rfl ?_
            refine C.iload 155 at_153 rfl rfl ?_
            refine C.iload 157 at_155 rfl rfl ?_
            refine C.ifT 164 at_157 rfl (by decide) ?_
            refine C.iconst 165 (0 : Int32) at_164 rfl rfl ?_
            refine C.icmpF 168 at_165 rfl (by decide) ?_
            refine C.iconst 169 (1 : Int32) at_168 rfl rfl ?_
            refine C.goto 173 at_169 rfl ?_
            exact C.retI .boolean at_173 rfl (by simp) rfl (by decide) (by decide) rfl
        · refine C.callS 117 (as := [.ref b16]) (rest := []) (rm := ⟨1, 0, 0, 15⟩) 0 at_114 rfl (tw 1) (tw 2) (tw 3) (tw 4) (by decide) (ab_1 l Z a0' hw _ b16 _ Ab16_20 ub AU SU rfl x0 rfl d0 x1 rfl d1) pd1 rfl rfl (Nat.le_of_eq rfl) (by decide) (by decide) (by decide) (by decide) rfl ?_
          refine same_intro ?_
          show W h20 1 5 117 #[.val (.int len), .val (.int p0), .val (.int p1), .val (.int p2), .val (.int p3), .val (.int mode), .val (.int (5 : Int32)), .val (.int x0), .val (.int x1), .val (.int x2), .val (.int x3), .val (.ref b16), .unset, .unset] [.int (0 : Int32)]
          refine C.istore 119 #[.val (.int len), .val (.int p0), .val (.int p1), .val (.int p2), .val (.int p3), .val (.int mode), .val (.int (5 : Int32)), .val (.int x0), .val (.int x1), .val (.int x2), .val (.int x3), .val (.ref b16), .val (.int (0 : Int32)), .unset] at_117 rfl rfl ?_
          refine C.iload 121 at_119 rfl rfl ?_
          refine C.iconst 122 (3 : Int32) at_121 rfl rfl ?_
          refine C.icmpF 125 at_122 rfl (by decide) ?_
          refine C.iload 127 at_125 rfl rfl ?_
          refine C.bipush 129 (-17 : Int32) at_127 rfl rfl ?_
          refine C.icmpF 132 at_129 rfl (teq d0).2 ?_
          refine C.iload 134 at_132 rfl rfl ?_
          refine C.bipush 136 (-69 : Int32) at_134 rfl rfl ?_
          refine C.icmpT 150 at_136 rfl (feq d1).2 ?_
          refine C.iconst 151 (0 : Int32) at_150 rfl rfl ?_
          refine C.istore 153 #[.val (.int len), .val (.int p0), .val (.int p1), .val (.int p2), .val (.int p3), .val (.int mode), .val (.int (5 : Int32)), .val (.int x0), .val (.int x1), .val (.int x2), .val (.int x3), .val (.ref b16), .val (.int (0 : Int32)), .val (.int (0 : Int32))] at_151 rfl rfl ?_
          refine C.iload 155 at_153 rfl rfl ?_
          refine C.iload 157 at_155 rfl rfl ?_
          refine C.ifT 164 at_157 rfl (by decide) ?_
          refine C.iconst 165 (0 : Int32) at_164 rfl rfl ?_
          refine C.icmpF 168 at_165 rfl (by decide) ?_
          refine C.iconst 169 (1 : Int32) at_168 rfl rfl ?_
          refine C.goto 173 at_169 rfl ?_
          exact C.retI .boolean at_173 rfl (by simp) rfl (by decide) (by decide) rfl
      · refine C.callS 117 (as := [.ref b16]) (rest := []) (rm := ⟨1, 0, 0, 15⟩) 0 at_114 rfl (tw 1) (tw 2) (tw 3) (tw 4) (by decide) (ab_0 l Z a0' hw _ b16 _ Ab16_20 ub AU SU rfl x0 rfl d0) pd1 rfl rfl (Nat.le_of_eq rfl) (by decide) (by decide) (by decide) (by decide) rfl ?_
        refine same_intro ?_
        show W h20 1 5 117 #[.val (.int len), .val (.int p0), .val (.int p1), .val (.int p2), .val (.int p3), .val (.int mode), .val (.int (5 : Int32)), .val (.int x0), .val (.int x1), .val (.int x2), .val (.int x3), .val (.ref b16), .unset, .unset] [.int (0 : Int32)]
        refine C.istore 119 #[.val (.int len), .val (.int p0), .val (.int p1), .val (.int p2), .val (.int p3), .val (.int mode), .val (.int (5 : Int32)), .val (.int x0), .val (.int x1), .val (.int x2), .val (.int x3), .val (.ref b16), .val (.int (0 : Int32)), .unset] at_117 rfl rfl ?_
        refine C.iload 121 at_119 rfl rfl ?_
        refine C.iconst 122 (3 : Int32) at_121 rfl rfl ?_
        refine C.icmpF 125 at_122 rfl (by decide) ?_
        refine C.iload 127 at_125 rfl rfl ?_
        refine C.bipush 129 (-17 : Int32) at_127 rfl rfl ?_
        refine C.icmpT 150 at_129 rfl (feq d0).2 ?_
        refine C.iconst 151 (0 : Int32) at_150 rfl rfl ?_
        refine C.istore 153 #[.val (.int len), .val (.int p0), .val (.int p1), .val (.int p2), .val (.int p3), .val (.int mode), .val (.int (5 : Int32)), .val (.int x0), .val (.int x1), .val (.int x2), .val (.int x3), .val (.ref b16), .val (.int (0 : Int32)), .val (.int (0 : Int32))] at_151 rfl rfl ?_
        refine C.iload 155 at_153 rfl rfl ?_
        refine C.iload 157 at_155 rfl rfl ?_
        refine C.ifT 164 at_157 rfl (by decide) ?_
        refine C.iconst 165 (0 : Int32) at_164 rfl rfl ?_
        refine C.icmpF 168 at_165 rfl (by decide) ?_
        refine C.iconst 169 (1 : Int32) at_168 rfl rfl ?_
        refine C.goto 173 at_169 rfl ?_
        exact C.retI .boolean at_173 rfl (by simp) rfl (by decide) (by decide) rfl
    | 6, _ =>
      show W Z.heap 0 0 59 #[.val (.int len), .val (.int p0), .val (.int p1), .val (.int p2), .val (.int p3), .val (.int mode), .val (.int (6 : Int32)), .val (.int x0), .val (.int x1), .val (.int x2), .val (.int x3), .unset, .unset, .unset] []
      refine C.iload 61 at_59 rfl rfl ?_
      refine C.newarray 63 6 at_61 rfl (tw 0) (by decide) (by decide) (by decide) (by decide) (by decide) ?_
      intro h21 E21 A21
      obtain ⟨b21, g21⟩ : ∃ z, z = Z.heap.size := ⟨_, rfl⟩
      rw [← g21] at A21 ⊢
      have Ab21_21 : Al Z h21 b21 .byte [.int (0 : Int32), .int (0 : Int32), .int (0 : Int32), .int (0 : Int32), .int (0 : Int32), .int (0 : Int32)] := A21
      have z21 : Z.heap.size ≤ h21.size := Nat.le_trans z0 E21.1
      have zb21 : Z.heap.size ≤ b21 := by rw [g21]; exact z0
      show W h21 1 6 63 #[.val (.int len), .val (.int p0), .val (.int p1), .val (.int p2), .val (.int p3), .val (.int mode), .val (.int (6 : Int32)), .val (.int x0), .val (.int x1), .val (.int x2), .val (.int x3), .unset, .unset, .unset] [.ref b21]
      refine C.astore 65 #[.val (.int len), .val (.int p0), .val (.int p1), .val (.int p2), .val (.int p3), .val (.int mode), .val (.int (6 : Int32)), .val (.int x0), .val (.int x1), .val (.int x2), .val (.int x3), .val (.ref b21), .unset, .unset] at_63 rfl rfl rfl ?_
      refine C.iload 67 at_65 rfl rfl ?_
      refine C.ifF 70 at_67 rfl (by decide) ?_
      refine C.aload 72 at_70 rfl rfl rfl ?_
      refine C.iconst 73 (0 : Int32) at_72 rfl rfl ?_
      refine C.iload 75 at_73 rfl rfl ?_
      refine C.bastoreB 76 0 x0 at_75 rfl Ab21_21 zb21 (by decide) rfl (Nat.le_of_ble_eq_true rfl) n0 ?_
      intro h22 W22 A22
      have Ab21_22 : Al Z h22 b21 .byte [.int x0, .int (0 : Int32), .int (0 : Int32), .int (0 : Int32), .int (0 : Int32), .int (0 : Int32)] := A22
      have z22 : Z.heap.size ≤ h22.size := by rw [W22.size]; exact z21
      refine C.iload 78 at_76 rfl rfl ?_
      refine C.iconst 79 (1 : Int32) at_78 rfl rfl ?_
      refine C.icmpF 82 at_79 rfl (by decide) ?_
      refine C.aload 84 at_82 rfl rfl rfl ?_
      refine C.iconst 85 (1 : Int32) at_84 rfl rfl ?_
      refine C.iload 87 at_85 rfl rfl ?_
      refine C.bastoreB 88 1 x1 at_87 rfl Ab21_22 zb21 (by decide) rfl (Nat.le_of_ble_eq_true rfl) n1 ?_
      intro h23 W23 A23
      have Ab21_23 : Al Z h23 b21 .byte [.int x0, .int x1, .int (0 : Int32), .int (0 : Int32), .int (0 : Int32), .int (0 : Int32)] := A23
      have z23 : Z.heap.size ≤ h23.size := by rw [W23.size]; exact z22
      refine C.iload 90 at_88 rfl rfl ?_
      refine C.iconst 91 (2 : Int32) at_90 rfl rfl ?_
      refine C.icmpF 94 at_91 rfl (by decide) ?_
      refine C.aload 96 at_94 rfl rfl rfl ?_
      refine C.iconst 97 (2 : Int32) at_96 rfl rfl ?_
      refine C.iload 99 at_97 rfl rfl ?_
      refine C.bastoreB 100 2 x2 at_99 rfl Ab21_23 zb21 (by decide) rfl (Nat.le_of_ble_eq_true rfl) n2 ?_
      intro h24 W24 A24
      have Ab21_24 : Al Z h24 b21 .byte [.int x0, .int x1, .int x2, .int (0 : Int32), .int (0 : Int32), .int (0 : Int32)] := A24
      have z24 : Z.heap.size ≤ h24.size := by rw [W24.size]; exact z23
      refine C.iload 102 at_100 rfl rfl ?_
      refine C.iconst 103 (3 : Int32) at_102 rfl rfl ?_
      refine C.icmpF 106 at_103 rfl (by decide) ?_
      refine C.aload 108 at_106 rfl rfl rfl ?_
      refine C.iconst 109 (3 : Int32) at_108 rfl rfl ?_
      refine C.iload 111 at_109 rfl rfl ?_
      refine C.bastoreB 112 3 x3 at_111 rfl Ab21_24 zb21 (by decide) rfl (Nat.le_of_ble_eq_true rfl) n3 ?_
      intro h25 W25 A25
      have Ab21_25 : Al Z h25 b21 .byte [.int x0, .int x1, .int x2, .int x3, .int (0 : Int32), .int (0 : Int32)] := A25
      have z25 : Z.heap.size ≤ h25.size := by rw [W25.size]; exact z24
      refine C.aload 114 at_112 rfl rfl rfl ?_
      by_cases d0 : x0 = (-17 : Int32)
      · by_cases d1 : x1 = (-69 : Int32)
        · by_cases d2 : x2 = (-65 : Int32)
          · refine C.callS 117 (as := [.ref b21]) (rest := []) (rm := ⟨1, 0, 0, 15⟩) 0 at_114 rfl (tw 1) (tw 2) (tw 3) (tw 4) (by decide) (ab_3 l Z a0' hw _ b21 _ Ab21_25 ub AU SU rfl x0 rfl d0 x1 rfl d1 x2 rfl d2) pd1 rfl rfl (Nat.le_of_eq rfl) (by decide) (by decide) (by decide) (by decide) rfl ?_
            refine same_intro ?_
            show W h25 1 6 117 #[.val (.int len), .val (.int p0), .val (.int p1), .val (.int p2), .val (.int p3), .val (.int mode), .val (.int (6 : Int32)), .val (.int x0), .val (.int x1), .val (.int x2), .val (.int x3), .val (.ref b21), .unset, .unset] [.int (3 : Int32)]
            refine C.istore 119 #[.val (.int len), .val (.int p0), .val (.int p1), .val (.int p2), .val (.int p3), .val (.int mode), .val (.int (6 : Int32)), .val (.int x0), .val (.int x1), .val (.int x2), .val (.int x3), .val (.ref b21), .val (.int (3 : Int32)), .unset] at_117 rfl rfl ?_
            refine C.iload 121 at_119 rfl rfl ?_
            refine C.iconst 122 (3 : Int32) at_121 rfl rfl ?_
            refine C.icmpF 125 at_122 rfl (by decide) ?_
            refine C.iload 127 at_125 rfl rfl ?_
            refine C.bipush 129 (-17 : Int32) at_127 rfl rfl ?_
            refine C.icmpF 132 at_129 rfl (teq d0).2 ?_
            refine C.iload 134 at_132 rfl rfl ?_
            refine C.bipush 136 (-69 : Int32) at_134 rfl rfl ?_
            refine C.icmpF 139 at_136 rfl (teq d1).2 ?_
            refine C.iload 141 at_139 rfl rfl ?_
            refine C.bipush 143 (-65 : Int32) at_141 rfl rfl ?_
            refine C.icmpF 146 at_143 rfl (teq d2).2 ?_
            refine C.iconst 147 (1 : Int32) at_146 rfl rfl ?_
            refine C.goto 151 at_147 rfl ?_
            refine C.istore 153 #[.val (.int len), .val (.int p0), .val (.int p1), .val (.int p2), .val (.int p3), .val (.int mode), .val (.int (6 : Int32)), .val (.int x0), .val (.int x1), .val (.int x2), .val (.int x3), .val (.ref b21), .val (.int (3 : Int32)), .val (.int (1 : Int32))] at_151 rfl rfl ?_
            refine C.iload 155 at_153 rfl rfl ?_
            refine C.iload 157 at_155 rfl rfl ?_
            refine C.ifF 160 at_157 rfl (by decide) ?_
            refine C.iconst 161 (3 : Int32) at_160 rfl rfl ?_
            refine C.goto 165 at_161 rfl ?_
            refine C.icmpF 168 at_165 rfl (by decide) ?_
            refine C.iconst 169 (1 : Int32) at_168 rfl rfl ?_
            refine C.goto 173 at_169 rfl ?_
            exact C.retI .boolean at_173 rfl (by simp) rfl (by decide) (by decide) rfl
          · refine C.callS 117 (as := [.ref b21]) (rest := []) (rm := ⟨1, 0, 0, 15⟩) 0 at_114 rfl (tw 1) (tw 2) (tw 3) (tw 4) (by decide) (ab_2 l Z a0' hw _ b21 _ Ab21_25 ub AU SU rfl x0 rfl d0 x1 rfl d1 x2 rfl d2) pd1 rfl rfl (Nat.le_of_eq rfl) (by decide) (by decide) (by decide) (by decide) rfl ?_
            refine same_intro ?_
            show W h25 1 6 117 #[.val (.int len), .val (.int p0), .val (.int p1), .val (.int p2), .val (.int p3), .val (.int mode), .val (.int (6 : Int32)), .val (.int x0), .val (.int x1), .val (.int x2), .val (.int x3), .val (.ref b21), .unset, .unset] [.int (0 : Int32)]
            refine C.istore 119 #[.val (.int len), .val (.int p0), .val (.int p1), .val (.int p2), .val (.int p3), .val (.int mode), .val (.int (6 : Int32)), .val (.int x0), .val (.int x1), .val (.int x2), .val (.int x3), .val (.ref b21), .val (.int (0 : Int32)), .unset] at_117 rfl rfl ?_
            refine C.iload 121 at_119 rfl rfl ?_
            refine C.iconst 122 (3 : Int32) at_121 rfl rfl ?_
            refine C.icmpF 125 at_122 rfl (by decide) ?_
            refine C.iload 127 at_125 rfl rfl ?_
            refine C.bipush 129 (-17 : Int32) at_127 rfl rfl ?_
            refine C.icmpF 132 at_129 rfl (teq d0).2 ?_
            refine C.iload 134 at_132 rfl rfl ?_
            refine C.bipush 136 (-69 : Int32) at_134 rfl rfl ?_
            refine C.icmpF 139 at_136 rfl (teq d1).2 ?_
            refine C.iload 141 at_139 rfl rfl ?_
            refine C.bipush 143 (-65 : Int32) at_141 rfl rfl ?_
            refine C.icmpT 150 at_143 rfl (feq d2).2 ?_
            refine C.iconst 151 (0 : Int32) at_150 rfl rfl ?_
            refine C.istore 153 #[.val (.int len), .val (.int p0), .val (.int p1), .val (.int p2), .val (.int p3), .val (.int mode), .val (.int (6 : Int32)), .val (.int x0), .val (.int x1), .val (.int x2), .val (.int x3), .val (.ref b21), .val (.int (0 : Int32)), .val (.int (0 : Int32))] at_151 rfl rfl ?_
            refine C.iload 155 at_153 rfl rfl ?_
            refine C.iload 157 at_155 rfl rfl ?_
            refine C.ifT 164 at_157 rfl (by decide) ?_
            refine C.iconst 165 (0 : Int32) at_164 rfl rfl ?_
            refine C.icmpF 168 at_165 rfl (by decide) ?_
            refine C.iconst 169 (1 : Int32) at_168 rfl rfl ?_
            refine C.goto 173 at_169 rfl ?_
            exact C.retI .boolean at_173 rfl (by simp) rfl (by decide) (by decide) rfl
        · refine C.callS 117 (as := [.ref b21]) (rest := []) (rm := ⟨1, 0, 0, 15⟩) 0 at_114 rfl (tw 1) (tw 2) (tw 3) (tw 4) (by decide) (ab_1 l Z a0' hw _ b21 _ Ab21_25 ub AU SU rfl x0 rfl d0 x1 rfl d1) pd1 rfl rfl (Nat.le_of_eq rfl) (by decide) (by decide) (by decide) (by decide) rfl ?_
          refine same_intro ?_
          show W h25 1 6 117 #[.val (.int len), .val (.int p0), .val (.int p1), .val (.int p2), .val (.int p3), .val (.int mode), .val (.int (6 : Int32)), .val (.int x0), .val (.int x1), .val (.int x2), .val (.int x3), .val (.ref b21), .unset, .unset] [.int (0 : Int32)]
          refine C.istore 119 #[.val (.int len), .val (.int p0), .val (.int p1), .val (.int p2), .val (.int p3), .val (.int mode), .val (.int (6 : Int32)), .val (.int x0), .val (.int x1), .val (.int x2), .val (.int x3), .val (.ref b21), .val (.int (0 : Int32)), .unset] at_117 rfl rfl ?_
          refine C.iload 121 at_119 rfl rfl ?_
          refine C.iconst 122 (3 : Int32) at_121 rfl rfl ?_
          refine C.icmpF 125 at_122 rfl (by decide) ?_
          refine C.iload 127 at_125 rfl rfl ?_
          refine C.bipush 129 (-17 : Int32) at_127 rfl rfl ?_
          refine C.icmpF 132 at_129 rfl (teq d0).2 ?_
          refine C.iload 134 at_132 rfl rfl ?_
          refine C.bipush 136 (-69 : Int32) at_134 rfl rfl ?_
          refine C.icmpT 150 at_136 rfl (feq d1).2 ?_
          refine C.iconst 151 (0 : Int32) at_150 rfl rfl ?_
          refine C.istore 153 #[.val (.int len), .val (.int p0), .val (.int p1), .val (.int p2), .val (.int p3), .val (.int mode), .val (.int (6 : Int32)), .val (.int x0), .val (.int x1), .val (.int x2), .val (.int x3), .val (.ref b21), .val (.int (0 : Int32)), .val (.int (0 : Int32))] at_151 rfl rfl ?_
          refine C.iload 155 at_153 rfl rfl ?_
          refine C.iload 157 at_155 rfl rfl ?_
          refine C.ifT 164 at_157 rfl (by decide) ?_
          refine C.iconst 165 (0 : Int32) at_164 rfl rfl ?_
          refine C.icmpF 168 at_165 rfl (by decide) ?_
          refine C.iconst 169 (1 : Int32) at_168 rfl rfl ?_
          refine C.goto 173 at_169 rfl ?_
          exact C.retI .boolean at_173 rfl (by simp) rfl (by decide) (by decide) rfl
      · refine C.callS 117 (as := [.ref b21]) (rest := []) (rm := ⟨1, 0, 0, 15⟩) 0 at_114 rfl (tw 1) (tw 2) (tw 3) (tw 4) (by decide) (ab_0 l Z a0' hw _ b21 _ Ab21_25 ub AU SU rfl x0 rfl d0) pd1 rfl rfl (Nat.le_of_eq rfl) (by decide) (by decide) (by decide) (by decide) rfl ?_
        refine same_intro ?_
        show W h25 1 6 117 #[.val (.int len), .val (.int p0), .val (.int p1), .val (.int p2), .val (.int p3), .val (.int mode), .val (.int (6 : Int32)), .val (.int x0), .val (.int x1), .val (.int x2), .val (.int x3), .val (.ref b21), .unset, .unset] [.int (0 : Int32)]
        refine C.istore 119 #[.val (.int len), .val (.int p0), .val (.int p1), .val (.int p2), .val (.int p3), .val (.int mode), .val (.int (6 : Int32)), .val (.int x0), .val (.int x1), .val (.int x2), .val (.int x3), .val (.ref b21), .val (.int (0 : Int32)), .unset] at_117 rfl rfl ?_
        refine C.iload 121 at_119 rfl rfl ?_
        refine C.iconst 122 (3 : Int32) at_121 rfl rfl ?_
        refine C.icmpF 125 at_122 rfl (by decide) ?_
        refine C.iload 127 at_125 rfl rfl ?_
        refine C.bipush 129 (-17 : Int32) at_127 rfl rfl ?_
        refine C.icmpT 150 at_129 rfl (feq d0).2 ?_
        refine C.iconst 151 (0 : Int32) at_150 rfl rfl ?_
        refine C.istore 153 #[.val (.int len), .val (.int p0), .val (.int p1), .val (.int p2), .val (.int p3), .val (.int mode), .val (.int (6 : Int32)), .val (.int x0), .val (.int x1), .val (.int x2), .val (.int x3), .val (.ref b21), .val (.int (0 : Int32)), .val (.int (0 : Int32))] at_151 rfl rfl ?_
        refine C.iload 155 at_153 rfl rfl ?_
        refine C.iload 157 at_155 rfl rfl ?_
        refine C.ifT 164 at_157 rfl (by decide) ?_
        refine C.iconst 165 (0 : Int32) at_164 rfl rfl ?_
        refine C.icmpF 168 at_165 rfl (by decide) ?_
        refine C.iconst 169 (1 : Int32) at_168 rfl rfl ?_
        refine C.goto 173 at_169 rfl ?_
        exact C.retI .boolean at_173 rfl (by simp) rfl (by decide) (by decide) rfl
    | 7, _ =>
      show W Z.heap 0 0 59 #[.val (.int len), .val (.int p0), .val (.int p1), .val (.int p2), .val (.int p3), .val (.int mode), .val (.int (7 : Int32)), .val (.int x0), .val (.int x1), .val (.int x2), .val (.int x3), .unset, .unset, .unset] []
      refine C.iload 61 at_59 rfl rfl ?_
      refine C.newarray 63 7 at_61 rfl (tw 0) (by decide) (by decide) (by decide) (by decide) (by decide) ?_
      intro h26 E26 A26
      obtain ⟨b26, g26⟩ : ∃ z, z = Z.heap.size := ⟨_, rfl⟩
      rw [← g26] at A26 ⊢
      have Ab26_26 : Al Z h26 b26 .byte [.int (0 : Int32), .int (0 : Int32), .int (0 : Int32), .int (0 : Int32), .int (0 : Int32), .int (0 : Int32), .int (0 : Int32)] := A26
      have z26 : Z.heap.size ≤ h26.size := Nat.le_trans z0 E26.1
      have zb26 : Z.heap.size ≤ b26 := by rw [g26]; exact z0
      show W h26 1 7 63 #[.val (.int len), .val (.int p0), .val (.int p1), .val (.int p2), .val (.int p3), .val (.int mode), .val (.int (7 : Int32)), .val (.int x0), .val (.int x1), .val (.int x2), .val (.int x3), .unset, .unset, .unset] [.ref b26]
      refine C.astore 65 #[.val (.int len), .val (.int p0), .val (.int p1), .val (.int p2), .val (.int p3), .val (.int mode), .val (.int (7 : Int32)), .val (.int x0), .val (.int x1), .val (.int x2), .val (.int x3), .val (.ref b26), .unset, .unset] at_63 rfl rfl rfl ?_
      refine C.iload 67 at_65 rfl rfl ?_
      refine C.ifF 70 at_67 rfl (by decide) ?_
      refine C.aload 72 at_70 rfl rfl rfl ?_
      refine C.iconst 73 (0 : Int32) at_72 rfl rfl ?_
      refine C.iload 75 at_73 rfl rfl ?_
      refine C.bastoreB 76 0 x0 at_75 rfl Ab26_26 zb26 (by decide) rfl (Nat.le_of_ble_eq_true rfl) n0 ?_
      intro h27 W27 A27
      have Ab26_27 : Al Z h27 b26 .byte [.int x0, .int (0 : Int32), .int (0 : Int32), .int (0 : Int32), .int (0 : Int32), .int (0 : Int32), .int (0 : Int32)] := A27
      have z27 : Z.heap.size ≤ h27.size := by rw [W27.size]; exact z26
      refine C.iload 78 at_76 rfl rfl ?_
      refine C.iconst 79 (1 : Int32) at_78 rfl rfl ?_
      refine C.icmpF 82 at_79 rfl (by decide) ?_
      refine C.aload 84 at_82 rfl rfl rfl ?_
      refine C.iconst 85 (1 : Int32) at_84 rfl rfl ?_
      refine C.iload 87 at_85 rfl rfl ?_
      refine C.bastoreB 88 1 x1 at_87 rfl Ab26_27 zb26 (by decide) rfl (Nat.le_of_ble_eq_true rfl) n1 ?_
      intro h28 W28 A28
      have Ab26_28 : Al Z h28 b26 .byte [.int x0, .int x1, .int (0 : Int32), .int (0 : Int32), .int (0 : Int32), .int (0 : Int32), .int (0 : Int32)] := A28
      have z28 : Z.heap.size ≤ h28.size := by rw [W28.size]; exact z27
      refine C.iload 90 at_88 rfl rfl ?_
      refine C.iconst 91 (2 : Int32) at_90 rfl rfl ?_
      refine C.icmpF 94 at_91 rfl (by decide) ?_
      refine C.aload 96 at_94 rfl rfl rfl ?_
      refine C.iconst 97 (2 : Int32) at_96 rfl rfl ?_
      refine C.iload 99 at_97 rfl rfl ?_
      refine C.bastoreB 100 2 x2 at_99 rfl Ab26_28 zb26 (by decide) rfl (Nat.le_of_ble_eq_true rfl) n2 ?_
      intro h29 W29 A29
      have Ab26_29 : Al Z h29 b26 .byte [.int x0, .int x1, .int x2, .int (0 : Int32), .int (0 : Int32), .int (0 : Int32), .int (0 : Int32)] := A29
      have z29 : Z.heap.size ≤ h29.size := by rw [W29.size]; exact z28
      refine C.iload 102 at_100 rfl rfl ?_
      refine C.iconst 103 (3 : Int32) at_102 rfl rfl ?_
      refine C.icmpF 106 at_103 rfl (by decide) ?_
      refine C.aload 108 at_106 rfl rfl rfl ?_
      refine C.iconst 109 (3 : Int32) at_108 rfl rfl ?_
      refine C.iload 111 at_109 rfl rfl ?_
      refine C.bastoreB 112 3 x3 at_111 rfl Ab26_29 zb26 (by decide) rfl (Nat.le_of_ble_eq_true rfl) n3 ?_
      intro h30 W30 A30
      have Ab26_30 : Al Z h30 b26 .byte [.int x0, .int x1, .int x2, .int x3, .int (0 : Int32), .int (0 : Int32), .int (0 : Int32)] := A30
      have z30 : Z.heap.size ≤ h30.size := by rw [W30.size]; exact z29
      refine C.aload 114 at_112 rfl rfl rfl ?_
      by_cases d0 : x0 = (-17 : Int32)
      · by_cases d1 : x1 = (-69 : Int32)
        · by_cases d2 : x2 = (-65 : Int32)
          · refine C.callS 117 (as := [.ref b26]) (rest := []) (rm := ⟨1, 0, 0, 15⟩) 0 at_114 rfl (tw 1) (tw 2) (tw 3) (tw 4) (by decide) (ab_3 l Z a0' hw _ b26 _ Ab26_30 ub AU SU rfl x0 rfl d0 x1 rfl d1 x2 rfl d2) pd1 rfl rfl (Nat.le_of_eq rfl) (by decide) (by decide) (by decide) (by decide) rfl ?_
            refine same_intro ?_
            show W h30 1 7 117 #[.val (.int len), .val (.int p0), .val (.int p1), .val (.int p2), .val (.int p3), .val (.int mode), .val (.int (7 : Int32)), .val (.int x0), .val (.int x1), .val (.int x2), .val (.int x3), .val (.ref b26), .unset, .unset] [.int (3 : Int32)]
            refine C.istore 119 #[.val (.int len), .val (.int p0), .val (.int p1), .val (.int p2), .val (.int p3), .val (.int mode), .val (.int (7 : Int32)), .val (.int x0), .val (.int x1), .val (.int x2), .val (.int x3), .val (.ref b26), .val (.int (3 : Int32)), .unset] at_117 rfl rfl ?_
            refine C.iload 121 at_119 rfl rfl ?_
            refine C.iconst 122 (3 : Int32) at_121 rfl rfl ?_
            refine C.icmpF 125 at_122 rfl (by decide) ?_
            refine C.iload 127 at_125 rfl rfl ?_
            refine C.bipush 129 (-17 : Int32) at_127 rfl rfl ?_
            refine C.icmpF 132 at_129 rfl (teq d0).2 ?_
            refine C.iload 134 at_132 rfl rfl ?_
            refine C.bipush 136 (-69 : Int32) at_134 rfl rfl ?_
            refine C.icmpF 139 at_136 rfl (teq d1).2 ?_
            refine C.iload 141 at_139 rfl rfl ?_
            refine C.bipush 143 (-65 : Int32) at_141 rfl rfl ?_
            refine C.icmpF 146 at_143 rfl (teq d2).2 ?_
            refine C.iconst 147 (1 : Int32) at_146 rfl rfl ?_
            refine C.goto 151 at_147 rfl ?_
            refine C.istore 153 #[.val (.int len), .val (.int p0), .val (.int p1), .val (.int p2), .val (.int p3), .val (.int mode), .val (.int (7 : Int32)), .val (.int x0), .val (.int x1), .val (.int x2), .val (.int x3), .val (.ref b26), .val (.int (3 : Int32)), .val (.int (1 : Int32))] at_151 rfl rfl ?_
            refine C.iload 155 at_153 rfl rfl ?_
            refine C.iload 157 at_155 rfl rfl ?_
            refine C.ifF 160 at_157 rfl (by decide) ?_
            refine C.iconst 161 (3 : Int32) at_160 rfl rfl ?_
            refine C.goto 165 at_161 rfl ?_
            refine C.icmpF 168 at_165 rfl (by decide) ?_
            refine C.iconst 169 (1 : Int32) at_168 rfl rfl ?_
            refine C.goto 173 at_169 rfl ?_
            exact C.retI .boolean at_173 rfl (by simp) rfl (by decide) (by decide) rfl
          · refine C.callS 117 (as := [.ref b26]) (rest := []) (rm := ⟨1, 0, 0, 15⟩) 0 at_114 rfl (tw 1) (tw 2) (tw 3) (tw 4) (by decide) (ab_2 l Z a0' hw _ b26 _ Ab26_30 ub AU SU rfl x0 rfl d0 x1 rfl d1 x2 rfl d2) pd1 rfl rfl (Nat.le_of_eq rfl) (by decide) (by decide) (by decide) (by decide) rfl ?_
            refine same_intro ?_
            show W h30 1 7 117 #[.val (.int len), .val (.int p0), .val (.int p1), .val (.int p2), .val (.int p3), .val (.int mode), .val (.int (7 : Int32)), .val (.int x0), .val (.int x1), .val (.int x2), .val (.int x3), .val (.ref b26), .unset, .unset] [.int (0 : Int32)]
            refine C.istore 119 #[.val (.int len), .val (.int p0), .val (.int p1), .val (.int p2), .val (.int p3), .val (.int mode), .val (.int (7 : Int32)), .val (.int x0), .val (.int x1), .val (.int x2), .val (.int x3), .val (.ref b26), .val (.int (0 : Int32)), .unset] at_117 rfl rfl ?_
            refine C.iload 121 at_119 rfl rfl ?_
            refine C.iconst 122 (3 : Int32) at_121 rfl rfl ?_
            refine C.icmpF 125 at_122 rfl (by decide) ?_
            refine C.iload 127 at_125 rfl rfl ?_
            refine C.bipush 129 (-17 : Int32) at_127 rfl rfl ?_
            refine C.icmpF 132 at_129 rfl (teq d0).2 ?_
            refine C.iload 134 at_132 rfl rfl ?_
            refine C.bipush 136 (-69 : Int32) at_134 rfl rfl ?_
            refine C.icmpF 139 at_136 rfl (teq d1).2 ?_
            refine C.iload 141 at_139 rfl rfl ?_
            refine C.bipush 143 (-65 : Int32) at_141 rfl rfl ?_
            refine C.icmpT 150 at_143 rfl (feq d2).2 ?_
            refine C.iconst 151 (0 : Int32) at_150 rfl rfl ?_
            refine C.istore 153 #[.val (.int len), .val (.int p0), .val (.int p1), .val (.int p2), .val (.int p3), .val (.int mode), .val (.int (7 : Int32)), .val (.int x0), .val (.int x1), .val (.int x2), .val (.int x3), .val (.ref b26), .val (.int (0 : Int32)), .val (.int (0 : Int32))] at_151 rfl rfl ?_
            refine C.iload 155 at_153 rfl rfl ?_
            refine C.iload 157 at_155 rfl rfl ?_
            refine C.ifT 164 at_157 rfl (by decide) ?_
            refine C.iconst 165 (0 : Int32) at_164 rfl rfl ?_
            refine C.icmpF 168 at_165 rfl (by decide) ?_
            refine C.iconst 169 (1 : Int32) at_168 rfl rfl ?_
            refine C.goto 173 at_169 rfl ?_
            exact C.retI .boolean at_173 rfl (by simp) rfl (by decide) (by decide) rfl
        · refine C.callS 117 (as := [.ref b26]) (rest := []) (rm := ⟨1, 0, 0, 15⟩) 0 at_114 rfl (tw 1) (tw 2) (tw 3) (tw 4) (by decide) (ab_1 l Z a0' hw _ b26 _ Ab26_30 ub AU SU rfl x0 rfl d0 x1 rfl d1) pd1 rfl rfl (Nat.le_of_eq rfl) (by decide) (by decide) (by decide) (by decide) rfl ?_
          refine same_intro ?_
          show W h30 1 7 117 #[.val (.int len), .val (.int p0), .val (.int p1), .val (.int p2), .val (.int p3), .val (.int mode), .val (.int (7 : Int32)), .val (.int x0), .val (.int x1), .val (.int x2), .val (.int x3), .val (.ref b26), .unset, .unset] [.int (0 : Int32)]
          refine C.istore 119 #[.val (.int len), .val (.int p0), .val (.int p1), .val (.int p2), .val (.int p3), .val (.int mode), .val (.int (7 : Int32)), .val (.int x0), .val (.int x1), .val (.int x2), .val (.int x3), .val (.ref b26), .val (.int (0 : Int32)), .unset] at_117 rfl rfl ?_
          refine C.iload 121 at_119 rfl rfl ?_
          refine C.iconst 122 (3 : Int32) at_121 rfl rfl ?_
          refine C.icmpF 125 at_122 rfl (by decide) ?_
          refine C.iload 127 at_125 rfl rfl ?_
          refine C.bipush 129 (-17 : Int32) at_127 rfl rfl ?_
          refine C.icmpF 132 at_129 rfl (teq d0).2 ?_
          refine C.iload 134 at_132 rfl rfl ?_
          refine C.bipush 136 (-69 : Int32) at_134 rfl rfl ?_
          refine C.icmpT 150 at_136 rfl (feq d1).2 ?_
          refine C.iconst 151 (0 : Int32) at_150 rfl rfl ?_
          refine C.istore 153 #[.val (.int len), .val (.int p0), .val (.int p1), .val (.int p2), .val (.int p3), .val (.int mode), .val (.int (7 : Int32)), .val (.int x0), .val (.int x1), .val (.int x2), .val (.int x3), .val (.ref b26), .val (.int (0 : Int32)), .val (.int (0 : Int32))] at_151 rfl rfl ?_
          refine C.iload 155 at_153 rfl rfl ?_
          refine C.iload 157 at_155 rfl rfl ?_
          refine C.ifT 164 at_157 rfl (by decide) ?_
          refine C.iconst 165 (0 : Int32) at_164 rfl rfl ?_
          refine C.icmpF 168 at_165 rfl (by decide) ?_
          refine C.iconst 169 (1 : Int32) at_168 rfl rfl ?_
          refine C.goto 173 at_169 rfl ?_
          exact C.retI .boolean at_173 rfl (by simp) rfl (by decide) (by decide) rfl
      · refine C.callS 117 (as := [.ref b26]) (rest := []) (rm := ⟨1, 0, 0, 15⟩) 0 at_114 rfl (tw 1) (tw 2) (tw 3) (tw 4) (by decide) (ab_0 l Z a0' hw _ b26 _ Ab26_30 ub AU SU rfl x0 rfl d0) pd1 rfl rfl (Nat.le_of_eq rfl) (by decide) (by decide) (by decide) (by decide) rfl ?_
        refine same_intro ?_
        show W h30 1 7 117 #[.val (.int len), .val (.int p0), .val (.int p1), .val (.int p2), .val (.int p3), .val (.int mode), .val (.int (7 : Int32)), .val (.int x0), .val (.int x1), .val (.int x2), .val (.int x3), .val (.ref b26), .unset, .unset] [.int (0 : Int32)]
        refine C.istore 119 #[.val (.int len), .val (.int p0), .val (.int p1), .val (.int p2), .val (.int p3), .val (.int mode), .val (.int (7 : Int32)), .val (.int x0), .val (.int x1), .val (.int x2), .val (.int x3), .val (.ref b26), .val (.int (0 : Int32)), .unset] at_117 rfl rfl ?_
        refine C.iload 121 at_119 rfl rfl ?_
        refine C.iconst 122 (3 : Int32) at_121 rfl rfl ?_
        refine C.icmpF 125 at_122 rfl (by decide) ?_
        refine C.iload 127 at_125 rfl rfl ?_
        refine C.bipush 129 (-17 : Int32) at_127 rfl rfl ?_
        refine C.icmpT 150 at_129 rfl (feq d0).2 ?_
        refine C.iconst 151 (0 : Int32) at_150 rfl rfl ?_
        refine C.istore 153 #[.val (.int len), .val (.int p0), .val (.int p1), .val (.int p2), .val (.int p3), .val (.int mode), .val (.int (7 : Int32)), .val (.int x0), .val (.int x1), .val (.int x2), .val (.int x3), .val (.ref b26), .val (.int (0 : Int32)), .val (.int (0 : Int32))] at_151 rfl rfl ?_
        refine C.iload 155 at_153 rfl rfl ?_
        refine C.iload 157 at_155 rfl rfl ?_
        refine C.ifT 164 at_157 rfl (by decide) ?_
        refine C.iconst 165 (0 : Int32) at_164 rfl rfl ?_
        refine C.icmpF 168 at_165 rfl (by decide) ?_
        refine C.iconst 169 (1 : Int32) at_168 rfl rfl ?_
        refine C.goto 173 at_169 rfl ?_
        exact C.retI .boolean at_173 rfl (by simp) rfl (by decide) (by decide) rfl
    | n + 8, h => exact absurd h (by omega)
  have J54 : ∀ x0 x1 x2 : Int32, nar .byte x0 = x0 → nar .byte x1 = x1 → nar .byte x2 = x2 → W Z.heap 0 0 54 #[.val (.int len), .val (.int p0), .val (.int p1), .val (.int p2), .val (.int p3), .val (.int mode), .val (.int (len &&& (7 : Int32))), .val (.int x0), .val (.int x1), .val (.int x2), .unset, .unset, .unset, .unset] [] := by
    intro x0 x1 x2 n0 n1 n2
    refine C.iload 56 at_54 rfl rfl ?_
    refine C.i2b 57 at_56 rfl ?_
    refine C.istore 59 #[.val (.int len), .val (.int p0), .val (.int p1), .val (.int p2), .val (.int p3), .val (.int mode), .val (.int (len &&& (7 : Int32))), .val (.int x0), .val (.int x1), .val (.int x2), .val (.int (Int32.toInt8 p3).toInt32), .unset, .unset, .unset] at_57 rfl rfl ?_
    exact J59 x0 x1 x2 _ n0 n1 n2 (byte_nar _)
  have J38 : ∀ x0 x1 : Int32, nar .byte x0 = x0 → nar .byte x1 = x1 → W Z.heap 0 0 38 #[.val (.int len), .val (.int p0), .val (.int p1), .val (.int p2), .val (.int p3), .val (.int mode), .val (.int (len &&& (7 : Int32))), .val (.int x0), .val (.int x1), .unset, .unset, .unset, .unset, .unset] [] := by
    intro x0 x1 n0 n1
    refine C.iload 40 at_38 rfl rfl ?_
    refine C.iconst 41 (4 : Int32) at_40 rfl rfl ?_
    refine C.iand 42 at_41 rfl ?_
    by_cases c2 : (mode &&& (4 : Int32)) = (0 : Int32)
    · refine C.ifT 50 at_42 rfl ((if0 _ _).trans (teq c2).1) ?_
      refine C.iloadN 51 at_50 rfl rfl ?_
      refine C.i2b 52 at_51 rfl ?_
      refine C.istore 54 #[.val (.int len), .val (.int p0), .val (.int p1), .val (.int p2), .val (.int p3), .val (.int mode), .val (.int (len &&& (7 : Int32))), .val (.int x0), .val (.int x1), .val (.int (Int32.toInt8 p2).toInt32), .unset, .unset, .unset, .unset] at_52 rfl rfl ?_
      exact J54 x0 x1 _ n0 n1 (byte_nar _)
    · refine C.ifF 45 at_42 rfl ((if0 _ _).trans (feq c2).1) ?_
      refine C.bipush 47 (-65 : Int32) at_45 rfl rfl ?_
      refine C.goto 52 at_47 rfl ?_
      refine C.istore 54 #[.val (.int len), .val (.int p0), .val (.int p1), .val (.int p2), .val (.int p3), .val (.int mode), .val (.int (len &&& (7 : Int32))), .val (.int x0), .val (.int x1), .val (.int (-65 : Int32)), .unset, .unset, .unset, .unset] at_52 rfl rfl ?_
      exact J54 x0 x1 _ n0 n1 rfl
  have J22 : ∀ x0 : Int32, nar .byte x0 = x0 → W Z.heap 0 0 22 #[.val (.int len), .val (.int p0), .val (.int p1), .val (.int p2), .val (.int p3), .val (.int mode), .val (.int (len &&& (7 : Int32))), .val (.int x0), .unset, .unset, .unset, .unset, .unset, .unset] [] := by
    intro x0 n0
    refine C.iload 24 at_22 rfl rfl ?_
    refine C.iconst 25 (2 : Int32) at_24 rfl rfl ?_
    refine C.iand 26 at_25 rfl ?_
    by_cases c1 : (mode &&& (2 : Int32)) = (0 : Int32)
    · refine C.ifT 34 at_26 rfl ((if0 _ _).trans (teq c1).1) ?_
      refine C.iloadN 35 at_34 rfl rfl ?_
      refine C.i2b 36 at_35 rfl ?_
      refine C.istore 38 #[.val (.int len), .val (.int p0), .val (.int p1), .val (.int p2), .val (.int p3), .val (.int mode), .val (.int (len &&& (7 : Int32))), .val (.int x0), .val (.int (Int32.toInt8 p1).toInt32), .unset, .unset, .unset, .unset, .unset] at_36 rfl rfl ?_
      exact J38 x0 _ n0 (byte_nar _)
    · refine C.ifF 29 at_26 rfl ((if0 _ _).trans (feq c1).1) ?_
      refine C.bipush 31 (-69 : Int32) at_29 rfl rfl ?_
      refine C.goto 36 at_31 rfl ?_
      refine C.istore 38 #[.val (.int len), .val (.int p0), .val (.int p1), .val (.int p2), .val (.int p3), .val (.int mode), .val (.int (len &&& (7 : Int32))), .val (.int x0), .val (.int (-69 : Int32)), .unset, .unset, .unset, .unset, .unset] at_36 rfl rfl ?_
      exact J38 x0 _ n0 rfl
  refine C.iloadN 1 at_0 rfl rfl ?_
  refine C.bipush 3 (7 : Int32) at_1 rfl rfl ?_
  refine C.iand 4 at_3 rfl ?_
  refine C.istore 6 #[.val (.int len), .val (.int p0), .val (.int p1), .val (.int p2), .val (.int p3), .val (.int mode), .val (.int (len &&& (7 : Int32))), .unset, .unset, .unset, .unset, .unset, .unset, .unset] at_4 rfl rfl ?_
  refine C.iload 8 at_6 rfl rfl ?_
  refine C.iconst 9 (1 : Int32) at_8 rfl rfl ?_
  refine C.iand 10 at_9 rfl ?_
  by_cases c0 : (mode &&& (1 : Int32)) = (0 : Int32)
  · refine C.ifT 18 at_10 rfl ((if0 _ _).trans (teq c0).1) ?_
    refine C.iloadN 19 at_18 rfl rfl ?_
    refine C.i2b 20 at_19 rfl ?_
    refine C.istore 22 #[.val (.int len), .val (.int p0), .val (.int p1), .val (.int p2), .val (.int p3), .val (.int mode), .val (.int (len &&& (7 : Int32))), .val (.int (Int32.toInt8 p0).toInt32), .unset, .unset, .unset, .unset, .unset, .unset] at_20 rfl rfl ?_
    exact J22  _  (byte_nar _)
  · refine C.ifF 13 at_10 rfl ((if0 _ _).trans (feq c0).1) ?_
    refine C.bipush 15 (-17 : Int32) at_13 rfl rfl ?_
    refine C.goto 20 at_15 rfl ?_
    refine C.istore 22 #[.val (.int len), .val (.int p0), .val (.int p1), .val (.int p2), .val (.int p3), .val (.int mode), .val (.int (len &&& (7 : Int32))), .val (.int (-17 : Int32)), .unset, .unset, .unset, .unset, .unset, .unset] at_20 rfl rfl ?_
    exact J22  _  rfl
theorem len_al {s : State} {args : Array Value} {t : Term} {a : Addr} {ty : FieldType} {z : Int32} (e : t.eval args s none [] s = some (.ref a)) (h0 : (Jvm.Cond.arrayOf t ty).value args s none s [] = some true) (h1 : (Jvm.Cond.eq (Jvm.Term.length t) (Jvm.Term.int z)).value args s none s [] = some true) : ∃ c : Cell, Arr s s.heap a c ty ∧ (c.slots.size : Int) = z.toInt := by
  obtain ⟨c, A⟩ := Arr.start e h0
  have ha := A.fin (Vm.Alike.refl _)
  refine ⟨c, A, ?_⟩
  by_cases hl : c.slots.size < 2 ^ 31
  · have q := len_f e ha hl
    have r : c.slots.size.toInt32 = z := gotT (Cond.eq_ints q (Term.int_eval (z))) h1
    rw [← r, len_toInt hl]
  · simp [Cond.value, Term.eval, e, ha, hl] at h1
theorem elem_int {s : State} {args : Array Value} {t : Term} {a : Addr} {c : Cell} {ty : FieldType} {j z : Int32} (e : t.eval args s none [] s = some (.ref a)) (A : Arr s s.heap a c ty) (hj : ¬ j < 0) (h : (Jvm.Cond.eq (Jvm.Term.elem t (Jvm.Term.int j)) (Jvm.Term.int z)).value args s none s [] = some true) : c.slots[j.toNatClampNeg]? = some (.int z) :=
  (elem_f e (Term.int_eval (j)) (A.fin (Vm.Alike.refl _)) hj).symm.trans (eqv_i (Term.int_eval (z)) h)
theorem elem_ref {s : State} {args : Array Value} {t X : Term} {a x : Addr} {c : Cell} {ty : FieldType} {j : Int32} (e : t.eval args s none [] s = some (.ref a)) (ex : X.eval args s none [] s = some (.ref x)) (A : Arr s s.heap a c ty) (hj : ¬ j < 0) (h : (Jvm.Cond.eq (Jvm.Term.elem t (Jvm.Term.int j)) X).value args s none s [] = some true) : c.slots[j.toNatClampNeg]? = some (.ref x) := by
  have q := elem_f e (Term.int_eval (j)) (A.fin (Vm.Alike.refl _)) hj
  obtain ⟨u, v, e1, e2, k1, k2⟩ := cmp_v (Or.inl h)
  cases ex.symm.trans e2
  rw [← q, e1]
  rw [e1] at q
  simp only [Cond.value, e1, ex] at h
  cases u <;> simp_all
theorem bom_of {s : State} {args : Array Value} {t : Term} {ub : Addr} (hf : Fit s) (e : t.eval args s none [] s = some (.ref ub)) (h0 : (Jvm.Cond.arrayOf t .byte).value args s none s [] = some true) (h1 : (Jvm.Cond.eq (Jvm.Term.length t) (Jvm.Term.int (3 : Int32))).value args s none s [] = some true) (h2 : (Jvm.Cond.eq (Jvm.Term.elem t (Jvm.Term.int (0 : Int32))) (Jvm.Term.int (-17 : Int32))).value args s none s [] = some true) (h3 : (Jvm.Cond.eq (Jvm.Term.elem t (Jvm.Term.int (1 : Int32))) (Jvm.Term.int (-69 : Int32))).value args s none s [] = some true) (h4 : (Jvm.Cond.eq (Jvm.Term.elem t (Jvm.Term.int (2 : Int32))) (Jvm.Term.int (-65 : Int32))).value args s none s [] = some true) : Al s s.heap ub .byte [.int (-17 : Int32), .int (-69 : Int32), .int (-65 : Int32)] := by
  obtain ⟨c, A, hsz0⟩ := len_al e h0 h1
  refine ⟨c, A, ?_⟩
  have e0 := elem_int e A (by decide) h2
  have e1 := elem_int e A (by decide) h3
  have e2 := elem_int e A (by decide) h4
  have hsz : c.slots.size = 3 := by
    have : (3 : Int32).toInt = 3 := rfl
    omega
  apply List.ext_getElem?
  intro i
  have hi := list_at (c := c) rfl i
  rw [← hi]
  match i with
  | 0 => exact e0
  | 1 => exact e1
  | 2 => exact e2
  | n + 3 => rw [Array.getElem?_eq_none (by omega)]; rfl
set_option maxRecDepth 65536 in
set_option maxHeartbeats 40000000 in
theorem comes_1 {Post : Tables → Env → Array Value → State → Outcome → State → Prop} (hpost : ∀ tb e args s v u, (limb_1_1.after args s (.returned v) u = true ∧ limb_1_2.after args s (.returned v) u = true ∧ True) → FrameEnd s (.returned v) u (Jvm.fieldLocs frame_1_writes args s ++ Jvm.arrayLocs frame_1_arrays args s ++ Jvm.staticLocs frame_1_statics s) 16 128 → Post tb e args s (.returned v) u) :
    ArmFor flags0 classFile x code maxLocals ret World_1 tables_1 room_1 Calls_1 rest_1 Pre_1 Post := by
  intro l hfl _ _ p e ha hc hk s m args below hf hA hF happ hP
  obtain ⟨hcalls, hrest, hpre⟩ := hP
  obtain ⟨-, -, -, hnamed, -, -, -, hat⟩ := (Spec.applies_iff hf).mp happ
  obtain ⟨hg, hn⟩ := and_e (Cond.before_iff.mp (show (Jvm.Cond.and given_1 narrow_1).before args s = true from hpre))
  obtain ⟨h1, h2⟩ := and_e hg
  obtain ⟨w0, w1, w2, w3, w4, w5, rfl⟩ : ∃ w0 w1 w2 w3 w4 w5 : Value, args = #[w0, w1, w2, w3, w4, w5] := by
    have hs : args.size = 6 := by simpa [Cond.value, given_1] using h1
    obtain ⟨L⟩ := args
    match L, hs with
    | [w0, w1, w2, w3, w4, w5], _ => exact ⟨w0, w1, w2, w3, w4, w5, rfl⟩
  have hw := fun d (hd : d ∈ tables_1) => atoms_spec (ws := Jvm.Cond.code x code maxLocals ret :: tables_1) hat d (List.mem_cons_of_mem _ hd)
  have hfit : Fit s := fun {y c} hc i hi => by
    obtain ⟨ha, rfl⟩ := Array.getElem?_eq_some_iff.mp hc
    have q := List.all_eq_true.mp ((Array.all_eq_true_iff_forall_mem.mp hF) _ (Array.getElem_mem ha)) i (List.mem_range.mpr hi)
    simpa [Array.getElem?_eq_getElem hi] using q
  obtain ⟨q0, h2⟩ := and_e h2
  obtain ⟨i0, e0⟩ := is_v q0
  obtain rfl : w0 = (.int i0) := Option.some.inj e0
  obtain ⟨q1, h2⟩ := and_e h2
  obtain ⟨i1, e1⟩ := is_v q1
  obtain rfl : w1 = (.int i1) := Option.some.inj e1
  obtain ⟨q2, h2⟩ := and_e h2
  obtain ⟨i2, e2⟩ := is_v q2
  obtain rfl : w2 = (.int i2) := Option.some.inj e2
  obtain ⟨q3, h2⟩ := and_e h2
  obtain ⟨i3, e3⟩ := is_v q3
  obtain rfl : w3 = (.int i3) := Option.some.inj e3
  obtain ⟨q4, h2⟩ := and_e h2
  obtain ⟨i4, e4⟩ := is_v q4
  obtain rfl : w4 = (.int i4) := Option.some.inj e4
  obtain ⟨i5, e5⟩ := is_v h2
  obtain rfl : w5 = (.int i5) := Option.some.inj e5
  obtain ⟨n0, hn⟩ := and_e hn
  obtain ⟨n1, hn⟩ := and_e hn
  obtain ⟨n2, hn⟩ := and_e hn
  obtain ⟨n3, n4⟩ := and_e hn
  obtain ⟨ub, eu⟩ := arr_v n0
  have SU := Sta.start eu (Or.inr ⟨hw _ (tw 3), hw _ (tw 6)⟩)
  have AU := bom_of hfit eu n0 n1 n2 n3 n4
  obtain ⟨n, o, h1, h2, h3, _, L, rfl, ⟨rfl, -, N⟩, hq⟩ := law_con l s _ hw i0 i1 i2 i3 i4 i5 ub AU SU ⟨Nat.le_refl _, fun _ _ q => q⟩ tables_1 p e ha hc hk s m _ below hf ((Spec.applies_iff_loose hf).mp happ).1 ⟨rfl, State.Warmed39.refl s, rfl⟩ trivial
  refine ⟨n, _, h1, h2, h3, hpost _ _ _ _ _ _ ⟨Cond.after_iff.mpr rfl, Cond.after_iff.mpr (eq_i res_at (Term.int_eval (1)) rfl), trivial⟩ ⟨hq.1, hq.2.1, (hq.2.2.sift fun y hy => Or.inr (N y hy)).mono (by decide) (by decide)⟩⟩
theorem main_1_1 : Claimed_1_1 := comes_1 fun _ _ _ _ _ _ h hF => ⟨h.1, hF⟩
theorem main_1_2 : Claimed_1_2 := comes_1 fun _ _ _ _ _ _ h hF => ⟨h.2.1, hF⟩
end Jvm.Pilot.@@N@@
namespace Jvm.Pilot.@@N@@
open Jvm Jvm.ClassFile Sem Op Lib Jvm.Free Jvm.Stand Jvm.Pilot.@@N@@.Jvm.D
/-! MADE BY PROGRAM (witnessworld.py) out of the Statement's table words and the real class files: 9 classes; the members and pool entries that the words name. The judged class is class 1, her method 1. -/
namespace start1
open Jvm.ClassFile
def u (s : String) : CpInfo := .utf8 (stringToUtf16 s)
/-- a pool by its gaps: so many unusable entries, then the entry; so many at the end -/
def gap : Nat → List CpInfo → List CpInfo
  | 0, r => r
  | n + 1, r => .unusable :: gap n r
def poolList (es : List (Nat × CpInfo)) (last : Nat) : List CpInfo := es.foldr (fun e r => gap e.1 (e.2 :: r)) (gap last [])
def pool (es : List (Nat × CpInfo)) (last : Nat) : Array CpInfo := ⟨poolList es last⟩
def fileOf (pool : Array CpInfo) (this : Nat) (attrs : Array Attribute := #[]) (ms : Array MethodInfo := #[]) (fl : Nat := 33) (sup : Nat := 0) (ifs : Array Nat := #[]) (fds : Array FieldInfo := #[]) : ClassFile where
  minorVersion := 0
  majorVersion := 65
  constantPool := pool
  accessFlags := fl
  thisClass := this
  superClass := sup
  interfaces := ifs
  fields := fds
  methods := ms
  attributes := attrs
def plain (name : String) (sup : Option ClassId) : Class where
  name := name
  kind := .ordinary
  loader := none
  accessFlags := 33
  super := sup
  interfaces := #[]
  cf := none
  fields := #[]
  methods := #[]
  instanceTypes := #[]
  staticTypes := #[]
  resolved := #[]
  callSites := []
  init := .initialized
  statics := none
  mirror := none

def pool0 : Array CpInfo := pool [(5, u "<init>"), (0, u "()V"), (1, .class_ 10), (1, u "java/lang/Object")] 113

def k0m0 : Method := { name := "<init>", desc := "()V", sig := { parameters := [], returnType := none }, accessFlags := 1, code := none }
/-- java/lang/Object -/
def k0 : Class := { plain "java/lang/Object" none with
  accessFlags := 33
  interfaces := #[]
  cf := some (fileOf pool0 8 #[] #[{ accessFlags := 1, nameIndex := 5, descriptorIndex := 6, attributes := #[] }] 33 0 #[] #[])
  fields := #[]
  methods := #[k0m0]
  instanceTypes := #[]
  staticTypes := #[]
  resolved := Array.replicate 124 none
  statics := none }

def pool1 : Array CpInfo := pool [(2, .class_ 4), (1, u "java/lang/Object"), (0, u "<init>"), (0, u "()V"), (0, .methodref 8 9), (0, .class_ 10), (0, .nameAndType 11 12), (0, u "com/example/weftline/weftline/ExternalEntity"), (0, u "afterByteOrderMark"), (0, u "([B)I"), (0, .class_ 14), (0, u "com/example/weftline/weftline/ExternalEntityAfterByteOrderMarkPinLaw"), (2, u "law"), (0, u "(IIIIII)Z")] 5

def k1m0 : Method := { name := "<init>", desc := "()V", sig := { parameters := [], returnType := none }, accessFlags := 1, code := none }
def k1c1 : Code := { maxStack := 3, maxLocals := 14, code := code, exceptionTable := #[], attributes := #[] }
def k1m1 : Method := { name := "law", desc := "(IIIIII)Z", sig := { parameters := [.int, .int, .int, .int, .int, .int], returnType := some .boolean }, accessFlags := 9, code := some k1c1 }
/-- com/example/weftline/weftline/ExternalEntityAfterByteOrderMarkPinLaw -/
def k1 : Class := { plain "com/example/weftline/weftline/ExternalEntityAfterByteOrderMarkPinLaw" (some 0) with
  accessFlags := 49
  interfaces := #[]
  cf := some (fileOf pool1 13 #[] #[{ accessFlags := 1, nameIndex := 5, descriptorIndex := 6, attributes := #[] }, { accessFlags := 9, nameIndex := 17, descriptorIndex := 18, attributes := #[] }] 49 2 #[] #[])
  fields := #[]
  methods := #[k1m0, k1m1]
  instanceTypes := #[]
  staticTypes := #[]
  resolved := Array.replicate 24 none
  statics := none }

def pool2 : Array CpInfo := pool [(2, .class_ 4), (1, u "java/lang/Object"), (6, .class_ 13), (1, u "com/example/weftline/weftline/ExternalEntity"), (0, u "declared"), (0, u "Ljava/util/Map;"), (2, u "bytes"), (0, u "[B"), (2, u "declarations"), (0, u "Ljava/util/List;"), (2, u "references"), (0, u "Ljava/util/Set;"), (16, .class_ 45), (0, u "com/example/weftline/weftline/ExternalEntity$Declaration"), (96, .class_ 143), (0, u "com/example/weftline/weftline/ExternalEntity$Pruned"), (60, u "afterByteOrderMark"), (0, u "([B)I"), (16, u "TEXT_DECLARATION"), (0, u "Ljava/util/regex/Pattern;"), (19, u "startsWith"), (63, .fieldref 11 308), (0, .nameAndType 309 19), (0, u "UTF8_BOM"), (0, .methodref 11 311), (0, .nameAndType 243 312), (0, u "([BI[B)Z")] 68

def k2c0 : Code := { maxStack := 3, maxLocals := 1, code := prog_14_method_26_code, exceptionTable := #[], attributes := #[] }
def k2m0 : Method := { name := "afterByteOrderMark", desc := "([B)I", sig := { parameters := [(.array .byte)], returnType := some .int }, accessFlags := 8, code := some k2c0 }
def k2c1 : Code := { maxStack := 3, maxLocals := 4, code := prog_14_method_30_code, exceptionTable := #[], attributes := #[] }
def k2m1 : Method := { name := "startsWith", desc := "([BI[B)Z", sig := { parameters := [(.array .byte), .int, (.array .byte)], returnType := some .boolean }, accessFlags := 10, code := some k2c1 }
/-- com/example/weftline/weftline/ExternalEntity -/
def k2 : Class := { plain "com/example/weftline/weftline/ExternalEntity" (some 0) with
  accessFlags := 48
  interfaces := #[]
  cf := some (fileOf pool2 11 #[.nestMembers #[142, 44]] #[{ accessFlags := 8, nameIndex := 204, descriptorIndex := 205, attributes := #[] }, { accessFlags := 10, nameIndex := 243, descriptorIndex := 312, attributes := #[] }] 48 2 #[] #[{ accessFlags := 26, nameIndex := 309, descriptorIndex := 19, attributes := #[] }, { accessFlags := 26, nameIndex := 222, descriptorIndex := 223, attributes := #[] }, { accessFlags := 18, nameIndex := 18, descriptorIndex := 19, attributes := #[] }, { accessFlags := 18, nameIndex := 22, descriptorIndex := 23, attributes := #[] }, { accessFlags := 18, nameIndex := 26, descriptorIndex := 27, attributes := #[] }, { accessFlags := 18, nameIndex := 14, descriptorIndex := 15, attributes := #[] }])
  fields := #[{ name := "UTF8_BOM", type := (.array .byte), accessFlags := 26, slot := 0, constantValue := 0 }, { name := "TEXT_DECLARATION", type := (.object "java/util/regex/Pattern"), accessFlags := 26, slot := 1, constantValue := 0 }, { name := "bytes", type := (.array .byte), accessFlags := 18, slot := 0, constantValue := 0 }, { name := "declarations", type := (.object "java/util/List"), accessFlags := 18, slot := 1, constantValue := 0 }, { name := "references", type := (.object "java/util/Set"), accessFlags := 18, slot := 2, constantValue := 0 }, { name := "declared", type := (.object "java/util/Map"), accessFlags := 18, slot := 3, constantValue := 0 }]
  methods := #[k2m0, k2m1]
  instanceTypes := #[(.array .byte), (.object "java/util/List"), (.object "java/util/Set"), (.object "java/util/Map")]
  staticTypes := #[(.array .byte), (.object "java/util/regex/Pattern")]
  resolved := Array.replicate 381 none
  statics := some 0 }

def pool3 : Array CpInfo := pool [(1, u "java/lang/Cloneable"), (0, .class_ 1), (0, u "java/lang/Object"), (0, .class_ 3)] 3

/-- java/lang/Cloneable -/
def k3 : Class := { plain "java/lang/Cloneable" (some 0) with
  accessFlags := 1537
  interfaces := #[]
  cf := some (fileOf pool3 2 #[] #[] 1537 4 #[] #[])
  fields := #[]
  methods := #[]
  instanceTypes := #[]
  staticTypes := #[]
  resolved := Array.replicate 8 none
  statics := none }

def pool4 : Array CpInfo := pool [(1, u "java/io/Serializable"), (0, .class_ 1), (0, u "java/lang/Object"), (0, .class_ 3)] 3

/-- java/io/Serializable -/
def k4 : Class := { plain "java/io/Serializable" (some 0) with
  accessFlags := 1537
  interfaces := #[]
  cf := some (fileOf pool4 2 #[] #[] 1537 4 #[] #[])
  fields := #[]
  methods := #[]
  instanceTypes := #[]
  staticTypes := #[]
  resolved := Array.replicate 8 none
  statics := none }

/-- the primitive byte -/
def k5 : Class := { plain "byte" none with kind := .primitive 'B', accessFlags := 0x411 }
/-- [B -/
def k6 : Class := { plain "[B" (some 0) with kind := .array 5 .byte, interfaces := #[3, 4], accessFlags := 1041 }

/-- the primitive int -/
def k7 : Class := { plain "int" none with kind := .primitive 'I', accessFlags := 0x411 }
/-- [I -/
def k8 : Class := { plain "[I" (some 0) with kind := .array 7 .int, interfaces := #[3, 4], accessFlags := 1041 }

def heap : Heap := #[{ cls := 2, slots := #[.ref 1, .null], vm := .statics 2 },
  { cls := 6, slots := #[.int (-17), .int (-69), .int (-65)], vm := .none }]
def classes : Array Class := #[k0, k1, k2, k3, k4, k5, k6, k7, k8]
def interned : List (Array UInt16 × Addr) := []
def slotsUsed : Nat := 5
def theMethod : MethodId := ⟨1, 1⟩
def args0 : Array Value := #[.int 3, .int 1, .int 2, .int 3, .int 4, .int 7]
def aboutOver (below : List Frame) : State where
  vm := { classes := classes, interned := interned.toArray }
  heap := heap
  slotsUsed := slotsUsed
  threads := #[{ frames := .invoking theMethod args0 :: below }]
def below0 : List Frame := [.native { method := ⟨0, 0⟩, args := #[] }]
def about1 : State := aboutOver below0
def p0 : Program := .bare "" "" ""
def e0 : Env := launch0.env 0 0 0
theorem w_frames : about1.frames = Frame.invoking theMethod args0 :: below0 := rfl
set_option maxRecDepth 65536 in
theorem w_args : argsFit about1.vm theMethod args0 = true := by decide +kernel
set_option maxRecDepth 65536 in
theorem w_heap : heapFits about1 = true := by decide +kernel
set_option maxRecDepth 65536 in
theorem w_runnable : about1.curStatus? = some .runnable := by decide +kernel
set_option maxRecDepth 65536 in
theorem w_alone : about1.alone = true := by decide +kernel
set_option maxRecDepth 65536 in
theorem w_named : about1.methodNamed? x = some theMethod := by decide +kernel
set_option maxRecDepth 65536 in
theorem w_hears : about1.hears theMethod below0 = true := by decide +kernel
set_option maxRecDepth 65536 in
theorem w_ripe : about1.ripe theMethod args0 below0 = true := by decide +kernel
theorem w_running : about1.status = .running := rfl
set_option maxRecDepth 65536 in
theorem w_room : about1.hasRoom e0.platform room_1 = true :=
  launch0.hasRoom_least _ room_1 (by decide +kernel) (by decide +kernel) (by decide +kernel) (by decide +kernel) (by decide +kernel) (by decide +kernel)
theorem allAtoms_all (ts : List Jvm.Cond) (a : Array Jvm.Value) (st : Jvm.State) : (allAtoms ts).before a st = ts.all (fun c => c.before a st) := by
  induction ts with
  | nil => rfl
  | cons c t ih =>
    show (Jvm.Cond.and c (allAtoms t)).before a st = _
    rw [Jvm.Cond.before_and, ih, List.all_cons]
def words1 : List Jvm.Cond := Jvm.Cond.code x code maxLocals ret :: tables_1
/-- a 'code' word, met by the world's own term for the bytes: nothing is compared byte by byte -/
theorem code_word {y : MethodName} {bytes : ByteArray} {mx : Nat} {rt : Option FieldType} {a : Array Value} {s : State} {m : MethodId} {meth : Method} {c : Code} (h1 : s.methodNamed? y = some m) (h2 : s.vm.method? m = some meth) (h3 : meth.code = some c) (h4 : c.code = bytes)
    (h5 : (c.maxLocals == mx && c.exceptionTable.isEmpty && decide (c.maxStack ≤ mostOperands) && decide (meth.sig.returnType = rt) && !meth.locks && decide (parseMethodDescriptor y.desc = some meth.sig)) = true) : (Jvm.Cond.code y bytes mx rt).before a s = true := by
  simp only [Bool.and_eq_true, beq_iff_eq, Bool.not_eq_true', decide_eq_true_eq] at h5
  obtain ⟨⟨⟨⟨⟨g1, g2⟩, g3⟩, g4⟩, g5⟩, g6⟩ := h5
  simp [Cond.before, Cond.holds, Cond.value, h1, h2, h3, h4, g1, g2, g3, g4, g5, g6]
def isCode : Jvm.Cond → Bool
  | .code _ _ _ _ => true
  | _ => false
theorem all_split {L : List Jvm.Cond} {P : Jvm.Cond → Bool} (h1 : L.all (fun c => isCode c || P c) = true) (h2 : ∀ c ∈ L.filter isCode, P c = true) : L.all P = true := by
  refine List.all_eq_true.mpr fun c hc => ?_
  have h := List.all_eq_true.mp h1 c hc
  rcases Bool.eq_false_or_eq_true (isCode c) with hi | hi
  · exact h2 c (List.mem_filter.mpr ⟨hc, hi⟩)
  · simpa [hi] using h
set_option maxRecDepth 65536 in
theorem w_c0 : (Jvm.Cond.code x code maxLocals ret).before args0 about1 = true := code_word (m := ⟨1, 1⟩) (meth := k1m1) (c := k1c1) (by decide +kernel) rfl rfl rfl (by decide +kernel)
set_option maxRecDepth 65536 in
theorem w_c1 : (Jvm.Cond.code ({ cls := "com/example/weftline/weftline/ExternalEntity", name := "afterByteOrderMark", desc := "([B)I" } : Jvm.MethodName) prog_14_method_26_code (1 : Nat) (Option.some Jvm.ClassFile.FieldType.int)).before args0 about1 = true := code_word (m := ⟨2, 0⟩) (meth := k2m0) (c := k2c0) (by decide +kernel) rfl rfl rfl (by decide +kernel)
set_option maxRecDepth 65536 in
theorem w_c2 : (Jvm.Cond.code ({ cls := "com/example/weftline/weftline/ExternalEntity", name := "startsWith", desc := "([BI[B)Z" } : Jvm.MethodName) prog_14_method_30_code (4 : Nat) (Option.some Jvm.ClassFile.FieldType.boolean)).before args0 about1 = true := code_word (m := ⟨2, 1⟩) (meth := k2m1) (c := k2c1) (by decide +kernel) rfl rfl rfl (by decide +kernel)
def codes1 : List Jvm.Cond := [Jvm.Cond.code x code maxLocals ret, Jvm.Cond.code ({ cls := "com/example/weftline/weftline/ExternalEntity", name := "afterByteOrderMark", desc := "([B)I" } : Jvm.MethodName) prog_14_method_26_code (1 : Nat) (Option.some Jvm.ClassFile.FieldType.int), Jvm.Cond.code ({ cls := "com/example/weftline/weftline/ExternalEntity", name := "startsWith", desc := "([BI[B)Z" } : Jvm.MethodName) prog_14_method_30_code (4 : Nat) (Option.some Jvm.ClassFile.FieldType.boolean)]
set_option maxRecDepth 65536 in
theorem codes_eq : words1.filter isCode = codes1 := rfl
theorem w_codes : ∀ c ∈ words1.filter isCode, c.before args0 about1 = true := by
  rw [codes_eq]
  intro c hc
  simp only [codes1, List.mem_cons, List.not_mem_nil, or_false] at hc
  rcases hc with rfl | rfl | rfl
  · exact w_c0
  · exact w_c1
  · exact w_c2
set_option maxRecDepth 65536 in
theorem w_t1 : words1.all (fun c => isCode c || c.before args0 about1) = true := by decide +kernel
theorem w_tables : (allAtoms (Jvm.Cond.code x code maxLocals ret :: tables_1)).before args0 about1 = true := by
  rw [allAtoms_all]
  show words1.all (fun c => c.before args0 about1) = true
  refine all_split ?_ w_codes
  rw [w_t1]
set_option maxRecDepth 65536 in
theorem w_case : (Jvm.Cond.and given_1 narrow_1).before args0 about1 = true := by decide +kernel
theorem w_applies : (headSpec (Jvm.Cond.code x code maxLocals ret :: tables_1) room_1).applies x e0.platform about1 = true :=
  (Spec.applies_iff w_frames).mpr ⟨w_running, w_runnable, w_alone, w_named, w_hears, w_ripe, w_room, w_tables⟩
theorem atStart : AtStart classFile x code maxLocals ret World_1 tables_1 room_1 Calls_1 rest_1 Pre_1 launch0 p0 e0 about1 theMethod args0 below0 :=
  ⟨lists_1, trivial, launch0.admits_env _ _ _, launch0.least_env, fairChoices_fair.cas, fairChoices_fair.clock, w_frames, w_args, w_heap, w_applies, trivial, trivial, w_case⟩
end start1
theorem witness_1 : WitnessClaimed_1 := ⟨start1.p0, start1.e0, start1.about1, start1.theMethod, start1.args0, start1.below0, start1.atStart⟩
end Jvm.Pilot.@@N@@
