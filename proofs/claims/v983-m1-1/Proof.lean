import JvmDerived
import JvmDerived.Pilot.@@N@@Statement
import JvmDerived.Pilot.@@N@@Code
set_option linter.unusedVariables false
set_option linter.unusedSimpArgs false
namespace Jvm.Own
open Sem ClassFile Op Lib Jvm.Stand Jvm.Free Jvm.LawKit Jvm.RoadKit
/-! THE OWN LAYER: a walk as a predicate on (heap, cells spent, slots spent, pc, locals, stack); each step is one rule 'what follows holds there -> what is asked holds here'. -/
abbrev Wk := Heap → Nat → Nat → Nat → Array Slot → List Value → Prop
def Ends (Z s : State) (R : Room) (Q : Option Value → Heap → Prop) (o : Outcome) (u : State) : Prop :=
  ∃ v L, o = .returned v ∧ (Q v u.heap ∧ Ext Z.heap u.heap ∧ Fr Z.heap.size L) ∧ FrameEnd s o u L R.cells R.slots
def Run (p : Program) (l : Launch) (e : Env) (R : Room) (s : State) (m : MethodId) (args : Array Value) (below : List Frame) (meth : Method) (c : Code) (Z : State) (Q : Option Value → Heap → Prop) : Wk := fun h k n pc Ls st =>
  Ext Z.heap h → ∀ T locs, Stand p l e R s m args below meth c T locs k n → T.heap = h → Fr Z.heap.size locs →
    ∃ u o, Steps p.tables e below (T.setTop (mkF m pc Ls st)) u ∧ u.status = .running ∧ Ended u below o ∧ Ends Z s R Q o u
def Ok (p : Program) (s : State) (m : MethodId) (meth : Method) (c : Code) (Z : State) (a0 : Array Value) (tb : List Jvm.Cond) (own : String) (code : ByteArray) (ml : Nat) (rt : Option FieldType) (nm : String) : Prop :=
  p.tables.exec = Jvm.exec ∧ c.code = code ∧ c.maxLocals = ml ∧ s.vm.findClass own = some m.cls ∧ meth.sig.returnType = rt ∧ meth.locks = false ∧ Z.Warmed39 s.vm ∧ meth.name = nm ∧ (∀ d ∈ tb, d.before a0 Z = true)
def Walk (W : Wk) (l : Launch) (Z : State) (a0 : Array Value) (tb : List Jvm.Cond) (own : String) (code : ByteArray) (ml : Nat) (rt : Option FieldType) (nm : String) (R : Room) (Q : Option Value → Heap → Prop) : Prop :=
  ∃ p e s m args below meth c, W = Run p l e R s m args below meth c Z Q ∧ Ok p s m meth c Z a0 tb own code ml rt nm
/-- what a method does, called on these arguments over this heap -/
def Con (l : Launch) (Z : State) (y : MethodName) (code : ByteArray) (ml : Nat) (rt : Option FieldType) (rm : Room) (as : Array Value) (h : Heap) (Q : Option Value → Heap → Prop) : Prop :=
  Ext Z.heap h → ∀ ws, MetFree l y (head1 (Jvm.Cond.code y code ml rt :: ws) rm) (fun a U => a = as ∧ Z.Warmed39 U.vm ∧ U.heap = h) (fun _ _ _ _ _ => True) (fun _ U o U' => Ends Z U rm Q o U')
/-- it returns v and the heap stands as it was -/
def Same (v : Option Value) (h : Heap) : Option Value → Heap → Prop := fun v' h' => v' = v ∧ h' = h
theorem same_intro {v : Option Value} {h : Heap} {P : Option Value → Heap → Prop} (K : P v h) : ∀ v' h', Same v h v' h' → P v' h' := by
  rintro _ _ ⟨rfl, rfl⟩; exact K
theorem Con.of {l : Launch} {Z : State} {a0 : Array Value} {tb : List Jvm.Cond} {y : MethodName} {code : ByteArray} {ml : Nat} {rt : Option FieldType} {rm : Room} {as : Array Value} {h : Heap} {Q : Option Value → Heap → Prop} {Ls : Array Slot}
    (hw : ∀ d ∈ tb, d.before a0 Z = true) (hpn : plainFor y = true) (hef : ∀ m, entryFrame m as ml = mkF m 0 Ls []) (H : ∀ W : Wk, Walk W l Z a0 tb y.cls code ml rt y.name rm Q → W h 0 0 0 Ls []) : Con l Z y code ml rt rm as h Q := by
  intro hE ws
  refine MetFree.of_bodySF hpn hisR ?_
  intro p e s m args below meth c s₁ Bd hml0 hP hK
  obtain ⟨rfl, hZ, hh⟩ := hP
  have X0 : Stand p l e rm s m args below meth c s₁ [] 0 0 := Stand.of_body Bd
  have e0 : s₁.heap = h := by rw [← hh, Bd.state]; rfl
  obtain ⟨u, o, h1, h2, h3, h4⟩ := H _ ⟨p, e, s, m, args, below, meth, c, rfl, Bd.exec, Bd.bytes, hml0, findClass_of_methodNamed Bd.named, Bd.returns, BodyLoose.notSynchronized Bd, hZ, (name_of_methodNamed Bd.named Bd.method).1, hw⟩ hE s₁ [] X0 e0 (Fr.nil _)
  exact ⟨u, o, castTop (hef m) h1, h2, h3, h4⟩
section Rules
variable {W : Wk} {l : Launch} {Z : State} {a0 : Array Value} {tb : List Jvm.Cond} {own : String} {code : ByteArray} {ml : Nat} {rt : Option FieldType} {nm : String} {R : Room} {Q : Option Value → Heap → Prop} {h : Heap} {k n pc : Nat} {Ls : Array Slot} {st : List Value}
theorem Walk.word (C : Walk W l Z a0 tb own code ml rt nm R Q) {d : Jvm.Cond} (q : d ∈ tb) : d.before a0 Z = true := by
  obtain ⟨p, e, s, m, args, below, meth, c, rfl, ok⟩ := C
  exact ok.2.2.2.2.2.2.2.2 d q
theorem Walk.more (C : Walk W l Z a0 tb own code ml rt nm R Q) {k' n' : Nat} (hk : k ≤ k') (hn : n ≤ n') (K : W h k' n' pc Ls st) : W h k n pc Ls st := by
  obtain ⟨p, e, s, m, args, below, meth, c, rfl, ok⟩ := C
  exact fun hE T locs X eT N => K hE T locs (X.more hk hn) eT N
theorem Walk.kept (C : Walk W l Z a0 tb own code ml rt nm R Q) (K : Ext Z.heap h → W h k n pc Ls st) : W h k n pc Ls st := by
  obtain ⟨p, e, s, m, args, below, meth, c, rfl, ok⟩ := C
  exact fun hE => K hE hE
/-- a step that moves neither heap nor tables -/
theorem Walk.plain (C : Walk W l Z a0 tb own code ml rt nm R Q) {pc' : Nat} {Ls' : Array Slot} {st' : List Value}
    (S : ∀ {tb' : Tables} [Ours tb'] {e : Env} {below : List Frame} {T target : State} {m : MethodId} {c : Code}, At T m c below → tb'.exec = Jvm.exec → c.code = code → Steps tb' e below (T.setTop (mkF m pc' Ls' st')) target → Steps tb' e below (T.setTop (mkF m pc Ls st)) target)
    (K : W h k n pc' Ls' st') : W h k n pc Ls st := by
  obtain ⟨p, e, s, m, args, below, meth, c, rfl, ok⟩ := C
  intro hE T locs X eT N
  obtain ⟨u, o, h1, h2⟩ := K hE T locs X eT N
  exact ⟨u, o, S X.here ok.1 ok.2.1 h1, h2⟩
theorem Walk.iloadN (C : Walk W l Z a0 tb own code ml rt nm R Q) (pc' : Nat) {i : Fin 4} {v : Int32} (hd : decode code pc = .ok (.iload_n i, 1)) (hp : pc' = pc + 1) (hl : Ls[i.val]? = some (.val (.int v))) (K : W h k n pc' Ls (.int v :: st)) : W h k n pc Ls st := by
  subst hp; exact C.plain (fun hA hx hb' hr => XS.iloadN hA hx rfl (hb hb' hd) hl hr) K
theorem Walk.iload (C : Walk W l Z a0 tb own code ml rt nm R Q) (pc' : Nat) {i : Nat} {v : Int32} (hd : decode code pc = .ok (.iload i, 2)) (hp : pc' = pc + 2) (hl : Ls[i]? = some (.val (.int v))) (K : W h k n pc' Ls (.int v :: st)) : W h k n pc Ls st := by
  subst hp; exact C.plain (fun hA hx hb' hr => XS.iload hA hx rfl (hb hb' hd) hl hr) K
theorem Walk.lloadN (C : Walk W l Z a0 tb own code ml rt nm R Q) (pc' : Nat) {i : Fin 4} {v : Int64} (hd : decode code pc = .ok (.lload_n i, 1)) (hp : pc' = pc + 1) (hl : Ls[i.val]? = some (.val (.long v))) (K : W h k n pc' Ls (.long v :: st)) : W h k n pc Ls st := by
  subst hp; exact C.plain (fun hA hx hb' hr => XT.lloadN hA hx rfl (hb hb' hd) hl hr) K
theorem Walk.lload (C : Walk W l Z a0 tb own code ml rt nm R Q) (pc' : Nat) {i : Nat} {v : Int64} (hd : decode code pc = .ok (.lload i, 2)) (hp : pc' = pc + 2) (hl : Ls[i]? = some (.val (.long v))) (K : W h k n pc' Ls (.long v :: st)) : W h k n pc Ls st := by
  subst hp; exact C.plain (fun hA hx hb' hr => XT.lload hA hx rfl (hb hb' hd) hl hr) K
theorem Walk.aloadN (C : Walk W l Z a0 tb own code ml rt nm R Q) (pc' : Nat) {i : Fin 4} {v : Value} (hd : decode code pc = .ok (.aload_n i, 1)) (hp : pc' = pc + 1) (hl : Ls[i.val]? = some (.val v)) (hv : v.isRef = true) (K : W h k n pc' Ls (v :: st)) : W h k n pc Ls st := by
  subst hp; exact C.plain (fun hA hx hb' hr => XS.aloadN hA hx rfl (hb hb' hd) hl hv hr) K
theorem Walk.aload (C : Walk W l Z a0 tb own code ml rt nm R Q) (pc' : Nat) {i : Nat} {v : Value} (hd : decode code pc = .ok (.aload i, 2)) (hp : pc' = pc + 2) (hl : Ls[i]? = some (.val v)) (hv : v.isRef = true) (K : W h k n pc' Ls (v :: st)) : W h k n pc Ls st := by
  subst hp; exact C.plain (fun hA hx hb' hr => XS.aload hA hx rfl (hb hb' hd) hl hv hr) K
theorem Walk.istoreN (C : Walk W l Z a0 tb own code ml rt nm R Q) (pc' : Nat) (Ls' : Array Slot) {i : Fin 4} {x : Int32} (hd : decode code pc = .ok (.istore_n i, 1)) (hp : pc' = pc + 1) (hl : storeLocals Ls i.val (.int x) = some Ls') (K : W h k n pc' Ls' st) : W h k n pc Ls (.int x :: st) := by
  subst hp; exact C.plain (fun hA hx hb' hr => XS.istoreN hA hx rfl (hb hb' hd) rfl hl hr) K
theorem Walk.istore (C : Walk W l Z a0 tb own code ml rt nm R Q) (pc' : Nat) (Ls' : Array Slot) {i : Nat} {x : Int32} (hd : decode code pc = .ok (.istore i, 2)) (hp : pc' = pc + 2) (hl : storeLocals Ls i (.int x) = some Ls') (K : W h k n pc' Ls' st) : W h k n pc Ls (.int x :: st) := by
  subst hp; exact C.plain (fun hA hx hb' hr => XS.istore hA hx rfl (hb hb' hd) rfl hl hr) K
theorem Walk.lstoreN (C : Walk W l Z a0 tb own code ml rt nm R Q) (pc' : Nat) (Ls' : Array Slot) {i : Fin 4} {x : Int64} (hd : decode code pc = .ok (.lstore_n i, 1)) (hp : pc' = pc + 1) (hl : storeLocals Ls i.val (.long x) = some Ls') (K : W h k n pc' Ls' st) : W h k n pc Ls (.long x :: st) := by
  subst hp; exact C.plain (fun hA hx hb' hr => XT.lstoreN hA hx rfl (hb hb' hd) rfl hl hr) K
theorem Walk.lstore (C : Walk W l Z a0 tb own code ml rt nm R Q) (pc' : Nat) (Ls' : Array Slot) {i : Nat} {x : Int64} (hd : decode code pc = .ok (.lstore i, 2)) (hp : pc' = pc + 2) (hl : storeLocals Ls i (.long x) = some Ls') (K : W h k n pc' Ls' st) : W h k n pc Ls (.long x :: st) := by
  subst hp; exact C.plain (fun hA hx hb' hr => XT.lstore hA hx rfl (hb hb' hd) rfl hl hr) K
theorem Walk.astoreN (C : Walk W l Z a0 tb own code ml rt nm R Q) (pc' : Nat) (Ls' : Array Slot) {i : Fin 4} {x : Value} (hd : decode code pc = .ok (.astore_n i, 1)) (hp : pc' = pc + 1) (hv : x.isRef = true) (hl : storeLocals Ls i.val x = some Ls') (K : W h k n pc' Ls' st) : W h k n pc Ls (x :: st) := by
  subst hp; exact C.plain (fun hA hx hb' hr => XS.astoreN hA hx rfl (hb hb' hd) rfl hv hl hr) K
theorem Walk.astore (C : Walk W l Z a0 tb own code ml rt nm R Q) (pc' : Nat) (Ls' : Array Slot) {i : Nat} {x : Value} (hd : decode code pc = .ok (.astore i, 2)) (hp : pc' = pc + 2) (hv : x.isRef = true) (hl : storeLocals Ls i x = some Ls') (K : W h k n pc' Ls' st) : W h k n pc Ls (x :: st) := by
  subst hp; exact C.plain (fun hA hx hb' hr => XS.astore hA hx rfl (hb hb' hd) rfl hv hl hr) K
theorem Walk.iconst (C : Walk W l Z a0 tb own code ml rt nm R Q) (pc' : Nat) (v : Int32) {i : Int} (hd : decode code pc = .ok (.iconst i, 1)) (hp : pc' = pc + 1) (hv : Int32.ofInt i = v) (K : W h k n pc' Ls (.int v :: st)) : W h k n pc Ls st := by
  subst hp hv; exact C.plain (fun hA hx hb' hr => XS.iconst hA hx rfl (hb hb' hd) hr) K
theorem Walk.bipush (C : Walk W l Z a0 tb own code ml rt nm R Q) (pc' : Nat) (v : Int32) {i : Int} (hd : decode code pc = .ok (.bipush i, 2)) (hp : pc' = pc + 2) (hv : (Int8.ofInt i).toInt32 = v) (K : W h k n pc' Ls (.int v :: st)) : W h k n pc Ls st := by
  subst hp hv; exact C.plain (fun hA hx hb' hr => XS.bipush hA hx rfl (hb hb' hd) hr) K
theorem Walk.sipush (C : Walk W l Z a0 tb own code ml rt nm R Q) (pc' : Nat) (v : Int32) {i : Int} (hd : decode code pc = .ok (.sipush i, 3)) (hp : pc' = pc + 3) (hv : (Int16.ofInt i).toInt32 = v) (K : W h k n pc' Ls (.int v :: st)) : W h k n pc Ls st := by
  subst hp hv; exact C.plain (fun hA hx hb' hr => XS.sipush hA hx rfl (hb hb' hd) hr) K
theorem Walk.lconst (C : Walk W l Z a0 tb own code ml rt nm R Q) (pc' : Nat) (v : Int64) {i : Fin 2} (hd : decode code pc = .ok (.lconst i, 1)) (hp : pc' = pc + 1) (hv : Int64.ofNat i = v) (K : W h k n pc' Ls (.long v :: st)) : W h k n pc Ls st := by
  subst hp hv; exact C.plain (fun hA hx hb' hr => XT.lconst hA hx rfl (hb hb' hd) hr) K
theorem Walk.aconstNull (C : Walk W l Z a0 tb own code ml rt nm R Q) (pc' : Nat) (hd : decode code pc = .ok (.aconst_null, 1)) (hp : pc' = pc + 1) (K : W h k n pc' Ls (.null :: st)) : W h k n pc Ls st := by
  subst hp; exact C.plain (fun hA hx hb' hr => XS.aconstNull hA hx rfl (hb hb' hd) hr) K
theorem Walk.iadd (C : Walk W l Z a0 tb own code ml rt nm R Q) (pc' : Nat) {x y : Int32} (hd : decode code pc = .ok (.iadd, 1)) (hp : pc' = pc + 1) (K : W h k n pc' Ls (.int (x + y) :: st)) : W h k n pc Ls (.int y :: .int x :: st) := by
  subst hp; exact C.plain (fun hA hx hb' hr => XS.iadd hA hx rfl (hb hb' hd) rfl hr) K
theorem Walk.isub (C : Walk W l Z a0 tb own code ml rt nm R Q) (pc' : Nat) {x y : Int32} (hd : decode code pc = .ok (.isub, 1)) (hp : pc' = pc + 1) (K : W h k n pc' Ls (.int (x - y) :: st)) : W h k n pc Ls (.int y :: .int x :: st) := by
  subst hp; exact C.plain (fun hA hx hb' hr => XS.isub hA hx rfl (hb hb' hd) rfl hr) K
theorem Walk.iand (C : Walk W l Z a0 tb own code ml rt nm R Q) (pc' : Nat) {x y : Int32} (hd : decode code pc = .ok (.iand, 1)) (hp : pc' = pc + 1) (K : W h k n pc' Ls (.int (x &&& y) :: st)) : W h k n pc Ls (.int y :: .int x :: st) := by
  subst hp; exact C.plain (fun hA hx hb' hr => XS.iand hA hx rfl (hb hb' hd) rfl hr) K
theorem Walk.imul (C : Walk W l Z a0 tb own code ml rt nm R Q) (pc' : Nat) {x y : Int32} (hd : decode code pc = .ok (.imul, 1)) (hp : pc' = pc + 1) (K : W h k n pc' Ls (.int (x * y) :: st)) : W h k n pc Ls (.int y :: .int x :: st) := by
  subst hp; exact C.plain (fun hA hx hb' hr => XS.imul hA hx rfl (hb hb' hd) rfl hr) K
theorem Walk.ixor (C : Walk W l Z a0 tb own code ml rt nm R Q) (pc' : Nat) {x y : Int32} (hd : decode code pc = .ok (.ixor, 1)) (hp : pc' = pc + 1) (K : W h k n pc' Ls (.int (x ^^^ y) :: st)) : W h k n pc Ls (.int y :: .int x :: st) := by
  subst hp; exact C.plain (fun hA hx hb' hr => XT.ixor hA hx rfl (hb hb' hd) rfl hr) K
theorem Walk.ior (C : Walk W l Z a0 tb own code ml rt nm R Q) (pc' : Nat) {x y : Int32} (hd : decode code pc = .ok (.ior, 1)) (hp : pc' = pc + 1) (K : W h k n pc' Ls (.int (x ||| y) :: st)) : W h k n pc Ls (.int y :: .int x :: st) := by
  subst hp; exact C.plain (fun hA hx hb' hr => XT.ior hA hx rfl (hb hb' hd) rfl hr) K
theorem Walk.ishl (C : Walk W l Z a0 tb own code ml rt nm R Q) (pc' : Nat) {x y : Int32} (hd : decode code pc = .ok (.ishl, 1)) (hp : pc' = pc + 1) (K : W h k n pc' Ls (.int (x <<< (y &&& 31)) :: st)) : W h k n pc Ls (.int y :: .int x :: st) := by
  subst hp; exact C.plain (fun hA hx hb' hr => XT.ishl hA hx rfl (hb hb' hd) rfl hr) K
theorem Walk.ishr (C : Walk W l Z a0 tb own code ml rt nm R Q) (pc' : Nat) {x y : Int32} (hd : decode code pc = .ok (.ishr, 1)) (hp : pc' = pc + 1) (K : W h k n pc' Ls (.int (x >>> (y &&& 31)) :: st)) : W h k n pc Ls (.int y :: .int x :: st) := by
  subst hp; exact C.plain (fun hA hx hb' hr => XT.ishr hA hx rfl (hb hb' hd) rfl hr) K
theorem Walk.iushr (C : Walk W l Z a0 tb own code ml rt nm R Q) (pc' : Nat) {x y : Int32} (hd : decode code pc = .ok (.iushr, 1)) (hp : pc' = pc + 1) (K : W h k n pc' Ls (.int (XT.ushr x y) :: st)) : W h k n pc Ls (.int y :: .int x :: st) := by
  subst hp; exact C.plain (fun hA hx hb' hr => XT.iushr hA hx rfl (hb hb' hd) rfl hr) K
theorem Walk.ladd (C : Walk W l Z a0 tb own code ml rt nm R Q) (pc' : Nat) {x y : Int64} (hd : decode code pc = .ok (.ladd, 1)) (hp : pc' = pc + 1) (K : W h k n pc' Ls (.long (x + y) :: st)) : W h k n pc Ls (.long y :: .long x :: st) := by
  subst hp; exact C.plain (fun hA hx hb' hr => XT.ladd hA hx rfl (hb hb' hd) rfl hr) K
theorem Walk.lsub (C : Walk W l Z a0 tb own code ml rt nm R Q) (pc' : Nat) {x y : Int64} (hd : decode code pc = .ok (.lsub, 1)) (hp : pc' = pc + 1) (K : W h k n pc' Ls (.long (x - y) :: st)) : W h k n pc Ls (.long y :: .long x :: st) := by
  subst hp; exact C.plain (fun hA hx hb' hr => XT.lsub hA hx rfl (hb hb' hd) rfl hr) K
theorem Walk.lmul (C : Walk W l Z a0 tb own code ml rt nm R Q) (pc' : Nat) {x y : Int64} (hd : decode code pc = .ok (.lmul, 1)) (hp : pc' = pc + 1) (K : W h k n pc' Ls (.long (x * y) :: st)) : W h k n pc Ls (.long y :: .long x :: st) := by
  subst hp; exact C.plain (fun hA hx hb' hr => XT.lmul hA hx rfl (hb hb' hd) rfl hr) K
theorem Walk.land (C : Walk W l Z a0 tb own code ml rt nm R Q) (pc' : Nat) {x y : Int64} (hd : decode code pc = .ok (.land, 1)) (hp : pc' = pc + 1) (K : W h k n pc' Ls (.long (x &&& y) :: st)) : W h k n pc Ls (.long y :: .long x :: st) := by
  subst hp; exact C.plain (fun hA hx hb' hr => XT.land hA hx rfl (hb hb' hd) rfl hr) K
theorem Walk.lor (C : Walk W l Z a0 tb own code ml rt nm R Q) (pc' : Nat) {x y : Int64} (hd : decode code pc = .ok (.lor, 1)) (hp : pc' = pc + 1) (K : W h k n pc' Ls (.long (x ||| y) :: st)) : W h k n pc Ls (.long y :: .long x :: st) := by
  subst hp; exact C.plain (fun hA hx hb' hr => XT.lor hA hx rfl (hb hb' hd) rfl hr) K
theorem Walk.lxor (C : Walk W l Z a0 tb own code ml rt nm R Q) (pc' : Nat) {x y : Int64} (hd : decode code pc = .ok (.lxor, 1)) (hp : pc' = pc + 1) (K : W h k n pc' Ls (.long (x ^^^ y) :: st)) : W h k n pc Ls (.long y :: .long x :: st) := by
  subst hp; exact C.plain (fun hA hx hb' hr => XT.lxor hA hx rfl (hb hb' hd) rfl hr) K
theorem Walk.lcmp (C : Walk W l Z a0 tb own code ml rt nm R Q) (pc' : Nat) {x y : Int64} (hd : decode code pc = .ok (.lcmp, 1)) (hp : pc' = pc + 1) (K : W h k n pc' Ls (.int (XT.cmpL x y) :: st)) : W h k n pc Ls (.long y :: .long x :: st) := by
  subst hp; exact C.plain (fun hA hx hb' hr => XT.lcmp hA hx rfl (hb hb' hd) rfl hr) K
theorem Walk.idiv (C : Walk W l Z a0 tb own code ml rt nm R Q) (pc' : Nat) {x y : Int32} (hd : decode code pc = .ok (.idiv, 1)) (hp : pc' = pc + 1) (hy : y ≠ 0) (K : W h k n pc' Ls (.int (x / y) :: st)) : W h k n pc Ls (.int y :: .int x :: st) := by
  subst hp; exact C.plain (fun hA hx hb' hr => XS.idiv hA hx rfl (hb hb' hd) rfl hy hr) K
theorem Walk.irem (C : Walk W l Z a0 tb own code ml rt nm R Q) (pc' : Nat) {x y : Int32} (hd : decode code pc = .ok (.irem, 1)) (hp : pc' = pc + 1) (hy : y ≠ 0) (K : W h k n pc' Ls (.int (x % y) :: st)) : W h k n pc Ls (.int y :: .int x :: st) := by
  subst hp; rw [← irem_eq_mod] at K; exact C.plain (fun hA hx hb' hr => XS.irem hA hx rfl (hb hb' hd) rfl hy hr) K
theorem Walk.i2l (C : Walk W l Z a0 tb own code ml rt nm R Q) (pc' : Nat) {x : Int32} (hd : decode code pc = .ok (.i2l, 1)) (hp : pc' = pc + 1) (K : W h k n pc' Ls (.long x.toInt64 :: st)) : W h k n pc Ls (.int x :: st) := by
  subst hp; exact C.plain (fun hA hx hb' hr => XT.i2l hA hx rfl (hb hb' hd) rfl hr) K
theorem Walk.l2i (C : Walk W l Z a0 tb own code ml rt nm R Q) (pc' : Nat) {x : Int64} (hd : decode code pc = .ok (.l2i, 1)) (hp : pc' = pc + 1) (K : W h k n pc' Ls (.int x.toInt32 :: st)) : W h k n pc Ls (.long x :: st) := by
  subst hp; exact C.plain (fun hA hx hb' hr => XT.l2i hA hx rfl (hb hb' hd) rfl hr) K
theorem Walk.i2b (C : Walk W l Z a0 tb own code ml rt nm R Q) (pc' : Nat) {x : Int32} (hd : decode code pc = .ok (.i2b, 1)) (hp : pc' = pc + 1) (K : W h k n pc' Ls (.int x.toInt8.toInt32 :: st)) : W h k n pc Ls (.int x :: st) := by
  subst hp; exact C.plain (fun hA hx hb' hr => XT.i2b hA hx rfl (hb hb' hd) rfl hr) K
theorem Walk.i2c (C : Walk W l Z a0 tb own code ml rt nm R Q) (pc' : Nat) {x : Int32} (hd : decode code pc = .ok (.i2c, 1)) (hp : pc' = pc + 1) (K : W h k n pc' Ls (.int x.toUInt32.toUInt16.toUInt32.toInt32 :: st)) : W h k n pc Ls (.int x :: st) := by
  subst hp; exact C.plain (fun hA hx hb' hr => XT.i2c hA hx rfl (hb hb' hd) rfl hr) K
theorem Walk.ineg (C : Walk W l Z a0 tb own code ml rt nm R Q) (pc' : Nat) {x : Int32} (hd : decode code pc = .ok (.ineg, 1)) (hp : pc' = pc + 1) (K : W h k n pc' Ls (.int (-x) :: st)) : W h k n pc Ls (.int x :: st) := by
  subst hp; exact C.plain (fun hA hx hb' hr => XS.ineg hA hx rfl (hb hb' hd) rfl hr) K
theorem Walk.dup (C : Walk W l Z a0 tb own code ml rt nm R Q) (pc' : Nat) {x : Value} (hd : decode code pc = .ok (.dup, 1)) (hp : pc' = pc + 1) (hc : x.category = 1) (K : W h k n pc' Ls (x :: x :: st)) : W h k n pc Ls (x :: st) := by
  subst hp; exact C.plain (fun hA hx hb' hr => XS.dup hA hx rfl (hb hb' hd) rfl hc hr) K
theorem Walk.dupX1 (C : Walk W l Z a0 tb own code ml rt nm R Q) (pc' : Nat) {x y : Value} (hd : decode code pc = .ok (.dup_x1, 1)) (hp : pc' = pc + 1) (hc : x.category = 1) (hc' : y.category = 1) (K : W h k n pc' Ls (x :: y :: x :: st)) : W h k n pc Ls (x :: y :: st) := by
  subst hp; exact C.plain (fun hA hx hb' hr => XT.dupX1 hA hx rfl (hb hb' hd) rfl hc hc' hr) K
theorem Walk.dup2 (C : Walk W l Z a0 tb own code ml rt nm R Q) (pc' : Nat) {x y : Value} (hd : decode code pc = .ok (.dup2, 1)) (hp : pc' = pc + 1) (hc : x.category = 1) (hc' : y.category = 1) (K : W h k n pc' Ls (x :: y :: x :: y :: st)) : W h k n pc Ls (x :: y :: st) := by
  subst hp; exact C.plain (fun hA hx hb' hr => XT.dup2 hA hx rfl (hb hb' hd) rfl hc hc' hr) K
theorem Walk.pop (C : Walk W l Z a0 tb own code ml rt nm R Q) (pc' : Nat) {x : Value} (hd : decode code pc = .ok (.pop, 1)) (hp : pc' = pc + 1) (hc : x.category = 1) (K : W h k n pc' Ls st) : W h k n pc Ls (x :: st) := by
  subst hp; exact C.plain (fun hA hx hb' hr => XT.pop hA hx rfl (hb hb' hd) rfl hc hr) K
theorem Walk.iinc (C : Walk W l Z a0 tb own code ml rt nm R Q) (pc' : Nat) (Ls' : Array Slot) {i : Nat} {cst : Int} {x : Int32} (hd : decode code pc = .ok (.iinc i cst, 3)) (hp : pc' = pc + 3) (hl : Ls[i]? = some (.val (.int x))) (hl' : storeLocals Ls i (.int (x + Int32.ofInt cst)) = some Ls') (K : W h k n pc' Ls' st) : W h k n pc Ls st := by
  subst hp; exact C.plain (fun hA hx hb' hr => XS.iinc hA hx rfl (hb hb' hd) hl hl' hr) K
theorem Walk.goto (C : Walk W l Z a0 tb own code ml rt nm R Q) (pc' : Nat) {o : Int} (hd : decode code pc = .ok (.goto o, 3)) (hp : (pc : Int) + o = (pc' : Int)) (K : W h k n pc' Ls st) : W h k n pc Ls st :=
  C.plain (fun hA hx hb' hr => XS.goto hA hx rfl (pc0 := pc) (pc' := pc') rfl (hb hb' hd) (by omega) (by omega) hr) K
theorem Walk.ifT (C : Walk W l Z a0 tb own code ml rt nm R Q) (pc' : Nat) {cd : ClassFile.Cond} {x : Int32} {o : Int} (hd : decode code pc = .ok (.ifCond cd o, 3)) (hp : (pc : Int) + o = (pc' : Int)) (hc : ifCond.holds cd x = true) (K : W h k n pc' Ls st) : W h k n pc Ls (.int x :: st) :=
  C.plain (fun hA hx hb' hr => XS.ifYes hA hx rfl (pc0 := pc) (pc' := pc') rfl (hb hb' hd) rfl hc (by omega) (by omega) hr) K
theorem Walk.ifF (C : Walk W l Z a0 tb own code ml rt nm R Q) (pc' : Nat) {cd : ClassFile.Cond} {x : Int32} {o : Int} (hd : decode code pc = .ok (.ifCond cd o, 3)) (hp : pc' = pc + 3) (hc : ifCond.holds cd x = false) (K : W h k n pc' Ls st) : W h k n pc Ls (.int x :: st) := by
  subst hp; exact C.plain (fun hA hx hb' hr => XS.ifNo hA hx rfl (hb hb' hd) rfl hc hr) K
theorem Walk.icmpT (C : Walk W l Z a0 tb own code ml rt nm R Q) (pc' : Nat) {cd : ClassFile.Cond} {x y : Int32} {o : Int} (hd : decode code pc = .ok (.if_icmp cd o, 3)) (hp : (pc : Int) + o = (pc' : Int)) (hc : if_icmp.holds cd x y = true) (K : W h k n pc' Ls st) : W h k n pc Ls (.int y :: .int x :: st) :=
  C.plain (fun hA hx hb' hr => XS.icmpYes hA hx rfl (pc0 := pc) (pc' := pc') rfl (hb hb' hd) rfl hc (by omega) (by omega) hr) K
theorem Walk.icmpF (C : Walk W l Z a0 tb own code ml rt nm R Q) (pc' : Nat) {cd : ClassFile.Cond} {x y : Int32} {o : Int} (hd : decode code pc = .ok (.if_icmp cd o, 3)) (hp : pc' = pc + 3) (hc : if_icmp.holds cd x y = false) (K : W h k n pc' Ls st) : W h k n pc Ls (.int y :: .int x :: st) := by
  subst hp; exact C.plain (fun hA hx hb' hr => XS.icmpNo hA hx rfl (hb hb' hd) rfl hc hr) K
theorem Walk.acmpT (C : Walk W l Z a0 tb own code ml rt nm R Q) (pc' : Nat) {cd : ClassFile.ACond} {x y : Value} {o : Int} (hd : decode code pc = .ok (.if_acmp cd o, 3)) (hp : (pc : Int) + o = (pc' : Int)) (h1 : x.isRef = true) (h2 : y.isRef = true) (hc : XT.acmp cd x y = true) (K : W h k n pc' Ls st) : W h k n pc Ls (y :: x :: st) :=
  C.plain (fun hA hx hb' hr => XT.acmpYes hA hx rfl (pc0 := pc) (pc' := pc') rfl (hb hb' hd) rfl h1 h2 hc (by omega) (by omega) hr) K
theorem Walk.acmpF (C : Walk W l Z a0 tb own code ml rt nm R Q) (pc' : Nat) {cd : ClassFile.ACond} {x y : Value} {o : Int} (hd : decode code pc = .ok (.if_acmp cd o, 3)) (hp : pc' = pc + 3) (h1 : x.isRef = true) (h2 : y.isRef = true) (hc : XT.acmp cd x y = false) (K : W h k n pc' Ls st) : W h k n pc Ls (y :: x :: st) := by
  subst hp; exact C.plain (fun hA hx hb' hr => XT.acmpNo hA hx rfl (hb hb' hd) rfl h1 h2 hc hr) K
theorem Walk.ifnullT (C : Walk W l Z a0 tb own code ml rt nm R Q) (pc' : Nat) {o : Int} (hd : decode code pc = .ok (.ifnull o, 3)) (hp : (pc : Int) + o = (pc' : Int)) (K : W h k n pc' Ls st) : W h k n pc Ls (.null :: st) :=
  C.plain (fun hA hx hb' hr => XS.ifnullYes hA hx rfl (pc0 := pc) (pc' := pc') rfl (hb hb' hd) rfl (by omega) (by omega) hr) K
theorem Walk.ifnullF (C : Walk W l Z a0 tb own code ml rt nm R Q) (pc' : Nat) {b : Addr} {o : Int} (hd : decode code pc = .ok (.ifnull o, 3)) (hp : pc' = pc + 3) (K : W h k n pc' Ls st) : W h k n pc Ls (.ref b :: st) := by
  subst hp; exact C.plain (fun hA hx hb' hr => XS.ifnullNo hA hx rfl (hb hb' hd) rfl hr) K
theorem Walk.ifnonnullT (C : Walk W l Z a0 tb own code ml rt nm R Q) (pc' : Nat) {b : Addr} {o : Int} (hd : decode code pc = .ok (.ifnonnull o, 3)) (hp : (pc : Int) + o = (pc' : Int)) (K : W h k n pc' Ls st) : W h k n pc Ls (.ref b :: st) :=
  C.plain (fun hA hx hb' hr => XT.ifnonnullYes hA hx rfl (pc0 := pc) (pc' := pc') rfl (hb hb' hd) rfl (by omega) (by omega) hr) K
theorem Walk.ifnonnullF (C : Walk W l Z a0 tb own code ml rt nm R Q) (pc' : Nat) {o : Int} (hd : decode code pc = .ok (.ifnonnull o, 3)) (hp : pc' = pc + 3) (K : W h k n pc' Ls st) : W h k n pc Ls (.null :: st) := by
  subst hp; exact C.plain (fun hA hx hb' hr => XT.ifnonnullNo hA hx rfl (hb hb' hd) rfl hr) K
theorem Walk.lshl (C : Walk W l Z a0 tb own code ml rt nm R Q) (pc' : Nat) {x : Int64} {y : Int32} (hd : decode code pc = .ok (.lshl, 1)) (hp : pc' = pc + 1) (K : W h k n pc' Ls (.long (x <<< (y.toInt64 &&& 63)) :: st)) : W h k n pc Ls (.int y :: .long x :: st) := by
  subst hp; exact C.plain (fun hA hx hb' hr => XT.lshl hA hx rfl (hb hb' hd) rfl hr) K
theorem Walk.lshr (C : Walk W l Z a0 tb own code ml rt nm R Q) (pc' : Nat) {x : Int64} {y : Int32} (hd : decode code pc = .ok (.lshr, 1)) (hp : pc' = pc + 1) (K : W h k n pc' Ls (.long (x >>> (y.toInt64 &&& 63)) :: st)) : W h k n pc Ls (.int y :: .long x :: st) := by
  subst hp; exact C.plain (fun hA hx hb' hr => XT.lshr hA hx rfl (hb hb' hd) rfl hr) K
theorem Walk.lushr (C : Walk W l Z a0 tb own code ml rt nm R Q) (pc' : Nat) {x : Int64} {y : Int32} (hd : decode code pc = .ok (.lushr, 1)) (hp : pc' = pc + 1) (K : W h k n pc' Ls (.long (XT.ushrL x y) :: st)) : W h k n pc Ls (.int y :: .long x :: st) := by
  subst hp; exact C.plain (fun hA hx hb' hr => XT.lushr hA hx rfl (hb hb' hd) rfl hr) K
/-! the returns -/
theorem Walk.ret (C : Walk W l Z a0 tb own code ml rt nm R Q) {v : Value} {t : FieldType} {i : Instr} (hd : decode code pc = .ok (i, 1)) (hrt : rt = some t) (hn : narrow t v = v)
    (hi : (i = .ireturn ∧ (t = .int ∨ t = .boolean ∨ t = .byte ∨ t = .char ∨ t = .short) ∧ ∃ z, v = .int z) ∨ (i = .lreturn ∧ t = .long ∧ ∃ z, v = .long z) ∨ (i = .dreturn ∧ t = .double ∧ ∃ z, v = .double z) ∨ (i = .freturn ∧ t = .float ∧ ∃ z, v = .float z) ∨ (i = .areturn ∧ t.isReference = true ∧ v.isRef = true))
    (hq : Q (some v) h) (hk : k ≤ R.cells) (hs : n ≤ R.slots) : W h k n pc Ls (v :: st) := by
  obtain ⟨p, e, s, m, args, below, meth, c, rfl, hx, hby, hml, hown, hrt', hlk, hZ, hnm, hw⟩ := C
  intro hE T locs X eT N
  subst eT hrt
  obtain ⟨fs, hr, hrun, hended, hW, hsame⟩ := X.leave (v := some v) (fun h => by rw [hrt'] at h; cases h)
  exact ⟨_, _, retOut X hx hrt' hn hi (hb hby hd) hr, hrun, hended, _, _, rfl, ⟨hq, hE, N⟩, ⟨_, rfl⟩, hW, hsame.mono hk hs⟩
theorem Walk.retI (C : Walk W l Z a0 tb own code ml rt nm R Q) {x : Int32} (t : FieldType) (hd : decode code pc = .ok (.ireturn, 1)) (hrt : rt = some t) (ht : t = .int ∨ t = .boolean ∨ t = .byte ∨ t = .char ∨ t = .short) (hn : nar t x = x)
    (hk : k ≤ R.cells) (hs : n ≤ R.slots) (hq : Q (some (.int x)) h) : W h k n pc Ls (.int x :: st) :=
  C.ret hd hrt (by have e : narrow t (.int x) = .int (nar t x) := by rcases ht with rfl | rfl | rfl | rfl | rfl <;> rfl
                   rw [e, hn]) (Or.inl ⟨rfl, ht, _, rfl⟩) hq hk hs
theorem Walk.retA (C : Walk W l Z a0 tb own code ml rt nm R Q) {v : Value} (t : FieldType) (hd : decode code pc = .ok (.areturn, 1)) (hrt : rt = some t) (ht : t.isReference = true) (hv : v.isRef = true)
    (hk : k ≤ R.cells) (hs : n ≤ R.slots) (hq : Q (some v) h) : W h k n pc Ls (v :: st) :=
  C.ret hd hrt (by cases t <;> first | (cases ht; done) | (cases v <;> first | (cases hv; done) | rfl)) (Or.inr (Or.inr (Or.inr (Or.inr ⟨rfl, ht, hv⟩)))) hq hk hs
theorem Walk.ret0 (C : Walk W l Z a0 tb own code ml rt nm R Q) (hd : decode code pc = .ok (.return_, 1)) (hrt : rt = none) (hk : k ≤ R.cells) (hs : n ≤ R.slots) (hq : Q none h) : W h k n pc Ls [] := by
  obtain ⟨p, e, s, m, args, below, meth, c, rfl, hx, hby, hml, hown, hrt', hlk, hZ, hnm, hw⟩ := C
  intro hE T locs X eT N
  subst eT hrt
  obtain ⟨fs, hr, hrun, hended, hW, hsame⟩ := X.leave (v := none) (fun _ => rfl)
  exact ⟨_, _, X.returnOut hx hrt' (hb hby hd) hr, hrun, hended, _, _, rfl, ⟨hq, hE, N⟩, ⟨_, rfl⟩, hW, hsame.mono hk hs⟩
/-! constants of the pool, static fields, fields -/
theorem Walk.ldc (C : Walk W l Z a0 tb own code ml rt nm R Q) (pc' : Nat) (v : Int32) {idx : Nat} (hd : decode code pc = .ok (.ldc idx, 2)) (hp : pc' = pc + 2) (w : Jvm.Cond.constant own idx v ∈ tb) (K : W h k n pc' Ls (.int v :: st)) : W h k n pc Ls st := by
  obtain ⟨p, e, s, m, args, below, meth, c, rfl, hx, hby, hml, hown, hrt', hlk, hZ, hnm, hw⟩ := C
  intro hE T locs X eT N
  subst hp
  obtain ⟨u, o, h1, h2⟩ := K hE T locs X eT N
  exact ⟨u, o, X.ldcI hx hown (mv hZ (hw _ w)) rfl (hb hby hd) h1, h2⟩
theorem Walk.ldcW (C : Walk W l Z a0 tb own code ml rt nm R Q) (pc' : Nat) (v : Int32) {idx : Nat} (hd : decode code pc = .ok (.ldc_w idx, 3)) (hp : pc' = pc + 3) (w : Jvm.Cond.constant own idx v ∈ tb) (K : W h k n pc' Ls (.int v :: st)) : W h k n pc Ls st := by
  obtain ⟨p, e, s, m, args, below, meth, c, rfl, hx, hby, hml, hown, hrt', hlk, hZ, hnm, hw⟩ := C
  intro hE T locs X eT N
  subst hp
  obtain ⟨u, o, h1, h2⟩ := K hE T locs X eT N
  exact ⟨u, o, X.ldcWI hx hown (mv hZ (hw _ w)) rfl (hb hby hd) h1, h2⟩
theorem Walk.ldc2 (C : Walk W l Z a0 tb own code ml rt nm R Q) (pc' : Nat) (v : Int64) {idx : Nat} (hd : decode code pc = .ok (.ldc2_w idx, 3)) (hp : pc' = pc + 3) (w : Jvm.Cond.constantLong own idx v ∈ tb) (K : W h k n pc' Ls (.long v :: st)) : W h k n pc Ls st := by
  obtain ⟨p, e, s, m, args, below, meth, c, rfl, hx, hby, hml, hown, hrt', hlk, hZ, hnm, hw⟩ := C
  intro hE T locs X eT N
  subst hp
  obtain ⟨u, o, h1, h2⟩ := K hE T locs X eT N
  exact ⟨u, o, X.ldc2J hx hown (mv hZ (hw _ w)) rfl (hb hby hd) h1, h2⟩
theorem Walk.getstatic (C : Walk W l Z a0 tb own code ml rt nm R Q) (pc' : Nat) {idx : Nat} {O f d : String} {v : Value} (hd : decode code pc = .ok (.getstatic idx, 3)) (hp : pc' = pc + 3) (w : Jvm.Cond.fieldLink own idx O f d ∈ tb) (F : Sta Z Z.heap O f d v) (K : W h k n pc' Ls (v :: st)) : W h k n pc Ls st := by
  obtain ⟨p, e, s, m, args, below, meth, c, rfl, hx, hby, hml, hown, hrt', hlk, hZ, hnm, hw⟩ := C
  intro hE T locs X eT N
  subst hp
  obtain ⟨T', X', e', S⟩ := getS X hx hZ hown (host := "") (hw _ w) Via.refl eT (F.ext hE) (g := mkF m pc Ls st) rfl (hb hby hd)
  obtain ⟨u, o, h1, h2⟩ := K hE T' locs X' e' N
  exact ⟨u, o, S _ h1, h2⟩
theorem Walk.getfield (C : Walk W l Z a0 tb own code ml rt nm R Q) (pc' : Nat) {idx : Nat} {R0 O f d : String} {a : Addr} {v : Value} (hd : decode code pc = .ok (.getfield idx, 3)) (hp : pc' = pc + 3) (w : Jvm.Cond.fieldLink own idx R0 f d ∈ tb) (via : Via Z R0 O f d) (F : Fld Z h a O f d v) (K : W h k n pc' Ls (v :: st)) : W h k n pc Ls (.ref a :: st) := by
  obtain ⟨p, e, s, m, args, below, meth, c, rfl, hx, hby, hml, hown, hrt', hlk, hZ, hnm, hw⟩ := C
  intro hE T locs X eT N
  subst hp
  obtain ⟨T', X', e', S⟩ := getF X hx hZ hown (host := "") (Or.inl (hw _ w)) via eT F (g := mkF m pc Ls (.ref a :: st)) rfl rfl (hb hby hd)
  obtain ⟨u, o, h1, h2⟩ := K hE T' locs X' e' N
  exact ⟨u, o, S _ h1, h2⟩
theorem Walk.getfieldOld (C : Walk W l Z a0 tb own code ml rt nm R Q) (pc' : Nat) {idx : Nat} {R0 O f d : String} {a : Addr} {v : Value} (hd : decode code pc = .ok (.getfield idx, 3)) (hp : pc' = pc + 3) (w : Jvm.Cond.fieldLink own idx R0 f d ∈ tb) (via : Via Z R0 O f d) (F : Fld Z Z.heap a O f d v) (K : W h k n pc' Ls (v :: st)) : W h k n pc Ls (.ref a :: st) :=
  C.kept fun hE => C.getfield pc' hd hp w via (F.ext hE) K
theorem Walk.putfield (C : Walk W l Z a0 tb own code ml rt nm R Q) (pc' : Nat) {idx kk : Nat} {R0 O f d D : String} {a : Addr} {v v' old : Value} (ty : FieldType) (hd : decode code pc = .ok (.putfield idx, 3)) (hp : pc' = pc + 3) (w : Jvm.Cond.fieldLink own idx R0 f d ∈ tb) (via : Via Z R0 O f d) (F : Fld Z h a O f d old) (E : Exa Z h a D)
    (L : Jvm.Cond.lays D O f d ∈ tb ∨ (Jvm.Cond.laysFinal D O f d ∈ tb ∧ own = O ∧ nm = "<init>")) (wi : Jvm.Cond.instantiable D kk ∈ tb) (hty : parseFieldDescriptor d = some ty) (hn : narrow ty v = v') (hf : fits ty v' = true) (ha : Z.heap.size ≤ a)
    (K : ∀ h', Wr h h' a (Jvm.RoadKit.slotOf Z O f d) v' → W h' k n pc' Ls st) : W h k n pc Ls (v :: .ref a :: st) := by
  obtain ⟨p, e, s, m, args, below, meth, c, rfl, hx, hby, hml, hown, hrt', hlk, hZ, hnm, hw⟩ := C
  intro hE T locs X eT N
  subst hp
  obtain ⟨T', h', X', e', Wr', S⟩ := putFN X hx hZ hown (hw _ w) via eT F E (L.imp (hw _) fun q => ⟨hw _ q.1, q.2.1, hnm.trans q.2.2⟩) (hw _ wi) hty hn hf (g := mkF m pc Ls (v :: .ref a :: st)) rfl rfl (hb hby hd)
  obtain ⟨u, o, h1, h2⟩ := K h' Wr' (Old.wr (n0 := Z.heap.size) ⟨rfl, hE⟩ Wr' ha).2 T' _ X' e' (Fr.snoc X' N ha)
  exact ⟨u, o, S _ h1, h2⟩
/-! arrays: the places' values as a list -/
def Al (Z : State) (h : Heap) (a : Addr) (ty : FieldType) (vs : List Value) : Prop := ∃ c : Cell, Arr Z h a c ty ∧ c.slots.toList = vs
theorem Al.lt {a : Addr} {ty : FieldType} {vs : List Value} (A : Al Z h a ty vs) : a < h.size := by obtain ⟨c, A, -⟩ := A; exact A.lt
theorem Al.ext {h' : Heap} {a : Addr} {ty : FieldType} {vs : List Value} (A : Al Z h a ty vs) (E : Ext h h') : Al Z h' a ty vs := by obtain ⟨c, A, q⟩ := A; exact ⟨c, A.ext E, q⟩
theorem Al.keep {h' : Heap} {a : Addr} {ty : FieldType} {vs : List Value} {ws : List Addr} (A : Al Z h a ty vs) (K : Keep h h' ws) (q : a ∉ ws) : Al Z h' a ty vs := by obtain ⟨c, A, r⟩ := A; exact ⟨c, ⟨K.2.1 a c A.1 q, A.2⟩, r⟩
theorem Al.set {h' : Heap} {a : Addr} {ty : FieldType} {vs : List Value} {i : Nat} {v : Value} (A : Al Z h a ty vs) (Wr' : Wr h h' a i v) : Al Z h' a ty (vs.set i v) := by
  obtain ⟨c, A, rfl⟩ := A
  exact ⟨_, A.same Wr', by simp [Cell.setSlot]⟩
theorem list_at {c : Cell} {vs : List Value} (q : c.slots.toList = vs) (i : Nat) : c.slots[i]? = vs[i]? := by subst q; simp
theorem list_sz {c : Cell} {vs : List Value} (q : c.slots.toList = vs) : c.slots.size = vs.length := by subst q; simp
theorem Walk.newarray (C : Walk W l Z a0 tb own code ml rt nm R Q) (pc' : Nat) {aty : ArrayType} {z : Int32} (cap : Nat) (hd : decode code pc = .ok (.newarray aty, 2)) (hp : pc' = pc + 2) (w : Jvm.Cond.arrayClass (newarray.typeOf aty) ∈ tb) (hz : ¬ z < 0) (hcap : z.toNatClampNeg ≤ cap) (hb' : cap * 8 ≤ 536870912) (hc : k + 1 ≤ R.cells) (hl : n + cap ≤ R.slots)
    (K : ∀ h', Ext h h' → Al Z h' h.size (newarray.typeOf aty) (List.replicate z.toNatClampNeg (defaultValue (newarray.typeOf aty))) → W h' (k + 1) (n + cap) pc' Ls (.ref h.size :: st)) : W h k n pc Ls (.int z :: st) := by
  obtain ⟨p, e, s, m, args, below, meth, c, rfl, hx, hby, hml, hown, hrt', hlk, hZ, hnm, hw⟩ := C
  intro hE T locs X eT N
  subst hp
  obtain ⟨T', h', cA, X', e', E', A', S⟩ := newP X hx hZ (hw _ w) eT (g := mkF m pc Ls (.int z :: st)) rfl (hb hby hd) rfl hz hcap hb' hc hl
  obtain ⟨u, o, h1, h2⟩ := K h' E' ⟨_, A', by simp [newA]⟩ (Old.ext (n0 := Z.heap.size) ⟨rfl, hE⟩ E').2 T' _ X' e' N
  exact ⟨u, o, S _ h1, h2⟩
theorem Walk.anewarray (C : Walk W l Z a0 tb own code ml rt nm R Q) (pc' : Nat) {idx : Nat} {D : String} {z : Int32} (cap : Nat) (hd : decode code pc = .ok (.anewarray idx, 3)) (hp : pc' = pc + 3) (w : Jvm.Cond.classLink own idx D ∈ tb) (w2 : Jvm.Cond.arrayOver (.object D) ∈ tb) (hz : ¬ z < 0) (hcap : z.toNatClampNeg ≤ cap) (hb' : cap * 8 ≤ 536870912) (hc : k + 1 ≤ R.cells) (hl : n + cap ≤ R.slots)
    (K : ∀ h' cA, Ext h h' → (∃ c : Cell, Arr Z h' h.size c (.object D) ∧ c.cls = cA ∧ c.slots.toList = List.replicate z.toNatClampNeg .null) → Ovr Z cA D → W h' (k + 1) (n + cap) pc' Ls (.ref h.size :: st)) : W h k n pc Ls (.int z :: st) := by
  obtain ⟨p, e, s, m, args, below, meth, c, rfl, hx, hby, hml, hown, hrt', hlk, hZ, hnm, hw⟩ := C
  intro hE T locs X eT N
  subst hp
  obtain ⟨T', h', cA, X', e', E', A', O', S⟩ := newR X hx hZ hown (hw _ w) (hw _ w2) eT (g := mkF m pc Ls (.int z :: st)) rfl (hb hby hd) rfl hz hcap hb' hc hl
  obtain ⟨u, o, h1, h2⟩ := K h' cA E' ⟨_, A', rfl, by simp [newA, defaultValue]⟩ O' (Old.ext (n0 := Z.heap.size) ⟨rfl, hE⟩ E').2 T' _ X' e' N
  exact ⟨u, o, S _ h1, h2⟩
/-- an array over the class D: its class, its places -/
def Ro (Z : State) (h : Heap) (a : Addr) (D : String) (cA : ClassId) (vs : List Value) : Prop := ∃ c : Cell, Arr Z h a c (.object D) ∧ c.cls = cA ∧ c.slots.toList = vs
theorem Ro.lt {a : Addr} {D : String} {cA : ClassId} {vs : List Value} (A : Ro Z h a D cA vs) : a < h.size := by obtain ⟨c, A, -⟩ := A; exact A.lt
theorem Ro.ext {h' : Heap} {a : Addr} {D : String} {cA : ClassId} {vs : List Value} (A : Ro Z h a D cA vs) (E : Ext h h') : Ro Z h' a D cA vs := by obtain ⟨c, A, q⟩ := A; exact ⟨c, A.ext E, q⟩
theorem Ro.keep {h' : Heap} {a : Addr} {D : String} {cA : ClassId} {vs : List Value} {ws : List Addr} (A : Ro Z h a D cA vs) (K : Keep h h' ws) (q : a ∉ ws) : Ro Z h' a D cA vs := by obtain ⟨c, A, r⟩ := A; exact ⟨c, ⟨K.2.1 a c A.1 q, A.2⟩, r⟩
theorem Walk.aastore (C : Walk W l Z a0 tb own code ml rt nm R Q) (pc' : Nat) {a b : Addr} {D : String} {cA : ClassId} {vs : List Value} {j : Int32} (i : Nat) (hd : decode code pc = .ok (.aastore, 1)) (hp : pc' = pc + 1) (A : Ro Z h a D cA vs) (O : Ovr Z cA D) (I : Ins Z h b D true) (ha : Z.heap.size ≤ a) (hn : ¬ j < 0) (hi : j.toNatClampNeg = i) (hl : i < vs.length)
    (K : ∀ h', Wr h h' a i (.ref b) → Ro Z h' a D cA (vs.set i (.ref b)) → W h' k n pc' Ls st) : W h k n pc Ls (.ref b :: .int j :: .ref a :: st) := by
  obtain ⟨p, e, s, m, args, below, meth, c, rfl, hx, hby, hml, hown, hrt', hlk, hZ, hnm, hw⟩ := C
  intro hE T locs X eT N
  subst hp
  obtain ⟨cl, A1, A2, A3⟩ := A
  have hj : ¬ (j < 0 ∨ cl.slots.size ≤ j.toNatClampNeg) := by rw [list_sz A3, hi]; exact fun q => q.elim hn (fun q => absurd hl (Nat.not_lt.mpr q))
  obtain ⟨T', h', X', e', Wr', S⟩ := stR X hx hZ eT A1 hj rfl (Sto.ofV A1 A2 O I) (g := mkF m pc Ls (.ref b :: .int j :: .ref a :: st)) rfl rfl (hb hby hd)
  rw [hi] at Wr'
  have R' : Ro Z h' a D cA (vs.set i (.ref b)) := ⟨_, A1.same Wr', by simpa [Cell.setSlot] using A2, by subst A3; simp [Cell.setSlot]⟩
  obtain ⟨u, o, h1, h2⟩ := K h' Wr' R' (Old.wr (n0 := Z.heap.size) ⟨rfl, hE⟩ Wr' ha).2 T' _ X' e' (Fr.snoc X' N ha)
  exact ⟨u, o, S _ h1, h2⟩
theorem Walk.castore (C : Walk W l Z a0 tb own code ml rt nm R Q) (pc' : Nat) {a : Addr} {vs : List Value} {j x : Int32} (i : Nat) (x' : Int32) (hd : decode code pc = .ok (.castore, 1)) (hp : pc' = pc + 1) (A : Al Z h a .char vs) (ha : Z.heap.size ≤ a) (hn : ¬ j < 0) (hi : j.toNatClampNeg = i) (hl : i < vs.length) (hx' : nar .char x = x')
    (K : ∀ h', Wr h h' a i (.int x') → Al Z h' a .char (vs.set i (.int x')) → W h' k n pc' Ls st) : W h k n pc Ls (.int x :: .int j :: .ref a :: st) := by
  obtain ⟨p, e, s, m, args, below, meth, c, rfl, hx, hby, hml, hown, hrt', hlk, hZ, hnm, hw⟩ := C
  intro hE T locs X eT N
  subst hp
  have A' := A
  obtain ⟨cl, A1, A3⟩ := A
  have hj : ¬ (j < 0 ∨ cl.slots.size ≤ j.toNatClampNeg) := by rw [list_sz A3, hi]; exact fun q => q.elim hn (fun q => absurd hl (Nat.not_lt.mpr q))
  obtain ⟨T', h', X', e', Wr', S⟩ := stC X hx hZ eT A1 hj (g := mkF m pc Ls (.int x :: .int j :: .ref a :: st)) rfl rfl (hb hby hd)
  rw [hi, hx'] at Wr'
  obtain ⟨u, o, h1, h2⟩ := K h' Wr' (A'.set Wr') (Old.wr (n0 := Z.heap.size) ⟨rfl, hE⟩ Wr' ha).2 T' _ X' e' (Fr.snoc X' N ha)
  exact ⟨u, o, S _ h1, h2⟩
theorem Walk.bastoreB (C : Walk W l Z a0 tb own code ml rt nm R Q) (pc' : Nat) {a : Addr} {vs : List Value} {j x : Int32} (i : Nat) (x' : Int32) (hd : decode code pc = .ok (.bastore, 1)) (hp : pc' = pc + 1) (A : Al Z h a .byte vs) (ha : Z.heap.size ≤ a) (hn : ¬ j < 0) (hi : j.toNatClampNeg = i) (hl : i < vs.length) (hx' : nar .byte x = x')
    (K : ∀ h', Wr h h' a i (.int x') → Al Z h' a .byte (vs.set i (.int x')) → W h' k n pc' Ls st) : W h k n pc Ls (.int x :: .int j :: .ref a :: st) := by
  obtain ⟨p, e, s, m, args, below, meth, c, rfl, hx, hby, hml, hown, hrt', hlk, hZ, hnm, hw⟩ := C
  intro hE T locs X eT N
  subst hp
  have A' := A
  obtain ⟨cl, A1, A3⟩ := A
  have hj : ¬ (j < 0 ∨ cl.slots.size ≤ j.toNatClampNeg) := by rw [list_sz A3, hi]; exact fun q => q.elim hn (fun q => absurd hl (Nat.not_lt.mpr q))
  obtain ⟨T', h', X', e', Wr', S⟩ := stB X hx hZ eT A1 hj (g := mkF m pc Ls (.int x :: .int j :: .ref a :: st)) rfl rfl (hb hby hd)
  rw [hi, hx'] at Wr'
  obtain ⟨u, o, h1, h2⟩ := K h' Wr' (A'.set Wr') (Old.wr (n0 := Z.heap.size) ⟨rfl, hE⟩ Wr' ha).2 T' _ X' e' (Fr.snoc X' N ha)
  exact ⟨u, o, S _ h1, h2⟩
theorem Walk.bastoreZ (C : Walk W l Z a0 tb own code ml rt nm R Q) (pc' : Nat) {a : Addr} {vs : List Value} {j x : Int32} (i : Nat) (x' : Int32) (hd : decode code pc = .ok (.bastore, 1)) (hp : pc' = pc + 1) (A : Al Z h a .boolean vs) (ha : Z.heap.size ≤ a) (hn : ¬ j < 0) (hi : j.toNatClampNeg = i) (hl : i < vs.length) (hx' : nar .boolean x = x')
    (K : ∀ h', Wr h h' a i (.int x') → Al Z h' a .boolean (vs.set i (.int x')) → W h' k n pc' Ls st) : W h k n pc Ls (.int x :: .int j :: .ref a :: st) := by
  obtain ⟨p, e, s, m, args, below, meth, c, rfl, hx, hby, hml, hown, hrt', hlk, hZ, hnm, hw⟩ := C
  intro hE T locs X eT N
  subst hp
  have A' := A
  obtain ⟨cl, A1, A3⟩ := A
  have hj : ¬ (j < 0 ∨ cl.slots.size ≤ j.toNatClampNeg) := by rw [list_sz A3, hi]; exact fun q => q.elim hn (fun q => absurd hl (Nat.not_lt.mpr q))
  obtain ⟨T', h', X', e', Wr', S⟩ := stZ X hx hZ eT A1 hj (g := mkF m pc Ls (.int x :: .int j :: .ref a :: st)) rfl rfl (hb hby hd)
  rw [hi, hx'] at Wr'
  obtain ⟨u, o, h1, h2⟩ := K h' Wr' (A'.set Wr') (Old.wr (n0 := Z.heap.size) ⟨rfl, hE⟩ Wr' ha).2 T' _ X' e' (Fr.snoc X' N ha)
  exact ⟨u, o, S _ h1, h2⟩
theorem Walk.iastore (C : Walk W l Z a0 tb own code ml rt nm R Q) (pc' : Nat) {a : Addr} {vs : List Value} {j x : Int32} (i : Nat) (hd : decode code pc = .ok (.iastore, 1)) (hp : pc' = pc + 1) (A : Al Z h a .int vs) (ha : Z.heap.size ≤ a) (hn : ¬ j < 0) (hi : j.toNatClampNeg = i) (hl : i < vs.length)
    (K : ∀ h', Wr h h' a i (.int x) → Al Z h' a .int (vs.set i (.int x)) → W h' k n pc' Ls st) : W h k n pc Ls (.int x :: .int j :: .ref a :: st) := by
  obtain ⟨p, e, s, m, args, below, meth, c, rfl, hx, hby, hml, hown, hrt', hlk, hZ, hnm, hw⟩ := C
  intro hE T locs X eT N
  subst hp
  have A' := A
  obtain ⟨cl, A1, A3⟩ := A
  have hj : ¬ (j < 0 ∨ cl.slots.size ≤ j.toNatClampNeg) := by rw [list_sz A3, hi]; exact fun q => q.elim hn (fun q => absurd hl (Nat.not_lt.mpr q))
  obtain ⟨T', h', X', e', Wr', S⟩ := stI X hx hZ eT A1 hj (g := mkF m pc Ls (.int x :: .int j :: .ref a :: st)) rfl rfl (hb hby hd)
  rw [hi] at Wr'
  obtain ⟨u, o, h1, h2⟩ := K h' Wr' (A'.set Wr') (Old.wr (n0 := Z.heap.size) ⟨rfl, hE⟩ Wr' ha).2 T' _ X' e' (Fr.snoc X' N ha)
  exact ⟨u, o, S _ h1, h2⟩
theorem Walk.iaload (C : Walk W l Z a0 tb own code ml rt nm R Q) (pc' : Nat) {a : Addr} {vs : List Value} {j : Int32} (i : Nat) (v : Value) (hd : decode code pc = .ok (.iaload, 1)) (hp : pc' = pc + 1) (A : Al Z h a .int vs) (hn : ¬ j < 0) (hi : j.toNatClampNeg = i) (hv : vs[i]? = some v)
    (K : W h k n pc' Ls (v :: st)) : W h k n pc Ls (.int j :: .ref a :: st) := by
  obtain ⟨p, e, s, m, args, below, meth, c, rfl, hx, hby, hml, hown, hrt', hlk, hZ, hnm, hw⟩ := C
  intro hE T locs X eT N
  subst hp
  obtain ⟨cl, A1, A3⟩ := A
  have hl : i < vs.length := (List.getElem?_eq_some_iff.mp hv).1
  have hj : ¬ (j < 0 ∨ cl.slots.size ≤ j.toNatClampNeg) := by rw [list_sz A3, hi]; exact fun q => q.elim hn (fun q => absurd hl (Nat.not_lt.mpr q))
  obtain ⟨u, o, h1, h2⟩ := K hE T _ X eT N
  exact ⟨u, o, X.iaload hx (by rw [eT]; exact A1.1) (State.isArrayOf_alike hZ.alike A1.2.1) A1.2.2 hj (by rw [hi, list_at A3]; exact hv) (g := mkF m pc Ls (.int j :: .ref a :: st)) rfl rfl (hb hby hd) _ h1, h2⟩
theorem Walk.caload (C : Walk W l Z a0 tb own code ml rt nm R Q) (pc' : Nat) {a : Addr} {vs : List Value} {j : Int32} (i : Nat) (v : Value) (hd : decode code pc = .ok (.caload, 1)) (hp : pc' = pc + 1) (A : Al Z h a .char vs) (hn : ¬ j < 0) (hi : j.toNatClampNeg = i) (hv : vs[i]? = some v)
    (K : W h k n pc' Ls (v :: st)) : W h k n pc Ls (.int j :: .ref a :: st) := by
  obtain ⟨p, e, s, m, args, below, meth, c, rfl, hx, hby, hml, hown, hrt', hlk, hZ, hnm, hw⟩ := C
  intro hE T locs X eT N
  subst hp
  obtain ⟨cl, A1, A3⟩ := A
  have hl : i < vs.length := (List.getElem?_eq_some_iff.mp hv).1
  have hj : ¬ (j < 0 ∨ cl.slots.size ≤ j.toNatClampNeg) := by rw [list_sz A3, hi]; exact fun q => q.elim hn (fun q => absurd hl (Nat.not_lt.mpr q))
  obtain ⟨u, o, h1, h2⟩ := K hE T _ X eT N
  exact ⟨u, o, X.caload hx (by rw [eT]; exact A1.1) (State.isArrayOf_alike hZ.alike A1.2.1) A1.2.2 hj (by rw [hi, list_at A3]; exact hv) (g := mkF m pc Ls (.int j :: .ref a :: st)) rfl rfl (hb hby hd) _ h1, h2⟩
theorem Walk.baloadB (C : Walk W l Z a0 tb own code ml rt nm R Q) (pc' : Nat) {a : Addr} {vs : List Value} {j : Int32} (i : Nat) (v : Value) (hd : decode code pc = .ok (.baload, 1)) (hp : pc' = pc + 1) (A : Al Z h a .byte vs) (hn : ¬ j < 0) (hi : j.toNatClampNeg = i) (hv : vs[i]? = some v)
    (K : W h k n pc' Ls (v :: st)) : W h k n pc Ls (.int j :: .ref a :: st) := by
  obtain ⟨p, e, s, m, args, below, meth, c, rfl, hx, hby, hml, hown, hrt', hlk, hZ, hnm, hw⟩ := C
  intro hE T locs X eT N
  subst hp
  obtain ⟨cl, A1, A3⟩ := A
  have hl : i < vs.length := (List.getElem?_eq_some_iff.mp hv).1
  have hj : ¬ (j < 0 ∨ cl.slots.size ≤ j.toNatClampNeg) := by rw [list_sz A3, hi]; exact fun q => q.elim hn (fun q => absurd hl (Nat.not_lt.mpr q))
  obtain ⟨u, o, h1, h2⟩ := K hE T _ X eT N
  exact ⟨u, o, X.baloadBytes hx (by rw [eT]; exact A1.1) (State.isArrayOf_alike hZ.alike A1.2.1) A1.2.2 hj (by rw [hi, list_at A3]; exact hv) (g := mkF m pc Ls (.int j :: .ref a :: st)) rfl rfl (hb hby hd) _ h1, h2⟩
theorem Walk.baloadZ (C : Walk W l Z a0 tb own code ml rt nm R Q) (pc' : Nat) {a : Addr} {vs : List Value} {j : Int32} (i : Nat) (v : Value) (hd : decode code pc = .ok (.baload, 1)) (hp : pc' = pc + 1) (A : Al Z h a .boolean vs) (hn : ¬ j < 0) (hi : j.toNatClampNeg = i) (hv : vs[i]? = some v)
    (K : W h k n pc' Ls (v :: st)) : W h k n pc Ls (.int j :: .ref a :: st) := by
  obtain ⟨p, e, s, m, args, below, meth, c, rfl, hx, hby, hml, hown, hrt', hlk, hZ, hnm, hw⟩ := C
  intro hE T locs X eT N
  subst hp
  obtain ⟨cl, A1, A3⟩ := A
  have hl : i < vs.length := (List.getElem?_eq_some_iff.mp hv).1
  have hj : ¬ (j < 0 ∨ cl.slots.size ≤ j.toNatClampNeg) := by rw [list_sz A3, hi]; exact fun q => q.elim hn (fun q => absurd hl (Nat.not_lt.mpr q))
  obtain ⟨u, o, h1, h2⟩ := K hE T _ X eT N
  exact ⟨u, o, X.baloadBooleans hx (by rw [eT]; exact A1.1) (State.isArrayOf_alike hZ.alike A1.2.1) A1.2.2 hj (by rw [hi, list_at A3]; exact hv) (g := mkF m pc Ls (.int j :: .ref a :: st)) rfl rfl (hb hby hd) _ h1, h2⟩
theorem Walk.aaload (C : Walk W l Z a0 tb own code ml rt nm R Q) (pc' : Nat) {a : Addr} {D : String} {cA : ClassId} {vs : List Value} {j : Int32} (i : Nat) (v : Value) (hd : decode code pc = .ok (.aaload, 1)) (hp : pc' = pc + 1) (A : Ro Z h a D cA vs) (hn : ¬ j < 0) (hi : j.toNatClampNeg = i) (hv : vs[i]? = some v)
    (K : W h k n pc' Ls (v :: st)) : W h k n pc Ls (.int j :: .ref a :: st) := by
  obtain ⟨p, e, s, m, args, below, meth, c, rfl, hx, hby, hml, hown, hrt', hlk, hZ, hnm, hw⟩ := C
  intro hE T locs X eT N
  subst hp
  obtain ⟨cl, A1, A2, A3⟩ := A
  have hl : i < vs.length := (List.getElem?_eq_some_iff.mp hv).1
  have hj : ¬ (j < 0 ∨ cl.slots.size ≤ j.toNatClampNeg) := by rw [list_sz A3, hi]; exact fun q => q.elim hn (fun q => absurd hl (Nat.not_lt.mpr q))
  obtain ⟨u, o, h1, h2⟩ := K hE T _ X eT N
  exact ⟨u, o, X.aaload hx (by rw [eT]; exact A1.1) (State.isArrayOf_alike hZ.alike A1.2.1) rfl A1.2.2 hj (by rw [hi, list_at A3]; exact hv) (g := mkF m pc Ls (.int j :: .ref a :: st)) rfl rfl (hb hby hd) _ h1, h2⟩
theorem Walk.arraylength (C : Walk W l Z a0 tb own code ml rt nm R Q) (pc' : Nat) {a : Addr} {ty : FieldType} {vs : List Value} (z : Int32) (hd : decode code pc = .ok (.arraylength, 1)) (hp : pc' = pc + 1) (A : Al Z h a ty vs) (hz : vs.length.toInt32 = z)
    (K : W h k n pc' Ls (.int z :: st)) : W h k n pc Ls (.ref a :: st) := by
  obtain ⟨p, e, s, m, args, below, meth, c, rfl, hx, hby, hml, hown, hrt', hlk, hZ, hnm, hw⟩ := C
  intro hE T locs X eT N
  subst hp
  obtain ⟨cl, A1, A3⟩ := A
  obtain ⟨u, o, h1, h2⟩ := K hE T _ X eT N
  rw [← hz, ← list_sz A3] at h1
  exact ⟨u, o, X.arraylength hx (by rw [eT]; exact A1.1) (State.isArrayOf_alike hZ.alike A1.2.1) (g := mkF m pc Ls (.ref a :: st)) rfl rfl (hb hby hd) _ h1, h2⟩
/-! objects, calls -/
theorem Walk.new (C : Walk W l Z a0 tb own code ml rt nm R Q) (pc' : Nat) {idx sz : Nat} {D : String} (hd : decode code pc = .ok (.new idx, 3)) (hp : pc' = pc + 3) (w : Jvm.Cond.classLink own idx D ∈ tb) (wi : Jvm.Cond.instantiable D sz ∈ tb) (wz : Jvm.Cond.initialized D ∈ tb) (hc : k + 1 ≤ R.cells) (hl : n + sz ≤ R.slots)
    (K : ∀ h', Ext h h' → Exa Z h' h.size D → (∀ {O f d : String} {ty : FieldType}, Laid Z a0 D O f d → parseFieldDescriptor d = some ty → Fld Z h' h.size O f d (defaultValue ty)) → W h' (k + 1) (n + sz) pc' Ls (.ref h.size :: st)) : W h k n pc Ls st := by
  obtain ⟨p, e, s, m, args, below, meth, c, rfl, hx, hby, hml, hown, hrt', hlk, hZ, hnm, hw⟩ := C
  intro hE T locs X eT N
  subst hp
  obtain ⟨T', h', X', e', E', A', D', -, S⟩ := newO X hx hZ hown (hw _ w) (hw _ wi) (hw _ wz) eT (g := mkF m pc Ls st) rfl (hb hby hd) hc hl
  obtain ⟨u, o, h1, h2⟩ := K h' E' A' D' (Old.ext (n0 := Z.heap.size) ⟨rfl, hE⟩ E').2 T' _ X' e' N
  exact ⟨u, o, S _ h1, h2⟩
theorem Walk.initObj (C : Walk W l Z a0 tb own code ml rt nm R Q) (pc' : Nat) {idx : Nat} {a : Addr} (wd : Nat) (hd : decode code pc = .ok (.invokespecial idx, 3)) (hp : pc' = pc + 3) (w1 : Jvm.Cond.methodLink own idx Lib.objectInit ∈ tb) (w2 : Jvm.Cond.instanceMethod Lib.objectInit ∈ tb) (w3 : Jvm.Cond.code Lib.objectInit ⟨#[0xb1]⟩ 1 none ∈ tb) (hls : Ls.size = ml) (hf : 1 ≤ R.frames) (hwd : (st.map fun v => v.category).sum ≤ wd) (hl : wd + 12 ≤ R.locals)
    (K : W h k n pc' Ls st) : W h k n pc Ls (.ref a :: st) := by
  obtain ⟨p, e, s, m, args, below, meth, c, rfl, hx, hby, hml, hown, hrt', hlk, hZ, hnm, hw⟩ := C
  intro hE T locs X eT N
  subst hp
  obtain ⟨T', X', e', S⟩ := initO X hx hZ hown (hw _ w1) (hw _ w2) (hw _ w3) eT (g := mkF m pc Ls (.ref a :: st)) rfl (by show Ls.size = _; rw [hls, hml]) rfl (hb hby hd) hf (W := wd) (by show 2 * 0 + _ ≤ _; omega) hl
  obtain ⟨u, o, h1, h2⟩ := K hE T' _ X' e' N
  exact ⟨u, o, S _ h1, h2⟩
theorem Walk.checkcast (C : Walk W l Z a0 tb own code ml rt nm R Q) (pc' : Nat) {idx : Nat} {D : String} {a : Addr} (hd : decode code pc = .ok (.checkcast idx, 3)) (hp : pc' = pc + 3) (w : Jvm.Cond.classLink own idx D ∈ tb) (I : Ins Z h a D true) (K : W h k n pc' Ls (.ref a :: st)) : W h k n pc Ls (.ref a :: st) := by
  obtain ⟨p, e, s, m, args, below, meth, c, rfl, hx, hby, hml, hown, hrt', hlk, hZ, hnm, hw⟩ := C
  intro hE T locs X eT N
  subst hp
  obtain ⟨T', X', e', S⟩ := castY X hx hZ hown (hw _ w) eT I (g := mkF m pc Ls (.ref a :: st)) rfl rfl (hb hby hd)
  obtain ⟨u, o, h1, h2⟩ := K hE T' _ X' e' N
  exact ⟨u, o, S _ h1, h2⟩
theorem Walk.callS (C : Walk W l Z a0 tb own code ml rt nm R Q) (pc' : Nat) {idx : Nat} {y : MethodName} {yc : ByteArray} {ym : Nat} {yr : Option FieldType} {rm : Room} {as : List Value} {rest : List Value} {yQ : Option Value → Heap → Prop} {ps : List FieldType} {r : Option FieldType} (wd : Nat) (hd : decode code pc = .ok (.invokestatic idx, 3)) (hp : pc' = pc + 3) (w1 : Jvm.Cond.methodLink own idx y ∈ tb) (w2 : Jvm.Cond.static y ∈ tb) (w3 : Jvm.Cond.initialized y.cls ∈ tb) (w4 : Jvm.Cond.code y yc ym yr ∈ tb) (hy : y.cls ≠ "java/lang/invoke/MethodHandle" ∧ y.cls ≠ "java/lang/invoke/VarHandle") (con : Con l Z y yc ym yr rm as.toArray h yQ) (pd : parseMethodDescriptor y.desc = some ⟨ps, r⟩) (hlen : as.length = ps.length) (hls : Ls.size = ml) (hwd : (rest.map fun v => v.category).sum ≤ wd) (hf : rm.frames + 1 ≤ R.frames) (hl : wd + (ym + 11) + rm.locals ≤ R.locals) (hc : k + rm.cells ≤ R.cells) (hs : n + rm.slots ≤ R.slots) (hst : st = as.reverse ++ rest)
    (K : ∀ v h', yQ v h' → W h' (k + rm.cells) (n + rm.slots) pc' Ls (v.toList ++ rest)) : W h k n pc Ls st := by
  obtain ⟨p, e, s, m, args, below, meth, c, rfl, hx, hby, hml, hown, hrt', hlk, hZ, hnm, hw⟩ := C
  intro hE T locs X eT N
  subst hp
  obtain ⟨v, vm₁, ⟨T', L', k', n'⟩, -, X', P, S⟩ := Jvm.LawKit.callS X hx (y := y) hown (mvT hZ (hw _ w1)) (mvT hZ (hw _ w2)) (mvT hZ (hw _ w3)) (mvT hZ (hw _ w4)) hy (backOf (Q := fun v h L => yQ v h ∧ Ext Z.heap h ∧ Fr Z.heap.size L) (W := wd) (con hE []) hZ (hw _ w4) (hw _ w3) hf hl) (g := mkF m pc Ls st) rfl (by show Ls.size = _; rw [hls, hml]) (argsL := as) (rest := rest) (lenOf pd hlen) hst (by show 2 * 0 + _ ≤ _; omega) (hb hby hd) (fun _ _ => ⟨rfl, eT, hc, hs⟩)
  obtain ⟨Lc, ⟨hq, hE', hN⟩, l', y', z'⟩ := P
  dsimp only [Pt.U, Pt.locs, Pt.cells, Pt.slots] at X' l' y' z' S hq hE'
  subst l' y' z'
  obtain ⟨u, o, h1, h2⟩ := K v T'.heap hq hE' T' _ X' rfl (Fr.app N hN)
  exact ⟨u, o, S _ h1, h2⟩
theorem Walk.callV (C : Walk W l Z a0 tb own code ml rt nm R Q) (pc' : Nat) {idx : Nat} {a : Addr} {D : String} {x : MethodName} {y : MethodName} {yc : ByteArray} {ym : Nat} {yr : Option FieldType} {rm : Room} {as : List Value} {rest : List Value} {yQ : Option Value → Heap → Prop} {ps : List FieldType} {r : Option FieldType} (wd : Nat) (hd : decode code pc = .ok (.invokevirtual idx, 3)) (hp : pc' = pc + 3) (w1 : Jvm.Cond.methodLink own idx x ∈ tb) (w2 : Jvm.Cond.declares x ∈ tb) (w5 : Jvm.Cond.selects D x y ∈ tb) (nf : ∀ args s, (∀ d ∈ tb, d.before a0 Z = true) → Z.Warmed39 s.vm → (Jvm.Cond.selects D x y).before args s = true → NotFace s x) (w6 : Jvm.Cond.instanceMethod y ∈ tb) (w3 : Jvm.Cond.initialized y.cls ∈ tb) (w4 : Jvm.Cond.code y yc ym yr ∈ tb) (hy : x.cls ≠ "java/lang/invoke/MethodHandle" ∧ x.cls ≠ "java/lang/invoke/VarHandle") (E : Exa Z h a D) (con : Con l Z y yc ym yr rm (.ref a :: as).toArray h yQ) (pd : parseMethodDescriptor x.desc = some ⟨ps, r⟩) (hlen : as.length = ps.length) (hls : Ls.size = ml) (hwd : (rest.map fun v => v.category).sum ≤ wd) (hf : rm.frames + 1 ≤ R.frames) (hl : wd + (ym + 11) + rm.locals ≤ R.locals) (hc : k + rm.cells ≤ R.cells) (hs : n + rm.slots ≤ R.slots) (hst : st = as.reverse ++ .ref a :: rest)
    (K : ∀ v h', yQ v h' → W h' (k + rm.cells) (n + rm.slots) pc' Ls (v.toList ++ rest)) : W h k n pc Ls st := by
  obtain ⟨p, e, s, m, args, below, meth, c, rfl, hx, hby, hml, hown, hrt', hlk, hZ, hnm, hw⟩ := C
  intro hE T locs X eT N
  subst hp
  obtain ⟨cq, kq, q1, q2, q3⟩ := isOf (T := T) hZ eT E
  obtain ⟨v, vm₁, ⟨T', L', k', n'⟩, -, X', P, S⟩ := X.virtualBack hx (y := x) (z := y) hown (mvT hZ (hw _ w1)) (mvT hZ (hw _ w2)) (nf args s hw hZ (mvT hZ (hw _ w5))) (mvT hZ (hw _ w5)) (mvT hZ (hw _ w6)) hy (backOf (Q := fun v h L => yQ v h ∧ Ext Z.heap h ∧ Fr Z.heap.size L) (W := wd) (con hE []) hZ (hw _ w4) (hw _ w3) hf hl) q1 q3 (g := mkF m pc Ls st) rfl (by show Ls.size = _; rw [hls, hml]) (Steps.refl _) (argsL := as) (rest := rest) (lenOf pd hlen) hst (by show 2 * 0 + _ ≤ _; omega) (hb hby hd) (fun _ _ => ⟨rfl, eT, hc, hs⟩)
  obtain ⟨Lc, ⟨hq, hE', hN⟩, l', y', z'⟩ := P
  dsimp only [Pt.U, Pt.locs, Pt.cells, Pt.slots] at X' l' y' z' S hq hE'
  subst l' y' z'
  obtain ⟨u, o, h1, h2⟩ := K v T'.heap hq hE' T' _ X' rfl (Fr.app N hN)
  exact ⟨u, o, S.trans h1, h2⟩
theorem nfSelf {x : MethodName} {D : String} : ∀ args s, (∀ d ∈ tb, d.before a0 Z = true) → Z.Warmed39 s.vm → (Jvm.Cond.selects D x x).before args s = true → NotFace s x := fun _ _ _ _ q => notFace_of_selects q
theorem Walk.callI (C : Walk W l Z a0 tb own code ml rt nm R Q) (pc' : Nat) {idx : Nat} {a : Addr} {y : MethodName} {yc : ByteArray} {ym : Nat} {yr : Option FieldType} {rm : Room} {as : List Value} {rest : List Value} {yQ : Option Value → Heap → Prop} {ps : List FieldType} {r : Option FieldType} (wd : Nat) (hd : decode code pc = .ok (.invokespecial idx, 3)) (hp : pc' = pc + 3) (hy1 : y.name = "<init>") (hyr : yr = none) (w1 : Jvm.Cond.methodLink own idx y ∈ tb) (w6 : Jvm.Cond.instanceMethod y ∈ tb) (w3 : Jvm.Cond.initialized y.cls ∈ tb) (w4 : Jvm.Cond.code y yc ym yr ∈ tb) (hy : y.cls ≠ "java/lang/invoke/MethodHandle" ∧ y.cls ≠ "java/lang/invoke/VarHandle") (con : Con l Z y yc ym yr rm (.ref a :: as).toArray h yQ) (pd : parseMethodDescriptor y.desc = some ⟨ps, r⟩) (hlen : as.length = ps.length) (hls : Ls.size = ml) (hwd : (rest.map fun v => v.category).sum ≤ wd) (hf : rm.frames + 1 ≤ R.frames) (hl : wd + (ym + 11) + rm.locals ≤ R.locals) (hc : k + rm.cells ≤ R.cells) (hs : n + rm.slots ≤ R.slots) (hst : st = as.reverse ++ .ref a :: rest)
    (K : ∀ v h', yQ v h' → W h' (k + rm.cells) (n + rm.slots) pc' Ls (v.toList ++ rest)) : W h k n pc Ls st := by
  obtain ⟨p, e, s, m, args, below, meth, c, rfl, hx, hby, hml, hown, hrt', hlk, hZ, hnm, hw⟩ := C
  intro hE T locs X eT N
  subst hp
  subst hyr
  obtain ⟨v, vm₁, ⟨T', L', k', n'⟩, -, X', P, S⟩ := X.specialBack hx (y := y) hy1 hown (mvT hZ (hw _ w1)) (mvT hZ (hw _ w6)) (mvT hZ (hw _ w4)) hy (backOf (Q := fun v h L => yQ v h ∧ Ext Z.heap h ∧ Fr Z.heap.size L) (W := wd) (con hE []) hZ (hw _ w4) (hw _ w3) hf hl) (g := mkF m pc Ls st) rfl (by show Ls.size = _; rw [hls, hml]) (Steps.refl _) (a := a) (argsL := as) (rest := rest) (lenOf pd hlen) hst (by show 2 * 0 + _ ≤ _; omega) (hb hby hd) (fun _ _ => ⟨rfl, eT, hc, hs⟩)
  obtain ⟨Lc, ⟨hq, hE', hN⟩, l', y', z'⟩ := P
  dsimp only [Pt.U, Pt.locs, Pt.cells, Pt.slots] at X' l' y' z' S hq hE'
  subst l' y' z'
  obtain ⟨u, o, h1, h2⟩ := K v T'.heap hq hE' T' _ X' rfl (Fr.app N hN)
  exact ⟨u, o, S.trans h1, h2⟩
theorem Walk.callP (C : Walk W l Z a0 tb own code ml rt nm R Q) (pc' : Nat) {idx : Nat} {a : Addr} {D : String} {y : MethodName} {yc : ByteArray} {ym : Nat} {yr : Option FieldType} {rm : Room} {as : List Value} {rest : List Value} {yQ : Option Value → Heap → Prop} {ps : List FieldType} {r : Option FieldType} (wd : Nat) (hd : decode code pc = .ok (.invokevirtual idx, 3)) (hp : pc' = pc + 3) (w1 : Jvm.Cond.methodLink own idx y ∈ tb) (w5 : Jvm.Cond.selects y.cls y y ∈ tb) (w7 : Jvm.Cond.privateMethod y ∈ tb) (w6 : Jvm.Cond.instanceMethod y ∈ tb) (w3 : Jvm.Cond.initialized y.cls ∈ tb) (w4 : Jvm.Cond.code y yc ym yr ∈ tb) (hy : y.cls ≠ "java/lang/invoke/MethodHandle" ∧ y.cls ≠ "java/lang/invoke/VarHandle") (E : Exa Z h a D) (con : Con l Z y yc ym yr rm (.ref a :: as).toArray h yQ) (pd : parseMethodDescriptor y.desc = some ⟨ps, r⟩) (hlen : as.length = ps.length) (hls : Ls.size = ml) (hwd : (rest.map fun v => v.category).sum ≤ wd) (hf : rm.frames + 1 ≤ R.frames) (hl : wd + (ym + 11) + rm.locals ≤ R.locals) (hc : k + rm.cells ≤ R.cells) (hs : n + rm.slots ≤ R.slots) (hst : st = as.reverse ++ .ref a :: rest)
    (K : ∀ v h', yQ v h' → W h' (k + rm.cells) (n + rm.slots) pc' Ls (v.toList ++ rest)) : W h k n pc Ls st := by
  obtain ⟨p, e, s, m, args, below, meth, c, rfl, hx, hby, hml, hown, hrt', hlk, hZ, hnm, hw⟩ := C
  intro hE T locs X eT N
  subst hp
  obtain ⟨cell, hcl, hob⟩ := E.cell
  obtain ⟨v, vm₁, ⟨T', L', k', n'⟩, -, X', P, S⟩ := X.privateBack hx (y := y) hown (mvT hZ (hw _ w1)) (mvT hZ (hw _ w6)) (mvT hZ (hw _ w5)) (Cond.privateMethod_at (mvP (args := args) hZ (hw _ w7))) (mvT hZ (hw _ w4)) hy (backOf (Q := fun v h L => yQ v h ∧ Ext Z.heap h ∧ Fr Z.heap.size L) (W := wd) (con hE []) hZ (hw _ w4) (hw _ w3) hf hl) (g := mkF m pc Ls st) rfl (by show Ls.size = _; rw [hls, hml]) (Steps.refl _) (a := a) (by rw [eT]; exact hcl) hob (argsL := as) (rest := rest) (lenOf pd hlen) hst (by show 2 * 0 + _ ≤ _; omega) (hb hby hd) (fun _ _ => ⟨rfl, eT, hc, hs⟩)
  obtain ⟨Lc, ⟨hq, hE', hN⟩, l', y', z'⟩ := P
  dsimp only [Pt.U, Pt.locs, Pt.cells, Pt.slots] at X' l' y' z' S hq hE'
  subst l' y' z'
  obtain ⟨u, o, h1, h2⟩ := K v T'.heap hq hE' T' _ X' rfl (Fr.app N hN)
  exact ⟨u, o, S.trans h1, h2⟩
theorem Walk.callF (C : Walk W l Z a0 tb own code ml rt nm R Q) (pc' : Nat) {idx cnt : Nat} {a : Addr} {D : String} {x : MethodName} {y : MethodName} {yc : ByteArray} {ym : Nat} {yr : Option FieldType} {rm : Room} {as : List Value} {rest : List Value} {yQ : Option Value → Heap → Prop} {ps : List FieldType} {r : Option FieldType} (wd : Nat) (hd : decode code pc = .ok (.invokeinterface idx cnt, 5)) (hp : pc' = pc + 5) (w1 : Jvm.Cond.methodLink own idx x ∈ tb) (w2 : Jvm.Cond.declares x ∈ tb) (w7 : Jvm.Cond.interfaceMethod x.cls x.cls x.name x.desc ∈ tb) (w5 : Jvm.Cond.selects D x y ∈ tb) (w6 : Jvm.Cond.instanceMethod y ∈ tb) (w8 : Jvm.Cond.publicMethod y ∈ tb) (w9 : Jvm.Cond.unhidden D x.name x.desc ∈ tb) (w10 : Jvm.Cond.castable D x.cls ∈ tb) (hI : ((Jvm.Cond.interfaceMethod x.cls x.cls x.name x.desc).onTables && (Jvm.Cond.interfaceMethod x.cls x.cls x.name x.desc).keepsFace) = true) (w3 : Jvm.Cond.initialized y.cls ∈ tb) (w4 : Jvm.Cond.code y yc ym yr ∈ tb) (hy : x.cls ≠ "java/lang/invoke/MethodHandle" ∧ x.cls ≠ "java/lang/invoke/VarHandle") (E : Exa Z h a D) (con : Con l Z y yc ym yr rm (.ref a :: as).toArray h yQ) (pd : parseMethodDescriptor x.desc = some ⟨ps, r⟩) (hlen : as.length = ps.length) (hls : Ls.size = ml) (hwd : (rest.map fun v => v.category).sum ≤ wd) (hf : rm.frames + 1 ≤ R.frames) (hl : wd + (ym + 11) + rm.locals ≤ R.locals) (hc : k + rm.cells ≤ R.cells) (hs : n + rm.slots ≤ R.slots) (hst : st = as.reverse ++ .ref a :: rest)
    (K : ∀ v h', yQ v h' → W h' (k + rm.cells) (n + rm.slots) pc' Ls (v.toList ++ rest)) : W h k n pc Ls st := by
  obtain ⟨p, e, s, m, args, below, meth, c, rfl, hx, hby, hml, hown, hrt', hlk, hZ, hnm, hw⟩ := C
  intro hE T locs X eT N
  subst hp
  obtain ⟨cq, kq, q1, q2, q3⟩ := isOf (T := T) hZ eT E
  obtain ⟨v, vm₁, ⟨T', L', k', n'⟩, -, X', P, S⟩ := X.interfaceBack hx (xi := x) (y := y) hown (mvT hZ (hw _ w1)) (mvT hZ (hw _ w2)) (mvT hZ (hw _ w7) hI) (mvT hZ (hw _ w5)) (mvT hZ (hw _ w6)) (mvT hZ (hw _ w8)) (mvT hZ (hw _ w9)) (mvT hZ (hw _ w10)) hy (backOf (Q := fun v h L => yQ v h ∧ Ext Z.heap h ∧ Fr Z.heap.size L) (W := wd) (con hE []) hZ (hw _ w4) (hw _ w3) hf hl) q1 q2 q3 (g := mkF m pc Ls st) rfl (by show Ls.size = _; rw [hls, hml]) (Steps.refl _) (argsL := as) (rest := rest) (lenOf pd hlen) hst (by show 2 * 0 + _ ≤ _; omega) (hb hby hd) (fun _ _ => ⟨rfl, eT, hc, hs⟩)
  obtain ⟨Lc, ⟨hq, hE', hN⟩, l', y', z'⟩ := P
  dsimp only [Pt.U, Pt.locs, Pt.cells, Pt.slots] at X' l' y' z' S hq hE'
  subst l' y' z'
  obtain ⟨u, o, h1, h2⟩ := K v T'.heap hq hE' T' _ X' rfl (Fr.app N hN)
  exact ⟨u, o, S.trans h1, h2⟩
theorem Walk.instanceofT (C : Walk W l Z a0 tb own code ml rt nm R Q) (pc' : Nat) {idx : Nat} {D : String} {a : Addr} (hd : decode code pc = .ok (.instanceof idx, 3)) (hp : pc' = pc + 3) (w : Jvm.Cond.classLink own idx D ∈ tb) (I : Ins Z h a D true) (K : W h k n pc' Ls (.int 1 :: st)) : W h k n pc Ls (.ref a :: st) := by
  obtain ⟨p, e, s, m, args, below, meth, c, rfl, hx, hby, hml, hown, hrt', hlk, hZ, hnm, hw⟩ := C
  intro hE T locs X eT N
  subst hp
  obtain ⟨T', X', e', S⟩ := instY X hx hZ hown (hw _ w) eT I (g := mkF m pc Ls (.ref a :: st)) rfl rfl (hb hby hd)
  obtain ⟨u, o, h1, h2⟩ := K hE T' _ X' e' N
  exact ⟨u, o, S _ h1, h2⟩
theorem Ro.al {a : Addr} {D : String} {cA : ClassId} {vs : List Value} (A : Ro Z h a D cA vs) : Al Z h a (.object D) vs := by obtain ⟨c, A1, -, A3⟩ := A; exact ⟨c, A1, A3⟩
theorem Walk.aaloadA (C : Walk W l Z a0 tb own code ml rt nm R Q) (pc' : Nat) {a : Addr} {ty : FieldType} {vs : List Value} {j : Int32} (i : Nat) (v : Value) (hd : decode code pc = .ok (.aaload, 1)) (hp : pc' = pc + 1) (hty : ty.isReference = true) (A : Al Z h a ty vs) (hn : ¬ j < 0) (hi : j.toNatClampNeg = i) (hv : vs[i]? = some v)
    (K : W h k n pc' Ls (v :: st)) : W h k n pc Ls (.int j :: .ref a :: st) := by
  obtain ⟨p, e, s, m, args, below, meth, c, rfl, hx, hby, hml, hown, hrt', hlk, hZ, hnm, hw⟩ := C
  intro hE T locs X eT N
  subst hp
  obtain ⟨cl, A1, A3⟩ := A
  have hl : i < vs.length := (List.getElem?_eq_some_iff.mp hv).1
  have hj : ¬ (j < 0 ∨ cl.slots.size ≤ j.toNatClampNeg) := by rw [list_sz A3, hi]; exact fun q => q.elim hn (fun q => absurd hl (Nat.not_lt.mpr q))
  obtain ⟨u, o, h1, h2⟩ := K hE T _ X eT N
  exact ⟨u, o, X.aaload hx (by rw [eT]; exact A1.1) (State.isArrayOf_alike hZ.alike A1.2.1) hty A1.2.2 hj (by rw [hi, list_at A3]; exact hv) (g := mkF m pc Ls (.int j :: .ref a :: st)) rfl rfl (hb hby hd) _ h1, h2⟩
theorem Walk.clone (C : Walk W l Z a0 tb own code ml rt nm R Q) (pc' : Nat) {idx : Nat} {a : Addr} {ad : String} {cl : Cell} {ty : FieldType} (cap wd : Nat) (hd : decode code pc = .ok (.invokevirtual idx, 3)) (hp : pc' = pc + 3) (w1 : Jvm.Cond.methodLink own idx ⟨ad, "clone", "()Ljava/lang/Object;"⟩ ∈ tb) (w2 : Jvm.Cond.sameMethod ad "java/lang/Object" "clone" "()Ljava/lang/Object;" ∈ tb) (w3 : Jvm.Cond.native ⟨"java/lang/Object", "clone", "()Ljava/lang/Object;"⟩ ∈ tb) (w4 : Jvm.Cond.instanceMethod ⟨"java/lang/Object", "clone", "()Ljava/lang/Object;"⟩ ∈ tb) (w5 : Jvm.Cond.selects ad ⟨ad, "clone", "()Ljava/lang/Object;"⟩ ⟨"java/lang/Object", "clone", "()Ljava/lang/Object;"⟩ ∈ tb) (w6 : Jvm.Cond.castable ad "java/lang/Cloneable" ∈ tb)
    (A : Arr Z h a cl ty) (E : Exa Z h a ad) (F : FitC Z cl) (hls : Ls.size = ml) (hf : 1 ≤ R.frames) (hwd : (st.map fun v => v.category).sum ≤ wd) (hl : wd + 14 ≤ R.locals) (hcap : cl.slots.size ≤ cap) (hc : k + 1 ≤ R.cells) (hs : n + cap ≤ R.slots)
    (K : ∀ h', Ext h h' → Al Z h' h.size ty cl.slots.toList → Exa Z h' h.size ad → W h' (k + 1) (n + cap) pc' Ls (.ref h.size :: st)) : W h k n pc Ls (.ref a :: st) := by
  obtain ⟨p, e, s, m, args, below, meth, c, rfl, hx, hby, hml, hown, hrt', hlk, hZ, hnm, hw⟩ := C
  intro hE T locs X eT N
  subst hp
  obtain ⟨T', h', X', e', E', A', X2, S⟩ := cloneA X hx hZ hown (hw _ w1) (hw _ w2) (hw _ w3) (hw _ w4) (hw _ w5) (hw _ w6) eT A E F (g := mkF m pc Ls (.ref a :: st)) rfl (by show Ls.size = _; rw [hls, hml]) rfl (hb hby hd) hf (W := wd) (cap := cap) (by show 2 * 0 + _ ≤ _; omega) hl hcap hc hs
  obtain ⟨u, o, h1, h2⟩ := K h' E' ⟨_, A', rfl⟩ X2 (Old.ext (n0 := Z.heap.size) ⟨rfl, hE⟩ E').2 T' _ X' e' N
  exact ⟨u, o, S _ h1, h2⟩
end Rules
end Jvm.Own

namespace Jvm.Pilot.@@N@@
open Jvm Jvm.ClassFile Sem Op Lib Jvm.Free Jvm.Stand Jvm.LawKit Jvm.RoadKit Bundle Jvm.Own Jvm.Pilot.@@N@@.Jvm.D
theorem tw (i : Nat) {d : Jvm.Cond} (h : tables_1[i]? = some d := by rfl) : d ∈ tables_1 := List.mem_of_getElem? h
theorem d1_0 : decode prog_65_method_7_code 0 = .ok (.aload_n 0, 1) := by decide +kernel
theorem d1_1 : decode prog_65_method_7_code 1 = .ok (.getfield 133, 3) := by decide +kernel
theorem d1_4 : decode prog_65_method_7_code 4 = .ok (.iconst 1, 1) := by decide +kernel
theorem d1_5 : decode prog_65_method_7_code 5 = .ok (.if_icmp .le 7, 3) := by decide +kernel
theorem d1_8 : decode prog_65_method_7_code 8 = .ok (.iconst 1, 1) := by decide +kernel
theorem d1_9 : decode prog_65_method_7_code 9 = .ok (.goto 4, 3) := by decide +kernel
theorem d1_12 : decode prog_65_method_7_code 12 = .ok (.iconst 0, 1) := by decide +kernel
theorem d1_13 : decode prog_65_method_7_code 13 = .ok (.ireturn, 1) := by decide +kernel
theorem pn1 : plainFor (⟨"com/example/shroud/shroud/dicom/Vr", "hasByteOrder", "()Z"⟩ : MethodName) = true := plainFor_of_name (by first | (simp [plainName, overriddenIn]; done) | decide +kernel)
theorem pn0 : plainFor x = true := plainFor_of_name (by first | (simp [x, plainName, overriddenIn]; done) | decide +kernel)
theorem pd1 : parseMethodDescriptor "()Z" = some ⟨[], some .boolean⟩ := by decide +kernel
theorem hb_t (l : Launch) (Z : State) (a0' : Array Value) (hw : ∀ d ∈ tables_1, d.before a0' Z = true) (h : Heap) (a : Addr) (z : Int32) (F : Fld Z Z.heap a "com/example/shroud/shroud/dicom/Vr" "wordSize" "I" (.int z)) (hz : (1 : Int32) < z) :
    Con l Z (⟨"com/example/shroud/shroud/dicom/Vr", "hasByteOrder", "()Z"⟩ : MethodName) prog_65_method_7_code 1 (some .boolean) ⟨0, 0, 0, 0⟩ #[.ref a] h (Same (some (.int (1 : Int32))) h) := by
  refine Con.of (Ls := #[.val (.ref a)]) hw pn1 (fun m => by first | (simp [entryFrame, mkF, argsToLocals, Value.category, maxLocals]; done) | rfl) fun W C => ?_
  refine C.aloadN 1 d1_0 rfl rfl rfl ?_
  refine C.getfieldOld 4 d1_1 rfl (tw 79) Via.refl F ?_
  refine C.iconst 5 (1 : Int32) d1_4 rfl rfl ?_
  refine C.icmpF 8 d1_5 rfl (tlt hz).2.2.2 ?_
  refine C.iconst 9 (1 : Int32) d1_8 rfl rfl ?_
  refine C.goto 13 d1_9 rfl ?_
  exact C.retI .boolean d1_13 rfl (by simp) rfl (by decide) (by decide) ⟨rfl, rfl⟩
theorem hb_f (l : Launch) (Z : State) (a0' : Array Value) (hw : ∀ d ∈ tables_1, d.before a0' Z = true) (h : Heap) (a : Addr) (z : Int32) (F : Fld Z Z.heap a "com/example/shroud/shroud/dicom/Vr" "wordSize" "I" (.int z)) (hz : ¬ (1 : Int32) < z) :
    Con l Z (⟨"com/example/shroud/shroud/dicom/Vr", "hasByteOrder", "()Z"⟩ : MethodName) prog_65_method_7_code 1 (some .boolean) ⟨0, 0, 0, 0⟩ #[.ref a] h (Same (some (.int (0 : Int32))) h) := by
  refine Con.of (Ls := #[.val (.ref a)]) hw pn1 (fun m => by first | (simp [entryFrame, mkF, argsToLocals, Value.category, maxLocals]; done) | rfl) fun W C => ?_
  refine C.aloadN 1 d1_0 rfl rfl rfl ?_
  refine C.getfieldOld 4 d1_1 rfl (tw 79) Via.refl F ?_
  refine C.iconst 5 (1 : Int32) d1_4 rfl rfl ?_
  refine C.icmpT 12 d1_5 rfl (flt hz).2.2.2 ?_
  refine C.iconst 13 (0 : Int32) d1_12 rfl rfl ?_
  exact C.retI .boolean d1_13 rfl (by simp) rfl (by decide) (by decide) ⟨rfl, rfl⟩
theorem fld_of {s : State} {args : Array Value} {t : Term} {a : Addr} {C f : String} {z : Int32} (ht : t.eval args s none [] s = some (.ref a)) (h : (Jvm.Cond.eq (Jvm.Term.field t C f "I") (Jvm.Term.int z)).value args s none s [] = some true) : Fld s s.heap a C f "I" (.int z) :=
  Fld.start ((fld_at ht).symm.trans (eqv_i (Term.int_eval (z)) h))
theorem rem34 (p : Int32) : ∃ i : Nat, i < 34 ∧ (p &&& (2147483647 : Int32)) % (34 : Int32) = Int32.ofNat i := by
  have h1 := c_and p (2147483647 : Int32) (by decide)
  have h2 := (c_irem (p &&& (2147483647 : Int32)) (34 : Int32) 34 rfl).1 h1.1
  generalize (p &&& (2147483647 : Int32)) % (34 : Int32) = r at h2 ⊢
  refine ⟨r.toInt.toNat, by omega, Int32.toInt_inj.mp ?_⟩
  rw [Int32.toInt_ofNat_of_lt (by omega)]; omega
set_option maxRecDepth 65536 in
set_option maxHeartbeats 40000000 in
theorem law_con (l : Launch) (Z : State) (a0' : Array Value) (hw : ∀ d ∈ tables_1, d.before a0' Z = true) (p : Int32) (aAE aAS aAT aCS aDA aDS aDT aFD aFL aIS aLO aLT aOB aOD aOF aOL aOV aOW aPN aSH aSL aSQ aSS aST aSV aTM aUC aUI aUL aUN aUR aUS aUT aUV : Addr) (SAE : Sta Z Z.heap "com/example/shroud/shroud/dicom/Vr" "AE" "Lcom/example/shroud/shroud/dicom/Vr;" (.ref aAE)) (EAE : Exa Z Z.heap aAE "com/example/shroud/shroud/dicom/Vr") (FAE : Fld Z Z.heap aAE "com/example/shroud/shroud/dicom/Vr" "wordSize" "I" (.int (1 : Int32))) (SAS : Sta Z Z.heap "com/example/shroud/shroud/dicom/Vr" "AS" "Lcom/example/shroud/shroud/dicom/Vr;" (.ref aAS)) (EAS : Exa Z Z.heap aAS "com/example/shroud/shroud/dicom/Vr") (FAS : Fld Z Z.heap aAS "com/example/shroud/shroud/dicom/Vr" "wordSize" "I" (.int (1 : Int32))) (SAT : Sta Z Z.heap "com/example/shroud/shroud/dicom/Vr" "AT" "Lcom/example/shroud/shroud/dicom/Vr;" (.ref aAT)) (EAT : Exa Z Z.heap aAT "com/example/shroud/shroud/dicom/Vr") (FAT : Fld Z Z.heap aAT "com/example/shroud/shroud/dicom/Vr" "wordSize" "I" (.int (2 : Int32))) (SCS : Sta Z Z.heap "com/example/shroud/shroud/dicom/Vr" "CS" "Lcom/example/shroud/shroud/dicom/Vr;" (.ref aCS)) (ECS : Exa Z Z.heap aCS "com/example/shroud/shroud/dicom/Vr") (FCS : Fld Z Z.heap aCS "com/example/shroud/shroud/dicom/Vr" "wordSize" "I" (.int (1 : Int32))) (SDA : Sta Z Z.heap "com/example/shroud/shroud/dicom/Vr" "DA" "Lcom/example/shroud/shroud/dicom/Vr;" (.ref aDA)) (EDA : Exa Z Z.heap aDA "com/example/shroud/shroud/dicom/Vr") (FDA : Fld Z Z.heap aDA "com/example/shroud/shroud/dicom/Vr" "wordSize" "I" (.int (1 : Int32))) (SDS : Sta Z Z.heap "com/example/shroud/shroud/dicom/Vr" "DS" "Lcom/example/shroud/shroud/dicom/Vr;" (.ref aDS)) (EDS : Exa Z Z.heap aDS "com/example/shroud/shroud/dicom/Vr") (FDS : Fld Z Z.heap aDS "com/example/shroud/shroud/dicom/Vr" "wordSize" "I" (.int (1 : Int32))) (SDT : Sta Z Z.heap "com/example/shroud/shroud/dicom/Vr" "DT" "Lcom/example/shroud/shroud/dicom/Vr;" (.ref aDT)) (EDT : Exa Z Z.heap aDT "com/example/shroud/shroud/dicom/Vr") (FDT : Fld Z Z.heap aDT "com/example/shroud/shroud/dicom/Vr" "wordSize" "I" (.int (1 : Int32))) (SFD : Sta Z Z.heap "com/example/shroud/shroud/dicom/Vr" "FD" "Lcom/example/shroud/shroud/dicom/Vr;" (.ref aFD)) (EFD : Exa Z Z.heap aFD "com/example/shroud/shroud/dicom/Vr") (FFD : Fld Z Z.heap aFD "com/example/shroud/shroud/dicom/Vr" "wordSize" "I" (.int (8 : Int32))) (SFL : Sta Z Z.heap "com/example/shroud/shroud/dicom/Vr" "FL" "Lcom/example/shroud/shroud/dicom/Vr;" (.ref aFL)) (EFL : Exa Z Z.heap aFL "com/example/shroud/shroud/dicom/Vr") (FFL : Fld Z Z.heap aFL "com/example/shroud/shroud/dicom/Vr" "wordSize" "I" (.int (4 : Int32))) (SIS : Sta Z Z.heap "com/example/shroud/shroud/dicom/Vr" "IS" "Lcom/example/shroud/shroud/dicom/Vr;" (.ref aIS)) (EIS : Exa Z Z.heap aIS "com/example/shroud/shroud/dicom/Vr") (FIS : Fld Z Z.heap aIS "com/example/shroud/shroud/dicom/Vr" "wordSize" "I" (.int (1 : Int32))) (SLO : Sta Z Z.heap "com/example/shroud/shroud/dicom/Vr" "LO" "Lcom/example/shroud/shroud/dicom/Vr;" (.ref aLO)) (ELO : Exa Z Z.heap aLO "com/example/shroud/shroud/dicom/Vr") (FLO : Fld Z Z.heap aLO "com/example/shroud/shroud/dicom/Vr" "wordSize" "I" (.int (1 : Int32))) (SLT : Sta Z Z.heap "com/example/shroud/shroud/dicom/Vr" "LT" "Lcom/example/shroud/shroud/dicom/Vr;" (.ref aLT)) (ELT : Exa Z Z.heap aLT "com/example/shroud/shroud/dicom/Vr") (FLT : Fld Z Z.heap aLT "com/example/shroud/shroud/dicom/Vr" "wordSize" "I" (.int (1 : Int32))) (SOB : Sta Z Z.heap "com/example/shroud/shroud/dicom/Vr" "OB" "Lcom/example/shroud/shroud/dicom/Vr;" (.ref aOB)) (EOB : Exa Z Z.heap aOB "com/example/shroud/shroud/dicom/Vr") (FOB : Fld Z Z.heap aOB "com/example/shroud/shroud/dicom/Vr" "wordSize" "I" (.int (1 : Int32))) (SOD : Sta Z Z.heap "com/example/shroud/shroud/dicom/Vr" "OD" "Lcom/example/shroud/shroud/dicom/Vr;" (.ref aOD)) (EOD : Exa Z Z.heap aOD "com/example/shroud/shroud/dicom/Vr") (FOD : Fld Z Z.heap aOD "com/example/shroud/shroud/dicom/Vr" "wordSize" "I" (.int (8 : Int32))) (SOF : Sta Z Z.heap "com/example/shroud/shroud/dicom/Vr" "OF" "Lcom/example/shroud/shroud/dicom/Vr;" (.ref aOF)) (EOF : Exa Z Z.heap aOF "com/example/shroud/shroud/dicom/Vr") (FOF : Fld Z Z.heap aOF "com/example/shroud/shroud/dicom/Vr" "wordSize" "I" (.int (4 : Int32))) (SOL : Sta Z Z.heap "com/example/shroud/shroud/dicom/Vr" "OL" "Lcom/example/shroud/shroud/dicom/Vr;" (.ref aOL)) (EOL : Exa Z Z.heap aOL "com/example/shroud/shroud/dicom/Vr") (FOL : Fld Z Z.heap aOL "com/example/shroud/shroud/dicom/Vr" "wordSize" "I" (.int (4 : Int32))) (SOV : Sta Z Z.heap "com/example/shroud/shroud/dicom/Vr" "OV" "Lcom/example/shroud/shroud/dicom/Vr;" (.ref aOV)) (EOV : Exa Z Z.heap aOV "com/example/shroud/shroud/dicom/Vr") (FOV : Fld Z Z.heap aOV "com/example/shroud/shroud/dicom/Vr" "wordSize" "I" (.int (8 : Int32))) (SOW : Sta Z Z.heap "com/example/shroud/shroud/dicom/Vr" "OW" "Lcom/example/shroud/shroud/dicom/Vr;" (.ref aOW)) (EOW : Exa Z Z.heap aOW "com/example/shroud/shroud/dicom/Vr") (FOW : Fld Z Z.heap aOW "com/example/shroud/shroud/dicom/Vr" "wordSize" "I" (.int (2 : Int32))) (SPN : Sta Z Z.heap "com/example/shroud/shroud/dicom/Vr" "PN" "Lcom/example/shroud/shroud/dicom/Vr;" (.ref aPN)) (EPN : Exa Z Z.heap aPN "com/example/shroud/shroud/dicom/Vr") (FPN : Fld Z Z.heap aPN "com/example/shroud/shroud/dicom/Vr" "wordSize" "I" (.int (1 : Int32))) (SSH : Sta Z Z.heap "com/example/shroud/shroud/dicom/Vr" "SH" "Lcom/example/shroud/shroud/dicom/Vr;" (.ref aSH)) (ESH : Exa Z Z.heap aSH "com/example/shroud/shroud/dicom/Vr") (FSH : Fld Z Z.heap aSH "com/example/shroud/shroud/dicom/Vr" "wordSize" "I" (.int (1 : Int32))) (SSL : Sta Z Z.heap "com/example/shroud/shroud/dicom/Vr" "SL" "Lcom/example/shroud/shroud/dicom/Vr;" (.ref aSL)) (ESL : Exa Z Z.heap aSL "com/example/shroud/shroud/dicom/Vr") (FSL : Fld Z Z.heap aSL "com/example/shroud/shroud/dicom/Vr" "wordSize" "I" (.int (4 : Int32))) (SSQ : Sta Z Z.heap "com/example/shroud/shroud/dicom/Vr" "SQ" "Lcom/example/shroud/shroud/dicom/Vr;" (.ref aSQ)) (ESQ : Exa Z Z.heap aSQ "com/example/shroud/shroud/dicom/Vr") (FSQ : Fld Z Z.heap aSQ "com/example/shroud/shroud/dicom/Vr" "wordSize" "I" (.int (1 : Int32))) (SSS : Sta Z Z.heap "com/example/shroud/shroud/dicom/Vr" "SS" "Lcom/example/shroud/shroud/dicom/Vr;" (.ref aSS)) (ESS : Exa Z Z.heap aSS "com/example/shroud/shroud/dicom/Vr") (FSS : Fld Z Z.heap aSS "com/example/shroud/shroud/dicom/Vr" "wordSize" "I" (.int (2 : Int32))) (SST : Sta Z Z.heap "com/example/shroud/shroud/dicom/Vr" "ST" "Lcom/example/shroud/shroud/dicom/Vr;" (.ref aST)) (EST : Exa Z Z.heap aST "com/example/shroud/shroud/dicom/Vr") (FST : Fld Z Z.heap aST "com/example/shroud/shroud/dicom/Vr" "wordSize" "I" (.int (1 : Int32))) (SSV : Sta Z Z.heap "com/example/shroud/shroud/dicom/Vr" "SV" "Lcom/example/shroud/shroud/dicom/Vr;" (.ref aSV)) (ESV : Exa Z Z.heap aSV "com/example/shroud/shroud/dicom/Vr") (FSV : Fld Z Z.heap aSV "com/example/shroud/shroud/dicom/Vr" "wordSize" "I" (.int (8 : Int32))) (STM : Sta Z Z.heap "com/example/shroud/shroud/dicom/Vr" "TM" "Lcom/example/shroud/shroud/dicom/Vr;" (.ref aTM)) (ETM : Exa Z Z.heap aTM "com/example/shroud/shroud/dicom/Vr") (FTM : Fld Z Z.heap aTM "com/example/shroud/shroud/dicom/Vr" "wordSize" "I" (.int (1 : Int32))) (SUC : Sta Z Z.heap "com/example/shroud/shroud/dicom/Vr" "UC" "Lcom/example/shroud/shroud/dicom/Vr;" (.ref aUC)) (EUC : Exa Z Z.heap aUC "com/example/shroud/shroud/dicom/Vr") (FUC : Fld Z Z.heap aUC "com/example/shroud/shroud/dicom/Vr" "wordSize" "I" (.int (1 : Int32))) (SUI : Sta Z Z.heap "com/example/shroud/shroud/dicom/Vr" "UI" "Lcom/example/shroud/shroud/dicom/Vr;" (.ref aUI)) (EUI : Exa Z Z.heap aUI "com/example/shroud/shroud/dicom/Vr") (FUI : Fld Z Z.heap aUI "com/example/shroud/shroud/dicom/Vr" "wordSize" "I" (.int (1 : Int32))) (SUL : Sta Z Z.heap "com/example/shroud/shroud/dicom/Vr" "UL" "Lcom/example/shroud/shroud/dicom/Vr;" (.ref aUL)) (EUL : Exa Z Z.heap aUL "com/example/shroud/shroud/dicom/Vr") (FUL : Fld Z Z.heap aUL "com/example/shroud/shroud/dicom/Vr" "wordSize" "I" (.int (4 : Int32))) (SUN : Sta Z Z.heap "com/example/shroud/shroud/dicom/Vr" "UN" "Lcom/example/shroud/shroud/dicom/Vr;" (.ref aUN)) (EUN : Exa Z Z.heap aUN "com/example/shroud/shroud/dicom/Vr") (FUN : Fld Z Z.heap aUN "com/example/shroud/shroud/dicom/Vr" "wordSize" "I" (.int (1 : Int32))) (SUR : Sta Z Z.heap "com/example/shroud/shroud/dicom/Vr" "UR" "Lcom/example/shroud/shroud/dicom/Vr;" (.ref aUR)) (EUR : Exa Z Z.heap aUR "com/example/shroud/shroud/dicom/Vr") (FUR : Fld Z Z.heap aUR "com/example/shroud/shroud/dicom/Vr" "wordSize" "I" (.int (1 : Int32))) (SUS : Sta Z Z.heap "com/example/shroud/shroud/dicom/Vr" "US" "Lcom/example/shroud/shroud/dicom/Vr;" (.ref aUS)) (EUS : Exa Z Z.heap aUS "com/example/shroud/shroud/dicom/Vr") (FUS : Fld Z Z.heap aUS "com/example/shroud/shroud/dicom/Vr" "wordSize" "I" (.int (2 : Int32))) (SUT : Sta Z Z.heap "com/example/shroud/shroud/dicom/Vr" "UT" "Lcom/example/shroud/shroud/dicom/Vr;" (.ref aUT)) (EUT : Exa Z Z.heap aUT "com/example/shroud/shroud/dicom/Vr") (FUT : Fld Z Z.heap aUT "com/example/shroud/shroud/dicom/Vr" "wordSize" "I" (.int (1 : Int32))) (SUV : Sta Z Z.heap "com/example/shroud/shroud/dicom/Vr" "UV" "Lcom/example/shroud/shroud/dicom/Vr;" (.ref aUV)) (EUV : Exa Z Z.heap aUV "com/example/shroud/shroud/dicom/Vr") (FUV : Fld Z Z.heap aUV "com/example/shroud/shroud/dicom/Vr" "wordSize" "I" (.int (8 : Int32))) :
    Con l Z x code maxLocals ret room_1 #[.int p] Z.heap (fun v _ => v = some (.int 1)) := by
  refine Con.of (Ls := #[.val (.int p), .unset, .unset, .unset]) hw pn0 (fun m => by first | (simp [entryFrame, mkF, argsToLocals, Value.category, maxLocals]; done) | rfl) fun W C => ?_
  have z0 : Z.heap.size ≤ Z.heap.size := Nat.le_refl _
  refine C.bipush 2 (34 : Int32) at_0 rfl rfl ?_
  refine C.anewarray 5 34 at_2 rfl (tw 0) (tw 1) (by decide) (by decide) (by decide) (by decide) (by decide) ?_
  intro h1 cA1 E1 A1 O1
  obtain ⟨b1, g1⟩ : ∃ z, z = Z.heap.size := ⟨_, rfl⟩
  rw [← g1] at A1 ⊢
  have Ab1_1 : Ro Z h1 b1 "com/example/shroud/shroud/dicom/Vr" cA1 [.null, .null, .null, .null, .null, .null, .null, .null, .null, .null, .null, .null, .null, .null, .null, .null, .null, .null, .null, .null, .null, .null, .null, .null, .null, .null, .null, .null, .null, .null, .null, .null, .null, .null] := A1
  have z1 : Z.heap.size ≤ h1.size := Nat.le_trans z0 E1.1
  have zb1 : Z.heap.size ≤ b1 := by rw [g1]; exact z0
  show W h1 1 34 5 #[.val (.int p), .unset, .unset, .unset] [.ref b1]
  refine C.dup 6 at_5 rfl rfl ?_
  refine C.iconst 7 (0 : Int32) at_6 rfl rfl ?_
  refine C.getstatic 10 at_7 rfl (tw 2) SAE ?_
  refine C.kept fun hE => ?_
  refine C.aastore 11 0 at_10 rfl Ab1_1 O1 (Ins.self (EAE.ext hE)) zb1 (by decide) rfl (Nat.le_of_ble_eq_true rfl) ?_
  intro h2 W2 A2
  have Ab1_2 : Ro Z h2 b1 "com/example/shroud/shroud/dicom/Vr" cA1 [.ref aAE, .null, .null, .null, .null, .null, .null, .null, .null, .null, .null, .null, .null, .null, .null, .null, .null, .null, .null, .null, .null, .null, .null, .null, .null, .null, .null, .null, .null, .null, .null, .null, .null, .null] := A2
  have z2 : Z.heap.size ≤ h2.size := by rw [W2.size]; exact z1
  refine C.dup 12 at_11 rfl rfl ?_
  refine C.iconst 13 (1 : Int32) at_12 rfl rfl ?_
  refine C.getstatic 16 at_13 rfl (tw 6) SAS ?_
  refine C.kept fun hE => ?_
  refine C.aastore 17 1 at_16 rfl Ab1_2 O1 (Ins.self (EAS.ext hE)) zb1 (by decide) rfl (Nat.le_of_ble_eq_true rfl) ?_
  intro h3 W3 A3
  have Ab1_3 : Ro Z h3 b1 "com/example/shroud/shroud/dicom/Vr" cA1 [.ref aAE, .ref aAS, .null, .null, .null, .null, .null, .null, .null, .null, .null, .null, .null, .null, .null, .null, .null, .null, .null, .null, .null, .null, .null, .null, .null, .null, .null, .null, .null, .null, .null, .null, .null, .null] := A3
  have z3 : Z.heap.size ≤ h3.size := by rw [W3.size]; exact z2
  refine C.dup 18 at_17 rfl rfl ?_
  refine C.iconst 19 (2 : Int32) at_18 rfl rfl ?_
  refine C.getstatic 22 at_19 rfl (tw 8) SAT ?_
  refine C.kept fun hE => ?_
  refine C.aastore 23 2 at_22 rfl Ab1_3 O1 (Ins.self (EAT.ext hE)) zb1 (by decide) rfl (Nat.le_of_ble_eq_true rfl) ?_
  intro h4 W4 A4
  have Ab1_4 : Ro Z h4 b1 "com/example/shroud/shroud/dicom/Vr" cA1 [.ref aAE, .ref aAS, .ref aAT, .null, .null, .null, .null, .null, .null, .null, .null, .null, .null, .null, .null, .null, .null, .null, .null, .null, .null, .null, .null, .null, .null, .null, .null, .null, .null, .null, .null, .null, .null, .null] := A4
  have z4 : Z.heap.size ≤ h4.size := by rw [W4.size]; exact z3
  refine C.dup 24 at_23 rfl rfl ?_
  refine C.iconst 25 (3 : Int32) at_24 rfl rfl ?_
  refine C.getstatic 28 at_25 rfl (tw 10) SCS ?_
  refine C.kept fun hE => ?_
  refine C.aastore 29 3 at_28 rfl Ab1_4 O1 (Ins.self (ECS.ext hE)) zb1 (by decide) rfl (Nat.le_of_ble_eq_true rfl) ?_
  intro h5 W5 A5
  have Ab1_5 : Ro Z h5 b1 "com/example/shroud/shroud/dicom/Vr" cA1 [.ref aAE, .ref aAS, .ref aAT, .ref aCS, .null, .null, .null, .null, .null, .null, .null, .null, .null, .null, .null, .null, .null, .null, .null, .null, .null, .null, .null, .null, .null, .null, .null, .null, .null, .null, .null, .null, .null, .null] := A5
  have z5 : Z.heap.size ≤ h5.size := by rw [W5.size]; exact z4
  refine C.dup 30 at_29 rfl rfl ?_
  refine C.iconst 31 (4 : Int32) at_30 rfl rfl ?_
  refine C.getstatic 34 at_31 rfl (tw 12) SDA ?_
  refine C.kept fun hE => ?_
  refine C.aastore 35 4 at_34 rfl Ab1_5 O1 (Ins.self (EDA.ext hE)) zb1 (by decide) rfl (Nat.le_of_ble_eq_true rfl) ?_
  intro h6 W6 A6
  have Ab1_6 : Ro Z h6 b1 "com/example/shroud/shroud/dicom/Vr" cA1 [.ref aAE, .ref aAS, .ref aAT, .ref aCS, .ref aDA, .null, .null, .null, .null, .null, .null, .null, .null, .null, .null, .null, .null, .null, .null, .null, .null, .null, .null, .null, .null, .null, .null, .null, .null, .null, .null, .null, .null, .null] := A6
  have z6 : Z.heap.size ≤ h6.size := by rw [W6.size]; exact z5
  refine C.dup 36 at_35 rfl rfl ?_
  refine C.iconst 37 (5 : Int32) at_36 rfl rfl ?_
  refine C.getstatic 40 at_37 rfl (tw 14) SDS ?_
  refine C.kept fun hE => ?_
  refine C.aastore 41 5 at_40 rfl Ab1_6 O1 (Ins.self (EDS.ext hE)) zb1 (by decide) rfl (Nat.le_of_ble_eq_true rfl) ?_
  intro h7 W7 A7
  have Ab1_7 : Ro Z h7 b1 "com/example/shroud/shroud/dicom/Vr" cA1 [.ref aAE, .ref aAS, .ref aAT, .ref aCS, .ref aDA, .ref aDS, .null, .null, .null, .null, .null, .null, .null, .null, .null, .null, .null, .null, .null, .null, .null, .null, .null, .null, .null, .null, .null, .null, .null, .null, .null, .null, .null, .null] := A7
  have z7 : Z.heap.size ≤ h7.size := by rw [W7.size]; exact z6
  refine C.dup 42 at_41 rfl rfl ?_
  refine C.bipush 44 (6 : Int32) at_42 rfl rfl ?_
  refine C.getstatic 47 at_44 rfl (tw 16) SDT ?_
  refine C.kept fun hE => ?_
  refine C.aastore 48 6 at_47 rfl Ab1_7 O1 (Ins.self (EDT.ext hE)) zb1 (by decide) rfl (Nat.le_of_ble_eq_true rfl) ?_
  intro h8 W8 A8
  have Ab1_8 : Ro Z h8 b1 "com/example/shroud/shroud/dicom/Vr" cA1 [.ref aAE, .ref aAS, .ref aAT, .ref aCS, .ref aDA, .ref aDS, .ref aDT, .null, .null, .null, .null, .null, .null, .null, .null, .null, .null, .null, .null, .null, .null, .null, .null, .null, .null, .null, .null, .null, .null, .null, .null, .null, .null, .null] := A8
  have z8 : Z.heap.size ≤ h8.size := by rw [W8.size]; exact z7
  refine C.dup 49 at_48 rfl rfl ?_
  refine C.bipush 51 (7 : Int32) at_49 rfl rfl ?_
  refine C.getstatic 54 at_51 rfl (tw 18) SFD ?_
  refine C.kept fun hE => ?_
  refine C.aastore 55 7 at_54 rfl Ab1_8 O1 (Ins.self (EFD.ext hE)) zb1 (by decide) rfl (Nat.le_of_ble_eq_true rfl) ?_
  intro h9 W9 A9
  have Ab1_9 : Ro Z h9 b1 "com/example/shroud/shroud/dicom/Vr" cA1 [.ref aAE, .ref aAS, .ref aAT, .ref aCS, .ref aDA, .ref aDS, .ref aDT, .ref aFD, .null, .null, .null, .null, .null, .null, .null, .null, .null, .null, .null, .null, .null, .null, .null, .null, .null, .null, .null, .null, .null, .null, .null, .null, .null, .null] := A9
  have z9 : Z.heap.size ≤ h9.size := by rw [W9.size]; exact z8
  refine C.dup 56 at_55 rfl rfl ?_
  refine C.bipush 58 (8 : Int32) at_56 rfl rfl ?_
  refine C.getstatic 61 at_58 rfl (tw 20) SFL ?_
  refine C.kept fun hE => ?_
  refine C.aastore 62 8 at_61 rfl Ab1_9 O1 (Ins.self (EFL.ext hE)) zb1 (by decide) rfl (Nat.le_of_ble_eq_true rfl) ?_
  intro h10 W10 A10
  have Ab1_10 : Ro Z h10 b1 "com/example/shroud/shroud/dicom/Vr" cA1 [.ref aAE, .ref aAS, .ref aAT, .ref aCS, .ref aDA, .ref aDS, .ref aDT, .ref aFD, .ref aFL, .null, .null, .null, .null, .null, .null, .null, .null, .null, .null, .null, .null, .null, .null, .null, .null, .null, .null, .null, .null, .null, .null, .null, .null, .null] := A10
  have z10 : Z.heap.size ≤ h10.size := by rw [W10.size]; exact z9
  refine C.dup 63 at_62 rfl rfl ?_
  refine C.bipush 65 (9 : Int32) at_63 rfl rfl ?_
  refine C.getstatic 68 at_65 rfl (tw 22) SIS ?_
  refine C.kept fun hE => ?_
  refine C.aastore 69 9 at_68 rfl Ab1_10 O1 (Ins.self (EIS.ext hE)) zb1 (by decide) rfl (Nat.le_of_ble_eq_true rfl) ?_
  intro h11 W11 A11
  have Ab1_11 : Ro Z h11 b1 "com/example/shroud/shroud/dicom/Vr" cA1 [.ref aAE, .ref aAS, .ref aAT, .ref aCS, .ref aDA, .ref aDS, .ref aDT, .ref aFD, .ref aFL, .ref aIS, .null, .null, .null, .null, .null, .null, .null, .null, .null, .null, .null, .null, .null, .null, .null, .null, .null, .null, .null, .null, .null, .null, .null, .null] := A11
  have z11 : Z.heap.size ≤ h11.size := by rw [W11.size]; exact z10
  refine C.dup 70 at_69 rfl rfl ?_
  refine C.bipush 72 (10 : Int32) at_70 rfl rfl ?_
  refine C.getstatic 75 at_72 rfl (tw 24) SLO ?_
  refine C.kept fun hE => ?_
  refine C.aastore 76 10 at_75 rfl Ab1_11 O1 (Ins.self (ELO.ext hE)) zb1 (by decide) rfl (Nat.le_of_ble_eq_true rfl) ?_
  intro h12 W12 A12
  have Ab1_12 : Ro Z h12 b1 "com/example/shroud/shroud/dicom/Vr" cA1 [.ref aAE, .ref aAS, .ref aAT, .ref aCS, .ref aDA, .ref aDS, .ref aDT, .ref aFD, .ref aFL, .ref aIS, .ref aLO, .null, .null, .null, .null, .null, .null, .null, .null, .null, .null, .null, .null, .null, .null, .null, .null, .null, .null, .null, .null, .null, .null, .null] := A12
  have z12 : Z.heap.size ≤ h12.size := by rw [W12.size]; exact z11
  refine C.dup 77 at_76 rfl rfl ?_
  refine C.bipush 79 (11 : Int32) at_77 rfl rfl ?_
  refine C.getstatic 82 at_79 rfl (tw 26) SLT ?_
  refine C.kept fun hE => ?_
  refine C.aastore 83 11 at_82 rfl Ab1_12 O1 (Ins.self (ELT.ext hE)) zb1 (by decide) rfl (Nat.le_of_ble_eq_true rfl) ?_
  intro h13 W13 A13
  have Ab1_13 : Ro Z h13 b1 "com/example/shroud/shroud/dicom/Vr" cA1 [.ref aAE, .ref aAS, .ref aAT, .ref aCS, .ref aDA, .ref aDS, .ref aDT, .ref aFD, .ref aFL, .ref aIS, .ref aLO, .ref aLT, .null, .null, .null, .null, .null, .null, .null, .null, .null, .null, .null, .null, .null, .null, .null, .null, .null, .null, .null, .null, .null, .null] := A13
  have z13 : Z.heap.size ≤ h13.size := by rw [W13.size]; exact z12
  refine C.dup 84 at_83 rfl rfl ?_
  refine C.bipush 86 (12 : Int32) at_84 rfl rfl ?_
  refine C.getstatic 89 at_86 rfl (tw 28) SOB ?_
  refine C.kept fun hE => ?_
  refine C.aastore 90 12 at_89 rfl Ab1_13 O1 (Ins.self (EOB.ext hE)) zb1 (by decide) rfl (Nat.le_of_ble_eq_true rfl) ?_
  intro h14 W14 A14
  have Ab1_14 : Ro Z h14 b1 "com/example/shroud/shroud/dicom/Vr" cA1 [.ref aAE, .ref aAS, .ref aAT, .ref aCS, .ref aDA, .ref aDS, .ref aDT, .ref aFD, .ref aFL, .ref aIS, .ref aLO, .ref aLT, .ref aOB, .null, .null, .null, .null, .null, .null, .null, .null, .null, .null, .null, .null, .null, .null, .null, .null, .null, .null, .null, .null, .null] := A14
  have z14 : Z.heap.size ≤ h14.size := by rw [W14.size]; exact z13
  refine C.dup 91 at_90 rfl rfl ?_
  refine C.bipush 93 (13 : Int32) at_91 rfl rfl ?_
  refine C.getstatic 96 at_93 rfl (tw 30) SOD ?_
  refine C.kept fun hE => ?_
  refine C.aastore 97 13 at_96 rfl Ab1_14 O1 (Ins.self (EOD.ext hE)) zb1 (by decide) rfl (Nat.le_of_ble_eq_true rfl) ?_
  intro h15 W15 A15
  have Ab1_15 : Ro Z h15 b1 "com/example/shroud/shroud/dicom/Vr" cA1 [.ref aAE, .ref aAS, .ref aAT, .ref aCS, .ref aDA, .ref aDS, .ref aDT, .ref aFD, .ref aFL, .ref aIS, .ref aLO, .ref aLT, .ref aOB, .ref aOD, .null, .null, .null, .null, .null, .null, .null, .null, .null, .null, .null, .null, .null, .null, .null, .null, .null, .null, .null, .null] := A15
  have z15 : Z.heap.size ≤ h15.size := by rw [W15.size]; exact z14
  refine C.dup 98 at_97 rfl rfl ?_
  refine C.bipush 100 (14 : Int32) at_98 rfl rfl ?_
  refine C.getstatic 103 at_100 rfl (tw 32) SOF ?_
  refine C.kept fun hE => ?_
  refine C.aastore 104 14 at_103 rfl Ab1_15 O1 (Ins.self (EOF.ext hE)) zb1 (by decide) rfl (Nat.le_of_ble_eq_true rfl) ?_
  intro h16 W16 A16
  have Ab1_16 : Ro Z h16 b1 "com/example/shroud/shroud/dicom/Vr" cA1 [.ref aAE, .ref aAS, .ref aAT, .ref aCS, .ref aDA, .ref aDS, .ref aDT, .ref aFD, .ref aFL, .ref aIS, .ref aLO, .ref aLT, .ref aOB, .ref aOD, .ref aOF, .null, .null, .null, .null, .null, .null, .null, .null, .null, .null, .null, .null, .null, .null, .null, .null, .null, .null, .null] := A16
  have z16 : Z.heap.size ≤ h16.size := by rw [W16.size]; exact z15
  refine C.dup 105 at_104 rfl rfl ?_
  refine C.bipush 107 (15 : Int32) at_105 rfl rfl ?_
  refine C.getstatic 110 at_107 rfl (tw 34) SOL ?_
  refine C.kept fun hE => ?_
  refine C.aastore 111 15 at_110 rfl Ab1_16 O1 (Ins.self (EOL.ext hE)) zb1 (by decide) rfl (Nat.le_of_ble_eq_true rfl) ?_
  intro h17 W17 A17
  have Ab1_17 : Ro Z h17 b1 "com/example/shroud/shroud/dicom/Vr" cA1 [.ref aAE, .ref aAS, .ref aAT, .ref aCS, .ref aDA, .ref aDS, .ref aDT, .ref aFD, .ref aFL, .ref aIS, .ref aLO, .ref aLT, .ref aOB, .ref aOD, .ref aOF, .ref aOL, .null, .null, .null, .null, .null, .null, .null, .null, .null, .null, .null, .null, .null, .null, .null, .null, .null, .null] := A17
  have z17 : Z.heap.size ≤ h17.size := by rw [W17.size]; exact z16
  refine C.dup 112 at_111 rfl rfl ?_
  refine C.bipush 114 (16 : Int32) at_112 rfl rfl ?_
  refine C.getstatic 117 at_114 rfl (tw 36) SOV ?_
  refine C.kept fun hE => ?_
  refine C.aastore 118 16 at_117 rfl Ab1_17 O1 (Ins.self (EOV.ext hE)) zb1 (by decide) rfl (Nat.le_of_ble_eq_true rfl) ?_
  intro h18 W18 A18
  have Ab1_18 : Ro Z h18 b1 "com/example/shroud/shroud/dicom/Vr" cA1 [.ref aAE, .ref aAS, .ref aAT, .ref aCS, .ref aDA, .ref aDS, .ref aDT, .ref aFD, .ref aFL, .ref aIS, .ref aLO, .ref aLT, .ref aOB, .ref aOD, .ref aOF, .ref aOL, .ref aOV, .null, .null, .null, .null, .null, .null, .null, .null, .null, .null, .null, .null, .null, .null, .null, .null, .null] := A18
  have z18 : Z.heap.size ≤ h18.size := by rw [W18.size]; exact z17
  refine C.dup 119 at_118 rfl rfl ?_
  refine C.bipush 121 (17 : Int32) at_119 rfl rfl ?_
  refine C.getstatic 124 at_121 rfl (tw 38) SOW ?_
  refine C.kept fun hE => ?_
  refine C.aastore 125 17 at_124 rfl Ab1_18 O1 (Ins.self (EOW.ext hE)) zb1 (by decide) rfl (Nat.le_of_ble_eq_true rfl) ?_
  intro h19 W19 A19
  have Ab1_19 : Ro Z h19 b1 "com/example/shroud/shroud/dicom/Vr" cA1 [.ref aAE, .ref aAS, .ref aAT, .ref aCS, .ref aDA, .ref aDS, .ref aDT, .ref aFD, .ref aFL, .ref aIS, .ref aLO, .ref aLT, .ref aOB, .ref aOD, .ref aOF, .ref aOL, .ref aOV, .ref aOW, .null, .null, .null, .null, .null, .null, .null, .null, .null, .null, .null, .null, .null, .null, .null, .null] := A19
  have z19 : Z.heap.size ≤ h19.size := by rw [W19.size]; exact z18
  refine C.dup 126 at_125 rfl rfl ?_
  refine C.bipush 128 (18 : Int32) at_126 rfl rfl ?_
  refine C.getstatic 131 at_128 rfl (tw 40) SPN ?_
  refine C.kept fun hE => ?_
  refine C.aastore 132 18 at_131 rfl Ab1_19 O1 (Ins.self (EPN.ext hE)) zb1 (by decide) rfl (Nat.le_of_ble_eq_true rfl) ?_
  intro h20 W20 A20
  have Ab1_20 : Ro Z h20 b1 "com/example/shroud/shroud/dicom/Vr" cA1 [.ref aAE, .ref aAS, .ref aAT, .ref aCS, .ref aDA, .ref aDS, .ref aDT, .ref aFD, .ref aFL, .ref aIS, .ref aLO, .ref aLT, .ref aOB, .ref aOD, .ref aOF, .ref aOL, .ref aOV, .ref aOW, .ref aPN, .null, .null, .null, .null, .null, .null, .null, .null, .null, .null, .null, .null, .null, .null, .null] := A20
  have z20 : Z.heap.size ≤ h20.size := by rw [W20.size]; exact z19
  refine C.dup 133 at_132 rfl rfl ?_
  refine C.bipush 135 (19 : Int32) at_133 rfl rfl ?_
  refine C.getstatic 138 at_135 rfl (tw 42) SSH ?_
  refine C.kept fun hE => ?_
  refine C.aastore 139 19 at_138 rfl Ab1_20 O1 (Ins.self (ESH.ext hE)) zb1 (by decide) rfl (Nat.le_of_ble_eq_true rfl) ?_
  intro h21 W21 A21
  have Ab1_21 : Ro Z h21 b1 "com/example/shroud/shroud/dicom/Vr" cA1 [.ref aAE, .ref aAS, .ref aAT, .ref aCS, .ref aDA, .ref aDS, .ref aDT, .ref aFD, .ref aFL, .ref aIS, .ref aLO, .ref aLT, .ref aOB, .ref aOD, .ref aOF, .ref aOL, .ref aOV, .ref aOW, .ref aPN, .ref aSH, .null, .null, .null, .null, .null, .null, .null, .null, .null, .null, .null, .null, .null, .null] := A21
  have z21 : Z.heap.size ≤ h21.size := by rw [W21.size]; exact z20
  refine C.dup 140 at_139 rfl rfl ?_
  refine C.bipush 142 (20 : Int32) at_140 rfl rfl ?_
  refine C.getstatic 145 at_142 rfl (tw 44) SSL ?_
  refine C.kept fun hE => ?_
  refine C.aastore 146 20 at_145 rfl Ab1_21 O1 (Ins.self (ESL.ext hE)) zb1 (by decide) rfl (Nat.le_of_ble_eq_true rfl) ?_
  intro h22 W22 A22
  have Ab1_22 : Ro Z h22 b1 "com/example/shroud/shroud/dicom/Vr" cA1 [.ref aAE, .ref aAS, .ref aAT, .ref aCS, .ref aDA, .ref aDS, .ref aDT, .ref aFD, .ref aFL, .ref aIS, .ref aLO, .ref aLT, .ref aOB, .ref aOD, .ref aOF, .ref aOL, .ref aOV, .ref aOW, .ref aPN, .ref aSH, .ref aSL, .null, .null, .null, .null, .null, .null, .null, .null, .null, .null, .null, .null, .null] := A22
  have z22 : Z.heap.size ≤ h22.size := by rw [W22.size]; exact z21
  refine C.dup 147 at_146 rfl rfl ?_
  refine C.bipush 149 (21 : Int32) at_147 rfl rfl ?_
  refine C.getstatic 152 at_149 rfl (tw 46) SSQ ?_
  refine C.kept fun hE => ?_
  refine C.aastore 153 21 at_152 rfl Ab1_22 O1 (Ins.self (ESQ.ext hE)) zb1 (by decide) rfl (Nat.le_of_ble_eq_true rfl) ?_
  intro h23 W23 A23
  have Ab1_23 : Ro Z h23 b1 "com/example/shroud/shroud/dicom/Vr" cA1 [.ref aAE, .ref aAS, .ref aAT, .ref aCS, .ref aDA, .ref aDS, .ref aDT, .ref aFD, .ref aFL, .ref aIS, .ref aLO, .ref aLT, .ref aOB, .ref aOD, .ref aOF, .ref aOL, .ref aOV, .ref aOW, .ref aPN, .ref aSH, .ref aSL, .ref aSQ, .null, .null, .null, .null, .null, .null, .null, .null, .null, .null, .null, .null] := A23
  have z23 : Z.heap.size ≤ h23.size := by rw [W23.size]; exact z22
  refine C.dup 154 at_153 rfl rfl ?_
  refine C.bipush 156 (22 : Int32) at_154 rfl rfl ?_
  refine C.getstatic 159 at_156 rfl (tw 48) SSS ?_
  refine C.kept fun hE => ?_
  refine C.aastore 160 22 at_159 rfl Ab1_23 O1 (Ins.self (ESS.ext hE)) zb1 (by decide) rfl (Nat.le_of_ble_eq_true rfl) ?_
  intro h24 W24 A24
  have Ab1_24 : Ro Z h24 b1 "com/example/shroud/shroud/dicom/Vr" cA1 [.ref aAE, .ref aAS, .ref aAT, .ref aCS, .ref aDA, .ref aDS, .ref aDT, .ref aFD, .ref aFL, .ref aIS, .ref aLO, .ref aLT, .ref aOB, .ref aOD, .ref aOF, .ref aOL, .ref aOV, .ref aOW, .ref aPN, .ref aSH, .ref aSL, .ref aSQ, .ref aSS, .null, .null, .null, .null, .null, .null, .null, .null, .null, .null, .null] := A24
  have z24 : Z.heap.size ≤ h24.size := by rw [W24.size]; exact z23
  refine C.dup 161 at_160 rfl rfl ?_
  refine C.bipush 163 (23 : Int32) at_161 rfl rfl ?_
  refine C.getstatic 166 at_163 rfl (tw 50) SST ?_
  refine C.kept fun hE => ?_
  refine C.aastore 167 23 at_166 rfl Ab1_24 O1 (Ins.self (EST.ext hE)) zb1 (by decide) rfl (Nat.le_of_ble_eq_true rfl) ?_
  intro h25 W25 A25
  have Ab1_25 : Ro Z h25 b1 "com/example/shroud/shroud/dicom/Vr" cA1 [.ref aAE, .ref aAS, .ref aAT, .ref aCS, .ref aDA, .ref aDS, .ref aDT, .ref aFD, .ref aFL, .ref aIS, .ref aLO, .ref aLT, .ref aOB, .ref aOD, .ref aOF, .ref aOL, .ref aOV, .ref aOW, .ref aPN, .ref aSH, .ref aSL, .ref aSQ, .ref aSS, .ref aST, .null, .null, .null, .null, .null, .null, .null, .null, .null, .null] := A25
  have z25 : Z.heap.size ≤ h25.size := by rw [W25.size]; exact z24
  refine C.dup 168 at_167 rfl rfl ?_
  refine C.bipush 170 (24 : Int32) at_168 rfl rfl ?_
  refine C.getstatic 173 at_170 rfl (tw 52) SSV ?_
  refine C.kept fun hE => ?_
  refine C.aastore 174 24 at_173 rfl Ab1_25 O1 (Ins.self (ESV.ext hE)) zb1 (by decide) rfl (Nat.le_of_ble_eq_true rfl) ?_
  intro h26 W26 A26
  have Ab1_26 : Ro Z h26 b1 "com/example/shroud/shroud/dicom/Vr" cA1 [.ref aAE, .ref aAS, .ref aAT, .ref aCS, .ref aDA, .ref aDS, .ref aDT, .ref aFD, .ref aFL, .ref aIS, .ref aLO, .ref aLT, .ref aOB, .ref aOD, .ref aOF, .ref aOL, .ref aOV, .ref aOW, .ref aPN, .ref aSH, .ref aSL, .ref aSQ, .ref aSS, .ref aST, .ref aSV, .null, .null, .null, .null, .null, .null, .null, .null, .null] := A26
  have z26 : Z.heap.size ≤ h26.size := by rw [W26.size]; exact z25
  refine C.dup 175 at_174 rfl rfl ?_
  refine C.bipush 177 (25 : Int32) at_175 rfl rfl ?_
  refine C.getstatic 180 at_177 rfl (tw 54) STM ?_
  refine C.kept fun hE => ?_
  refine C.aastore 181 25 at_180 rfl Ab1_26 O1 (Ins.self (ETM.ext hE)) zb1 (by decide) rfl (Nat.le_of_ble_eq_true rfl) ?_
  intro h27 W27 A27
  have Ab1_27 : Ro Z h27 b1 "com/example/shroud/shroud/dicom/Vr" cA1 [.ref aAE, .ref aAS, .ref aAT, .ref aCS, .ref aDA, .ref aDS, .ref aDT, .ref aFD, .ref aFL, .ref aIS, .ref aLO, .ref aLT, .ref aOB, .ref aOD, .ref aOF, .ref aOL, .ref aOV, .ref aOW, .ref aPN, .ref aSH, .ref aSL, .ref aSQ, .ref aSS, .ref aST, .ref aSV, .ref aTM, .null, .null, .null, .null, .null, .null, .null, .null] := A27
  have z27 : Z.heap.size ≤ h27.size := by rw [W27.size]; exact z26
  refine C.dup 182 at_181 rfl rfl ?_
  refine C.bipush 184 (26 : Int32) at_182 rfl rfl ?_
  refine C.getstatic 187 at_184 rfl (tw 56) SUC ?_
  refine C.kept fun hE => ?_
  refine C.aastore 188 26 at_187 rfl Ab1_27 O1 (Ins.self (EUC.ext hE)) zb1 (by decide) rfl (Nat.le_of_ble_eq_true rfl) ?_
  intro h28 W28 A28
  have Ab1_28 : Ro Z h28 b1 "com/example/shroud/shroud/dicom/Vr" cA1 [.ref aAE, .ref aAS, .ref aAT, .ref aCS, .ref aDA, .ref aDS, .ref aDT, .ref aFD, .ref aFL, .ref aIS, .ref aLO, .ref aLT, .ref aOB, .ref aOD, .ref aOF, .ref aOL, .ref aOV, .ref aOW, .ref aPN, .ref aSH, .ref aSL, .ref aSQ, .ref aSS, .ref aST, .ref aSV, .ref aTM, .ref aUC, .null, .null, .null, .null, .null, .null, .null] := A28
  have z28 : Z.heap.size ≤ h28.size := by rw [W28.size]; exact z27
  refine C.dup 189 at_188 rfl rfl ?_
  refine C.bipush 191 (27 : Int32) at_189 rfl rfl ?_
  refine C.getstatic 194 at_191 rfl (tw 58) SUI ?_
  refine C.kept fun hE => ?_
  refine C.aastore 195 27 at_194 rfl Ab1_28 O1 (Ins.self (EUI.ext hE)) zb1 (by decide) rfl (Nat.le_of_ble_eq_true rfl) ?_
  intro h29 W29 A29
  have Ab1_29 : Ro Z h29 b1 "com/example/shroud/shroud/dicom/Vr" cA1 [.ref aAE, .ref aAS, .ref aAT, .ref aCS, .ref aDA, .ref aDS, .ref aDT, .ref aFD, .ref aFL, .ref aIS, .ref aLO, .ref aLT, .ref aOB, .ref aOD, .ref aOF, .ref aOL, .ref aOV, .ref aOW, .ref aPN, .ref aSH, .ref aSL, .ref aSQ, .ref aSS, .ref aST, .ref aSV, .ref aTM, .ref aUC, .ref aUI, .null, .null, .null, .null, .null, .null] := A29
  have z29 : Z.heap.size ≤ h29.size := by rw [W29.size]; exact z28
  refine C.dup 196 at_195 rfl rfl ?_
  refine C.bipush 198 (28 : Int32) at_196 rfl rfl ?_
  refine C.getstatic 201 at_198 rfl (tw 60) SUL ?_
  refine C.kept fun hE => ?_
  refine C.aastore 202 28 at_201 rfl Ab1_29 O1 (Ins.self (EUL.ext hE)) zb1 (by decide) rfl (Nat.le_of_ble_eq_true rfl) ?_
  intro h30 W30 A30
  have Ab1_30 : Ro Z h30 b1 "com/example/shroud/shroud/dicom/Vr" cA1 [.ref aAE, .ref aAS, .ref aAT, .ref aCS, .ref aDA, .ref aDS, .ref aDT, .ref aFD, .ref aFL, .ref aIS, .ref aLO, .ref aLT, .ref aOB, .ref aOD, .ref aOF, .ref aOL, .ref aOV, .ref aOW, .ref aPN, .ref aSH, .ref aSL, .ref aSQ, .ref aSS, .ref aST, .ref aSV, .ref aTM, .ref aUC, .ref aUI, .ref aUL, .null, .null, .null, .null, .null] := A30
  have z30 : Z.heap.size ≤ h30.size := by rw [W30.size]; exact z29
  refine C.dup 203 at_202 rfl rfl ?_
  refine C.bipush 205 (29 : Int32) at_203 rfl rfl ?_
  refine C.getstatic 208 at_205 rfl (tw 62) SUN ?_
  refine C.kept fun hE => ?_
  refine C.aastore 209 29 at_208 rfl Ab1_30 O1 (Ins.self (EUN.ext hE)) zb1 (by decide) rfl (Nat.le_of_ble_eq_true rfl) ?_
  intro h31 W31 A31
  have Ab1_31 : Ro Z h31 b1 "com/example/shroud/shroud/dicom/Vr" cA1 [.ref aAE, .ref aAS, .ref aAT, .ref aCS, .ref aDA, .ref aDS, .ref aDT, .ref aFD, .ref aFL, .ref aIS, .ref aLO, .ref aLT, .ref aOB, .ref aOD, .ref aOF, .ref aOL, .ref aOV, .ref aOW, .ref aPN, .ref aSH, .ref aSL, .ref aSQ, .ref aSS, .ref aST, .ref aSV, .ref aTM, .ref aUC, .ref aUI, .ref aUL, .ref aUN, .null, .null, .null, .null] := A31
  have z31 : Z.heap.size ≤ h31.size := by rw [W31.size]; exact z30
  refine C.dup 210 at_209 rfl rfl ?_
  refine C.bipush 212 (30 : Int32) at_210 rfl rfl ?_
  refine C.getstatic 215 at_212 rfl (tw 64) SUR ?_
  refine C.kept fun hE => ?_
  refine C.aastore 216 30 at_215 rfl Ab1_31 O1 (Ins.self (EUR.ext hE)) zb1 (by decide) rfl (Nat.le_of_ble_eq_true rfl) ?_
  intro h32 W32 A32
  have Ab1_32 : Ro Z h32 b1 "com/example/shroud/shroud/dicom/Vr" cA1 [.ref aAE, .ref aAS, .ref aAT, .ref aCS, .ref aDA, .ref aDS, .ref aDT, .ref aFD, .ref aFL, .ref aIS, .ref aLO, .ref aLT, .ref aOB, .ref aOD, .ref aOF, .ref aOL, .ref aOV, .ref aOW, .ref aPN, .ref aSH, .ref aSL, .ref aSQ, .ref aSS, .ref aST, .ref aSV, .ref aTM, .ref aUC, .ref aUI, .ref aUL, .ref aUN, .ref aUR, .null, .null, .null] := A32
  have z32 : Z.heap.size ≤ h32.size := by rw [W32.size]; exact z31
  refine C.dup 217 at_216 rfl rfl ?_
  refine C.bipush 219 (31 : Int32) at_217 rfl rfl ?_
  refine C.getstatic 222 at_219 rfl (tw 66) SUS ?_
  refine C.kept fun hE => ?_
  refine C.aastore 223 31 at_222 rfl Ab1_32 O1 (Ins.self (EUS.ext hE)) zb1 (by decide) rfl (Nat.le_of_ble_eq_true rfl) ?_
  intro h33 W33 A33
  have Ab1_33 : Ro Z h33 b1 "com/example/shroud/shroud/dicom/Vr" cA1 [.ref aAE, .ref aAS, .ref aAT, .ref aCS, .ref aDA, .ref aDS, .ref aDT, .ref aFD, .ref aFL, .ref aIS, .ref aLO, .ref aLT, .ref aOB, .ref aOD, .ref aOF, .ref aOL, .ref aOV, .ref aOW, .ref aPN, .ref aSH, .ref aSL, .ref aSQ, .ref aSS, .ref aST, .ref aSV, .ref aTM, .ref aUC, .ref aUI, .ref aUL, .ref aUN, .ref aUR, .ref aUS, .null, .null] := A33
  have z33 : Z.heap.size ≤ h33.size := by rw [W33.size]; exact z32
  refine C.dup 224 at_223 rfl rfl ?_
  refine C.bipush 226 (32 : Int32) at_224 rfl rfl ?_
  refine C.getstatic 229 at_226 rfl (tw 68) SUT ?_
  refine C.kept fun hE => ?_
  refine C.aastore 230 32 at_229 rfl Ab1_33 O1 (Ins.self (EUT.ext hE)) zb1 (by decide) rfl (Nat.le_of_ble_eq_true rfl) ?_
  intro h34 W34 A34
  have Ab1_34 : Ro Z h34 b1 "com/example/shroud/shroud/dicom/Vr" cA1 [.ref aAE, .ref aAS, .ref aAT, .ref aCS, .ref aDA, .ref aDS, .ref aDT, .ref aFD, .ref aFL, .ref aIS, .ref aLO, .ref aLT, .ref aOB, .ref aOD, .ref aOF, .ref aOL, .ref aOV, .ref aOW, .ref aPN, .ref aSH, .ref aSL, .ref aSQ, .ref aSS, .ref aST, .ref aSV, .ref aTM, .ref aUC, .ref aUI, .ref aUL, .ref aUN, .ref aUR, .ref aUS, .ref aUT, .null] := A34
  have z34 : Z.heap.size ≤ h34.size := by rw [W34.size]; exact z33
  refine C.dup 231 at_230 rfl rfl ?_
  refine C.bipush 233 (33 : Int32) at_231 rfl rfl ?_
  refine C.getstatic 236 at_233 rfl (tw 70) SUV ?_
  refine C.kept fun hE => ?_
  refine C.aastore 237 33 at_236 rfl Ab1_34 O1 (Ins.self (EUV.ext hE)) zb1 (by decide) rfl (Nat.le_of_ble_eq_true rfl) ?_
  intro h35 W35 A35
  have Ab1_35 : Ro Z h35 b1 "com/example/shroud/shroud/dicom/Vr" cA1 [.ref aAE, .ref aAS, .ref aAT, .ref aCS, .ref aDA, .ref aDS, .ref aDT, .ref aFD, .ref aFL, .ref aIS, .ref aLO, .ref aLT, .ref aOB, .ref aOD, .ref aOF, .ref aOL, .ref aOV, .ref aOW, .ref aPN, .ref aSH, .ref aSL, .ref aSQ, .ref aSS, .ref aST, .ref aSV, .ref aTM, .ref aUC, .ref aUI, .ref aUL, .ref aUN, .ref aUR, .ref aUS, .ref aUT, .ref aUV] := A35
  have z35 : Z.heap.size ≤ h35.size := by rw [W35.size]; exact z34
  refine C.astoreN 238 #[.val (.int p), .val (.ref b1), .unset, .unset] at_237 rfl rfl rfl ?_
  refine C.bipush 240 (34 : Int32) at_238 rfl rfl ?_
  refine C.newarray 242 34 at_240 rfl (tw 72) (by decide) (by decide) (by decide) (by decide) (by decide) ?_
  intro h36 E36 A36
  obtain ⟨b36, g36⟩ : ∃ z, z = h35.size := ⟨_, rfl⟩
  rw [← g36] at A36 ⊢
  have Ab36_36 : Al Z h36 b36 .boolean [.int (0 : Int32), .int (0 : Int32), .int (0 : Int32), .int (0 : Int32), .int (0 : Int32), .int (0 : Int32), .int (0 : Int32), .int (0 : Int32), .int (0 : Int32), .int (0 : Int32), .int (0 : Int32), .int (0 : Int32), .int (0 : Int32), .int (0 : Int32), .int (0 : Int32), .int (0 : Int32), .int (0 : Int32), .int (0 : Int32), .int (0 : Int32), .int (0 : Int32), .int (0 : Int32), .int (0 : Int32), .int (0 : Int32), .int (0 : Int32), .int (0 : Int32), .int (0 : Int32), .int (0 : Int32), .int (0 : Int32), .int (0 : Int32), .int (0 : Int32), .int (0 : Int32), .int (0 : Int32), .int (0 : Int32), .int (0 : Int32)] := A36
  have z36 : Z.heap.size ≤ h36.size := Nat.le_trans z35 E36.1
  have zb36 : Z.heap.size ≤ b36 := by rw [g36]; exact z35
  have Ab1_36 := Ab1_35.ext E36
  show W h36 2 68 242 #[.val (.int p), .val (.ref b1), .unset, .unset] [.ref b36]
  have ne_b1_b36 : b1 ≠ b36 := by rw [g36]; exact Nat.ne_of_lt Ab1_35.lt
  refine C.dup 243 at_242 rfl rfl ?_
  refine C.iconst 244 (0 : Int32) at_243 rfl rfl ?_
  refine C.iconst 245 (0 : Int32) at_244 rfl rfl ?_
  refine C.bastoreZ 246 0 (0 : Int32) at_245 rfl Ab36_36 zb36 (by decide) rfl (Nat.le_of_ble_eq_true rfl) rfl ?_
  intro h37 W37 A37
  have Ab36_37 : Al Z h37 b36 .boolean [.int (0 : Int32), .int (0 : Int32), .int (0 : Int32), .int (0 : Int32), .int (0 : Int32), .int (0 : Int32), .int (0 : Int32), .int (0 : Int32), .int (0 : Int32), .int (0 : Int32), .int (0 : Int32), .int (0 : Int32), .int (0 : Int32), .int (0 : Int32), .int (0 : Int32), .int (0 : Int32), .int (0 : Int32), .int (0 : Int32), .int (0 : Int32), .int (0 : Int32), .int (0 : Int32), .int (0 : Int32), .int (0 : Int32), .int (0 : Int32), .int (0 : Int32), .int (0 : Int32), .int (0 : Int32), .int (0 : Int32), .int (0 : Int32), .int (0 : Int32), .int (0 : Int32), .int (0 : Int32), .int (0 : Int32), .int (0 : Int32)] := A37
  have z37 : Z.heap.size ≤ h37.size := by rw [W37.size]; exact z36
  have Ab1_37 := Ab1_36.keep (Keep.of_wr W37) (ninS ne_b1_b36 nin0)
  refine C.dup 247 at_246 rfl rfl ?_
  refine C.iconst 248 (1 : Int32) at_247 rfl rfl ?_
  refine C.iconst 249 (0 : Int32) at_248 rfl rfl ?_
  refine C.bastoreZ 250 1 (0 : Int32) at_249 rfl Ab36_37 zb36 (by decide) rfl (Nat.le_of_ble_eq_true rfl) rfl ?_
  intro h38 W38 A38
  have Ab36_38 : Al Z h38 b36 .boolean [.int (0 : Int32), .int (0 : Int32), .int (0 : Int32), .int (0 : Int32), .int (0 : Int32), .int (0 : Int32), .int (0 : Int32), .int (0 : Int32), .int (0 : Int32), .int (0 : Int32), .int (0 : Int32), .int (0 : Int32), .int (0 : Int32), .int (0 : Int32), .int (0 : Int32), .int (0 : Int32), .int (0 : Int32), .int (0 : Int32), .int (0 : Int32), .int (0 : Int32), .int (0 : Int32), .int (0 : Int32), .int (0 : Int32), .int (0 : Int32), .int (0 : Int32), .int (0 : Int32), .int (0 : Int32), .int (0 : Int32), .int (0 : Int32), .int (0 : Int32), .int (0 : Int32), .int (0 : Int32), .int (0 : Int32), .int (0 : Int32)] := A38
  have z38 : Z.heap.size ≤ h38.size := by rw [W38.size]; exact z37
  have Ab1_38 := Ab1_37.keep (Keep.of_wr W38) (ninS ne_b1_b36 nin0)
  refine C.dup 251 at_250 rfl rfl ?_
  refine C.iconst 252 (2 : Int32) at_251 rfl rfl ?_
  refine C.iconst 253 (1 : Int32) at_252 rfl rfl ?_
  refine C.bastoreZ 254 2 (1 : Int32) at_253 rfl Ab36_38 zb36 (by decide) rfl (Nat.le_of_ble_eq_true rfl) rfl ?_
  intro h39 W39 A39
  have Ab36_39 : Al Z h39 b36 .boolean [.int (0 : Int32), .int (0 : Int32), .int (1 : Int32), .int (0 : Int32), .int (0 : Int32), .int (0 : Int32), .int (0 : Int32), .int (0 : Int32), .int (0 : Int32), .int (0 : Int32), .int (0 : Int32), .int (0 : Int32), .int (0 : Int32), .int (0 : Int32), .int (0 : Int32), .int (0 : Int32), .int (0 : Int32), .int (0 : Int32), .int (0 : Int32), .int (0 : Int32), .int (0 : Int32), .int (0 : Int32), .int (0 : Int32), .int (0 : Int32), .int (0 : Int32), .int (0 : Int32), .int (0 : Int32), .int (0 : Int32), .int (0 : Int32), .int (0 : Int32), .int (0 : Int32), .int (0 : Int32), .int (0 : Int32), .int (0 : Int32)] := A39
  have z39 : Z.heap.size ≤ h39.size := by rw [W39.size]; exact z38
  have Ab1_39 := Ab1_38.keep (Keep.of_wr W39) (ninS ne_b1_b36 nin0)
  refine C.dup 255 at_254 rfl rfl ?_
  refine C.iconst 256 (3 : Int32) at_255 rfl rfl ?_
  refine C.iconst 257 (0 : Int32) at_256 rfl rfl ?_
  refine C.bastoreZ 258 3 (0 : Int32) at_257 rfl Ab36_39 zb36 (by decide) rfl (Nat.le_of_ble_eq_true rfl) rfl ?_
  intro h40 W40 A40
  have Ab36_40 : Al Z h40 b36 .boolean [.int (0 : Int32), .int (0 : Int32), .int (1 : Int32), .int (0 : Int32), .int (0 : Int32), .int (0 : Int32), .int (0 : Int32), .int (0 : Int32), .int (0 : Int32), .int (0 : Int32), .int (0 : Int32), .int (0 : Int32), .int (0 : Int32), .int (0 : Int32), .int (0 : Int32), .int (0 : Int32), .int (0 : Int32), .int (0 : Int32), .int (0 : Int32), .int (0 : Int32), .int (0 : Int32), .int (0 : Int32), .int (0 : Int32), .int (0 : Int32), .int (0 : Int32), .int (0 : Int32), .int (0 : Int32), .int (0 : Int32), .int (0 : Int32), .int (0 : Int32), .int (0 : Int32), .int (0 : Int32), .int (0 : Int32), .int (0 : Int32)] := A40
  have z40 : Z.heap.size ≤ h40.size := by rw [W40.size]; exact z39
  have Ab1_40 := Ab1_39.keep (Keep.of_wr W40) (ninS ne_b1_b36 nin0)
  refine C.dup 259 at_258 rfl rfl ?_
  refine C.iconst 260 (4 : Int32) at_259 rfl rfl ?_
  refine C.iconst 261 (0 : Int32) at_260 rfl rfl ?_
  refine C.bastoreZ 262 4 (0 : Int32) at_261 rfl Ab36_40 zb36 (by decide) rfl (Nat.le_of_ble_eq_true rfl) rfl ?_
  intro h41 W41 A41
  have Ab36_41 : Al Z h41 b36 .boolean [.int (0 : Int32), .int (0 : Int32), .int (1 : Int32), .int (0 : Int32), .int (0 : Int32), .int (0 : Int32), .int (0 : Int32), .int (0 : Int32), .int (0 : Int32), .int (0 : Int32), .int (0 : Int32), .int (0 : Int32), .int (0 : Int32), .int (0 : Int32), .int (0 : Int32), .int (0 : Int32), .int (0 : Int32), .int (0 : Int32), .int (0 : Int32), .int (0 : Int32), .int (0 : Int32), .int (0 : Int32), .int (0 : Int32), .int (0 : Int32), .int (0 : Int32), .int (0 : Int32), .int (0 : Int32), .int (0 : Int32), .int (0 : Int32), .int (0 : Int32), .int (0 : Int32), .int (0 : Int32), .int (0 : Int32), .int (0 : Int32)] := A41
  have z41 : Z.heap.size ≤ h41.size := by rw [W41.size]; exact z40
  have Ab1_41 := Ab1_40.keep (Keep.of_wr W41) (ninS ne_b1_b36 nin0)
  refine C.dup 263 at_262 rfl rfl ?_
  refine C.iconst 264 (5 : Int32) at_263 rfl rfl ?_
  refine C.iconst 265 (0 : Int32) at_264 rfl rfl ?_
  refine C.bastoreZ 266 5 (0 : Int32) at_265 rfl Ab36_41 zb36 (by decide) rfl (Nat.le_of_ble_eq_true rfl) rfl ?_
  intro h42 W42 A42
  have Ab36_42 : Al Z h42 b36 .boolean [.int (0 : Int32), .int (0 : Int32), .int (1 : Int32), .int (0 : Int32), .int (0 : Int32), .int (0 : Int32), .int (0 : Int32), .int (0 : Int32), .int (0 : Int32), .int (0 : Int32), .int (0 : Int32), .int (0 : Int32), .int (0 : Int32), .int (0 : Int32), .int (0 : Int32), .int (0 : Int32), .int (0 : Int32), .int (0 : Int32), .int (0 : Int32), .int (0 : Int32), .int (0 : Int32), .int (0 : Int32), .int (0 : Int32), .int (0 : Int32), .int (0 : Int32), .int (0 : Int32), .int (0 : Int32), .int (0 : Int32), .int (0 : Int32), .int (0 : Int32), .int (0 : Int32), .int (0 : Int32), .int (0 : Int32), .int (0 : Int32)] := A42
  have z42 : Z.heap.size ≤ h42.size := by rw [W42.size]; exact z41
  have Ab1_42 := Ab1_41.keep (Keep.of_wr W42) (ninS ne_b1_b36 nin0)
  refine C.dup 267 at_266 rfl rfl ?_
  refine C.bipush 269 (6 : Int32) at_267 rfl rfl ?_
  refine C.iconst 270 (0 : Int32) at_269 rfl rfl ?_
  refine C.bastoreZ 271 6 (0 : Int32) at_270 rfl Ab36_42 zb36 (by decide) rfl (Nat.le_of_ble_eq_true rfl) rfl ?_
  intro h43 W43 A43
  have Ab36_43 : Al Z h43 b36 .boolean [.int (0 : Int32), .int (0 : Int32), .int (1 : Int32), .int (0 : Int32), .int (0 : Int32), .int (0 : Int32), .int (0 : Int32), .int (0 : Int32), .int (0 : Int32), .int (0 : Int32), .int (0 : Int32), .int (0 : Int32), .int (0 : Int32), .int (0 : Int32), .int (0 : Int32), .int (0 : Int32), .int (0 : Int32), .int (0 : Int32), .int (0 : Int32), .int (0 : Int32), .int (0 : Int32), .int (0 : Int32), .int (0 : Int32), .int (0 : Int32), .int (0 : Int32), .int (0 : Int32), .int (0 : Int32), .int (0 : Int32), .int (0 : Int32), .int (0 : Int32), .int (0 : Int32), .int (0 : Int32), .int (0 : Int32), .int (0 : Int32)] := A43
  have z43 : Z.heap.size ≤ h43.size := by rw [W43.size]; exact z42
  have Ab1_43 := Ab1_42.keep (Keep.of_wr W43) (ninS ne_b1_b36 nin0)
  refine C.dup 272 at_271 rfl rfl ?_
  refine C.bipush 274 (7 : Int32) at_272 rfl rfl ?_
  refine C.iconst 275 (1 : Int32) at_274 rfl rfl ?_
  refine C.bastoreZ 276 7 (1 : Int32) at_275 rfl Ab36_43 zb36 (by decide) rfl (Nat.le_of_ble_eq_true rfl) rfl ?_
  intro h44 W44 A44
  have Ab36_44 : Al Z h44 b36 .boolean [.int (0 : Int32), .int (0 : Int32), .int (1 : Int32), .int (0 : Int32), .int (0 : Int32), .int (0 : Int32), .int (0 : Int32), .int (1 : Int32), .int (0 : Int32), .int (0 : Int32), .int (0 : Int32), .int (0 : Int32), .int (0 : Int32), .int (0 : Int32), .int (0 : Int32), .int (0 : Int32), .int (0 : Int32), .int (0 : Int32), .int (0 : Int32), .int (0 : Int32), .int (0 : Int32), .int (0 : Int32), .int (0 : Int32), .int (0 : Int32), .int (0 : Int32), .int (0 : Int32), .int (0 : Int32), .int (0 : Int32), .int (0 : Int32), .int (0 : Int32), .int (0 : Int32), .int (0 : Int32), .int (0 : Int32), .int (0 : Int32)] := A44
  have z44 : Z.heap.size ≤ h44.size := by rw [W44.size]; exact z43
  have Ab1_44 := Ab1_43.keep (Keep.of_wr W44) (ninS ne_b1_b36 nin0)
  refine C.dup 277 at_276 rfl rfl ?_
  refine C.bipush 279 (8 : Int32) at_277 rfl rfl ?_
  refine C.iconst 280 (1 : Int32) at_279 rfl rfl ?_
  refine C.bastoreZ 281 8 (1 : Int32) at_280 rfl Ab36_44 zb36 (by decide) rfl (Nat.le_of_ble_eq_true rfl) rfl ?_
  intro h45 W45 A45
  have Ab36_45 : Al Z h45 b36 .boolean [.int (0 : Int32), .int (0 : Int32), .int (1 : Int32), .int (0 : Int32), .int (0 : Int32), .int (0 : Int32), .int (0 : Int32), .int (1 : Int32), .int (1 : Int32), .int (0 : Int32), .int (0 : Int32), .int (0 : Int32), .int (0 : Int32), .int (0 : Int32), .int (0 : Int32), .int (0 : Int32), .int (0 : Int32), .int (0 : Int32), .int (0 : Int32), .int (0 : Int32), .int (0 : Int32), .int (0 : Int32), .int (0 : Int32), .int (0 : Int32), .int (0 : Int32), .int (0 : Int32), .int (0 : Int32), .int (0 : Int32), .int (0 : Int32), .int (0 : Int32), .int (0 : Int32), .int (0 : Int32), .int (0 : Int32), .int (0 : Int32)] := A45
  have z45 : Z.heap.size ≤ h45.size := by rw [W45.size]; exact z44
  have Ab1_45 := Ab1_44.keep (Keep.of_wr W45) (ninS ne_b1_b36 nin0)
  refine C.dup 282 at_281 rfl rfl ?_
  refine C.bipush 284 (9 : Int32) at_282 rfl rfl ?_
  refine C.iconst 285 (0 : Int32) at_284 rfl rfl ?_
  refine C.bastoreZ 286 9 (0 : Int32) at_285 rfl Ab36_45 zb36 (by decide) rfl (Nat.le_of_ble_eq_true rfl) rfl ?_
  intro h46 W46 A46
  have Ab36_46 : Al Z h46 b36 .boolean [.int (0 : Int32), .int (0 : Int32), .int (1 : Int32), .int (0 : Int32), .int (0 : Int32), .int (0 : Int32), .int (0 : Int32), .int (1 : Int32), .int (1 : Int32), .int (0 : Int32), .int (0 : Int32), .int (0 : Int32), .int (0 : Int32), .int (0 : Int32), .int (0 : Int32), .int (0 : Int32), .int (0 : Int32), .int (0 : Int32), .int (0 : Int32), .int (0 : Int32), .int (0 : Int32), .int (0 : Int32), .int (0 : Int32), .int (0 : Int32), .int (0 : Int32), .int (0 : Int32), .int (0 : Int32), .int (0 : Int32), .int (0 : Int32), .int (0 : Int32), .int (0 : Int32), .int (0 : Int32), .int (0 : Int32), .int (0 : Int32)] := A46
  have z46 : Z.heap.size ≤ h46.size := by rw [W46.size]; exact z45
  have Ab1_46 := Ab1_45.keep (Keep.of_wr W46) (ninS ne_b1_b36 nin0)
  refine C.dup 287 at_286 rfl rfl ?_
  refine C.bipush 289 (10 : Int32) at_287 rfl rfl ?_
  refine C.iconst 290 (0 : Int32) at_289 rfl rfl ?_
  refine C.bastoreZ 291 10 (0 : Int32) at_290 rfl Ab36_46 zb36 (by decide) rfl (Nat.le_of_ble_eq_true rfl) rfl ?_
  intro h47 W47 A47
  have Ab36_47 : Al Z h47 b36 .boolean [.int (0 : Int32), .int (0 : Int32), .int (1 : Int32), .int (0 : Int32), .int (0 : Int32), .int (0 : Int32), .int (0 : Int32), .int (1 : Int32), .int (1 : Int32), .int (0 : Int32), .int (0 : Int32), .int (0 : Int32), .int (0 : Int32), .int (0 : Int32), .int (0 : Int32), .int (0 : Int32), .int (0 : Int32), .int (0 : Int32), .int (0 : Int32), .int (0 : Int32), .int (0 : Int32), .int (0 : Int32), .int (0 : Int32), .int (0 : Int32), .int (0 : Int32), .int (0 : Int32), .int (0 : Int32), .int (0 : Int32), .int (0 : Int32), .int (0 : Int32), .int (0 : Int32), .int (0 : Int32), .int (0 : Int32), .int (0 : Int32)] := A47
  have z47 : Z.heap.size ≤ h47.size := by rw [W47.size]; exact z46
  have Ab1_47 := Ab1_46.keep (Keep.of_wr W47) (ninS ne_b1_b36 nin0)
  refine C.dup 292 at_291 rfl rfl ?_
  refine C.bipush 294 (11 : Int32) at_292 rfl rfl ?_
  refine C.iconst 295 (0 : Int32) at_294 rfl rfl ?_
  refine C.bastoreZ 296 11 (0 : Int32) at_295 rfl Ab36_47 zb36 (by decide) rfl (Nat.le_of_ble_eq_true rfl) rfl ?_
  intro h48 W48 A48
  have Ab36_48 : Al Z h48 b36 .boolean [.int (0 : Int32), .int (0 : Int32), .int (1 : Int32), .int (0 : Int32), .int (0 : Int32), .int (0 : Int32), .int (0 : Int32), .int (1 : Int32), .int (1 : Int32), .int (0 : Int32), .int (0 : Int32), .int (0 : Int32), .int (0 : Int32), .int (0 : Int32), .int (0 : Int32), .int (0 : Int32), .int (0 : Int32), .int (0 : Int32), .int (0 : Int32), .int (0 : Int32), .int (0 : Int32), .int (0 : Int32), .int (0 : Int32), .int (0 : Int32), .int (0 : Int32), .int (0 : Int32), .int (0 : Int32), .int (0 : Int32), .int (0 : Int32), .int (0 : Int32), .int (0 : Int32), .int (0 : Int32), .int (0 : Int32), .int (0 : Int32)] := A48
  have z48 : Z.heap.size ≤ h48.size := by rw [W48.size]; exact z47
  have Ab1_48 := Ab1_47.keep (Keep.of_wr W48) (ninS ne_b1_b36 nin0)
  refine C.dup 297 at_296 rfl rfl ?_
  refine C.bipush 299 (12 : Int32) at_297 rfl rfl ?_
  refine C.iconst 300 (0 : Int32) at_299 rfl rfl ?_
  refine C.bastoreZ 301 12 (0 : Int32) at_300 rfl Ab36_48 zb36 (by decide) rfl (Nat.le_of_ble_eq_true rfl) rfl ?_
  intro h49 W49 A49
  have Ab36_49 : Al Z h49 b36 .boolean [.int (0 : Int32), .int (0 : Int32), .int (1 : Int32), .int (0 : Int32), .int (0 : Int32), .int (0 : Int32), .int (0 : Int32), .int (1 : Int32), .int (1 : Int32), .int (0 : Int32), .int (0 : Int32), .int (0 : Int32), .int (0 : Int32), .int (0 : Int32), .int (0 : Int32), .int (0 : Int32), .int (0 : Int32), .int (0 : Int32), .int (0 : Int32), .int (0 : Int32), .int (0 : Int32), .int (0 : Int32), .int (0 : Int32), .int (0 : Int32), .int (0 : Int32), .int (0 : Int32), .int (0 : Int32), .int (0 : Int32), .int (0 : Int32), .int (0 : Int32), .int (0 : Int32), .int (0 : Int32), .int (0 : Int32), .int (0 : Int32)] := A49
  have z49 : Z.heap.size ≤ h49.size := by rw [W49.size]; exact z48
  have Ab1_49 := Ab1_48.keep (Keep.of_wr W49) (ninS ne_b1_b36 nin0)
  refine C.dup 302 at_301 rfl rfl ?_
  refine C.bipush 304 (13 : Int32) at_302 rfl rfl ?_
  refine C.iconst 305 (1 : Int32) at_304 rfl rfl ?_
  refine C.bastoreZ 306 13 (1 : Int32) at_305 rfl Ab36_49 zb36 (by decide) rfl (Nat.le_of_ble_eq_true rfl) rfl ?_
  intro h50 W50 A50
  have Ab36_50 : Al Z h50 b36 .boolean [.int (0 : Int32), .int (0 : Int32), .int (1 : Int32), .int (0 : Int32), .int (0 : Int32), .int (0 : Int32), .int (0 : Int32), .int (1 : Int32), .int (1 : Int32), .int (0 : Int32), .int (0 : Int32), .int (0 : Int32), .int (0 : Int32), .int (1 : Int32), .int (0 : Int32), .int (0 : Int32), .int (0 : Int32), .int (0 : Int32), .int (0 : Int32), .int (0 : Int32), .int (0 : Int32), .int (0 : Int32), .int (0 : Int32), .int (0 : Int32), .int (0 : Int32), .int (0 : Int32), .int (0 : Int32), .int (0 : Int32), .int (0 : Int32), .int (0 : Int32), .int (0 : Int32), .int (0 : Int32), .int (0 : Int32), .int (0 : Int32)] := A50
  have z50 : Z.heap.size ≤ h50.size := by rw [W50.size]; exact z49
  have Ab1_50 := Ab1_49.keep (Keep.of_wr W50) (ninS ne_b1_b36 nin0)
  refine C.dup 307 at_306 rfl rfl ?_
  refine C.bipush 309 (14 : Int32) at_307 rfl rfl ?_
  refine C.iconst 310 (1 : Int32) at_309 rfl rfl ?_
  refine C.bastoreZ 311 14 (1 : Int32) at_310 rfl Ab36_50 zb36 (by decide) rfl (Nat.le_of_ble_eq_true rfl) rfl ?_
  intro h51 W51 A51
  have Ab36_51 : Al Z h51 b36 .boolean [.int (0 : Int32), .int (0 : Int32), .int (1 : Int32), .int (0 : Int32), .int (0 : Int32), .int (0 : Int32), .int (0 : Int32), .int (1 : Int32), .int (1 : Int32), .int (0 : Int32), .int (0 : Int32), .int (0 : Int32), .int (0 : Int32), .int (1 : Int32), .int (1 : Int32), .int (0 : Int32), .int (0 : Int32), .int (0 : Int32), .int (0 : Int32), .int (0 : Int32), .int (0 : Int32), .int (0 : Int32), .int (0 : Int32), .int (0 : Int32), .int (0 : Int32), .int (0 : Int32), .int (0 : Int32), .int (0 : Int32), .int (0 : Int32), .int (0 : Int32), .int (0 : Int32), .int (0 : Int32), .int (0 : Int32), .int (0 : Int32)] := A51
  have z51 : Z.heap.size ≤ h51.size := by rw [W51.size]; exact z50
  have Ab1_51 := Ab1_50.keep (Keep.of_wr W51) (ninS ne_b1_b36 nin0)
  refine C.dup 312 at_311 rfl rfl ?_
  refine C.bipush 314 (15 : Int32) at_312 rfl rfl ?_
  refine C.iconst 315 (1 : Int32) at_314 rfl rfl ?_
  refine C.bastoreZ 316 15 (1 : Int32) at_315 rfl Ab36_51 zb36 (by decide) rfl (Nat.le_of_ble_eq_true rfl) rfl ?_
  intro h52 W52 A52
  have Ab36_52 : Al Z h52 b36 .boolean [.int (0 : Int32), .int (0 : Int32), .int (1 : Int32), .int (0 : Int32), .int (0 : Int32), .int (0 : Int32), .int (0 : Int32), .int (1 : Int32), .int (1 : Int32), .int (0 : Int32), .int (0 : Int32), .int (0 : Int32), .int (0 : Int32), .int (1 : Int32), .int (1 : Int32), .int (1 : Int32), .int (0 : Int32), .int (0 : Int32), .int (0 : Int32), .int (0 : Int32), .int (0 : Int32), .int (0 : Int32), .int (0 : Int32), .int (0 : Int32), .int (0 : Int32), .int (0 : Int32), .int (0 : Int32), .int (0 : Int32), .int (0 : Int32), .int (0 : Int32), .int (0 : Int32), .int (0 : Int32), .int (0 : Int32), .int (0 : Int32)] := A52
  have z52 : Z.heap.size ≤ h52.size := by rw [W52.size]; exact z51
  have Ab1_52 := Ab1_51.keep (Keep.of_wr W52) (ninS ne_b1_b36 nin0)
  refine C.dup 317 at_316 rfl rfl ?_
  refine C.bipush 319 (16 : Int32) at_317 rfl rfl ?_
  refine C.iconst 320 (1 : Int32) at_319 rfl rfl ?_
  refine C.bastoreZ 321 16 (1 : Int32) at_320 rfl Ab36_52 zb36 (by decide) rfl (Nat.le_of_ble_eq_true rfl) rfl ?_
  intro h53 W53 A53
  have Ab36_53 : Al Z h53 b36 .boolean [.int (0 : Int32), .int (0 : Int32), .int (1 : Int32), .int (0 : Int32), .int (0 : Int32), .int (0 : Int32), .int (0 : Int32), .int (1 : Int32), .int (1 : Int32), .int (0 : Int32), .int (0 : Int32), .int (0 : Int32), .int (0 : Int32), .int (1 : Int32), .int (1 : Int32), .int (1 : Int32), .int (1 : Int32), .int (0 : Int32), .int (0 : Int32), .int (0 : Int32), .int (0 : Int32), .int (0 : Int32), .int (0 : Int32), .int (0 : Int32), .int (0 : Int32), .int (0 : Int32), .int (0 : Int32), .int (0 : Int32), .int (0 : Int32), .int (0 : Int32), .int (0 : Int32), .int (0 : Int32), .int (0 : Int32), .int (0 : Int32)] := A53
  have z53 : Z.heap.size ≤ h53.size := by rw [W53.size]; exact z52
  have Ab1_53 := Ab1_52.keep (Keep.of_wr W53) (ninS ne_b1_b36 nin0)
  refine C.dup 322 at_321 rfl rfl ?_
  refine C.bipush 324 (17 : Int32) at_322 rfl rfl ?_
  refine C.iconst 325 (1 : Int32) at_324 rfl rfl ?_
  refine C.bastoreZ 326 17 (1 : Int32) at_325 rfl Ab36_53 zb36 (by decide) rfl (Nat.le_of_ble_eq_true rfl) rfl ?_
  intro h54 W54 A54
  have Ab36_54 : Al Z h54 b36 .boolean [.int (0 : Int32), .int (0 : Int32), .int (1 : Int32), .int (0 : Int32), .int (0 : Int32), .int (0 : Int32), .int (0 : Int32), .int (1 : Int32), .int (1 : Int32), .int (0 : Int32), .int (0 : Int32), .int (0 : Int32), .int (0 : Int32), .int (1 : Int32), .int (1 : Int32), .int (1 : Int32), .int (1 : Int32), .int (1 : Int32), .int (0 : Int32), .int (0 : Int32), .int (0 : Int32), .int (0 : Int32), .int (0 : Int32), .int (0 : Int32), .int (0 : Int32), .int (0 : Int32), .int (0 : Int32), .int (0 : Int32), .int (0 : Int32), .int (0 : Int32), .int (0 : Int32), .int (0 : Int32), .int (0 : Int32), .int (0 : Int32)] := A54
  have z54 : Z.heap.size ≤ h54.size := by rw [W54.size]; exact z53
  have Ab1_54 := Ab1_53.keep (Keep.of_wr W54) (ninS ne_b1_b36 nin0)
  refine C.dup 327 at_326 rfl rfl ?_
  refine C.bipush 329 (18 : Int32) at_327 rfl rfl ?_
  refine C.iconst 330 (0 : Int32) at_329 rfl rfl ?_
  refine C.bastoreZ 331 18 (0 : Int32) at_330 rfl Ab36_54 zb36 (by decide) rfl (Nat.le_of_ble_eq_true rfl) rfl ?_
  intro h55 W55 A55
  have Ab36_55 : Al Z h55 b36 .boolean [.int (0 : Int32), .int (0 : Int32), .int (1 : Int32), .int (0 : Int32), .int (0 : Int32), .int (0 : Int32), .int (0 : Int32), .int (1 : Int32), .int (1 : Int32), .int (0 : Int32), .int (0 : Int32), .int (0 : Int32), .int (0 : Int32), .int (1 : Int32), .int (1 : Int32), .int (1 : Int32), .int (1 : Int32), .int (1 : Int32), .int (0 : Int32), .int (0 : Int32), .int (0 : Int32), .int (0 : Int32), .int (0 : Int32), .int (0 : Int32), .int (0 : Int32), .int (0 : Int32), .int (0 : Int32), .int (0 : Int32), .int (0 : Int32), .int (0 : Int32), .int (0 : Int32), .int (0 : Int32), .int (0 : Int32), .int (0 : Int32)] := A55
  have z55 : Z.heap.size ≤ h55.size := by rw [W55.size]; exact z54
  have Ab1_55 := Ab1_54.keep (Keep.of_wr W55) (ninS ne_b1_b36 nin0)
  refine C.dup 332 at_331 rfl rfl ?_
  refine C.bipush 334 (19 : Int32) at_332 rfl rfl ?_
  refine C.iconst 335 (0 : Int32) at_334 rfl rfl ?_
  refine C.bastoreZ 336 19 (0 : Int32) at_335 rfl Ab36_55 zb36 (by decide) rfl (Nat.le_of_ble_eq_true rfl) rfl ?_
  intro h56 W56 A56
  have Ab36_56 : Al Z h56 b36 .boolean [.int (0 : Int32), .int (0 : Int32), .int (1 : Int32), .int (0 : Int32), .int (0 : Int32), .int (0 : Int32), .int (0 : Int32), .int (1 : Int32), .int (1 : Int32), .int (0 : Int32), .int (0 : Int32), .int (0 : Int32), .int (0 : Int32), .int (1 : Int32), .int (1 : Int32), .int (1 : Int32), .int (1 : Int32), .int (1 : Int32), .int (0 : Int32), .int (0 : Int32), .int (0 : Int32), .int (0 : Int32), .int (0 : Int32), .int (0 : Int32), .int (0 : Int32), .int (0 : Int32), .int (0 : Int32), .int (0 : Int32), .int (0 : Int32), .int (0 : Int32), .int (0 : Int32), .int (0 : Int32), .int (0 : Int32), .int (0 : Int32)] := A56
  have z56 : Z.heap.size ≤ h56.size := by rw [W56.size]; exact z55
  have Ab1_56 := Ab1_55.keep (Keep.of_wr W56) (ninS ne_b1_b36 nin0)
  refine C.dup 337 at_336 rfl rfl ?_
  refine C.bipush 339 (20 : Int32) at_337 rfl rfl ?_
  refine C.iconst 340 (1 : Int32) at_339 rfl rfl ?_
  refine C.bastoreZ 341 20 (1 : Int32) at_340 rfl Ab36_56 zb36 (by decide) rfl (Nat.le_of_ble_eq_true rfl) rfl ?_
  intro h57 W57 A57
  have Ab36_57 : Al Z h57 b36 .boolean [.int (0 : Int32), .int (0 : Int32), .int (1 : Int32), .int (0 : Int32), .int (0 : Int32), .int (0 : Int32), .int (0 : Int32), .int (1 : Int32), .int (1 : Int32), .int (0 : Int32), .int (0 : Int32), .int (0 : Int32), .int (0 : Int32), .int (1 : Int32), .int (1 : Int32), .int (1 : Int32), .int (1 : Int32), .int (1 : Int32), .int (0 : Int32), .int (0 : Int32), .int (1 : Int32), .int (0 : Int32), .int (0 : Int32), .int (0 : Int32), .int (0 : Int32), .int (0 : Int32), .int (0 : Int32), .int (0 : Int32), .int (0 : Int32), .int (0 : Int32), .int (0 : Int32), .int (0 : Int32), .int (0 : Int32), .int (0 : Int32)] := A57
  have z57 : Z.heap.size ≤ h57.size := by rw [W57.size]; exact z56
  have Ab1_57 := Ab1_56.keep (Keep.of_wr W57) (ninS ne_b1_b36 nin0)
  refine C.dup 342 at_341 rfl rfl ?_
  refine C.bipush 344 (21 : Int32) at_342 rfl rfl ?_
  refine C.iconst 345 (0 : Int32) at_344 rfl rfl ?_
  refine C.bastoreZ 346 21 (0 : Int32) at_345 rfl Ab36_57 zb36 (by decide) rfl (Nat.le_of_ble_eq_true rfl) rfl ?_
  intro h58 W58 A58
  have Ab36_58 : Al Z h58 b36 .boolean [.int (0 : Int32), .int (0 : Int32), .int (1 : Int32), .int (0 : Int32), .int (0 : Int32), .int (0 : Int32), .int (0 : Int32), .int (1 : Int32), .int (1 : Int32), .int (0 : Int32), .int (0 : Int32), .int (0 : Int32), .int (0 : Int32), .int (1 : Int32), .int (1 : Int32), .int (1 : Int32), .int (1 : Int32), .int (1 : Int32), .int (0 : Int32), .int (0 : Int32), .int (1 : Int32), .int (0 : Int32), .int (0 : Int32), .int (0 : Int32), .int (0 : Int32), .int (0 : Int32), .int (0 : Int32), .int (0 : Int32), .int (0 : Int32), .int (0 : Int32), .int (0 : Int32), .int (0 : Int32), .int (0 : Int32), .int (0 : Int32)] := A58
  have z58 : Z.heap.size ≤ h58.size := by rw [W58.size]; exact z57
  have Ab1_58 := Ab1_57.keep (Keep.of_wr W58) (ninS ne_b1_b36 nin0)
  refine C.dup 347 at_346 rfl rfl ?_
  refine C.bipush 349 (22 : Int32) at_347 rfl rfl ?_
  refine C.iconst 350 (1 : Int32) at_349 rfl rfl ?_
  refine C.bastoreZ 351 22 (1 : Int32) at_350 rfl Ab36_58 zb36 (by decide) rfl (Nat.le_of_ble_eq_true rfl) rfl ?_
  intro h59 W59 A59
  have Ab36_59 : Al Z h59 b36 .boolean [.int (0 : Int32), .int (0 : Int32), .int (1 : Int32), .int (0 : Int32), .int (0 : Int32), .int (0 : Int32), .int (0 : Int32), .int (1 : Int32), .int (1 : Int32), .int (0 : Int32), .int (0 : Int32), .int (0 : Int32), .int (0 : Int32), .int (1 : Int32), .int (1 : Int32), .int (1 : Int32), .int (1 : Int32), .int (1 : Int32), .int (0 : Int32), .int (0 : Int32), .int (1 : Int32), .int (0 : Int32), .int (1 : Int32), .int (0 : Int32), .int (0 : Int32), .int (0 : Int32), .int (0 : Int32), .int (0 : Int32), .int (0 : Int32), .int (0 : Int32), .int (0 : Int32), .int (0 : Int32), .int (0 : Int32), .int (0 : Int32)] := A59
  have z59 : Z.heap.size ≤ h59.size := by rw [W59.size]; exact z58
  have Ab1_59 := Ab1_58.keep (Keep.of_wr W59) (ninS ne_b1_b36 nin0)
  refine C.dup 352 at_351 rfl rfl ?_
  refine C.bipush 354 (23 : Int32) at_352 rfl rfl ?_
  refine C.iconst 355 (0 : Int32) at_354 rfl rfl ?_
  refine C.bastoreZ 356 23 (0 : Int32) at_355 rfl Ab36_59 zb36 (by decide) rfl (Nat.le_of_ble_eq_true rfl) rfl ?_
  intro h60 W60 A60
  have Ab36_60 : Al Z h60 b36 .boolean [.int (0 : Int32), .int (0 : Int32), .int (1 : Int32), .int (0 : Int32), .int (0 : Int32), .int (0 : Int32), .int (0 : Int32), .int (1 : Int32), .int (1 : Int32), .int (0 : Int32), .int (0 : Int32), .int (0 : Int32), .int (0 : Int32), .int (1 : Int32), .int (1 : Int32), .int (1 : Int32), .int (1 : Int32), .int (1 : Int32), .int (0 : Int32), .int (0 : Int32), .int (1 : Int32), .int (0 : Int32), .int (1 : Int32), .int (0 : Int32), .int (0 : Int32), .int (0 : Int32), .int (0 : Int32), .int (0 : Int32), .int (0 : Int32), .int (0 : Int32), .int (0 : Int32), .int (0 : Int32), .int (0 : Int32), .int (0 : Int32)] := A60
  have z60 : Z.heap.size ≤ h60.size := by rw [W60.size]; exact z59
  have Ab1_60 := Ab1_59.keep (Keep.of_wr W60) (ninS ne_b1_b36 nin0)
  refine C.dup 357 at_356 rfl rfl ?_
  refine C.bipush 359 (24 : Int32) at_357 rfl rfl ?_
  refine C.iconst 360 (1 : Int32) at_359 rfl rfl ?_
  refine C.bastoreZ 361 24 (1 : Int32) at_360 rfl Ab36_60 zb36 (by decide) rfl (Nat.le_of_ble_eq_true rfl) rfl ?_
  intro h61 W61 A61
  have Ab36_61 : Al Z h61 b36 .boolean [.int (0 : Int32), .int (0 : Int32), .int (1 : Int32), .int (0 : Int32), .int (0 : Int32), .int (0 : Int32), .int (0 : Int32), .int (1 : Int32), .int (1 : Int32), .int (0 : Int32), .int (0 : Int32), .int (0 : Int32), .int (0 : Int32), .int (1 : Int32), .int (1 : Int32), .int (1 : Int32), .int (1 : Int32), .int (1 : Int32), .int (0 : Int32), .int (0 : Int32), .int (1 : Int32), .int (0 : Int32), .int (1 : Int32), .int (0 : Int32), .int (1 : Int32), .int (0 : Int32), .int (0 : Int32), .int (0 : Int32), .int (0 : Int32), .int (0 : Int32), .int (0 : Int32), .int (0 : Int32), .int (0 : Int32), .int (0 : Int32)] := A61
  have z61 : Z.heap.size ≤ h61.size := by rw [W61.size]; exact z60
  have Ab1_61 := Ab1_60.keep (Keep.of_wr W61) (ninS ne_b1_b36 nin0)
  refine C.dup 362 at_361 rfl rfl ?_
  refine C.bipush 364 (25 : Int32) at_362 rfl rfl ?_
  refine C.iconst 365 (0 : Int32) at_364 rfl rfl ?_
  refine C.bastoreZ 366 25 (0 : Int32) at_365 rfl Ab36_61 zb36 (by decide) rfl (Nat.le_of_ble_eq_true rfl) rfl ?_
  intro h62 W62 A62
  have Ab36_62 : Al Z h62 b36 .boolean [.int (0 : Int32), .int (0 : Int32), .int (1 : Int32), .int (0 : Int32), .int (0 : Int32), .int (0 : Int32), .int (0 : Int32), .int (1 : Int32), .int (1 : Int32), .int (0 : Int32), .int (0 : Int32), .int (0 : Int32), .int (0 : Int32), .int (1 : Int32), .int (1 : Int32), .int (1 : Int32), .int (1 : Int32), .int (1 : Int32), .int (0 : Int32), .int (0 : Int32), .int (1 : Int32), .int (0 : Int32), .int (1 : Int32), .int (0 : Int32), .int (1 : Int32), .int (0 : Int32), .int (0 : Int32), .int (0 : Int32), .int (0 : Int32), .int (0 : Int32), .int (0 : Int32), .int (0 : Int32), .int (0 : Int32), .int (0 : Int32)] := A62
  have z62 : Z.heap.size ≤ h62.size := by rw [W62.size]; exact z61
  have Ab1_62 := Ab1_61.keep (Keep.of_wr W62) (ninS ne_b1_b36 nin0)
  refine C.dup 367 at_366 rfl rfl ?_
  refine C.bipush 369 (26 : Int32) at_367 rfl rfl ?_
  refine C.iconst 370 (0 : Int32) at_369 rfl rfl ?_
  refine C.bastoreZ 371 26 (0 : Int32) at_370 rfl Ab36_62 zb36 (by decide) rfl (Nat.le_of_ble_eq_true rfl) rfl ?_
  intro h63 W63 A63
  have Ab36_63 : Al Z h63 b36 .boolean [.int (0 : Int32), .int (0 : Int32), .int (1 : Int32), .int (0 : Int32), .int (0 : Int32), .int (0 : Int32), .int (0 : Int32), .int (1 : Int32), .int (1 : Int32), .int (0 : Int32), .int (0 : Int32), .int (0 : Int32), .int (0 : Int32), .int (1 : Int32), .int (1 : Int32), .int (1 : Int32), .int (1 : Int32), .int (1 : Int32), .int (0 : Int32), .int (0 : Int32), .int (1 : Int32), .int (0 : Int32), .int (1 : Int32), .int (0 : Int32), .int (1 : Int32), .int (0 : Int32), .int (0 : Int32), .int (0 : Int32), .int (0 : Int32), .int (0 : Int32), .int (0 : Int32), .int (0 : Int32), .int (0 : Int32), .int (0 : Int32)] := A63
  have z63 : Z.heap.size ≤ h63.size := by rw [W63.size]; exact z62
  have Ab1_63 := Ab1_62.keep (Keep.of_wr W63) (ninS ne_b1_b36 nin0)
  refine C.dup 372 at_371 rfl rfl ?_
  refine C.bipush 374 (27 : Int32) at_372 rfl rfl ?_
  refine C.iconst 375 (0 : Int32) at_374 rfl rfl ?_
  refine C.bastoreZ 376 27 (0 : Int32) at_375 rfl Ab36_63 zb36 (by decide) rfl (Nat.le_of_ble_eq_true rfl) rfl ?_
  intro h64 W64 A64
  have Ab36_64 : Al Z h64 b36 .boolean [.int (0 : Int32), .int (0 : Int32), .int (1 : Int32), .int (0 : Int32), .int (0 : Int32), .int (0 : Int32), .int (0 : Int32), .int (1 : Int32), .int (1 : Int32), .int (0 : Int32), .int (0 : Int32), .int (0 : Int32), .int (0 : Int32), .int (1 : Int32), .int (1 : Int32), .int (1 : Int32), .int (1 : Int32), .int (1 : Int32), .int (0 : Int32), .int (0 : Int32), .int (1 : Int32), .int (0 : Int32), .int (1 : Int32), .int (0 : Int32), .int (1 : Int32), .int (0 : Int32), .int (0 : Int32), .int (0 : Int32), .int (0 : Int32), .int (0 : Int32), .int (0 : Int32), .int (0 : Int32), .int (0 : Int32), .int (0 : Int32)] := A64
  have z64 : Z.heap.size ≤ h64.size := by rw [W64.size]; exact z63
  have Ab1_64 := Ab1_63.keep (Keep.of_wr W64) (ninS ne_b1_b36 nin0)
  refine C.dup 377 at_376 rfl rfl ?_
  refine C.bipush 379 (28 : Int32) at_377 rfl rfl ?_
  refine C.iconst 380 (1 : Int32) at_379 rfl rfl ?_
  refine C.bastoreZ 381 28 (1 : Int32) at_380 rfl Ab36_64 zb36 (by decide) rfl (Nat.le_of_ble_eq_true rfl) rfl ?_
  intro h65 W65 A65
  have Ab36_65 : Al Z h65 b36 .boolean [.int (0 : Int32), .int (0 : Int32), .int (1 : Int32), .int (0 : Int32), .int (0 : Int32), .int (0 : Int32), .int (0 : Int32), .int (1 : Int32), .int (1 : Int32), .int (0 : Int32), .int (0 : Int32), .int (0 : Int32), .int (0 : Int32), .int (1 : Int32), .int (1 : Int32), .int (1 : Int32), .int (1 : Int32), .int (1 : Int32), .int (0 : Int32), .int (0 : Int32), .int (1 : Int32), .int (0 : Int32), .int (1 : Int32), .int (0 : Int32), .int (1 : Int32), .int (0 : Int32), .int (0 : Int32), .int (0 : Int32), .int (1 : Int32), .int (0 : Int32), .int (0 : Int32), .int (0 : Int32), .int (0 : Int32), .int (0 : Int32)] := A65
  have z65 : Z.heap.size ≤ h65.size := by rw [W65.size]; exact z64
  have Ab1_65 := Ab1_64.keep (Keep.of_wr W65) (ninS ne_b1_b36 nin0)
  refine C.dup 382 at_381 rfl rfl ?_
  refine C.bipush 384 (29 : Int32) at_382 rfl rfl ?_
  refine C.iconst 385 (0 : Int32) at_384 rfl rfl ?_
  refine C.bastoreZ 386 29 (0 : Int32) at_385 rfl Ab36_65 zb36 (by decide) rfl (Nat.le_of_ble_eq_true rfl) rfl ?_
  intro h66 W66 A66
  have Ab36_66 : Al Z h66 b36 .boolean [.int (0 : Int32), .int (0 : Int32), .int (1 : Int32), .int (0 : Int32), .int (0 : Int32), .int (0 : Int32), .int (0 : Int32), .int (1 : Int32), .int (1 : Int32), .int (0 : Int32), .int (0 : Int32), .int (0 : Int32), .int (0 : Int32), .int (1 : Int32), .int (1 : Int32), .int (1 : Int32), .int (1 : Int32), .int (1 : Int32), .int (0 : Int32), .int (0 : Int32), .int (1 : Int32), .int (0 : Int32), .int (1 : Int32), .int (0 : Int32), .int (1 : Int32), .int (0 : Int32), .int (0 : Int32), .int (0 : Int32), .int (1 : Int32), .int (0 : Int32), .int (0 : Int32), .int (0 : Int32), .int (0 : Int32), .int (0 : Int32)] := A66
  have z66 : Z.heap.size ≤ h66.size := by rw [W66.size]; exact z65
  have Ab1_66 := Ab1_65.keep (Keep.of_wr W66) (ninS ne_b1_b36 nin0)
  refine C.dup 387 at_386 rfl rfl ?_
  refine C.bipush 389 (30 : Int32) at_387 rfl rfl ?_
  refine C.iconst 390 (0 : Int32) at_389 rfl rfl ?_
  refine C.bastoreZ 391 30 (0 : Int32) at_390 rfl Ab36_66 zb36 (by decide) rfl (Nat.le_of_ble_eq_true rfl) rfl ?_
  intro h67 W67 A67
  have Ab36_67 : Al Z h67 b36 .boolean [.int (0 : Int32), .int (0 : Int32), .int (1 : Int32), .int (0 : Int32), .int (0 : Int32), .int (0 : Int32), .int (0 : Int32), .int (1 : Int32), .int (1 : Int32), .int (0 : Int32), .int (0 : Int32), .int (0 : Int32), .int (0 : Int32), .int (1 : Int32), .int (1 : Int32), .int (1 : Int32), .int (1 : Int32), .int (1 : Int32), .int (0 : Int32), .int (0 : Int32), .int (1 : Int32), .int (0 : Int32), .int (1 : Int32), .int (0 : Int32), .int (1 : Int32), .int (0 : Int32), .int (0 : Int32), .int (0 : Int32), .int (1 : Int32), .int (0 : Int32), .int (0 : Int32), .int (0 : Int32), .int (0 : Int32), .int (0 : Int32)] := A67
  have z67 : Z.heap.size ≤ h67.size := by rw [W67.size]; exact z66
  have Ab1_67 := Ab1_66.keep (Keep.of_wr W67) (ninS ne_b1_b36 nin0)
  refine C.dup 392 at_391 rfl rfl ?_
  refine C.bipush 394 (31 : Int32) at_392 rfl rfl ?_
  refine C.iconst 395 (1 : Int32) at_394 rfl rfl ?_
  refine C.bastoreZ 396 31 (1 : Int32) at_395 rfl Ab36_67 zb36 (by decide) rfl (Nat.le_of_ble_eq_true rfl) rfl ?_
  intro h68 W68 A68
  have Ab36_68 : Al Z h68 b36 .boolean [.int (0 : Int32), .int (0 : Int32), .int (1 : Int32), .int (0 : Int32), .int (0 : Int32), .int (0 : Int32), .int (0 : Int32), .int (1 : Int32), .int (1 : Int32), .int (0 : Int32), .int (0 : Int32), .int (0 : Int32), .int (0 : Int32), .int (1 : Int32), .int (1 : Int32), .int (1 : Int32), .int (1 : Int32), .int (1 : Int32), .int (0 : Int32), .int (0 : Int32), .int (1 : Int32), .int (0 : Int32), .int (1 : Int32), .int (0 : Int32), .int (1 : Int32), .int (0 : Int32), .int (0 : Int32), .int (0 : Int32), .int (1 : Int32), .int (0 : Int32), .int (0 : Int32), .int (1 : Int32), .int (0 : Int32), .int (0 : Int32)] := A68
  have z68 : Z.heap.size ≤ h68.size := by rw [W68.size]; exact z67
  have Ab1_68 := Ab1_67.keep (Keep.of_wr W68) (ninS ne_b1_b36 nin0)
  refine C.dup 397 at_396 rfl rfl ?_
  refine C.bipush 399 (32 : Int32) at_397 rfl rfl ?_
  refine C.iconst 400 (0 : Int32) at_399 rfl rfl ?_
  refine C.bastoreZ 401 32 (0 : Int32) at_400 rfl Ab36_68 zb36 (by decide) rfl (Nat.le_of_ble_eq_true rfl) rfl ?_
  intro h69 W69 A69
  have Ab36_69 : Al Z h69 b36 .boolean [.int (0 : Int32), .int (0 : Int32), .int (1 : Int32), .int (0 : Int32), .int (0 : Int32), .int (0 : Int32), .int (0 : Int32), .int (1 : Int32), .int (1 : Int32), .int (0 : Int32), .int (0 : Int32), .int (0 : Int32), .int (0 : Int32), .int (1 : Int32), .int (1 : Int32), .int (1 : Int32), .int (1 : Int32), .int (1 : Int32), .int (0 : Int32), .int (0 : Int32), .int (1 : Int32), .int (0 : Int32), .int (1 : Int32), .int (0 : Int32), .int (1 : Int32), .int (0 : Int32), .int (0 : Int32), .int (0 : Int32), .int (1 : Int32), .int (0 : Int32), .int (0 : Int32), .int (1 : Int32), .int (0 : Int32), .int (0 : Int32)] := A69
  have z69 : Z.heap.size ≤ h69.size := by rw [W69.size]; exact z68
  have Ab1_69 := Ab1_68.keep (Keep.of_wr W69) (ninS ne_b1_b36 nin0)
  refine C.dup 402 at_401 rfl rfl ?_
  refine C.bipush 404 (33 : Int32) at_402 rfl rfl ?_
  refine C.iconst 405 (1 : Int32) at_404 rfl rfl ?_
  refine C.bastoreZ 406 33 (1 : Int32) at_405 rfl Ab36_69 zb36 (by decide) rfl (Nat.le_of_ble_eq_true rfl) rfl ?_
  intro h70 W70 A70
  have Ab36_70 : Al Z h70 b36 .boolean [.int (0 : Int32), .int (0 : Int32), .int (1 : Int32), .int (0 : Int32), .int (0 : Int32), .int (0 : Int32), .int (0 : Int32), .int (1 : Int32), .int (1 : Int32), .int (0 : Int32), .int (0 : Int32), .int (0 : Int32), .int (0 : Int32), .int (1 : Int32), .int (1 : Int32), .int (1 : Int32), .int (1 : Int32), .int (1 : Int32), .int (0 : Int32), .int (0 : Int32), .int (1 : Int32), .int (0 : Int32), .int (1 : Int32), .int (0 : Int32), .int (1 : Int32), .int (0 : Int32), .int (0 : Int32), .int (0 : Int32), .int (1 : Int32), .int (0 : Int32), .int (0 : Int32), .int (1 : Int32), .int (0 : Int32), .int (1 : Int32)] := A70
  have z70 : Z.heap.size ≤ h70.size := by rw [W70.size]; exact z69
  have Ab1_70 := Ab1_69.keep (Keep.of_wr W70) (ninS ne_b1_b36 nin0)
  refine C.astoreN 407 #[.val (.int p), .val (.ref b1), .val (.ref b36), .unset] at_406 rfl rfl rfl ?_
  refine C.iloadN 408 at_407 rfl rfl ?_
  refine C.ldc 410 (2147483647 : Int32) at_408 rfl (tw 73) ?_
  refine C.iand 411 at_410 rfl ?_
  refine C.bipush 413 (34 : Int32) at_411 rfl rfl ?_
  refine C.irem 414 at_413 rfl (by decide) ?_
  refine C.istoreN 415 #[.val (.int p), .val (.ref b1), .val (.ref b36), .val (.int ((p &&& (2147483647 : Int32)) % (34 : Int32)))] at_414 rfl rfl ?_
  generalize hi : (p &&& (2147483647 : Int32)) % (34 : Int32) = i
  obtain ⟨j, hj, e⟩ := rem34 p
  rw [hi] at e
  subst e
  clear hi
  match j, hj with
  | 0, _ =>
    show W h70 2 68 415 #[.val (.int p), .val (.ref b1), .val (.ref b36), .val (.int (0 : Int32))] []
    refine C.aloadN 416 at_415 rfl rfl rfl ?_
    refine C.iloadN 417 at_416 rfl rfl ?_
    refine C.aaload 418 0 (.ref aAE) at_417 rfl Ab1_70 (by decide) rfl rfl ?_
    refine C.kept fun hE => ?_
    refine C.callV 421 (as := []) (rest := []) (rm := ⟨0, 0, 0, 0⟩) 0 at_418 rfl (tw 74) (tw 75) (tw 77) nfSelf (tw 76) (tw 3) (tw 78) (by decide) (EAE.ext hE) (hb_f l Z a0' hw _ aAE _ FAE (by decide)) pd1 rfl rfl (Nat.le_of_eq rfl) (by decide) (by decide) (by decide) (by decide) rfl ?_
    refine same_intro ?_
    show W h70 2 68 421 #[.val (.int p), .val (.ref b1), .val (.ref b36), .val (.int (0 : Int32))] [.int (0 : Int32)]
    refine C.aloadN 422 at_421 rfl rfl rfl ?_
    refine C.iloadN 423 at_422 rfl rfl ?_
    refine C.baloadZ 424 0 (.int (0 : Int32)) at_423 rfl Ab36_70 (by decide) rfl rfl ?_
    refine C.icmpF 427 at_424 rfl (by decide) ?_
    refine C.iconst 428 (1 : Int32) at_427 rfl rfl ?_
    refine C.goto 432 at_428 rfl ?_
    exact C.retI .boolean at_432 rfl (by simp) rfl (by decide) (by decide) rfl
  | 1, _ =>
    show W h70 2 68 415 #[.val (.int p), .val (.ref b1), .val (.ref b36), .val (.int (1 : Int32))] []
    refine C.aloadN 416 at_415 rfl rfl rfl ?_
    refine C.iloadN 417 at_416 rfl rfl ?_
    refine C.aaload 418 1 (.ref aAS) at_417 rfl Ab1_70 (by decide) rfl rfl ?_
    refine C.kept fun hE => ?_
    refine C.callV 421 (as := []) (rest := []) (rm := ⟨0, 0, 0, 0⟩) 0 at_418 rfl (tw 74) (tw 75) (tw 77) nfSelf (tw 76) (tw 3) (tw 78) (by decide) (EAS.ext hE) (hb_f l Z a0' hw _ aAS _ FAS (by decide)) pd1 rfl rfl (Nat.le_of_eq rfl) (by decide) (by decide) (by decide) (by decide) rfl ?_
    refine same_intro ?_
    show W h70 2 68 421 #[.val (.int p), .val (.ref b1), .val (.ref b36), .val (.int (1 : Int32))] [.int (0 : Int32)]
    refine C.aloadN 422 at_421 rfl rfl rfl ?_
    refine C.iloadN 423 at_422 rfl rfl ?_
    refine C.baloadZ 424 1 (.int (0 : Int32)) at_423 rfl Ab36_70 (by decide) rfl rfl ?_
    refine C.icmpF 427 at_424 rfl (by decide) ?_
    refine C.iconst 428 (1 : Int32) at_427 rfl rfl ?_
    refine C.goto 432 at_428 rfl ?_
    exact C.retI .boolean at_432 rfl (by simp) rfl (by decide) (by decide) rfl
  | 2, _ =>
    show W h70 2 68 415 #[.val (.int p), .val (.ref b1), .val (.ref b36), .val (.int (2 : Int32))] []
    refine C.aloadN 416 at_415 rfl rfl rfl ?_
    refine C.iloadN 417 at_416 rfl rfl ?_
    refine C.aaload 418 2 (.ref aAT) at_417 rfl Ab1_70 (by decide) rfl rfl ?_
    refine C.kept fun hE => ?_
    refine C.callV 421 (as := []) (rest := []) (rm := ⟨0, 0, 0, 0⟩) 0 at_418 rfl (tw 74) (tw 75) (tw 77) nfSelf (tw 76) (tw 3) (tw 78) (by decide) (EAT.ext hE) (hb_t l Z a0' hw _ aAT _ FAT (by decide)) pd1 rfl rfl (Nat.le_of_eq rfl) (by decide) (by decide) (by decide) (by decide) rfl ?_
    refine same_intro ?_
    show W h70 2 68 421 #[.val (.int p), .val (.ref b1), .val (.ref b36), .val (.int (2 : Int32))] [.int (1 : Int32)]
    refine C.aloadN 422 at_421 rfl rfl rfl ?_
    refine C.iloadN 423 at_422 rfl rfl ?_
    refine C.baloadZ 424 2 (.int (1 : Int32)) at_423 rfl Ab36_70 (by decide) rfl rfl ?_
    refine C.icmpF 427 at_424 rfl (by decide) ?_
    refine C.iconst 428 (1 : Int32) at_427 rfl rfl ?_
    refine C.goto 432 at_428 rfl ?_
    exact C.retI .boolean at_432 rfl (by simp) rfl (by decide) (by decide) rfl
  | 3, _ =>
    show W h70 2 68 415 #[.val (.int p), .val (.ref b1), .val (.ref b36), .val (.int (3 : Int32))] []
    refine C.aloadN 416 at_415 rfl rfl rfl ?_
    refine C.iloadN 417 at_416 rfl rfl ?_
    refine C.aaload 418 3 (.ref aCS) at_417 rfl Ab1_70 (by decide) rfl rfl ?_
    refine C.kept fun hE => ?_
    refine C.callV 421 (as := []) (rest := []) (rm := ⟨0, 0, 0, 0⟩) 0 at_418 rfl (tw 74) (tw 75) (tw 77) nfSelf (tw 76) (tw 3) (tw 78) (by decide) (ECS.ext hE) (hb_f l Z a0' hw _ aCS _ FCS (by decide)) pd1 rfl rfl (Nat.le_of_eq rfl) (by decide) (by decide) (by decide) (by decide) rfl ?_
    refine same_intro ?_
    show W h70 2 68 421 #[.val (.int p), .val (.ref b1), .val (.ref b36), .val (.int (3 : Int32))] [.int (0 : Int32)]
    refine C.aloadN 422 at_421 rfl rfl rfl ?_
    refine C.iloadN 423 at_422 rfl rfl ?_
    refine C.baloadZ 424 3 (.int (0 : Int32)) at_423 rfl Ab36_70 (by decide) rfl rfl ?_
    refine C.icmpF 427 at_424 rfl (by decide) ?_
    refine C.iconst 428 (1 : Int32) at_427 rfl rfl ?_
    refine C.goto 432 at_428 rfl ?_
    exact C.retI .boolean at_432 rfl (by simp) rfl (by decide) (by decide) rfl
  | 4, _ =>
    show W h70 2 68 415 #[.val (.int p), .val (.ref b1), .val (.ref b36), .val (.int (4 : Int32))] []
    refine C.aloadN 416 at_415 rfl rfl rfl ?_
    refine C.iloadN 417 at_416 rfl rfl ?_
    refine C.aaload 418 4 (.ref aDA) at_417 rfl Ab1_70 (by decide) rfl rfl ?_
    refine C.kept fun hE => ?_
    refine C.callV 421 (as := []) (rest := []) (rm := ⟨0, 0, 0, 0⟩) 0 at_418 rfl (tw 74) (tw 75) (tw 77) nfSelf (tw 76) (tw 3) (tw 78) (by decide) (EDA.ext hE) (hb_f l Z a0' hw _ aDA _ FDA (by decide)) pd1 rfl rfl (Nat.le_of_eq rfl) (by decide) (by decide) (by decide) (by decide) rfl ?_
    refine same_intro ?_
    show W h70 2 68 421 #[.val (.int p), .val (.ref b1), .val (.ref b36), .val (.int (4 : Int32))] [.int (0 : Int32)]
    refine C.aloadN 422 at_421 rfl rfl rfl ?_
    refine C.iloadN 423 at_422 rfl rfl ?_
    refine C.baloadZ 424 4 (.int (0 : Int32)) at_423 rfl Ab36_70 (by decide) rfl rfl ?_
    refine C.icmpF 427 at_424 rfl (by decide) ?_
    refine C.iconst 428 (1 : Int32) at_427 rfl rfl ?_
    refine C.goto 432 at_428 rfl ?_
    exact C.retI .boolean at_432 rfl (by simp) rfl (by decide) (by decide) rfl
  | 5, _ =>
    show W h70 2 68 415 #[.val (.int p), .val (.ref b1), .val (.ref b36), .val (.int (5 : Int32))] []
    refine C.aloadN 416 at_415 rfl rfl rfl ?_
    refine C.iloadN 417 at_416 rfl rfl ?_
    refine C.aaload 418 5 (.ref aDS) at_417 rfl Ab1_70 (by decide) rfl rfl ?_
    refine C.kept fun hE => ?_
    refine C.callV 421 (as := []) (rest := []) (rm := ⟨0, 0, 0, 0⟩) 0 at_418 rfl (tw 74) (tw 75) (tw 77) nfSelf (tw 76) (tw 3) (tw 78) (by decide) (EDS.ext hE) (hb_f l Z a0' hw _ aDS _ FDS (by decide)) pd1 rfl rfl (Nat.le_of_eq rfl) (by decide) (by decide) (by decide) (by decide) rfl ?_
    refine same_intro ?_
    show W h70 2 68 421 #[.val (.int p), .val (.ref b1), .val (.ref b36), .val (.int (5 : Int32))] [.int (0 : Int32)]
    refine C.aloadN 422 at_421 rfl rfl rfl ?_
    refine C.iloadN 423 at_422 rfl rfl ?_
    refine C.baloadZ 424 5 (.int (0 : Int32)) at_423 rfl Ab36_70 (by decide) rfl rfl ?_
    refine C.icmpF 427 at_424 rfl (by decide) ?_
    refine C.iconst 428 (1 : Int32) at_427 rfl rfl ?_
    refine C.goto 432 at_428 rfl ?_
    exact C.retI .boolean at_432 rfl (by simp) rfl (by decide) (by decide) rfl
  | 6, _ =>
    show W h70 2 68 415 #[.val (.int p), .val (.ref b1), .val (.ref b36), .val (.int (6 : Int32))] []
    refine C.aloadN 416 at_415 rfl rfl rfl ?_
    refine C.iloadN 417 at_416 rfl rfl ?_
    refine C.aaload 418 6 (.ref aDT) at_417 rfl Ab1_70 (by decide) rfl rfl ?_
    refine C.kept fun hE => ?_
    refine C.callV 421 (as := []) (rest := []) (rm := ⟨0, 0, 0, 0⟩) 0 at_418 rfl (tw 74) (tw 75) (tw 77) nfSelf (tw 76) (tw 3) (tw 78) (by decide) (EDT.ext hE) (hb_f l Z a0' hw _ aDT _ FDT (by decide)) pd1 rfl rfl (Nat.le_of_eq rfl) (by decide) (by decide) (by decide) (by decide) rfl ?_
    refine same_intro ?_
    show W h70 2 68 421 #[.val (.int p), .val (.ref b1), .val (.ref b36), .val (.int (6 : Int32))] [.int (0 : Int32)]
    refine C.aloadN 422 at_421 rfl rfl rfl ?_
    refine C.iloadN 423 at_422 rfl rfl ?_
    refine C.baloadZ 424 6 (.int (0 : Int32)) at_423 rfl Ab36_70 (by decide) rfl rfl ?_
    refine C.icmpF 427 at_424 rfl (by decide) ?_
    refine C.iconst 428 (1 : Int32) at_427 rfl rfl ?_
    refine C.goto 432 at_428 rfl ?_
    exact C.retI .boolean at_432 rfl (by simp) rfl (by decide) (by decide) rfl
  | 7, _ =>
    show W h70 2 68 415 #[.val (.int p), .val (.ref b1), .val (.ref b36), .val (.int (7 : Int32))] []
    refine C.aloadN 416 at_415 rfl rfl rfl ?_
    refine C.iloadN 417 at_416 rfl rfl ?_
    refine C.aaload 418 7 (.ref aFD) at_417 rfl Ab1_70 (by decide) rfl rfl ?_
    refine C.kept fun hE => ?_
    refine C.callV 421 (as := []) (rest := []) (rm := ⟨0, 0, 0, 0⟩) 0 at_418 rfl (tw 74) (tw 75) (tw 77) nfSelf (tw 76) (tw 3) (tw 78) (by decide) (EFD.ext hE) (hb_t l Z a0' hw _ aFD _ FFD (by decide)) pd1 rfl rfl (Nat.le_of_eq rfl) (by decide) (by decide) (by decide) (by decide) rfl ?_
    refine same_intro ?_
    show W h70 2 68 421 #[.val (.int p), .val (.ref b1), .val (.ref b36), .val (.int (7 : Int32))] [.int (1 : Int32)]
    refine C.aloadN 422 at_421 rfl rfl rfl ?_
    refine C.iloadN 423 at_422 rfl rfl ?_
    refine C.baloadZ 424 7 (.int (1 : Int32)) at_423 rfl Ab36_70 (by decide) rfl rfl ?_
    refine C.icmpF 427 at_424 rfl (by decide) ?_
    refine C.iconst 428 (1 : Int32) at_427 rfl rfl ?_
    refine C.goto 432 at_428 rfl ?_
    exact C.retI .boolean at_432 rfl (by simp) rfl (by decide) (by decide) rfl
  | 8, _ =>
    show W h70 2 68 415 #[.val (.int p), .val (.ref b1), .val (.ref b36), .val (.int (8 : Int32))] []
    refine C.aloadN 416 at_415 rfl rfl rfl ?_
    refine C.iloadN 417 at_416 rfl rfl ?_
    refine C.aaload 418 8 (.ref aFL) at_417 rfl Ab1_70 (by decide) rfl rfl ?_
    refine C.kept fun hE => ?_
    refine C.callV 421 (as := []) (rest := []) (rm := ⟨0, 0, 0, 0⟩) 0 at_418 rfl (tw 74) (tw 75) (tw 77) nfSelf (tw 76) (tw 3) (tw 78) (by decide) (EFL.ext hE) (hb_t l Z a0' hw _ aFL _ FFL (by decide)) pd1 rfl rfl (Nat.le_of_eq rfl) (by decide) (by decide) (by decide) (by decide) rfl ?_
    refine same_intro ?_
    show W h70 2 68 421 #[.val (.int p), .val (.ref b1), .val (.ref b36), .val (.int (8 : Int32))] [.int (1 : Int32)]
    refine C.aloadN 422 at_421 rfl rfl rfl ?_
    refine C.iloadN 423 at_422 rfl rfl ?_
    refine C.baloadZ 424 8 (.int (1 : Int32)) at_423 rfl Ab36_70 (by decide) rfl rfl ?_
    refine C.icmpF 427 at_424 rfl (by decide) ?_
    refine C.iconst 428 (1 : Int32) at_427 rfl rfl ?_
    refine C.goto 432 at_428 rfl ?_
    exact C.retI .boolean at_432 rfl (by simp) rfl (by decide) (by decide) rfl
  | 9, _ =>
    show W h70 2 68 415 #[.val (.int p), .val (.ref b1), .val (.ref b36), .val (.int (9 : Int32))] []
    refine C.aloadN 416 at_415 rfl rfl rfl ?_
    refine C.iloadN 417 at_416 rfl rfl ?_
    refine C.aaload 418 9 (.ref aIS) at_417 rfl Ab1_70 (by decide) rfl rfl ?_
    refine C.kept fun hE => ?_
    refine C.callV 421 (as := []) (rest := []) (rm := ⟨0, 0, 0, 0⟩) 0 at_418 rfl (tw 74) (tw 75) (tw 77) nfSelf (tw 76) (tw 3) (tw 78) (by decide) (EIS.ext hE) (hb_f l Z a0' hw _ aIS _ FIS (by decide)) pd1 rfl rfl (Nat.le_of_eq rfl) (by decide) (by decide) (by decide) (by decide) rfl ?_
    refine same_intro ?_
    show W h70 2 68 421 #[.val (.int p), .val (.ref b1), .val (.ref b36), .val (.int (9 : Int32))] [.int (0 : Int32)]
    refine C.aloadN 422 at_421 rfl rfl rfl ?_
    refine C.iloadN 423 at_422 rfl rfl ?_
    refine C.baloadZ 424 9 (.int (0 : Int32)) at_423 rfl Ab36_70 (by decide) rfl rfl ?_
    refine C.icmpF 427 at_424 rfl (by decide) ?_
    refine C.iconst 428 (1 : Int32) at_427 rfl rfl ?_
    refine C.goto 432 at_428 rfl ?_
    exact C.retI .boolean at_432 rfl (by simp) rfl (by decide) (by decide) rfl
  | 10, _ =>
    show W h70 2 68 415 #[.val (.int p), .val (.ref b1), .val (.ref b36), .val (.int (10 : Int32))] []
    refine C.aloadN 416 at_415 rfl rfl rfl ?_
    refine C.iloadN 417 at_416 rfl rfl ?_
    refine C.aaload 418 10 (.ref aLO) at_417 rfl Ab1_70 (by decide) rfl rfl ?_
    refine C.kept fun hE => ?_
    refine C.callV 421 (as := []) (rest := []) (rm := ⟨0, 0, 0, 0⟩) 0 at_418 rfl (tw 74) (tw 75) (tw 77) nfSelf (tw 76) (tw 3) (tw 78) (by decide) (ELO.ext hE) (hb_f l Z a0' hw _ aLO _ FLO (by decide)) pd1 rfl rfl (Nat.le_of_eq rfl) (by decide) (by decide) (by decide) (by decide) rfl ?_
    refine same_intro ?_
    show W h70 2 68 421 #[.val (.int p), .val (.ref b1), .val (.ref b36), .val (.int (10 : Int32))] [.int (0 : Int32)]
    refine C.aloadN 422 at_421 rfl rfl rfl ?_
    refine C.iloadN 423 at_422 rfl rfl ?_
    refine C.baloadZ 424 10 (.int (0 : Int32)) at_423 rfl Ab36_70 (by decide) rfl rfl ?_
    refine C.icmpF 427 at_424 rfl (by decide) ?_
    refine C.iconst 428 (1 : Int32) at_427 rfl rfl ?_
    refine C.goto 432 at_428 rfl ?_
    exact C.retI .boolean at_432 rfl (by simp) rfl (by decide) (by decide) rfl
  | 11, _ =>
    show W h70 2 68 415 #[.val (.int p), .val (.ref b1), .val (.ref b36), .val (.int (11 : Int32))] []
    refine C.aloadN 416 at_415 rfl rfl rfl ?_
    refine C.iloadN 417 at_416 rfl rfl ?_
    refine C.aaload 418 11 (.ref aLT) at_417 rfl Ab1_70 (by decide) rfl rfl ?_
    refine C.kept fun hE => ?_
    refine C.callV 421 (as := []) (rest := []) (rm := ⟨0, 0, 0, 0⟩) 0 at_418 rfl (tw 74) (tw 75) (tw 77) nfSelf (tw 76) (tw 3) (tw 78) (by decide) (ELT.ext hE) (hb_f l Z a0' hw _ aLT _ FLT (by decide)) pd1 rfl rfl (Nat.le_of_eq rfl) (by decide) (by decide) (by decide) (by decide) rfl ?_
    refine same_intro ?_
    show W h70 2 68 421 #[.val (.int p), .val (.ref b1), .val (.ref b36), .val (.int (11 : Int32))] [.int (0 : Int32)]
    refine C.aloadN 422 at_421 rfl rfl rfl ?_
    refine C.iloadN 423 at_422 rfl rfl ?_
    refine C.baloadZ 424 11 (.int (0 : Int32)) at_423 rfl Ab36_70 (by decide) rfl rfl ?_
    refine C.icmpF 427 at_424 rfl (by decide) ?_
    refine C.iconst 428 (1 : Int32) at_427 rfl rfl ?_
    refine C.goto 432 at_428 rfl ?_
    exact C.retI .boolean at_432 rfl (by simp) rfl (by decide) (by decide) rfl
  | 12, _ =>
    show W h70 2 68 415 #[.val (.int p), .val (.ref b1), .val (.ref b36), .val (.int (12 : Int32))] []
    refine C.aloadN 416 at_415 rfl rfl rfl ?_
    refine C.iloadN 417 at_416 rfl rfl ?_
    refine C.aaload 418 12 (.ref aOB) at_417 rfl Ab1_70 (by decide) rfl rfl ?_
    refine C.kept fun hE => ?_
    refine C.callV 421 (as := []) (rest := []) (rm := ⟨0, 0, 0, 0⟩) 0 at_418 rfl (tw 74) (tw 75) (tw 77) nfSelf (tw 76) (tw 3) (tw 78) (by decide) (EOB.ext hE) (hb_f l Z a0' hw _ aOB _ FOB (by decide)) pd1 rfl rfl (Nat.le_of_eq rfl) (by decide) (by decide) (by decide) (by decide) rfl ?_
    refine same_intro ?_
    show W h70 2 68 421 #[.val (.int p), .val (.ref b1), .val (.ref b36), .val (.int (12 : Int32))] [.int (0 : Int32)]
    refine C.aloadN 422 at_421 rfl rfl rfl ?_
    refine C.iloadN 423 at_422 rfl rfl ?_
    refine C.baloadZ 424 12 (.int (0 : Int32)) at_423 rfl Ab36_70 (by decide) rfl rfl ?_
    refine C.icmpF 427 at_424 rfl (by decide) ?_
    refine C.iconst 428 (1 : Int32) at_427 rfl rfl ?_
    refine C.goto 432 at_428 rfl ?_
    exact C.retI .boolean at_432 rfl (by simp) rfl (by decide) (by decide) rfl
  | 13, _ =>
    show W h70 2 68 415 #[.val (.int p), .val (.ref b1), .val (.ref b36), .val (.int (13 : Int32))] []
    refine C.aloadN 416 at_415 rfl rfl rfl ?_
    refine C.iloadN 417 at_416 rfl rfl ?_
    refine C.aaload 418 13 (.ref aOD) at_417 rfl Ab1_70 (by decide) rfl rfl ?_
    refine C.kept fun hE => ?_
    refine C.callV 421 (as := []) (rest := []) (rm := ⟨0, 0, 0, 0⟩) 0 at_418 rfl (tw 74) (tw 75) (tw 77) nfSelf (tw 76) (tw 3) (tw 78) (by decide) (EOD.ext hE) (hb_t l Z a0' hw _ aOD _ FOD (by decide)) pd1 rfl rfl (Nat.le_of_eq rfl) (by decide) (by decide) (by decide) (by decide) rfl ?_
    refine same_intro ?_
    show W h70 2 68 421 #[.val (.int p), .val (.ref b1), .val (.ref b36), .val (.int (13 : Int32))] [.int (1 : Int32)]
    refine C.aloadN 422 at_421 rfl rfl rfl ?_
    refine C.iloadN 423 at_422 rfl rfl ?_
    refine C.baloadZ 424 13 (.int (1 : Int32)) at_423 rfl Ab36_70 (by decide) rfl rfl ?_
    refine C.icmpF 427 at_424 rfl (by decide) ?_
    refine C.iconst 428 (1 : Int32) at_427 rfl rfl ?_
    refine C.goto 432 at_428 rfl ?_
    exact C.retI .boolean at_432 rfl (by simp) rfl (by decide) (by decide) rfl
  | 14, _ =>
    show W h70 2 68 415 #[.val (.int p), .val (.ref b1), .val (.ref b36), .val (.int (14 : Int32))] []
    refine C.aloadN 416 at_415 rfl rfl rfl ?_
    refine C.iloadN 417 at_416 rfl rfl ?_
    refine C.aaload 418 14 (.ref aOF) at_417 rfl Ab1_70 (by decide) rfl rfl ?_
    refine C.kept fun hE => ?_
    refine C.callV 421 (as := []) (rest := []) (rm := ⟨0, 0, 0, 0⟩) 0 at_418 rfl (tw 74) (tw 75) (tw 77) nfSelf (tw 76) (tw 3) (tw 78) (by decide) (EOF.ext hE) (hb_t l Z a0' hw _ aOF _ FOF (by decide)) pd1 rfl rfl (Nat.le_of_eq rfl) (by decide) (by decide) (by decide) (by decide) rfl ?_
    refine same_intro ?_
    show W h70 2 68 421 #[.val (.int p), .val (.ref b1), .val (.ref b36), .val (.int (14 : Int32))] [.int (1 : Int32)]
    refine C.aloadN 422 at_421 rfl rfl rfl ?_
    refine C.iloadN 423 at_422 rfl rfl ?_
    refine C.baloadZ 424 14 (.int (1 : Int32)) at_423 rfl Ab36_70 (by decide) rfl rfl ?_
    refine C.icmpF 427 at_424 rfl (by decide) ?_
    refine C.iconst 428 (1 : Int32) at_427 rfl rfl ?_
    refine C.goto 432 at_428 rfl ?_
    exact C.retI .boolean at_432 rfl (by simp) rfl (by decide) (by decide) rfl
  | 15, _ =>
    show W h70 2 68 415 #[.val (.int p), .val (.ref b1), .val (.ref b36), .val (.int (15 : Int32))] []
    refine C.aloadN 416 at_415 rfl rfl rfl ?_
    refine C.iloadN 417 at_416 rfl rfl ?_
    refine C.aaload 418 15 (.ref aOL) at_417 rfl Ab1_70 (by decide) rfl rfl ?_
    refine C.kept fun hE => ?_
    refine C.callV 421 (as := []) (rest := []) (rm := ⟨0, 0, 0, 0⟩) 0 at_418 rfl (tw 74) (tw 75) (tw 77) nfSelf (tw 76) (tw 3) (tw 78) (by decide) (EOL.ext hE) (hb_t l Z a0' hw _ aOL _ FOL (by decide)) pd1 rfl rfl (Nat.le_of_eq rfl) (by decide) (by decide) (by decide) (by decide) rfl ?_
    refine same_intro ?_
    show W h70 2 68 421 #[.val (.int p), .val (.ref b1), .val (.ref b36), .val (.int (15 : Int32))] [.int (1 : Int32)]
    refine C.aloadN 422 at_421 rfl rfl rfl ?_
    refine C.iloadN 423 at_422 rfl rfl ?_
    refine C.baloadZ 424 15 (.int (1 : Int32)) at_423 rfl Ab36_70 (by decide) rfl rfl ?_
    refine C.icmpF 427 at_424 rfl (by decide) ?_
    refine C.iconst 428 (1 : Int32) at_427 rfl rfl ?_
    refine C.goto 432 at_428 rfl ?_
    exact C.retI .boolean at_432 rfl (by simp) rfl (by decide) (by decide) rfl
  | 16, _ =>
    show W h70 2 68 415 #[.val (.int p), .val (.ref b1), .val (.ref b36), .val (.int (16 : Int32))] []
    refine C.aloadN 416 at_415 rfl rfl rfl ?_
    refine C.iloadN 417 at_416 rfl rfl ?_
    refine C.aaload 418 16 (.ref aOV) at_417 rfl Ab1_70 (by decide) rfl rfl ?_
    refine C.kept fun hE => ?_
    refine C.callV 421 (as := []) (rest := []) (rm := ⟨0, 0, 0, 0⟩) 0 at_418 rfl (tw 74) (tw 75) (tw 77) nfSelf (tw 76) (tw 3) (tw 78) (by decide) (EOV.ext hE) (hb_t l Z a0' hw _ aOV _ FOV (by decide)) pd1 rfl rfl (Nat.le_of_eq rfl) (by decide) (by decide) (by decide) (by decide) rfl ?_
    refine same_intro ?_
    show W h70 2 68 421 #[.val (.int p), .val (.ref b1), .val (.ref b36), .val (.int (16 : Int32))] [.int (1 : Int32)]
    refine C.aloadN 422 at_421 rfl rfl rfl ?_
    refine C.iloadN 423 at_422 rfl rfl ?_
    refine C.baloadZ 424 16 (.int (1 : Int32)) at_423 rfl Ab36_70 (by decide) rfl rfl ?_
    refine C.icmpF 427 at_424 rfl (by decide) ?_
    refine C.iconst 428 (1 : Int32) at_427 rfl rfl ?_
    refine C.goto 432 at_428 rfl ?_
    exact C.retI .boolean at_432 rfl (by simp) rfl (by decide) (by decide) rfl
  | 17, _ =>
    show W h70 2 68 415 #[.val (.int p), .val (.ref b1), .val (.ref b36), .val (.int (17 : Int32))] []
    refine C.aloadN 416 at_415 rfl rfl rfl ?_
    refine C.iloadN 417 at_416 rfl rfl ?_
    refine C.aaload 418 17 (.ref aOW) at_417 rfl Ab1_70 (by decide) rfl rfl ?_
    refine C.kept fun hE => ?_
    refine C.callV 421 (as := []) (rest := []) (rm := ⟨0, 0, 0, 0⟩) 0 at_418 rfl (tw 74) (tw 75) (tw 77) nfSelf (tw 76) (tw 3) (tw 78) (by decide) (EOW.ext hE) (hb_t l Z a0' hw _ aOW _ FOW (by decide)) pd1 rfl rfl (Nat.le_of_eq rfl) (by decide) (by decide) (by decide) (by decide) rfl ?_
    refine same_intro ?_
    show W h70 2 68 421 #[.val (.int p), .val (.ref b1), .val (.ref b36), .val (.int (17 : Int32))] [.int (1 : Int32)]
    refine C.aloadN 422 at_421 rfl rfl rfl ?_
    refine C.iloadN 423 at_422 rfl rfl ?_
    refine C.baloadZ 424 17 (.int (1 : Int32)) at_423 rfl Ab36_70 (by decide) rfl rfl ?_
    refine C.icmpF 427 at_424 rfl (by decide) ?_
    refine C.iconst 428 (1 : Int32) at_427 rfl rfl ?_
    refine C.goto 432 at_428 rfl ?_
    exact C.retI .boolean at_432 rfl (by simp) rfl (by decide) (by decide) rfl
  | 18, _ =>
    show W h70 2 68 415 #[.val (.int p), .val (.ref b1), .val (.ref b36), .val (.int (18 : Int32))] []
    refine C.aloadN 416 at_415 rfl rfl rfl ?_
    refine C.iloadN 417 at_416 rfl rfl ?_
    refine C.aaload 418 18 (.ref aPN) at_417 rfl Ab1_70 (by decide) rfl rfl ?_
    refine C.kept fun hE => ?_
    refine C.callV 421 (as := []) (rest := []) (rm := ⟨0, 0, 0, 0⟩) 0 at_418 rfl (tw 74) (tw 75) (tw 77) nfSelf (tw 76) (tw 3) (tw 78) (by decide) (EPN.ext hE) (hb_f l Z a0' hw _ aPN _ FPN (by decide)) pd1 rfl rfl (Nat.le_of_eq rfl) (by decide) (by decide) (by decide) (by decide) rfl ?_
    refine same_intro ?_
    show W h70 2 68 421 #[.val (.int p), .val (.ref b1), .val (.ref b36), .val (.int (18 : Int32))] [.int (0 : Int32)]
    refine C.aloadN 422 at_421 rfl rfl rfl ?_
    refine C.iloadN 423 at_422 rfl rfl ?_
    refine C.baloadZ 424 18 (.int (0 : Int32)) at_423 rfl Ab36_70 (by decide) rfl rfl ?_
    refine C.icmpF 427 at_424 rfl (by decide) ?_
    refine C.iconst 428 (1 : Int32) at_427 rfl rfl ?_
    refine C.goto 432 at_428 rfl ?_
    exact C.retI .boolean at_432 rfl (by simp) rfl (by decide) (by decide) rfl
  | 19, _ =>
    show W h70 2 68 415 #[.val (.int p), .val (.ref b1), .val (.ref b36), .val (.int (19 : Int32))] []
    refine C.aloadN 416 at_415 rfl rfl rfl ?_
    refine C.iloadN 417 at_416 rfl rfl ?_
    refine C.aaload 418 19 (.ref aSH) at_417 rfl Ab1_70 (by decide) rfl rfl ?_
    refine C.kept fun hE => ?_
    refine C.callV 421 (as := []) (rest := []) (rm := ⟨0, 0, 0, 0⟩) 0 at_418 rfl (tw 74) (tw 75) (tw 77) nfSelf (tw 76) (tw 3) (tw 78) (by decide) (ESH.ext hE) (hb_f l Z a0' hw _ aSH _ FSH (by decide)) pd1 rfl rfl (Nat.le_of_eq rfl) (by decide) (by decide) (by decide) (by decide) rfl ?_
    refine same_intro ?_
    show W h70 2 68 421 #[.val (.int p), .val (.ref b1), .val (.ref b36), .val (.int (19 : Int32))] [.int (0 : Int32)]
    refine C.aloadN 422 at_421 rfl rfl rfl ?_
    refine C.iloadN 423 at_422 rfl rfl ?_
    refine C.baloadZ 424 19 (.int (0 : Int32)) at_423 rfl Ab36_70 (by decide) rfl rfl ?_
    refine C.icmpF 427 at_424 rfl (by decide) ?_
    refine C.iconst 428 (1 : Int32) at_427 rfl rfl ?_
    refine C.goto 432 at_428 rfl ?_
    exact C.retI .boolean at_432 rfl (by simp) rfl (by decide) (by decide) rfl
  | 20, _ =>
    show W h70 2 68 415 #[.val (.int p), .val (.ref b1), .val (.ref b36), .val (.int (20 : Int32))] []
    refine C.aloadN 416 at_415 rfl rfl rfl ?_
    refine C.iloadN 417 at_416 rfl rfl ?_
    refine C.aaload 418 20 (.ref aSL) at_417 rfl Ab1_70 (by decide) rfl rfl ?_
    refine C.kept fun hE => ?_
    refine C.callV 421 (as := []) (rest := []) (rm := ⟨0, 0, 0, 0⟩) 0 at_418 rfl (tw 74) (tw 75) (tw 77) nfSelf (tw 76) (tw 3) (tw 78) (by decide) (ESL.ext hE) (hb_t l Z a0' hw _ aSL _ FSL (by decide)) pd1 rfl rfl (Nat.le_of_eq rfl) (by decide) (by decide) (by decide) (by decide) rfl ?_
    refine same_intro ?_
    show W h70 2 68 421 #[.val (.int p), .val (.ref b1), .val (.ref b36), .val (.int (20 : Int32))] [.int (1 : Int32)]
    refine C.aloadN 422 at_421 rfl rfl rfl ?_
    refine C.iloadN 423 at_422 rfl rfl ?_
    refine C.baloadZ 424 20 (.int (1 : Int32)) at_423 rfl Ab36_70 (by decide) rfl rfl ?_
    refine C.icmpF 427 at_424 rfl (by decide) ?_
    refine C.iconst 428 (1 : Int32) at_427 rfl rfl ?_
    refine C.goto 432 at_428 rfl ?_
    exact C.retI .boolean at_432 rfl (by simp) rfl (by decide) (by decide) rfl
  | 21, _ =>
    show W h70 2 68 415 #[.val (.int p), .val (.ref b1), .val (.ref b36), .val (.int (21 : Int32))] []
    refine C.aloadN 416 at_415 rfl rfl rfl ?_
    refine C.iloadN 417 at_416 rfl rfl ?_
    refine C.aaload 418 21 (.ref aSQ) at_417 rfl Ab1_70 (by decide) rfl rfl ?_
    refine C.kept fun hE => ?_
    refine C.callV 421 (as := []) (rest := []) (rm := ⟨0, 0, 0, 0⟩) 0 at_418 rfl (tw 74) (tw 75) (tw 77) nfSelf (tw 76) (tw 3) (tw 78) (by decide) (ESQ.ext hE) (hb_f l Z a0' hw _ aSQ _ FSQ (by decide)) pd1 rfl rfl (Nat.le_of_eq rfl) (by decide) (by decide) (by decide) (by decide) rfl ?_
    refine same_intro ?_
    show W h70 2 68 421 #[.val (.int p), .val (.ref b1), .val (.ref b36), .val (.int (21 : Int32))] [.int (0 : Int32)]
    refine C.aloadN 422 at_421 rfl rfl rfl ?_
    refine C.iloadN 423 at_422 rfl rfl ?_
    refine C.baloadZ 424 21 (.int (0 : Int32)) at_423 rfl Ab36_70 (by decide) rfl rfl ?_
    refine C.icmpF 427 at_424 rfl (by decide) ?_
    refine C.iconst 428 (1 : Int32) at_427 rfl rfl ?_
    refine C.goto 432 at_428 rfl ?_
    exact C.retI .boolean at_432 rfl (by simp) rfl (by decide) (by decide) rfl
  | 22, _ =>
    show W h70 2 68 415 #[.val (.int p), .val (.ref b1), .val (.ref b36), .val (.int (22 : Int32))] []
    refine C.aloadN 416 at_415 rfl rfl rfl ?_
    refine C.iloadN 417 at_416 rfl rfl ?_
    refine C.aaload 418 22 (.ref aSS) at_417 rfl Ab1_70 (by decide) rfl rfl ?_
    refine C.kept fun hE => ?_
    refine C.callV 421 (as := []) (rest := []) (rm := ⟨0, 0, 0, 0⟩) 0 at_418 rfl (tw 74) (tw 75) (tw 77) nfSelf (tw 76) (tw 3) (tw 78) (by decide) (ESS.ext hE) (hb_t l Z a0' hw _ aSS _ FSS (by decide)) pd1 rfl rfl (Nat.le_of_eq rfl) (by decide) (by decide) (by decide) (by decide) rfl ?_
    refine same_intro ?_
    show W h70 2 68 421 #[.val (.int p), .val (.ref b1), .val (.ref b36), .val (.int (22 : Int32))] [.int (1 : Int32)]
    refine C.aloadN 422 at_421 rfl rfl rfl ?_
    refine C.iloadN 423 at_422 rfl rfl ?_
    refine C.baloadZ 424 22 (.int (1 : Int32)) at_423 rfl Ab36_70 (by decide) rfl rfl ?_
    refine C.icmpF 427 at_424 rfl (by decide) ?_
    refine C.iconst 428 (1 : Int32) at_427 rfl rfl ?_
    refine C.goto 432 at_428 rfl ?_
    exact C.retI .boolean at_432 rfl (by simp) rfl (by decide) (by decide) rfl
  | 23, _ =>
    show W h70 2 68 415 #[.val (.int p), .val (.ref b1), .val (.ref b36), .val (.int (23 : Int32))] []
    refine C.aloadN 416 at_415 rfl rfl rfl ?_
    refine C.iloadN 417 at_416 rfl rfl ?_
    refine C.aaload 418 23 (.ref aST) at_417 rfl Ab1_70 (by decide) rfl rfl ?_
    refine C.kept fun hE => ?_
    refine C.callV 421 (as := []) (rest := []) (rm := ⟨0, 0, 0, 0⟩) 0 at_418 rfl (tw 74) (tw 75) (tw 77) nfSelf (tw 76) (tw 3) (tw 78) (by decide) (EST.ext hE) (hb_f l Z a0' hw _ aST _ FST (by decide)) pd1 rfl rfl (Nat.le_of_eq rfl) (by decide) (by decide) (by decide) (by decide) rfl ?_
    refine same_intro ?_
    show W h70 2 68 421 #[.val (.int p), .val (.ref b1), .val (.ref b36), .val (.int (23 : Int32))] [.int (0 : Int32)]
    refine C.aloadN 422 at_421 rfl rfl rfl ?_
    refine C.iloadN 423 at_422 rfl rfl ?_
    refine C.baloadZ 424 23 (.int (0 : Int32)) at_423 rfl Ab36_70 (by decide) rfl rfl ?_
    refine C.icmpF 427 at_424 rfl (by decide) ?_
    refine C.iconst 428 (1 : Int32) at_427 rfl rfl ?_
    refine C.goto 432 at_428 rfl ?_
    exact C.retI .boolean at_432 rfl (by simp) rfl (by decide) (by decide) rfl
  | 24, _ =>
    show W h70 2 68 415 #[.val (.int p), .val (.ref b1), .val (.ref b36), .val (.int (24 : Int32))] []
    refine C.aloadN 416 at_415 rfl rfl rfl ?_
    refine C.iloadN 417 at_416 rfl rfl ?_
    refine C.aaload 418 24 (.ref aSV) at_417 rfl Ab1_70 (by decide) rfl rfl ?_
    refine C.kept fun hE => ?_
    refine C.callV 421 (as := []) (rest := []) (rm := ⟨0, 0, 0, 0⟩) 0 at_418 rfl (tw 74) (tw 75) (tw 77) nfSelf (tw 76) (tw 3) (tw 78) (by decide) (ESV.ext hE) (hb_t l Z a0' hw _ aSV _ FSV (by decide)) pd1 rfl rfl (Nat.le_of_eq rfl) (by decide) (by decide) (by decide) (by decide) rfl ?_
    refine same_intro ?_
    show W h70 2 68 421 #[.val (.int p), .val (.ref b1), .val (.ref b36), .val (.int (24 : Int32))] [.int (1 : Int32)]
    refine C.aloadN 422 at_421 rfl rfl rfl ?_
    refine C.iloadN 423 at_422 rfl rfl ?_
    refine C.baloadZ 424 24 (.int (1 : Int32)) at_423 rfl Ab36_70 (by decide) rfl rfl ?_
    refine C.icmpF 427 at_424 rfl (by decide) ?_
    refine C.iconst 428 (1 : Int32) at_427 rfl rfl ?_
    refine C.goto 432 at_428 rfl ?_
    exact C.retI .boolean at_432 rfl (by simp) rfl (by decide) (by decide) rfl
  | 25, _ =>
    show W h70 2 68 415 #[.val (.int p), .val (.ref b1), .val (.ref b36), .val (.int (25 : Int32))] []
    refine C.aloadN 416 at_415 rfl rfl rfl ?_
    refine C.iloadN 417 at_416 rfl rfl ?_
    refine C.aaload 418 25 (.ref aTM) at_417 rfl Ab1_70 (by decide) rfl rfl ?_
    refine C.kept fun hE => ?_
    refine C.callV 421 (as := []) (rest := []) (rm := ⟨0, 0, 0, 0⟩) 0 at_418 rfl (tw 74) (tw 75) (tw 77) nfSelf (tw 76) (tw 3) (tw 78) (by decide) (ETM.ext hE) (hb_f l Z a0' hw _ aTM _ FTM (by decide)) pd1 rfl rfl (Nat.le_of_eq rfl) (by decide) (by decide) (by decide) (by decide) rfl ?_
    refine same_intro ?_
    show W h70 2 68 421 #[.val (.int p), .val (.ref b1), .val (.ref b36), .val (.int (25 : Int32))] [.int (0 : Int32)]
    refine C.aloadN 422 at_421 rfl rfl rfl ?_
    refine C.iloadN 423 at_422 rfl rfl ?_
    refine C.baloadZ 424 25 (.int (0 : Int32)) at_423 rfl Ab36_70 (by decide) rfl rfl ?_
    refine C.icmpF 427 at_424 rfl (by decide) ?_
    refine C.iconst 428 (1 : Int32) at_427 rfl rfl ?_
    refine C.goto 432 at_428 rfl ?_
    exact C.retI .boolean at_432 rfl (by simp) rfl (by decide) (by decide) rfl
  | 26, _ =>
    show W h70 2 68 415 #[.val (.int p), .val (.ref b1), .val (.ref b36), .val (.int (26 : Int32))] []
    refine C.aloadN 416 at_415 rfl rfl rfl ?_
    refine C.iloadN 417 at_416 rfl rfl ?_
    refine C.aaload 418 26 (.ref aUC) at_417 rfl Ab1_70 (by decide) rfl rfl ?_
    refine C.kept fun hE => ?_
    refine C.callV 421 (as := []) (rest := []) (rm := ⟨0, 0, 0, 0⟩) 0 at_418 rfl (tw 74) (tw 75) (tw 77) nfSelf (tw 76) (tw 3) (tw 78) (by decide) (EUC.ext hE) (hb_f l Z a0' hw _ aUC _ FUC (by decide)) pd1 rfl rfl (Nat.le_of_eq rfl) (by decide) (by decide) (by decide) (by decide) rfl ?_
    refine same_intro ?_
    show W h70 2 68 421 #[.val (.int p), .val (.ref b1), .val (.ref b36), .val (.int (26 : Int32))] [.int (0 : Int32)]
    refine C.aloadN 422 at_421 rfl rfl rfl ?_
    refine C.iloadN 423 at_422 rfl rfl ?_
    refine C.baloadZ 424 26 (.int (0 : Int32)) at_423 rfl Ab36_70 (by decide) rfl rfl ?_
    refine C.icmpF 427 at_424 rfl (by decide) ?_
    refine C.iconst 428 (1 : Int32) at_427 rfl rfl ?_
    refine C.goto 432 at_428 rfl ?_
    exact C.retI .boolean at_432 rfl (by simp) rfl (by decide) (by decide) rfl
  | 27, _ =>
    show W h70 2 68 415 #[.val (.int p), .val (.ref b1), .val (.ref b36), .val (.int (27 : Int32))] []
    refine C.aloadN 416 at_415 rfl rfl rfl ?_
    refine C.iloadN 417 at_416 rfl rfl ?_
    refine C.aaload 418 27 (.ref aUI) at_417 rfl Ab1_70 (by decide) rfl rfl ?_
    refine C.kept fun hE => ?_
    refine C.callV 421 (as := []) (rest := []) (rm := ⟨0, 0, 0, 0⟩) 0 at_418 rfl (tw 74) (tw 75) (tw 77) nfSelf (tw 76) (tw 3) (tw 78) (by decide) (EUI.ext hE) (hb_f l Z a0' hw _ aUI _ FUI (by decide)) pd1 rfl rfl (Nat.le_of_eq rfl) (by decide) (by decide) (by decide) (by decide) rfl ?_
    refine same_intro ?_
    show W h70 2 68 421 #[.val (.int p), .val (.ref b1), .val (.ref b36), .val (.int (27 : Int32))] [.int (0 : Int32)]
    refine C.aloadN 422 at_421 rfl rfl rfl ?_
    refine C.iloadN 423 at_422 rfl rfl ?_
    refine C.baloadZ 424 27 (.int (0 : Int32)) at_423 rfl Ab36_70 (by decide) rfl rfl ?_
    refine C.icmpF 427 at_424 rfl (by decide) ?_
    refine C.iconst 428 (1 : Int32) at_427 rfl rfl ?_
    refine C.goto 432 at_428 rfl ?_
    exact C.retI .boolean at_432 rfl (by simp) rfl (by decide) (by decide) rfl
  | 28, _ =>
    show W h70 2 68 415 #[.val (.int p), .val (.ref b1), .val (.ref b36), .val (.int (28 : Int32))] []
    refine C.aloadN 416 at_415 rfl rfl rfl ?_
    refine C.iloadN 417 at_416 rfl rfl ?_
    refine C.aaload 418 28 (.ref aUL) at_417 rfl Ab1_70 (by decide) rfl rfl ?_
    refine C.kept fun hE => ?_
    refine C.callV 421 (as := []) (rest := []) (rm := ⟨0, 0, 0, 0⟩) 0 at_418 rfl (tw 74) (tw 75) (tw 77) nfSelf (tw 76) (tw 3) (tw 78) (by decide) (EUL.ext hE) (hb_t l Z a0' hw _ aUL _ FUL (by decide)) pd1 rfl rfl (Nat.le_of_eq rfl) (by decide) (by decide) (by decide) (by decide) rfl ?_
    refine same_intro ?_
    show W h70 2 68 421 #[.val (.int p), .val (.ref b1), .val (.ref b36), .val (.int (28 : Int32))] [.int (1 : Int32)]
    refine C.aloadN 422 at_421 rfl rfl rfl ?_
    refine C.iloadN 423 at_422 rfl rfl ?_
    refine C.baloadZ 424 28 (.int (1 : Int32)) at_423 rfl Ab36_70 (by decide) rfl rfl ?_
    refine C.icmpF 427 at_424 rfl (by decide) ?_
    refine C.iconst 428 (1 : Int32) at_427 rfl rfl ?_
    refine C.goto 432 at_428 rfl ?_
    exact C.retI .boolean at_432 rfl (by simp) rfl (by decide) (by decide) rfl
  | 29, _ =>
    show W h70 2 68 415 #[.val (.int p), .val (.ref b1), .val (.ref b36), .val (.int (29 : Int32))] []
    refine C.aloadN 416 at_415 rfl rfl rfl ?_
    refine C.iloadN 417 at_416 rfl rfl ?_
    refine C.aaload 418 29 (.ref aUN) at_417 rfl Ab1_70 (by decide) rfl rfl ?_
    refine C.kept fun hE => ?_
    refine C.callV 421 (as := []) (rest := []) (rm := ⟨0, 0, 0, 0⟩) 0 at_418 rfl (tw 74) (tw 75) (tw 77) nfSelf (tw 76) (tw 3) (tw 78) (by decide) (EUN.ext hE) (hb_f l Z a0' hw _ aUN _ FUN (by decide)) pd1 rfl rfl (Nat.le_of_eq rfl) (by decide) (by decide) (by decide) (by decide) rfl ?_
    refine same_intro ?_
    show W h70 2 68 421 #[.val (.int p), .val (.ref b1), .val (.ref b36), .val (.int (29 : Int32))] [.int (0 : Int32)]
    refine C.aloadN 422 at_421 rfl rfl rfl ?_
    refine C.iloadN 423 at_422 rfl rfl ?_
    refine C.baloadZ 424 29 (.int (0 : Int32)) at_423 rfl Ab36_70 (by decide) rfl rfl ?_
    refine C.icmpF 427 at_424 rfl (by decide) ?_
    refine C.iconst 428 (1 : Int32) at_427 rfl rfl ?_
    refine C.goto 432 at_428 rfl ?_
    exact C.retI .boolean at_432 rfl (by simp) rfl (by decide) (by decide) rfl
  | 30, _ =>
    show W h70 2 68 415 #[.val (.int p), .val (.ref b1), .val (.ref b36), .val (.int (30 : Int32))] []
    refine C.aloadN 416 at_415 rfl rfl rfl ?_
    refine C.iloadN 417 at_416 rfl rfl ?_
    refine C.aaload 418 30 (.ref aUR) at_417 rfl Ab1_70 (by decide) rfl rfl ?_
    refine C.kept fun hE => ?_
    refine C.callV 421 (as := []) (rest := []) (rm := ⟨0, 0, 0, 0⟩) 0 at_418 rfl (tw 74) (tw 75) (tw 77) nfSelf (tw 76) (tw 3) (tw 78) (by decide) (EUR.ext hE) (hb_f l Z a0' hw _ aUR _ FUR (by decide)) pd1 rfl rfl (Nat.le_of_eq rfl) (by decide) (by decide) (by decide) (by decide) rfl ?_
    refine same_intro ?_
    show W h70 2 68 421 #[.val (.int p), .val (.ref b1), .val (.ref b36), .val (.int (30 : Int32))] [.int (0 : Int32)]
    refine C.aloadN 422 at_421 rfl rfl rfl ?_
    refine C.iloadN 423 at_422 rfl rfl ?_
    refine C.baloadZ 424 30 (.int (0 : Int32)) at_423 rfl Ab36_70 (by decide) rfl rfl ?_
    refine C.icmpF 427 at_424 rfl (by decide) ?_
    refine C.iconst 428 (1 : Int32) at_427 rfl rfl ?_
    refine C.goto 432 at_428 rfl ?_
    exact C.retI .boolean at_432 rfl (by simp) rfl (by decide) (by decide) rfl
  | 31, _ =>
    show W h70 2 68 415 #[.val (.int p), .val (.ref b1), .val (.ref b36), .val (.int (31 : Int32))] []
    refine C.aloadN 416 at_415 rfl rfl rfl ?_
    refine C.iloadN 417 at_416 rfl rfl ?_
    refine C.aaload 418 31 (.ref aUS) at_417 rfl Ab1_70 (by decide) rfl rfl ?_
    refine C.kept fun hE => ?_
    refine C.callV 421 (as := []) (rest := []) (rm := ⟨0, 0, 0, 0⟩) 0 at_418 rfl (tw 74) (tw 75) (tw 77) nfSelf (tw 76) (tw 3) (tw 78) (by decide) (EUS.ext hE) (hb_t l Z a0' hw _ aUS _ FUS (by decide)) pd1 rfl rfl (Nat.le_of_eq rfl) (by decide) (by decide) (by decide) (by decide) rfl ?_
    refine same_intro ?_
    show W h70 2 68 421 #[.val (.int p), .val (.ref b1), .val (.ref b36), .val (.int (31 : Int32))] [.int (1 : Int32)]
    refine C.aloadN 422 at_421 rfl rfl rfl ?_
    refine C.iloadN 423 at_422 rfl rfl ?_
    refine C.baloadZ 424 31 (.int (1 : Int32)) at_423 rfl Ab36_70 (by decide) rfl rfl ?_
    refine C.icmpF 427 at_424 rfl (by decide) ?_
    refine C.iconst 428 (1 : Int32) at_427 rfl rfl ?_
    refine C.goto 432 at_428 rfl ?_
    exact C.retI .boolean at_432 rfl (by simp) rfl (by decide) (by decide) rfl
  | 32, _ =>
    show W h70 2 68 415 #[.val (.int p), .val (.ref b1), .val (.ref b36), .val (.int (32 : Int32))] []
    refine C.aloadN 416 at_415 rfl rfl rfl ?_
    refine C.iloadN 417 at_416 rfl rfl ?_
    refine C.aaload 418 32 (.ref aUT) at_417 rfl Ab1_70 (by decide) rfl rfl ?_
    refine C.kept fun hE => ?_
    refine C.callV 421 (as := []) (rest := []) (rm := ⟨0, 0, 0, 0⟩) 0 at_418 rfl (tw 74) (tw 75) (tw 77) nfSelf (tw 76) (tw 3) (tw 78) (by decide) (EUT.ext hE) (hb_f l Z a0' hw _ aUT _ FUT (by decide)) pd1 rfl rfl (Nat.le_of_eq rfl) (by decide) (by decide) (by decide) (by decide) rfl ?_
    refine same_intro ?_
    show W h70 2 68 421 #[.val (.int p), .val (.ref b1), .val (.ref b36), .val (.int (32 : Int32))] [.int (0 : Int32)]
    refine C.aloadN 422 at_421 rfl rfl rfl ?_
    refine C.iloadN 423 at_422 rfl rfl ?_
    refine C.baloadZ 424 32 (.int (0 : Int32)) at_423 rfl Ab36_70 (by decide) rfl rfl ?_
    refine C.icmpF 427 at_424 rfl (by decide) ?_
    refine C.iconst 428 (1 : Int32) at_427 rfl rfl ?_
    refine C.goto 432 at_428 rfl ?_
    exact C.retI .boolean at_432 rfl (by simp) rfl (by decide) (by decide) rfl
  | 33, _ =>
    show W h70 2 68 415 #[.val (.int p), .val (.ref b1), .val (.ref b36), .val (.int (33 : Int32))] []
    refine C.aloadN 416 at_415 rfl rfl rfl ?_
    refine C.iloadN 417 at_416 rfl rfl ?_
    refine C.aaload 418 33 (.ref aUV) at_417 rfl Ab1_70 (by decide) rfl rfl ?_
    refine C.kept fun hE => ?_
    refine C.callV 421 (as := []) (rest := []) (rm := ⟨0, 0, 0, 0⟩) 0 at_418 rfl (tw 74) (tw 75) (tw 77) nfSelf (tw 76) (tw 3) (tw 78) (by decide) (EUV.ext hE) (hb_t l Z a0' hw _ aUV _ FUV (by decide)) pd1 rfl rfl (Nat.le_of_eq rfl) (by decide) (by decide) (by decide) (by decide) rfl ?_
    refine same_intro ?_
    show W h70 2 68 421 #[.val (.int p), .val (.ref b1), .val (.ref b36), .val (.int (33 : Int32))] [.int (1 : Int32)]
    refine C.aloadN 422 at_421 rfl rfl rfl ?_
    refine C.iloadN 423 at_422 rfl rfl ?_
    refine C.baloadZ 424 33 (.int (1 : Int32)) at_423 rfl Ab36_70 (by decide) rfl rfl ?_
    refine C.icmpF 427 at_424 rfl (by decide) ?_
    refine C.iconst 428 (1 : Int32) at_427 rfl rfl ?_
    refine C.goto 432 at_428 rfl ?_
    exact C.retI .boolean at_432 rfl (by simp) rfl (by decide) (by decide) rfl
  | n + 34, h => exact absurd h (by omega)
set_option maxRecDepth 65536 in
set_option maxHeartbeats 40000000 in
theorem comes_1 {Post : Tables → Env → Array Value → State → Outcome → State → Prop} (hpost : ∀ tb e args s v u, (limb_1_1.after args s (.returned v) u = true ∧ limb_1_2.after args s (.returned v) u = true ∧ True) → FrameEnd s (.returned v) u (Jvm.fieldLocs frame_1_writes args s ++ Jvm.arrayLocs frame_1_arrays args s ++ Jvm.staticLocs frame_1_statics s) 16 256 → Post tb e args s (.returned v) u) :
    ArmFor flags0 classFile x code maxLocals ret World_1 tables_1 room_1 Calls_1 rest_1 Pre_1 Post := by
  intro l hfl _ _ p e ha hc hk s m args below hf hA hF happ hP
  obtain ⟨hcalls, hrest, hpre⟩ := hP
  obtain ⟨-, -, -, hnamed, -, -, -, hat⟩ := (Spec.applies_iff hf).mp happ
  obtain ⟨hg, hn⟩ := and_e (Cond.before_iff.mp (show (Jvm.Cond.and given_1 narrow_1).before args s = true from hpre))
  obtain ⟨h1, h2⟩ := and_e hg
  obtain ⟨w0, rfl⟩ : ∃ w0 : Value, args = #[w0] := by
    have hs : args.size = 1 := by simpa [Cond.value, given_1] using h1
    obtain ⟨L⟩ := args
    match L, hs with
    | [w0], _ => exact ⟨w0, rfl⟩
  have hw := fun d (hd : d ∈ tables_1) => atoms_spec (ws := Jvm.Cond.code x code maxLocals ret :: tables_1) hat d (List.mem_cons_of_mem _ hd)
  have hfit : Fit s := fun {y c} hc i hi => by
    obtain ⟨ha, rfl⟩ := Array.getElem?_eq_some_iff.mp hc
    have q := List.all_eq_true.mp ((Array.all_eq_true_iff_forall_mem.mp hF) _ (Array.getElem_mem ha)) i (List.mem_range.mpr hi)
    simpa [Array.getElem?_eq_getElem hi] using q
  obtain ⟨i0, e0⟩ := is_v h2
  obtain rfl : w0 = (.int i0) := Option.some.inj e0
  obtain ⟨c0, hn⟩ := and_e hn
  obtain ⟨c1, hn⟩ := and_e hn
  obtain ⟨c2, hn⟩ := and_e hn
  obtain ⟨c3, hn⟩ := and_e hn
  obtain ⟨c4, hn⟩ := and_e hn
  obtain ⟨c5, hn⟩ := and_e hn
  obtain ⟨c6, hn⟩ := and_e hn
  obtain ⟨c7, hn⟩ := and_e hn
  obtain ⟨c8, hn⟩ := and_e hn
  obtain ⟨c9, hn⟩ := and_e hn
  obtain ⟨c10, hn⟩ := and_e hn
  obtain ⟨c11, hn⟩ := and_e hn
  obtain ⟨c12, hn⟩ := and_e hn
  obtain ⟨c13, hn⟩ := and_e hn
  obtain ⟨c14, hn⟩ := and_e hn
  obtain ⟨c15, hn⟩ := and_e hn
  obtain ⟨c16, hn⟩ := and_e hn
  obtain ⟨c17, hn⟩ := and_e hn
  obtain ⟨c18, hn⟩ := and_e hn
  obtain ⟨c19, hn⟩ := and_e hn
  obtain ⟨c20, hn⟩ := and_e hn
  obtain ⟨c21, hn⟩ := and_e hn
  obtain ⟨c22, hn⟩ := and_e hn
  obtain ⟨c23, hn⟩ := and_e hn
  obtain ⟨c24, hn⟩ := and_e hn
  obtain ⟨c25, hn⟩ := and_e hn
  obtain ⟨c26, hn⟩ := and_e hn
  obtain ⟨c27, hn⟩ := and_e hn
  obtain ⟨c28, hn⟩ := and_e hn
  obtain ⟨c29, hn⟩ := and_e hn
  obtain ⟨c30, hn⟩ := and_e hn
  obtain ⟨c31, hn⟩ := and_e hn
  obtain ⟨c32, hn⟩ := and_e hn
  obtain ⟨c33, hn⟩ := and_e hn
  obtain ⟨c34, hn⟩ := and_e hn
  obtain ⟨c35, hn⟩ := and_e hn
  obtain ⟨c36, hn⟩ := and_e hn
  obtain ⟨c37, hn⟩ := and_e hn
  obtain ⟨c38, hn⟩ := and_e hn
  obtain ⟨c39, hn⟩ := and_e hn
  obtain ⟨c40, hn⟩ := and_e hn
  obtain ⟨c41, hn⟩ := and_e hn
  obtain ⟨c42, hn⟩ := and_e hn
  obtain ⟨c43, hn⟩ := and_e hn
  obtain ⟨c44, hn⟩ := and_e hn
  obtain ⟨c45, hn⟩ := and_e hn
  obtain ⟨c46, hn⟩ := and_e hn
  obtain ⟨c47, hn⟩ := and_e hn
  obtain ⟨c48, hn⟩ := and_e hn
  obtain ⟨c49, hn⟩ := and_e hn
  obtain ⟨c50, hn⟩ := and_e hn
  obtain ⟨c51, hn⟩ := and_e hn
  obtain ⟨c52, hn⟩ := and_e hn
  obtain ⟨c53, hn⟩ := and_e hn
  obtain ⟨c54, hn⟩ := and_e hn
  obtain ⟨c55, hn⟩ := and_e hn
  obtain ⟨c56, hn⟩ := and_e hn
  obtain ⟨c57, hn⟩ := and_e hn
  obtain ⟨c58, hn⟩ := and_e hn
  obtain ⟨c59, hn⟩ := and_e hn
  obtain ⟨c60, hn⟩ := and_e hn
  obtain ⟨c61, hn⟩ := and_e hn
  obtain ⟨c62, hn⟩ := and_e hn
  obtain ⟨c63, hn⟩ := and_e hn
  obtain ⟨c64, hn⟩ := and_e hn
  obtain ⟨c65, hn⟩ := and_e hn
  obtain ⟨c66, hn⟩ := and_e hn
  obtain ⟨aAE, vAE⟩ := exa_v c0
  have SAE := Sta.start vAE (Or.inr ⟨hw _ (tw 3), hw _ (tw 4)⟩)
  have EAE := Exa.start vAE c0
  have FAE := fld_of vAE c34
  obtain ⟨aAS, vAS⟩ := exa_v c1
  have SAS := Sta.start vAS (Or.inr ⟨hw _ (tw 3), hw _ (tw 7)⟩)
  have EAS := Exa.start vAS c1
  have FAS := fld_of vAS c43
  obtain ⟨aAT, vAT⟩ := exa_v c2
  have SAT := Sta.start vAT (Or.inr ⟨hw _ (tw 3), hw _ (tw 9)⟩)
  have EAT := Exa.start vAT c2
  have FAT := fld_of vAT c41
  obtain ⟨aCS, vCS⟩ := exa_v c3
  have SCS := Sta.start vCS (Or.inr ⟨hw _ (tw 3), hw _ (tw 11)⟩)
  have ECS := Exa.start vCS c3
  have FCS := fld_of vCS c35
  obtain ⟨aDA, vDA⟩ := exa_v c4
  have SDA := Sta.start vDA (Or.inr ⟨hw _ (tw 3), hw _ (tw 13)⟩)
  have EDA := Exa.start vDA c4
  have FDA := fld_of vDA c46
  obtain ⟨aDS, vDS⟩ := exa_v c5
  have SDS := Sta.start vDS (Or.inr ⟨hw _ (tw 3), hw _ (tw 15)⟩)
  have EDS := Exa.start vDS c5
  have FDS := fld_of vDS c56
  obtain ⟨aDT, vDT⟩ := exa_v c6
  have SDT := Sta.start vDT (Or.inr ⟨hw _ (tw 3), hw _ (tw 17)⟩)
  have EDT := Exa.start vDT c6
  have FDT := fld_of vDT c39
  obtain ⟨aFD, vFD⟩ := exa_v c7
  have SFD := Sta.start vFD (Or.inr ⟨hw _ (tw 3), hw _ (tw 19)⟩)
  have EFD := Exa.start vFD c7
  have FFD := fld_of vFD c40
  obtain ⟨aFL, vFL⟩ := exa_v c8
  have SFL := Sta.start vFL (Or.inr ⟨hw _ (tw 3), hw _ (tw 21)⟩)
  have EFL := Exa.start vFL c8
  have FFL := fld_of vFL c36
  obtain ⟨aIS, vIS⟩ := exa_v c9
  have SIS := Sta.start vIS (Or.inr ⟨hw _ (tw 3), hw _ (tw 23)⟩)
  have EIS := Exa.start vIS c9
  have FIS := fld_of vIS c38
  obtain ⟨aLO, vLO⟩ := exa_v c10
  have SLO := Sta.start vLO (Or.inr ⟨hw _ (tw 3), hw _ (tw 25)⟩)
  have ELO := Exa.start vLO c10
  have FLO := fld_of vLO c47
  obtain ⟨aLT, vLT⟩ := exa_v c11
  have SLT := Sta.start vLT (Or.inr ⟨hw _ (tw 3), hw _ (tw 27)⟩)
  have ELT := Exa.start vLT c11
  have FLT := fld_of vLT c42
  obtain ⟨aOB, vOB⟩ := exa_v c12
  have SOB := Sta.start vOB (Or.inr ⟨hw _ (tw 3), hw _ (tw 29)⟩)
  have EOB := Exa.start vOB c12
  have FOB := fld_of vOB c58
  obtain ⟨aOD, vOD⟩ := exa_v c13
  have SOD := Sta.start vOD (Or.inr ⟨hw _ (tw 3), hw _ (tw 31)⟩)
  have EOD := Exa.start vOD c13
  have FOD := fld_of vOD c44
  obtain ⟨aOF, vOF⟩ := exa_v c14
  have SOF := Sta.start vOF (Or.inr ⟨hw _ (tw 3), hw _ (tw 33)⟩)
  have EOF := Exa.start vOF c14
  have FOF := fld_of vOF c57
  obtain ⟨aOL, vOL⟩ := exa_v c15
  have SOL := Sta.start vOL (Or.inr ⟨hw _ (tw 3), hw _ (tw 35)⟩)
  have EOL := Exa.start vOL c15
  have FOL := fld_of vOL c52
  obtain ⟨aOV, vOV⟩ := exa_v c16
  have SOV := Sta.start vOV (Or.inr ⟨hw _ (tw 3), hw _ (tw 37)⟩)
  have EOV := Exa.start vOV c16
  have FOV := fld_of vOV c48
  obtain ⟨aOW, vOW⟩ := exa_v c17
  have SOW := Sta.start vOW (Or.inr ⟨hw _ (tw 3), hw _ (tw 39)⟩)
  have EOW := Exa.start vOW c17
  have FOW := fld_of vOW c37
  obtain ⟨aPN, vPN⟩ := exa_v c18
  have SPN := Sta.start vPN (Or.inr ⟨hw _ (tw 3), hw _ (tw 41)⟩)
  have EPN := Exa.start vPN c18
  have FPN := fld_of vPN c45
  obtain ⟨aSH, vSH⟩ := exa_v c19
  have SSH := Sta.start vSH (Or.inr ⟨hw _ (tw 3), hw _ (tw 43)⟩)
  have ESH := Exa.start vSH c19
  have FSH := fld_of vSH c51
  obtain ⟨aSL, vSL⟩ := exa_v c20
  have SSL := Sta.start vSL (Or.inr ⟨hw _ (tw 3), hw _ (tw 45)⟩)
  have ESL := Exa.start vSL c20
  have FSL := fld_of vSL c60
  obtain ⟨aSQ, vSQ⟩ := exa_v c21
  have SSQ := Sta.start vSQ (Or.inr ⟨hw _ (tw 3), hw _ (tw 47)⟩)
  have ESQ := Exa.start vSQ c21
  have FSQ := fld_of vSQ c64
  obtain ⟨aSS, vSS⟩ := exa_v c22
  have SSS := Sta.start vSS (Or.inr ⟨hw _ (tw 3), hw _ (tw 49)⟩)
  have ESS := Exa.start vSS c22
  have FSS := fld_of vSS c55
  obtain ⟨aST, vST⟩ := exa_v c23
  have SST := Sta.start vST (Or.inr ⟨hw _ (tw 3), hw _ (tw 51)⟩)
  have EST := Exa.start vST c23
  have FST := fld_of vST c54
  obtain ⟨aSV, vSV⟩ := exa_v c24
  have SSV := Sta.start vSV (Or.inr ⟨hw _ (tw 3), hw _ (tw 53)⟩)
  have ESV := Exa.start vSV c24
  have FSV := fld_of vSV c53
  obtain ⟨aTM, vTM⟩ := exa_v c25
  have STM := Sta.start vTM (Or.inr ⟨hw _ (tw 3), hw _ (tw 55)⟩)
  have ETM := Exa.start vTM c25
  have FTM := fld_of vTM c61
  obtain ⟨aUC, vUC⟩ := exa_v c26
  have SUC := Sta.start vUC (Or.inr ⟨hw _ (tw 3), hw _ (tw 57)⟩)
  have EUC := Exa.start vUC c26
  have FUC := fld_of vUC hn
  obtain ⟨aUI, vUI⟩ := exa_v c27
  have SUI := Sta.start vUI (Or.inr ⟨hw _ (tw 3), hw _ (tw 59)⟩)
  have EUI := Exa.start vUI c27
  have FUI := fld_of vUI c63
  obtain ⟨aUL, vUL⟩ := exa_v c28
  have SUL := Sta.start vUL (Or.inr ⟨hw _ (tw 3), hw _ (tw 61)⟩)
  have EUL := Exa.start vUL c28
  have FUL := fld_of vUL c50
  obtain ⟨aUN, vUN⟩ := exa_v c29
  have SUN := Sta.start vUN (Or.inr ⟨hw _ (tw 3), hw _ (tw 63)⟩)
  have EUN := Exa.start vUN c29
  have FUN := fld_of vUN c66
  obtain ⟨aUR, vUR⟩ := exa_v c30
  have SUR := Sta.start vUR (Or.inr ⟨hw _ (tw 3), hw _ (tw 65)⟩)
  have EUR := Exa.start vUR c30
  have FUR := fld_of vUR c62
  obtain ⟨aUS, vUS⟩ := exa_v c31
  have SUS := Sta.start vUS (Or.inr ⟨hw _ (tw 3), hw _ (tw 67)⟩)
  have EUS := Exa.start vUS c31
  have FUS := fld_of vUS c65
  obtain ⟨aUT, vUT⟩ := exa_v c32
  have SUT := Sta.start vUT (Or.inr ⟨hw _ (tw 3), hw _ (tw 69)⟩)
  have EUT := Exa.start vUT c32
  have FUT := fld_of vUT c49
  obtain ⟨aUV, vUV⟩ := exa_v c33
  have SUV := Sta.start vUV (Or.inr ⟨hw _ (tw 3), hw _ (tw 71)⟩)
  have EUV := Exa.start vUV c33
  have FUV := fld_of vUV c59
  obtain ⟨n, o, h1, h2, h3, _, L, rfl, ⟨rfl, -, N⟩, hq⟩ := law_con l s _ hw i0 aAE aAS aAT aCS aDA aDS aDT aFD aFL aIS aLO aLT aOB aOD aOF aOL aOV aOW aPN aSH aSL aSQ aSS aST aSV aTM aUC aUI aUL aUN aUR aUS aUT aUV SAE EAE FAE SAS EAS FAS SAT EAT FAT SCS ECS FCS SDA EDA FDA SDS EDS FDS SDT EDT FDT SFD EFD FFD SFL EFL FFL SIS EIS FIS SLO ELO FLO SLT ELT FLT SOB EOB FOB SOD EOD FOD SOF EOF FOF SOL EOL FOL SOV EOV FOV SOW EOW FOW SPN EPN FPN SSH ESH FSH SSL ESL FSL SSQ ESQ FSQ SSS ESS FSS SST EST FST SSV ESV FSV STM ETM FTM SUC EUC FUC SUI EUI FUI SUL EUL FUL SUN EUN FUN SUR EUR FUR SUS EUS FUS SUT EUT FUT SUV EUV FUV ⟨Nat.le_refl _, fun _ _ q => q⟩ tables_1 p e ha hc hk s m _ below hf ((Spec.applies_iff_loose hf).mp happ).1 ⟨rfl, State.Warmed39.refl s, rfl⟩ trivial
  refine ⟨n, _, h1, h2, h3, hpost _ _ _ _ _ _ ⟨Cond.after_iff.mpr rfl, Cond.after_iff.mpr (eq_i res_at (Term.int_eval (1)) rfl), trivial⟩ ⟨hq.1, hq.2.1, (hq.2.2.sift fun y hy => Or.inr (N y hy)).mono (by decide) (by decide)⟩⟩
theorem main_1_1 : Claimed_1_1 := comes_1 fun _ _ _ _ _ _ h hF => ⟨h.1, hF⟩
theorem main_1_2 : Claimed_1_2 := comes_1 fun _ _ _ _ _ _ h hF => ⟨h.2.1, hF⟩
end Jvm.Pilot.@@N@@
namespace Jvm.Pilot.@@N@@
open Jvm Jvm.ClassFile Sem Op Lib Jvm.Free Jvm.Stand Jvm.Pilot.@@N@@.Jvm.D
/-! MADE BY PROGRAM (witnessworld.py) out of the Statement's table words and the real class files: 15 classes; the members and pool entries that the words name. The judged class is class 1, her method 1. -/
namespace start1
open Jvm.ClassFile
def u (s : String) : CpInfo := .utf8 (stringToUtf16 s)
/-- a pool by its gaps: so many unusable entries, then the entry; so many at the end -/
def gap : Nat → List CpInfo → List CpInfo
  | 0, r => r
  | n + 1, r => .unusable :: gap n r
def poolList (es : List (Nat × CpInfo)) (last : Nat) : List CpInfo := es.foldr (fun e r => gap e.1 (e.2 :: r)) (gap last [])
def pool (es : List (Nat × CpInfo)) (last : Nat) : Array CpInfo := ⟨poolList es last⟩
def fileOf (pool : Array CpInfo) (this : Nat) (attrs : Array Attribute := #[]) (ms : Array MethodInfo := #[]) (fl : Nat := 33) (sup : Nat := 0) (ifs : Array Nat := #[]) (fds : Array FieldInfo := #[]) : ClassFile where
  minorVersion := 0
  majorVersion := 65
  constantPool := pool
  accessFlags := fl
  thisClass := this
  superClass := sup
  interfaces := ifs
  fields := fds
  methods := ms
  attributes := attrs
def plain (name : String) (sup : Option ClassId) : Class where
  name := name
  kind := .ordinary
  loader := none
  accessFlags := 33
  super := sup
  interfaces := #[]
  cf := none
  fields := #[]
  methods := #[]
  instanceTypes := #[]
  staticTypes := #[]
  resolved := #[]
  callSites := []
  init := .initialized
  statics := none
  mirror := none

def pool0 : Array CpInfo := pool [(5, u "<init>"), (0, u "()V"), (1, .class_ 10), (1, u "java/lang/Object")] 113

def k0m0 : Method := { name := "<init>", desc := "()V", sig := { parameters := [], returnType := none }, accessFlags := 1, code := none }
/-- java/lang/Object -/
def k0 : Class := { plain "java/lang/Object" none with
  accessFlags := 33
  interfaces := #[]
  cf := some (fileOf pool0 8 #[] #[{ accessFlags := 1, nameIndex := 5, descriptorIndex := 6, attributes := #[] }] 33 0 #[] #[])
  fields := #[]
  methods := #[k0m0]
  instanceTypes := #[]
  staticTypes := #[]
  resolved := Array.replicate 124 none
  statics := none }

def pool1 : Array CpInfo := pool [(2, .class_ 4), (1, u "java/lang/Object"), (0, u "<init>"), (0, u "()V"), (0, .class_ 8), (0, u "com/example/shroud/shroud/dicom/Vr"), (0, .fieldref 7 10), (0, .nameAndType 11 12), (0, u "AE"), (0, u "Lcom/example/shroud/shroud/dicom/Vr;"), (0, .fieldref 7 14), (0, .nameAndType 15 12), (0, u "AS"), (0, .fieldref 7 17), (0, .nameAndType 18 12), (0, u "AT"), (0, .fieldref 7 20), (0, .nameAndType 21 12), (0, u "CS"), (0, .fieldref 7 23), (0, .nameAndType 24 12), (0, u "DA"), (0, .fieldref 7 26), (0, .nameAndType 27 12), (0, u "DS"), (0, .fieldref 7 29), (0, .nameAndType 30 12), (0, u "DT"), (0, .fieldref 7 32), (0, .nameAndType 33 12), (0, u "FD"), (0, .fieldref 7 35), (0, .nameAndType 36 12), (0, u "FL"), (0, .fieldref 7 38), (0, .nameAndType 39 12), (0, u "IS"), (0, .fieldref 7 41), (0, .nameAndType 42 12), (0, u "LO"), (0, .fieldref 7 44), (0, .nameAndType 45 12), (0, u "LT"), (0, .fieldref 7 47), (0, .nameAndType 48 12), (0, u "OB"), (0, .fieldref 7 50), (0, .nameAndType 51 12), (0, u "OD"), (0, .fieldref 7 53), (0, .nameAndType 54 12), (0, u "OF"), (0, .fieldref 7 56), (0, .nameAndType 57 12), (0, u "OL"), (0, .fieldref 7 59), (0, .nameAndType 60 12), (0, u "OV"), (0, .fieldref 7 62), (0, .nameAndType 63 12), (0, u "OW"), (0, .fieldref 7 65), (0, .nameAndType 66 12), (0, u "PN"), (0, .fieldref 7 68), (0, .nameAndType 69 12), (0, u "SH"), (0, .fieldref 7 71), (0, .nameAndType 72 12), (0, u "SL"), (0, .fieldref 7 74), (0, .nameAndType 75 12), (0, u "SQ"), (0, .fieldref 7 77), (0, .nameAndType 78 12), (0, u "SS"), (0, .fieldref 7 80), (0, .nameAndType 81 12), (0, u "ST"), (0, .fieldref 7 83), (0, .nameAndType 84 12), (0, u "SV"), (0, .fieldref 7 86), (0, .nameAndType 87 12), (0, u "TM"), (0, .fieldref 7 89), (0, .nameAndType 90 12), (0, u "UC"), (0, .fieldref 7 92), (0, .nameAndType 93 12), (0, u "UI"), (0, .fieldref 7 95), (0, .nameAndType 96 12), (0, u "UL"), (0, .fieldref 7 98), (0, .nameAndType 99 12), (0, u "UN"), (0, .fieldref 7 101), (0, .nameAndType 102 12), (0, u "UR"), (0, .fieldref 7 104), (0, .nameAndType 105 12), (0, u "US"), (0, .fieldref 7 107), (0, .nameAndType 108 12), (0, u "UT"), (0, .fieldref 7 110), (0, .nameAndType 111 12), (0, u "UV"), (0, .integer 2147483647), (0, .methodref 7 114), (0, .nameAndType 115 116), (0, u "hasByteOrder"), (0, u "()Z"), (0, .class_ 118), (0, u "com/example/shroud/shroud/dicom/VrHasByteOrderPinLaw"), (2, u "law"), (0, u "(I)Z")] 7

def k1m0 : Method := { name := "<init>", desc := "()V", sig := { parameters := [], returnType := none }, accessFlags := 1, code := none }
def k1c1 : Code := { maxStack := 4, maxLocals := 4, code := code, exceptionTable := #[], attributes := #[] }
def k1m1 : Method := { name := "law", desc := "(I)Z", sig := { parameters := [.int], returnType := some .boolean }, accessFlags := 9, code := some k1c1 }
/-- com/example/shroud/shroud/dicom/VrHasByteOrderPinLaw -/
def k1 : Class := { plain "com/example/shroud/shroud/dicom/VrHasByteOrderPinLaw" (some 0) with
  accessFlags := 49
  interfaces := #[]
  cf := some (fileOf pool1 117 #[] #[{ accessFlags := 1, nameIndex := 5, descriptorIndex := 6, attributes := #[] }, { accessFlags := 9, nameIndex := 121, descriptorIndex := 122, attributes := #[] }] 49 2 #[] #[])
  fields := #[]
  methods := #[k1m0, k1m1]
  instanceTypes := #[]
  staticTypes := #[]
  resolved := Array.replicate 130 none
  statics := none }

def pool2 : Array CpInfo := pool [(1, .class_ 2), (0, u "java/lang/constant/Constable"), (0, .class_ 4), (0, u "java/lang/Object")] 6

/-- java/lang/constant/Constable -/
def k2 : Class := { plain "java/lang/constant/Constable" (some 0) with
  accessFlags := 1537
  interfaces := #[]
  cf := some (fileOf pool2 1 #[] #[] 1537 3 #[] #[])
  fields := #[]
  methods := #[]
  instanceTypes := #[]
  staticTypes := #[]
  resolved := Array.replicate 11 none
  statics := none }

def pool3 : Array CpInfo := pool [(1, .class_ 2), (0, u "java/lang/Comparable"), (0, .class_ 4), (0, u "java/lang/Object")] 7

/-- java/lang/Comparable -/
def k3 : Class := { plain "java/lang/Comparable" (some 0) with
  accessFlags := 1537
  interfaces := #[]
  cf := some (fileOf pool3 1 #[] #[] 1537 3 #[] #[])
  fields := #[]
  methods := #[]
  instanceTypes := #[]
  staticTypes := #[]
  resolved := Array.replicate 12 none
  statics := none }

def pool4 : Array CpInfo := pool [(1, .class_ 2), (0, u "java/io/Serializable"), (0, .class_ 4), (0, u "java/lang/Object")] 2

/-- java/io/Serializable -/
def k4 : Class := { plain "java/io/Serializable" (some 0) with
  accessFlags := 1537
  interfaces := #[]
  cf := some (fileOf pool4 1 #[] #[] 1537 3 #[] #[])
  fields := #[]
  methods := #[]
  instanceTypes := #[]
  staticTypes := #[]
  resolved := Array.replicate 7 none
  statics := none }

def pool5 : Array CpInfo := pool [(2, .class_ 4), (1, u "java/lang/Enum"), (0, u "name"), (0, u "Ljava/lang/String;"), (2, u "ordinal"), (0, u "I"), (1, .class_ 14), (1, u "java/lang/Object"), (4, u "hash"), (86, .class_ 108), (1, u "java/lang/Enum$EnumDesc"), (2, .class_ 112), (0, u "java/lang/constant/Constable"), (0, .class_ 114), (0, u "java/lang/Comparable"), (0, .class_ 116), (0, u "java/io/Serializable")] 87

/-- java/lang/Enum -/
def k5 : Class := { plain "java/lang/Enum" (some 0) with
  accessFlags := 1057
  interfaces := #[2, 3, 4]
  cf := some (fileOf pool5 2 #[.nestMembers #[106]] #[] 1057 12 #[111, 113, 115] #[{ accessFlags := 18, nameIndex := 5, descriptorIndex := 6, attributes := #[] }, { accessFlags := 18, nameIndex := 9, descriptorIndex := 10, attributes := #[] }, { accessFlags := 2, nameIndex := 19, descriptorIndex := 10, attributes := #[] }])
  fields := #[{ name := "name", type := (.object "java/lang/String"), accessFlags := 18, slot := 0, constantValue := 0 }, { name := "ordinal", type := .int, accessFlags := 18, slot := 1, constantValue := 0 }, { name := "hash", type := .int, accessFlags := 2, slot := 2, constantValue := 0 }]
  methods := #[]
  instanceTypes := #[(.object "java/lang/String"), .int, .int]
  staticTypes := #[]
  resolved := Array.replicate 204 none
  statics := none }

def pool6 : Array CpInfo := pool [(1, .class_ 2), (0, u "com/example/shroud/shroud/dicom/Vr"), (2, u "AE"), (0, u "Lcom/example/shroud/shroud/dicom/Vr;"), (2, u "AS"), (2, u "AT"), (2, u "CS"), (2, u "DA"), (2, u "DS"), (2, u "DT"), (2, u "FD"), (2, u "FL"), (2, u "IS"), (2, u "LO"), (2, u "LT"), (2, u "OB"), (2, u "OD"), (2, u "OF"), (2, u "OL"), (2, u "OV"), (2, u "OW"), (2, u "PN"), (2, u "SH"), (2, u "SL"), (2, u "SQ"), (2, u "SS"), (2, u "ST"), (2, u "SV"), (2, u "TM"), (2, u "UC"), (2, u "UI"), (2, u "UL"), (2, u "UN"), (2, u "UR"), (2, u "US"), (2, u "UT"), (2, u "UV"), (2, u "$VALUES"), (0, u "[Lcom/example/shroud/shroud/dicom/Vr;"), (6, .class_ 118), (1, u "java/lang/Enum"), (8, u "length"), (0, u "Lcom/example/shroud/shroud/dicom/Vr$Length;"), (2, u "padding"), (0, u "Lcom/example/shroud/shroud/dicom/Vr$Padding;"), (0, .fieldref 1 134), (0, .nameAndType 135 136), (0, u "wordSize"), (0, u "I"), (1, .class_ 140), (1, u "com/example/shroud/shroud/dicom/Vr$Length"), (2, .class_ 145), (1, u "com/example/shroud/shroud/dicom/Vr$Padding"), (30, u "hasByteOrder"), (0, u "()Z"), (2, u "BY_CODE")] 102

def k6c0 : Code := { maxStack := 2, maxLocals := 1, code := prog_65_method_7_code, exceptionTable := #[], attributes := #[] }
def k6m0 : Method := { name := "hasByteOrder", desc := "()Z", sig := { parameters := [], returnType := some .boolean }, accessFlags := 0, code := some k6c0 }
/-- com/example/shroud/shroud/dicom/Vr -/
def k6 : Class := { plain "com/example/shroud/shroud/dicom/Vr" (some 5) with
  accessFlags := 16433
  interfaces := #[]
  cf := some (fileOf pool6 1 #[.nestMembers #[143, 138]] #[{ accessFlags := 0, nameIndex := 176, descriptorIndex := 177, attributes := #[] }] 16433 116 #[] #[{ accessFlags := 16409, nameIndex := 5, descriptorIndex := 6, attributes := #[] }, { accessFlags := 16409, nameIndex := 9, descriptorIndex := 6, attributes := #[] }, { accessFlags := 16409, nameIndex := 12, descriptorIndex := 6, attributes := #[] }, { accessFlags := 16409, nameIndex := 15, descriptorIndex := 6, attributes := #[] }, { accessFlags := 16409, nameIndex := 18, descriptorIndex := 6, attributes := #[] }, { accessFlags := 16409, nameIndex := 21, descriptorIndex := 6, attributes := #[] }, { accessFlags := 16409, nameIndex := 24, descriptorIndex := 6, attributes := #[] }, { accessFlags := 16409, nameIndex := 27, descriptorIndex := 6, attributes := #[] }, { accessFlags := 16409, nameIndex := 30, descriptorIndex := 6, attributes := #[] }, { accessFlags := 16409, nameIndex := 33, descriptorIndex := 6, attributes := #[] }, { accessFlags := 16409, nameIndex := 36, descriptorIndex := 6, attributes := #[] }, { accessFlags := 16409, nameIndex := 39, descriptorIndex := 6, attributes := #[] }, { accessFlags := 16409, nameIndex := 42, descriptorIndex := 6, attributes := #[] }, { accessFlags := 16409, nameIndex := 45, descriptorIndex := 6, attributes := #[] }, { accessFlags := 16409, nameIndex := 48, descriptorIndex := 6, attributes := #[] }, { accessFlags := 16409, nameIndex := 51, descriptorIndex := 6, attributes := #[] }, { accessFlags := 16409, nameIndex := 54, descriptorIndex := 6, attributes := #[] }, { accessFlags := 16409, nameIndex := 57, descriptorIndex := 6, attributes := #[] }, { accessFlags := 16409, nameIndex := 60, descriptorIndex := 6, attributes := #[] }, { accessFlags := 16409, nameIndex := 63, descriptorIndex := 6, attributes := #[] }, { accessFlags := 16409, nameIndex := 66, descriptorIndex := 6, attributes := #[] }, { accessFlags := 16409, nameIndex := 69, descriptorIndex := 6, attributes := #[] }, { accessFlags := 16409, nameIndex := 72, descriptorIndex := 6, attributes := #[] }, { accessFlags := 16409, nameIndex := 75, descriptorIndex := 6, attributes := #[] }, { accessFlags := 16409, nameIndex := 78, descriptorIndex := 6, attributes := #[] }, { accessFlags := 16409, nameIndex := 81, descriptorIndex := 6, attributes := #[] }, { accessFlags := 16409, nameIndex := 84, descriptorIndex := 6, attributes := #[] }, { accessFlags := 16409, nameIndex := 87, descriptorIndex := 6, attributes := #[] }, { accessFlags := 16409, nameIndex := 90, descriptorIndex := 6, attributes := #[] }, { accessFlags := 16409, nameIndex := 93, descriptorIndex := 6, attributes := #[] }, { accessFlags := 16409, nameIndex := 96, descriptorIndex := 6, attributes := #[] }, { accessFlags := 16409, nameIndex := 99, descriptorIndex := 6, attributes := #[] }, { accessFlags := 16409, nameIndex := 102, descriptorIndex := 6, attributes := #[] }, { accessFlags := 16409, nameIndex := 105, descriptorIndex := 6, attributes := #[] }, { accessFlags := 18, nameIndex := 127, descriptorIndex := 128, attributes := #[] }, { accessFlags := 18, nameIndex := 131, descriptorIndex := 132, attributes := #[] }, { accessFlags := 18, nameIndex := 135, descriptorIndex := 136, attributes := #[] }, { accessFlags := 26, nameIndex := 180, descriptorIndex := 109, attributes := #[] }, { accessFlags := 4122, nameIndex := 108, descriptorIndex := 109, attributes := #[] }])
  fields := #[{ name := "AE", type := (.object "com/example/shroud/shroud/dicom/Vr"), accessFlags := 16409, slot := 0, constantValue := 0 }, { name := "AS", type := (.object "com/example/shroud/shroud/dicom/Vr"), accessFlags := 16409, slot := 1, constantValue := 0 }, { name := "AT", type := (.object "com/example/shroud/shroud/dicom/Vr"), accessFlags := 16409, slot := 2, constantValue := 0 }, { name := "CS", type := (.object "com/example/shroud/shroud/dicom/Vr"), accessFlags := 16409, slot := 3, constantValue := 0 }, { name := "DA", type := (.object "com/example/shroud/shroud/dicom/Vr"), accessFlags := 16409, slot := 4, constantValue := 0 }, { name := "DS", type := (.object "com/example/shroud/shroud/dicom/Vr"), accessFlags := 16409, slot := 5, constantValue := 0 }, { name := "DT", type := (.object "com/example/shroud/shroud/dicom/Vr"), accessFlags := 16409, slot := 6, constantValue := 0 }, { name := "FD", type := (.object "com/example/shroud/shroud/dicom/Vr"), accessFlags := 16409, slot := 7, constantValue := 0 }, { name := "FL", type := (.object "com/example/shroud/shroud/dicom/Vr"), accessFlags := 16409, slot := 8, constantValue := 0 }, { name := "IS", type := (.object "com/example/shroud/shroud/dicom/Vr"), accessFlags := 16409, slot := 9, constantValue := 0 }, { name := "LO", type := (.object "com/example/shroud/shroud/dicom/Vr"), accessFlags := 16409, slot := 10, constantValue := 0 }, { name := "LT", type := (.object "com/example/shroud/shroud/dicom/Vr"), accessFlags := 16409, slot := 11, constantValue := 0 }, { name := "OB", type := (.object "com/example/shroud/shroud/dicom/Vr"), accessFlags := 16409, slot := 12, constantValue := 0 }, { name := "OD", type := (.object "com/example/shroud/shroud/dicom/Vr"), accessFlags := 16409, slot := 13, constantValue := 0 }, { name := "OF", type := (.object "com/example/shroud/shroud/dicom/Vr"), accessFlags := 16409, slot := 14, constantValue := 0 }, { name := "OL", type := (.object "com/example/shroud/shroud/dicom/Vr"), accessFlags := 16409, slot := 15, constantValue := 0 }, { name := "OV", type := (.object "com/example/shroud/shroud/dicom/Vr"), accessFlags := 16409, slot := 16, constantValue := 0 }, { name := "OW", type := (.object "com/example/shroud/shroud/dicom/Vr"), accessFlags := 16409, slot := 17, constantValue := 0 }, { name := "PN", type := (.object "com/example/shroud/shroud/dicom/Vr"), accessFlags := 16409, slot := 18, constantValue := 0 }, { name := "SH", type := (.object "com/example/shroud/shroud/dicom/Vr"), accessFlags := 16409, slot := 19, constantValue := 0 }, { name := "SL", type := (.object "com/example/shroud/shroud/dicom/Vr"), accessFlags := 16409, slot := 20, constantValue := 0 }, { name := "SQ", type := (.object "com/example/shroud/shroud/dicom/Vr"), accessFlags := 16409, slot := 21, constantValue := 0 }, { name := "SS", type := (.object "com/example/shroud/shroud/dicom/Vr"), accessFlags := 16409, slot := 22, constantValue := 0 }, { name := "ST", type := (.object "com/example/shroud/shroud/dicom/Vr"), accessFlags := 16409, slot := 23, constantValue := 0 }, { name := "SV", type := (.object "com/example/shroud/shroud/dicom/Vr"), accessFlags := 16409, slot := 24, constantValue := 0 }, { name := "TM", type := (.object "com/example/shroud/shroud/dicom/Vr"), accessFlags := 16409, slot := 25, constantValue := 0 }, { name := "UC", type := (.object "com/example/shroud/shroud/dicom/Vr"), accessFlags := 16409, slot := 26, constantValue := 0 }, { name := "UI", type := (.object "com/example/shroud/shroud/dicom/Vr"), accessFlags := 16409, slot := 27, constantValue := 0 }, { name := "UL", type := (.object "com/example/shroud/shroud/dicom/Vr"), accessFlags := 16409, slot := 28, constantValue := 0 }, { name := "UN", type := (.object "com/example/shroud/shroud/dicom/Vr"), accessFlags := 16409, slot := 29, constantValue := 0 }, { name := "UR", type := (.object "com/example/shroud/shroud/dicom/Vr"), accessFlags := 16409, slot := 30, constantValue := 0 }, { name := "US", type := (.object "com/example/shroud/shroud/dicom/Vr"), accessFlags := 16409, slot := 31, constantValue := 0 }, { name := "UT", type := (.object "com/example/shroud/shroud/dicom/Vr"), accessFlags := 16409, slot := 32, constantValue := 0 }, { name := "UV", type := (.object "com/example/shroud/shroud/dicom/Vr"), accessFlags := 16409, slot := 33, constantValue := 0 }, { name := "length", type := (.object "com/example/shroud/shroud/dicom/Vr$Length"), accessFlags := 18, slot := 3, constantValue := 0 }, { name := "padding", type := (.object "com/example/shroud/shroud/dicom/Vr$Padding"), accessFlags := 18, slot := 4, constantValue := 0 }, { name := "wordSize", type := .int, accessFlags := 18, slot := 5, constantValue := 0 }, { name := "BY_CODE", type := (.array (.object "com/example/shroud/shroud/dicom/Vr")), accessFlags := 26, slot := 34, constantValue := 0 }, { name := "$VALUES", type := (.array (.object "com/example/shroud/shroud/dicom/Vr")), accessFlags := 4122, slot := 35, constantValue := 0 }]
  methods := #[k6m0]
  instanceTypes := #[(.object "java/lang/String"), .int, .int, (.object "com/example/shroud/shroud/dicom/Vr$Length"), (.object "com/example/shroud/shroud/dicom/Vr$Padding"), .int]
  staticTypes := #[(.object "com/example/shroud/shroud/dicom/Vr"), (.object "com/example/shroud/shroud/dicom/Vr"), (.object "com/example/shroud/shroud/dicom/Vr"), (.object "com/example/shroud/shroud/dicom/Vr"), (.object "com/example/shroud/shroud/dicom/Vr"), (.object "com/example/shroud/shroud/dicom/Vr"), (.object "com/example/shroud/shroud/dicom/Vr"), (.object "com/example/shroud/shroud/dicom/Vr"), (.object "com/example/shroud/shroud/dicom/Vr"), (.object "com/example/shroud/shroud/dicom/Vr"), (.object "com/example/shroud/shroud/dicom/Vr"), (.object "com/example/shroud/shroud/dicom/Vr"), (.object "com/example/shroud/shroud/dicom/Vr"), (.object "com/example/shroud/shroud/dicom/Vr"), (.object "com/example/shroud/shroud/dicom/Vr"), (.object "com/example/shroud/shroud/dicom/Vr"), (.object "com/example/shroud/shroud/dicom/Vr"), (.object "com/example/shroud/shroud/dicom/Vr"), (.object "com/example/shroud/shroud/dicom/Vr"), (.object "com/example/shroud/shroud/dicom/Vr"), (.object "com/example/shroud/shroud/dicom/Vr"), (.object "com/example/shroud/shroud/dicom/Vr"), (.object "com/example/shroud/shroud/dicom/Vr"), (.object "com/example/shroud/shroud/dicom/Vr"), (.object "com/example/shroud/shroud/dicom/Vr"), (.object "com/example/shroud/shroud/dicom/Vr"), (.object "com/example/shroud/shroud/dicom/Vr"), (.object "com/example/shroud/shroud/dicom/Vr"), (.object "com/example/shroud/shroud/dicom/Vr"), (.object "com/example/shroud/shroud/dicom/Vr"), (.object "com/example/shroud/shroud/dicom/Vr"), (.object "com/example/shroud/shroud/dicom/Vr"), (.object "com/example/shroud/shroud/dicom/Vr"), (.object "com/example/shroud/shroud/dicom/Vr"), (.array (.object "com/example/shroud/shroud/dicom/Vr")), (.array (.object "com/example/shroud/shroud/dicom/Vr"))]
  resolved := Array.replicate 283 none
  statics := some 0 }

def pool7 : Array CpInfo := pool [(1, u "java/lang/Cloneable"), (0, .class_ 1), (0, u "java/lang/Object"), (0, .class_ 3)] 3

/-- java/lang/Cloneable -/
def k7 : Class := { plain "java/lang/Cloneable" (some 0) with
  accessFlags := 1537
  interfaces := #[]
  cf := some (fileOf pool7 2 #[] #[] 1537 4 #[] #[])
  fields := #[]
  methods := #[]
  instanceTypes := #[]
  staticTypes := #[]
  resolved := Array.replicate 8 none
  statics := none }

/-- the primitive boolean -/
def k8 : Class := { plain "boolean" none with kind := .primitive 'Z', accessFlags := 0x411 }
/-- [Z -/
def k9 : Class := { plain "[Z" (some 0) with kind := .array 8 .boolean, interfaces := #[7, 4], accessFlags := 1041 }

/-- the primitive byte -/
def k10 : Class := { plain "byte" none with kind := .primitive 'B', accessFlags := 0x411 }
/-- [B -/
def k11 : Class := { plain "[B" (some 0) with kind := .array 10 .byte, interfaces := #[7, 4], accessFlags := 1041 }

/-- the primitive int -/
def k12 : Class := { plain "int" none with kind := .primitive 'I', accessFlags := 0x411 }
/-- [I -/
def k13 : Class := { plain "[I" (some 0) with kind := .array 12 .int, interfaces := #[7, 4], accessFlags := 1041 }

/-- [Lcom/example/shroud/shroud/dicom/Vr; -/
def k14 : Class := { plain "[Lcom/example/shroud/shroud/dicom/Vr;" (some 0) with kind := .array 6 (.object "com/example/shroud/shroud/dicom/Vr"), interfaces := #[7, 4], accessFlags := 1041 }

def heap : Heap := #[{ cls := 6, slots := #[.ref 1, .ref 2, .ref 3, .ref 4, .ref 5, .ref 6, .ref 7, .ref 8, .ref 9, .ref 10, .ref 11, .ref 12, .ref 13, .ref 14, .ref 15, .ref 16, .ref 17, .ref 18, .ref 19, .ref 20, .ref 21, .ref 22, .ref 23, .ref 24, .ref 25, .ref 26, .ref 27, .ref 28, .ref 29, .ref 30, .ref 31, .ref 32, .ref 33, .ref 34, .null, .null], vm := .statics 6 },
  { cls := 6, slots := #[.null, .int 0, .int 0, .null, .null, .int 1], vm := .none },
  { cls := 6, slots := #[.null, .int 1, .int 0, .null, .null, .int 1], vm := .none },
  { cls := 6, slots := #[.null, .int 2, .int 0, .null, .null, .int 2], vm := .none },
  { cls := 6, slots := #[.null, .int 3, .int 0, .null, .null, .int 1], vm := .none },
  { cls := 6, slots := #[.null, .int 4, .int 0, .null, .null, .int 1], vm := .none },
  { cls := 6, slots := #[.null, .int 5, .int 0, .null, .null, .int 1], vm := .none },
  { cls := 6, slots := #[.null, .int 6, .int 0, .null, .null, .int 1], vm := .none },
  { cls := 6, slots := #[.null, .int 7, .int 0, .null, .null, .int 8], vm := .none },
  { cls := 6, slots := #[.null, .int 8, .int 0, .null, .null, .int 4], vm := .none },
  { cls := 6, slots := #[.null, .int 9, .int 0, .null, .null, .int 1], vm := .none },
  { cls := 6, slots := #[.null, .int 10, .int 0, .null, .null, .int 1], vm := .none },
  { cls := 6, slots := #[.null, .int 11, .int 0, .null, .null, .int 1], vm := .none },
  { cls := 6, slots := #[.null, .int 12, .int 0, .null, .null, .int 1], vm := .none },
  { cls := 6, slots := #[.null, .int 13, .int 0, .null, .null, .int 8], vm := .none },
  { cls := 6, slots := #[.null, .int 14, .int 0, .null, .null, .int 4], vm := .none },
  { cls := 6, slots := #[.null, .int 15, .int 0, .null, .null, .int 4], vm := .none },
  { cls := 6, slots := #[.null, .int 16, .int 0, .null, .null, .int 8], vm := .none },
  { cls := 6, slots := #[.null, .int 17, .int 0, .null, .null, .int 2], vm := .none },
  { cls := 6, slots := #[.null, .int 18, .int 0, .null, .null, .int 1], vm := .none },
  { cls := 6, slots := #[.null, .int 19, .int 0, .null, .null, .int 1], vm := .none },
  { cls := 6, slots := #[.null, .int 20, .int 0, .null, .null, .int 4], vm := .none },
  { cls := 6, slots := #[.null, .int 21, .int 0, .null, .null, .int 1], vm := .none },
  { cls := 6, slots := #[.null, .int 22, .int 0, .null, .null, .int 2], vm := .none },
  { cls := 6, slots := #[.null, .int 23, .int 0, .null, .null, .int 1], vm := .none },
  { cls := 6, slots := #[.null, .int 24, .int 0, .null, .null, .int 8], vm := .none },
  { cls := 6, slots := #[.null, .int 25, .int 0, .null, .null, .int 1], vm := .none },
  { cls := 6, slots := #[.null, .int 26, .int 0, .null, .null, .int 1], vm := .none },
  { cls := 6, slots := #[.null, .int 27, .int 0, .null, .null, .int 1], vm := .none },
  { cls := 6, slots := #[.null, .int 28, .int 0, .null, .null, .int 4], vm := .none },
  { cls := 6, slots := #[.null, .int 29, .int 0, .null, .null, .int 1], vm := .none },
  { cls := 6, slots := #[.null, .int 30, .int 0, .null, .null, .int 1], vm := .none },
  { cls := 6, slots := #[.null, .int 31, .int 0, .null, .null, .int 2], vm := .none },
  { cls := 6, slots := #[.null, .int 32, .int 0, .null, .null, .int 1], vm := .none },
  { cls := 6, slots := #[.null, .int 33, .int 0, .null, .null, .int 8], vm := .none }]
def classes : Array Class := #[k0, k1, k2, k3, k4, k5, k6, k7, k8, k9, k10, k11, k12, k13, k14]
def interned : List (Array UInt16 × Addr) := []
def slotsUsed : Nat := 240
def theMethod : MethodId := ⟨1, 1⟩
def args0 : Array Value := #[.int 5]
def aboutOver (below : List Frame) : State where
  vm := { classes := classes, interned := interned.toArray }
  heap := heap
  slotsUsed := slotsUsed
  threads := #[{ frames := .invoking theMethod args0 :: below }]
def below0 : List Frame := [.native { method := ⟨0, 0⟩, args := #[] }]
def about1 : State := aboutOver below0
def p0 : Program := .bare "" "" ""
def e0 : Env := launch0.env 0 0 0
theorem w_frames : about1.frames = Frame.invoking theMethod args0 :: below0 := rfl
set_option maxRecDepth 65536 in
theorem w_args : argsFit about1.vm theMethod args0 = true := by decide +kernel
set_option maxRecDepth 65536 in
theorem w_heap : heapFits about1 = true := by decide +kernel
set_option maxRecDepth 65536 in
theorem w_runnable : about1.curStatus? = some .runnable := by decide +kernel
set_option maxRecDepth 65536 in
theorem w_alone : about1.alone = true := by decide +kernel
set_option maxRecDepth 65536 in
theorem w_named : about1.methodNamed? x = some theMethod := by decide +kernel
set_option maxRecDepth 65536 in
theorem w_hears : about1.hears theMethod below0 = true := by decide +kernel
set_option maxRecDepth 65536 in
theorem w_ripe : about1.ripe theMethod args0 below0 = true := by decide +kernel
theorem w_running : about1.status = .running := rfl
set_option maxRecDepth 65536 in
theorem w_room : about1.hasRoom e0.platform room_1 = true :=
  launch0.hasRoom_least _ room_1 (by decide +kernel) (by decide +kernel) (by decide +kernel) (by decide +kernel) (by decide +kernel) (by decide +kernel)
theorem allAtoms_all (ts : List Jvm.Cond) (a : Array Jvm.Value) (st : Jvm.State) : (allAtoms ts).before a st = ts.all (fun c => c.before a st) := by
  induction ts with
  | nil => rfl
  | cons c t ih =>
    show (Jvm.Cond.and c (allAtoms t)).before a st = _
    rw [Jvm.Cond.before_and, ih, List.all_cons]
def words1 : List Jvm.Cond := Jvm.Cond.code x code maxLocals ret :: tables_1
/-- a 'code' word, met by the world's own term for the bytes: nothing is compared byte by byte -/
theorem code_word {y : MethodName} {bytes : ByteArray} {mx : Nat} {rt : Option FieldType} {a : Array Value} {s : State} {m : MethodId} {meth : Method} {c : Code} (h1 : s.methodNamed? y = some m) (h2 : s.vm.method? m = some meth) (h3 : meth.code = some c) (h4 : c.code = bytes)
    (h5 : (c.maxLocals == mx && c.exceptionTable.isEmpty && decide (c.maxStack ≤ mostOperands) && decide (meth.sig.returnType = rt) && !meth.locks && decide (parseMethodDescriptor y.desc = some meth.sig)) = true) : (Jvm.Cond.code y bytes mx rt).before a s = true := by
  simp only [Bool.and_eq_true, beq_iff_eq, Bool.not_eq_true', decide_eq_true_eq] at h5
  obtain ⟨⟨⟨⟨⟨g1, g2⟩, g3⟩, g4⟩, g5⟩, g6⟩ := h5
  simp [Cond.before, Cond.holds, Cond.value, h1, h2, h3, h4, g1, g2, g3, g4, g5, g6]
def isCode : Jvm.Cond → Bool
  | .code _ _ _ _ => true
  | _ => false
theorem all_split {L : List Jvm.Cond} {P : Jvm.Cond → Bool} (h1 : L.all (fun c => isCode c || P c) = true) (h2 : ∀ c ∈ L.filter isCode, P c = true) : L.all P = true := by
  refine List.all_eq_true.mpr fun c hc => ?_
  have h := List.all_eq_true.mp h1 c hc
  rcases Bool.eq_false_or_eq_true (isCode c) with hi | hi
  · exact h2 c (List.mem_filter.mpr ⟨hc, hi⟩)
  · simpa [hi] using h
set_option maxRecDepth 65536 in
theorem w_c0 : (Jvm.Cond.code x code maxLocals ret).before args0 about1 = true := code_word (m := ⟨1, 1⟩) (meth := k1m1) (c := k1c1) (by decide +kernel) rfl rfl rfl (by decide +kernel)
set_option maxRecDepth 65536 in
theorem w_c1 : (Jvm.Cond.code ({ cls := "com/example/shroud/shroud/dicom/Vr", name := "hasByteOrder", desc := "()Z" } : Jvm.MethodName) prog_65_method_7_code (1 : Nat) (Option.some Jvm.ClassFile.FieldType.boolean)).before args0 about1 = true := code_word (m := ⟨6, 0⟩) (meth := k6m0) (c := k6c0) (by decide +kernel) rfl rfl rfl (by decide +kernel)
def codes1 : List Jvm.Cond := [Jvm.Cond.code x code maxLocals ret, Jvm.Cond.code ({ cls := "com/example/shroud/shroud/dicom/Vr", name := "hasByteOrder", desc := "()Z" } : Jvm.MethodName) prog_65_method_7_code (1 : Nat) (Option.some Jvm.ClassFile.FieldType.boolean)]
set_option maxRecDepth 65536 in
theorem codes_eq : words1.filter isCode = codes1 := rfl
theorem w_codes : ∀ c ∈ words1.filter isCode, c.before args0 about1 = true := by
  rw [codes_eq]
  intro c hc
  simp only [codes1, List.mem_cons, List.not_mem_nil, or_false] at hc
  rcases hc with rfl | rfl
  · exact w_c0
  · exact w_c1
set_option maxRecDepth 65536 in
theorem w_t1 : (words1.take 24).all (fun c => isCode c || c.before args0 about1) = true := by decide +kernel
set_option maxRecDepth 65536 in
theorem w_t2 : ((words1.drop 24).take 24).all (fun c => isCode c || c.before args0 about1) = true := by decide +kernel
set_option maxRecDepth 65536 in
theorem w_t3 : (((words1.drop 24).drop 24).take 24).all (fun c => isCode c || c.before args0 about1) = true := by decide +kernel
set_option maxRecDepth 65536 in
theorem w_t4 : (((words1.drop 24).drop 24).drop 24).all (fun c => isCode c || c.before args0 about1) = true := by decide +kernel
theorem w_tables : (allAtoms (Jvm.Cond.code x code maxLocals ret :: tables_1)).before args0 about1 = true := by
  rw [allAtoms_all]
  show words1.all (fun c => c.before args0 about1) = true
  refine all_split ?_ w_codes
  rw [← List.take_append_drop 24 words1, List.all_append, w_t1, ← List.take_append_drop 24 (words1.drop 24), List.all_append, w_t2, ← List.take_append_drop 24 ((words1.drop 24).drop 24), List.all_append, w_t3, w_t4]
  rfl
set_option maxRecDepth 65536 in
theorem w_case : (Jvm.Cond.and given_1 narrow_1).before args0 about1 = true := by decide +kernel
theorem w_applies : (headSpec (Jvm.Cond.code x code maxLocals ret :: tables_1) room_1).applies x e0.platform about1 = true :=
  (Spec.applies_iff w_frames).mpr ⟨w_running, w_runnable, w_alone, w_named, w_hears, w_ripe, w_room, w_tables⟩
theorem atStart : AtStart classFile x code maxLocals ret World_1 tables_1 room_1 Calls_1 rest_1 Pre_1 launch0 p0 e0 about1 theMethod args0 below0 :=
  ⟨lists_1, trivial, launch0.admits_env _ _ _, launch0.least_env, fairChoices_fair.cas, fairChoices_fair.clock, w_frames, w_args, w_heap, w_applies, trivial, trivial, w_case⟩
end start1
theorem witness_1 : WitnessClaimed_1 := ⟨start1.p0, start1.e0, start1.about1, start1.theMethod, start1.args0, start1.below0, start1.atStart⟩
end Jvm.Pilot.@@N@@
