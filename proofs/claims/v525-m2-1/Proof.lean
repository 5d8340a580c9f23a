import JvmDerived
import JvmDerived.Pilot.@@N@@Statement
import JvmDerived.Pilot.@@N@@Code
set_option linter.unusedVariables false
set_option linter.unusedSimpArgs false
namespace Jvm.Own
open Sem ClassFile Op Lib Jvm.Stand Jvm.Free Jvm.LawKit Jvm.RoadKit
/-! THE OWN LAYER, WIDE: as the narrow one, for walks that load String constants: the base's tables may have moved (Since), what is booked of EL's constants says its text (CHr), and 'os' lists the cells made meanwhile that aren't booked: those may be written. -/
abbrev Wk := Heap → List Addr → Nat → Nat → Nat → Array Slot → List Value → Prop
def Ows (Z : State) (EL : List (String × Nat)) (vm : Vm) (h : Heap) (os : List Addr) : Prop := ∀ x ∈ os, Z.heap.size ≤ x ∧ Safe Z EL vm h x ∧ x < h.size
def Ends (Z : State) (EL : List (String × Nat)) (s : State) (R : Room) (Q : Option Value → Heap → Prop) (ou : Option Value → List Addr) (o : Outcome) (u : State) : Prop :=
  ∃ v L, o = .returned v ∧ (Q v u.heap ∧ Ext Z.heap u.heap ∧ Fr Z.heap.size L) ∧ Ows Z EL u.vm u.heap (ou v) ∧ CHr Z EL s.vm s.heap u.vm u.heap ∧ ReturnedEndW s o u L R.cells R.slots
def Run (p : Program) (l : Launch) (e : Env) (R : Room) (s : State) (m : MethodId) (args : Array Value) (below : List Frame) (meth : Method) (c : Code) (Z : State) (EL : List (String × Nat)) (Q : Option Value → Heap → Prop) (ou : Option Value → List Addr) : Wk := fun h os k n pc Ls st =>
  Ext Z.heap h → ∀ vm0 k0 T locs, s.Since vm0 k0 → k0 ≤ h.size → CHr Z EL s.vm s.heap vm0 h → Ows Z EL vm0 h os → Stand p l e R (s.setVm vm0) m args below meth c T locs k n → T.heap = h → Fr Z.heap.size locs →
    ∃ u o, Steps p.tables e below (T.setTop (mkF m pc Ls st)) u ∧ u.status = .running ∧ Ended u below o ∧ Ends Z EL s R Q ou o u
def Ok (p : Program) (s : State) (m : MethodId) (meth : Method) (c : Code) (Z : State) (a0 : Array Value) (tb : List Jvm.Cond) (EL : List (String × Nat)) (own : String) (code : ByteArray) (ml : Nat) (rt : Option FieldType) (nm : String) : Prop :=
  p.tables.exec = Jvm.exec ∧ c.code = code ∧ c.maxLocals = ml ∧ s.vm.findClass own = some m.cls ∧ meth.sig.returnType = rt ∧ meth.locks = false ∧ Z.Warmed39 s.vm ∧ meth.name = nm ∧ (∀ d ∈ tb, d.before a0 Z = true) ∧ EW Z a0 EL
def Walk (W : Wk) (l : Launch) (Z : State) (a0 : Array Value) (tb : List Jvm.Cond) (EL : List (String × Nat)) (own : String) (code : ByteArray) (ml : Nat) (rt : Option FieldType) (nm : String) (R : Room) (Q : Option Value → Heap → Prop) (ou : Option Value → List Addr) : Prop :=
  ∃ p e s m args below meth c, W = Run p l e R s m args below meth c Z EL Q ou ∧ Ok p s m meth c Z a0 tb EL own code ml rt nm
def Con (l : Launch) (Z : State) (EL : List (String × Nat)) (y : MethodName) (code : ByteArray) (ml : Nat) (rt : Option FieldType) (rm : Room) (as : Array Value) (h : Heap) (os : List Addr) (Q : Option Value → Heap → Prop) (ou : Option Value → List Addr) : Prop :=
  Ext Z.heap h → ∀ ws, MetFree l y (head1 (Jvm.Cond.code y code ml rt :: ws) rm) (fun a U => a = as ∧ Z.Warmed39 U.vm ∧ U.heap = h ∧ CHv Z EL U.vm h ∧ Ows Z EL U.vm h os) (fun _ _ _ _ _ => True) (fun _ U o U' => Ends Z EL U rm Q ou o U')
def Same (v : Option Value) (h : Heap) : Option Value → Heap → Prop := fun v' h' => v' = v ∧ h' = h
theorem same_intro {v : Option Value} {h : Heap} {P : Option Value → Heap → Prop} (K : P v h) : ∀ v' h', Same v h v' h' → P v' h' := by
  rintro _ _ ⟨rfl, rfl⟩; exact K
theorem Con.of {l : Launch} {Z : State} {EL : List (String × Nat)} {a0 : Array Value} {tb : List Jvm.Cond} {y : MethodName} {code : ByteArray} {ml : Nat} {rt : Option FieldType} {rm : Room} {as : Array Value} {h : Heap} {os : List Addr} {Q : Option Value → Heap → Prop} {ou : Option Value → List Addr} {Ls : Array Slot}
    (hw : ∀ d ∈ tb, d.before a0 Z = true) (hEL : EW Z a0 EL) (hpn : plainFor y = true) (hef : ∀ m, entryFrame m as ml = mkF m 0 Ls []) (H : ∀ W : Wk, Walk W l Z a0 tb EL y.cls code ml rt y.name rm Q ou → W h os 0 0 0 Ls []) : Con l Z EL y code ml rt rm as h os Q ou := by
  intro hE ws
  refine MetFree.of_bodySF hpn hisR ?_
  intro p e s m args below meth c s₁ Bd hml0 hP hK
  obtain ⟨rfl, hZ, hh, hC, hO⟩ := hP
  have X0 : Stand p l e rm s m args below meth c s₁ [] 0 0 := Stand.of_body Bd
  have e0 : s₁.heap = h := by rw [← hh, Bd.state]; rfl
  obtain ⟨u, o, h1, h2, h3, h4⟩ := H _ ⟨p, e, s, m, args, below, meth, c, rfl, Bd.exec, Bd.bytes, hml0, findClass_of_methodNamed Bd.named, Bd.returns, BodyLoose.notSynchronized Bd, hZ, (name_of_methodNamed Bd.named Bd.method).1, hw, hEL⟩ hE s.vm 0 s₁ [] ((State.WarmedH.refl s).since 0) (Nat.zero_le _) (by rw [hh]; exact CHr.refl hC) hO X0 e0 (Fr.nil _)
  exact ⟨u, o, castTop (hef m) h1, h2, h3, h4⟩
section Rules
variable {W : Wk} {l : Launch} {Z : State} {EL : List (String × Nat)} {a0 : Array Value} {tb : List Jvm.Cond} {own : String} {code : ByteArray} {ml : Nat} {rt : Option FieldType} {nm : String} {R : Room} {Q : Option Value → Heap → Prop} {ou : Option Value → List Addr} {h : Heap} {os : List Addr} {k n pc : Nat} {Ls : Array Slot} {st : List Value}
theorem Ows.sub {vm : Vm} {os' : List Addr} (O : Ows Z EL vm h os) (q : ∀ x ∈ os', x ∈ os) : Ows Z EL vm h os' := fun x hx => O x (q x hx)
theorem Ows.wr {vm : Vm} {h' : Heap} {a : Addr} {sl : Nat} {v : Value} (O : Ows Z EL vm h os) (Wr' : Wr h h' a sl v) (S : Safe Z EL vm h a) (H : CHv Z EL vm h) : Ows Z EL vm h' os := fun x hx => ⟨(O x hx).1, Safe.wr Wr' S H (O x hx).2.1, by rw [Wr'.size]; exact (O x hx).2.2⟩
theorem Ows.on {vm vm1 : Vm} {h' : Heap} (O : Ows Z EL vm h os) (C : CHr Z EL vm h vm1 h') : Ows Z EL vm1 h' os := fun x hx => ⟨(O x hx).1, C.safe (O x hx).2.2 (O x hx).2.1, Nat.lt_of_lt_of_le (O x hx).2.2 C.2.1⟩
theorem Ows.app {vm : Vm} {os' : List Addr} (O' : Ows Z EL vm h os') (O : Ows Z EL vm h os) : Ows Z EL vm h (os' ++ os) := fun x hx => (List.mem_append.mp hx).elim (O' x) (O x)
theorem Ows.made {vm : Vm} {h' : Heap} (O : Ows Z EL vm h os) (E : Ext h h') (H : CHv Z EL vm h) (hz : Z.heap.size ≤ h.size) (hl : h.size < h'.size) : Ows Z EL vm h' (h.size :: os) := fun x hx => by
  rcases List.mem_cons.mp hx with rfl | hx
  · exact ⟨hz, Safe.ext E H (Safe.new (Nat.le_refl _)), hl⟩
  · exact (O.on (CHr.ext E H)) x hx
/-- a call's payment: the callee's own contract -/
theorem paid {p : Program} {e : Env} {below : List Frame} {s : State} {args : Array Value} {vm0 : Vm} {y : MethodName} {yc : ByteArray} {ym : Nat} {yr : Option FieldType} {rm : Room} {len wd : Nat} {as : Array Value} {os' : List Addr} {yQ : Option Value → Heap → Prop} {you : Option Value → List Addr}
    (con : Con l Z EL y yc ym yr rm as h os' yQ you) (hE : Ext Z.heap h) (hZ : Z.Warmed39 vm0) (wc : (Jvm.Cond.code y yc ym yr).before a0 Z = true) (wz : (Jvm.Cond.initialized y.cls).before a0 Z = true) (hf : rm.frames + 1 ≤ R.frames) (hl : wd + (ym + 11) + rm.locals ≤ R.locals) (hEL : EW Z a0 EL) (H : CHv Z EL vm0 h) (O : Ows Z EL vm0 h os') :
    BackS l R p e below (s.setVm vm0) args y len wd (fun A a => a = as ∧ A.U.heap = h ∧ A.cells + rm.cells ≤ R.cells ∧ A.slots + rm.slots ≤ R.slots)
      (fun A _ v B => ∃ L, (yQ v B.U.heap ∧ Ext Z.heap B.U.heap ∧ Fr Z.heap.size L) ∧ B.locs = A.locs ++ L ∧ B.cells = A.cells + rm.cells ∧ B.slots = A.slots + rm.slots ∧ CHr Z EL vm0 h B.U.vm B.U.heap ∧ Ows Z EL B.U.vm B.U.heap (you v)) := by
  refine BackS.of_freeW (bytes := yc) (maxL := ym) (ret := yr) (E := fun _ u o t L k n => k = rm.cells ∧ n = rm.slots ∧ CHr Z EL u.vm u.heap t.vm t.heap ∧ ∃ v, o = .returned v ∧ (yQ v t.heap ∧ Ext Z.heap t.heap ∧ Fr Z.heap.size L) ∧ Ows Z EL t.vm t.heap (you v)) (con hE []) hf hl ?_ ?_ (fun _ _ _ _ _ _ _ _ _ => trivial) ?_ ?_
  · intro m meth c A a Y hp
    have hU : Z.Warmed39 A.U.vm := wtrans (s := s.setVm vm0) hZ Y.warmed
    exact ⟨by show (Jvm.Cond.and _ .tt).before a A.U = true; rw [Cond.before_and, mv hU wc]; rfl, mv hU wc, mv hU wz, hp.2.2.1, hp.2.2.2⟩
  · intro m meth c A a g mk Y hp
    have B := CHv.at Y hZ hEL H
    exact ⟨hp.1, wtrans (s := s.setVm vm0) hZ Y.warmed, hp.2.1, B.1, O.on B⟩
  · rintro a u o t ⟨v, L, q1, q2, q0, q3, q4⟩
    exact ⟨L, _, _, q4, rfl, rfl, q3, v, q1, q2, q0⟩
  · rintro m meth c A a g mk v t L k n Y hp - - ⟨e1, e2, e3, v', e4, e5, e6⟩
    cases e4; subst e1 e2
    have e3' : CHr Z EL A.U.vm h t.vm t.heap := by rw [← hp.2.1]; exact e3
    exact ⟨L, e5, rfl, rfl, rfl, (CHv.at Y hZ hEL H).trans e3', e6⟩
theorem Walk.word (C : Walk W l Z a0 tb EL own code ml rt nm R Q ou) {d : Jvm.Cond} (q : d ∈ tb) : d.before a0 Z = true := by
  obtain ⟨p, e, s, m, args, below, meth, c, rfl, ok⟩ := C
  exact ok.2.2.2.2.2.2.2.2.1 d q
theorem Walk.more (C : Walk W l Z a0 tb EL own code ml rt nm R Q ou) {k' n' : Nat} (hk : k ≤ k') (hn : n ≤ n') (K : W h os k' n' pc Ls st) : W h os k n pc Ls st := by
  obtain ⟨p, e, s, m, args, below, meth, c, rfl, ok⟩ := C
  exact fun hE vm0 k0 T locs hS hk0 H hos X eT N => K hE vm0 k0 T locs hS hk0 H hos (X.more hk hn) eT N
theorem Walk.less (C : Walk W l Z a0 tb EL own code ml rt nm R Q ou) (os' : List Addr) (q : ∀ x ∈ os', x ∈ os) (K : W h os' k n pc Ls st) : W h os k n pc Ls st := by
  obtain ⟨p, e, s, m, args, below, meth, c, rfl, ok⟩ := C
  exact fun hE vm0 k0 T locs hS hk0 H hos X eT N => K hE vm0 k0 T locs hS hk0 H (hos.sub q) X eT N
theorem Walk.kept (C : Walk W l Z a0 tb EL own code ml rt nm R Q ou) (K : Ext Z.heap h → W h os k n pc Ls st) : W h os k n pc Ls st := by
  obtain ⟨p, e, s, m, args, below, meth, c, rfl, ok⟩ := C
  exact fun hE => K hE hE
theorem Walk.plain (C : Walk W l Z a0 tb EL own code ml rt nm R Q ou) {pc' : Nat} {Ls' : Array Slot} {st' : List Value}
    (S : ∀ {tb' : Tables} [Ours tb'] {e : Env} {below : List Frame} {T target : State} {m : MethodId} {c : Code}, At T m c below → tb'.exec = Jvm.exec → c.code = code → Steps tb' e below (T.setTop (mkF m pc' Ls' st')) target → Steps tb' e below (T.setTop (mkF m pc Ls st)) target)
    (K : W h os k n pc' Ls' st') : W h os k n pc Ls st := by
  obtain ⟨p, e, s, m, args, below, meth, c, rfl, ok⟩ := C
  intro hE vm0 k0 T locs hS hk0 H hos X eT N
  obtain ⟨u, o, h1, h2⟩ := K hE vm0 k0 T locs hS hk0 H hos X eT N
  exact ⟨u, o, S X.here ok.1 ok.2.1 h1, h2⟩
theorem Walk.iloadN (C : Walk W l Z a0 tb EL own code ml rt nm R Q ou) (pc' : Nat) {i : Fin 4} {v : Int32} (hd : decode code pc = .ok (.iload_n i, 1)) (hp : pc' = pc + 1) (hl : Ls[i.val]? = some (.val (.int v))) (K : W h os k n pc' Ls (.int v :: st)) : W h os k n pc Ls st := by
  subst hp; exact C.plain (fun hA hx hb' hr => XS.iloadN hA hx rfl (hb hb' hd) hl hr) K
theorem Walk.iload (C : Walk W l Z a0 tb EL own code ml rt nm R Q ou) (pc' : Nat) {i : Nat} {v : Int32} (hd : decode code pc = .ok (.iload i, 2)) (hp : pc' = pc + 2) (hl : Ls[i]? = some (.val (.int v))) (K : W h os k n pc' Ls (.int v :: st)) : W h os k n pc Ls st := by
  subst hp; exact C.plain (fun hA hx hb' hr => XS.iload hA hx rfl (hb hb' hd) hl hr) K
theorem Walk.lloadN (C : Walk W l Z a0 tb EL own code ml rt nm R Q ou) (pc' : Nat) {i : Fin 4} {v : Int64} (hd : decode code pc = .ok (.lload_n i, 1)) (hp : pc' = pc + 1) (hl : Ls[i.val]? = some (.val (.long v))) (K : W h os k n pc' Ls (.long v :: st)) : W h os k n pc Ls st := by
  subst hp; exact C.plain (fun hA hx hb' hr => XT.lloadN hA hx rfl (hb hb' hd) hl hr) K
theorem Walk.lload (C : Walk W l Z a0 tb EL own code ml rt nm R Q ou) (pc' : Nat) {i : Nat} {v : Int64} (hd : decode code pc = .ok (.lload i, 2)) (hp : pc' = pc + 2) (hl : Ls[i]? = some (.val (.long v))) (K : W h os k n pc' Ls (.long v :: st)) : W h os k n pc Ls st := by
  subst hp; exact C.plain (fun hA hx hb' hr => XT.lload hA hx rfl (hb hb' hd) hl hr) K
theorem Walk.aloadN (C : Walk W l Z a0 tb EL own code ml rt nm R Q ou) (pc' : Nat) {i : Fin 4} {v : Value} (hd : decode code pc = .ok (.aload_n i, 1)) (hp : pc' = pc + 1) (hl : Ls[i.val]? = some (.val v)) (hv : v.isRef = true) (K : W h os k n pc' Ls (v :: st)) : W h os k n pc Ls st := by
  subst hp; exact C.plain (fun hA hx hb' hr => XS.aloadN hA hx rfl (hb hb' hd) hl hv hr) K
theorem Walk.aload (C : Walk W l Z a0 tb EL own code ml rt nm R Q ou) (pc' : Nat) {i : Nat} {v : Value} (hd : decode code pc = .ok (.aload i, 2)) (hp : pc' = pc + 2) (hl : Ls[i]? = some (.val v)) (hv : v.isRef = true) (K : W h os k n pc' Ls (v :: st)) : W h os k n pc Ls st := by
  subst hp; exact C.plain (fun hA hx hb' hr => XS.aload hA hx rfl (hb hb' hd) hl hv hr) K
theorem Walk.istoreN (C : Walk W l Z a0 tb EL own code ml rt nm R Q ou) (pc' : Nat) (Ls' : Array Slot) {i : Fin 4} {x : Int32} (hd : decode code pc = .ok (.istore_n i, 1)) (hp : pc' = pc + 1) (hl : storeLocals Ls i.val (.int x) = some Ls') (K : W h os k n pc' Ls' st) : W h os k n pc Ls (.int x :: st) := by
  subst hp; exact C.plain (fun hA hx hb' hr => XS.istoreN hA hx rfl (hb hb' hd) rfl hl hr) K
theorem Walk.istore (C : Walk W l Z a0 tb EL own code ml rt nm R Q ou) (pc' : Nat) (Ls' : Array Slot) {i : Nat} {x : Int32} (hd : decode code pc = .ok (.istore i, 2)) (hp : pc' = pc + 2) (hl : storeLocals Ls i (.int x) = some Ls') (K : W h os k n pc' Ls' st) : W h os k n pc Ls (.int x :: st) := by
  subst hp; exact C.plain (fun hA hx hb' hr => XS.istore hA hx rfl (hb hb' hd) rfl hl hr) K
theorem Walk.lstoreN (C : Walk W l Z a0 tb EL own code ml rt nm R Q ou) (pc' : Nat) (Ls' : Array Slot) {i : Fin 4} {x : Int64} (hd : decode code pc = .ok (.lstore_n i, 1)) (hp : pc' = pc + 1) (hl : storeLocals Ls i.val (.long x) = some Ls') (K : W h os k n pc' Ls' st) : W h os k n pc Ls (.long x :: st) := by
  subst hp; exact C.plain (fun hA hx hb' hr => XT.lstoreN hA hx rfl (hb hb' hd) rfl hl hr) K
theorem Walk.lstore (C : Walk W l Z a0 tb EL own code ml rt nm R Q ou) (pc' : Nat) (Ls' : Array Slot) {i : Nat} {x : Int64} (hd : decode code pc = .ok (.lstore i, 2)) (hp : pc' = pc + 2) (hl : storeLocals Ls i (.long x) = some Ls') (K : W h os k n pc' Ls' st) : W h os k n pc Ls (.long x :: st) := by
  subst hp; exact C.plain (fun hA hx hb' hr => XT.lstore hA hx rfl (hb hb' hd) rfl hl hr) K
theorem Walk.astoreN (C : Walk W l Z a0 tb EL own code ml rt nm R Q ou) (pc' : Nat) (Ls' : Array Slot) {i : Fin 4} {x : Value} (hd : decode code pc = .ok (.astore_n i, 1)) (hp : pc' = pc + 1) (hv : x.isRef = true) (hl : storeLocals Ls i.val x = some Ls') (K : W h os k n pc' Ls' st) : W h os k n pc Ls (x :: st) := by
  subst hp; exact C.plain (fun hA hx hb' hr => XS.astoreN hA hx rfl (hb hb' hd) rfl hv hl hr) K
theorem Walk.astore (C : Walk W l Z a0 tb EL own code ml rt nm R Q ou) (pc' : Nat) (Ls' : Array Slot) {i : Nat} {x : Value} (hd : decode code pc = .ok (.astore i, 2)) (hp : pc' = pc + 2) (hv : x.isRef = true) (hl : storeLocals Ls i x = some Ls') (K : W h os k n pc' Ls' st) : W h os k n pc Ls (x :: st) := by
  subst hp; exact C.plain (fun hA hx hb' hr => XS.astore hA hx rfl (hb hb' hd) rfl hv hl hr) K
theorem Walk.iconst (C : Walk W l Z a0 tb EL own code ml rt nm R Q ou) (pc' : Nat) (v : Int32) {i : Int} (hd : decode code pc = .ok (.iconst i, 1)) (hp : pc' = pc + 1) (hv : Int32.ofInt i = v) (K : W h os k n pc' Ls (.int v :: st)) : W h os k n pc Ls st := by
  subst hp hv; exact C.plain (fun hA hx hb' hr => XS.iconst hA hx rfl (hb hb' hd) hr) K
theorem Walk.bipush (C : Walk W l Z a0 tb EL own code ml rt nm R Q ou) (pc' : Nat) (v : Int32) {i : Int} (hd : decode code pc = .ok (.bipush i, 2)) (hp : pc' = pc + 2) (hv : (Int8.ofInt i).toInt32 = v) (K : W h os k n pc' Ls (.int v :: st)) : W h os k n pc Ls st := by
  subst hp hv; exact C.plain (fun hA hx hb' hr => XS.bipush hA hx rfl (hb hb' hd) hr) K
theorem Walk.sipush (C : Walk W l Z a0 tb EL own code ml rt nm R Q ou) (pc' : Nat) (v : Int32) {i : Int} (hd : decode code pc = .ok (.sipush i, 3)) (hp : pc' = pc + 3) (hv : (Int16.ofInt i).toInt32 = v) (K : W h os k n pc' Ls (.int v :: st)) : W h os k n pc Ls st := by
  subst hp hv; exact C.plain (fun hA hx hb' hr => XS.sipush hA hx rfl (hb hb' hd) hr) K
theorem Walk.lconst (C : Walk W l Z a0 tb EL own code ml rt nm R Q ou) (pc' : Nat) (v : Int64) {i : Fin 2} (hd : decode code pc = .ok (.lconst i, 1)) (hp : pc' = pc + 1) (hv : Int64.ofNat i = v) (K : W h os k n pc' Ls (.long v :: st)) : W h os k n pc Ls st := by
  subst hp hv; exact C.plain (fun hA hx hb' hr => XT.lconst hA hx rfl (hb hb' hd) hr) K
theorem Walk.aconstNull (C : Walk W l Z a0 tb EL own code ml rt nm R Q ou) (pc' : Nat) (hd : decode code pc = .ok (.aconst_null, 1)) (hp : pc' = pc + 1) (K : W h os k n pc' Ls (.null :: st)) : W h os k n pc Ls st := by
  subst hp; exact C.plain (fun hA hx hb' hr => XS.aconstNull hA hx rfl (hb hb' hd) hr) K
theorem Walk.iadd (C : Walk W l Z a0 tb EL own code ml rt nm R Q ou) (pc' : Nat) {x y : Int32} (hd : decode code pc = .ok (.iadd, 1)) (hp : pc' = pc + 1) (K : W h os k n pc' Ls (.int (x + y) :: st)) : W h os k n pc Ls (.int y :: .int x :: st) := by
  subst hp; exact C.plain (fun hA hx hb' hr => XS.iadd hA hx rfl (hb hb' hd) rfl hr) K
theorem Walk.isub (C : Walk W l Z a0 tb EL own code ml rt nm R Q ou) (pc' : Nat) {x y : Int32} (hd : decode code pc = .ok (.isub, 1)) (hp : pc' = pc + 1) (K : W h os k n pc' Ls (.int (x - y) :: st)) : W h os k n pc Ls (.int y :: .int x :: st) := by
  subst hp; exact C.plain (fun hA hx hb' hr => XS.isub hA hx rfl (hb hb' hd) rfl hr) K
theorem Walk.iand (C : Walk W l Z a0 tb EL own code ml rt nm R Q ou) (pc' : Nat) {x y : Int32} (hd : decode code pc = .ok (.iand, 1)) (hp : pc' = pc + 1) (K : W h os k n pc' Ls (.int (x &&& y) :: st)) : W h os k n pc Ls (.int y :: .int x :: st) := by
  subst hp; exact C.plain (fun hA hx hb' hr => XS.iand hA hx rfl (hb hb' hd) rfl hr) K
theorem Walk.imul (C : Walk W l Z a0 tb EL own code ml rt nm R Q ou) (pc' : Nat) {x y : Int32} (hd : decode code pc = .ok (.imul, 1)) (hp : pc' = pc + 1) (K : W h os k n pc' Ls (.int (x * y) :: st)) : W h os k n pc Ls (.int y :: .int x :: st) := by
  subst hp; exact C.plain (fun hA hx hb' hr => XS.imul hA hx rfl (hb hb' hd) rfl hr) K
theorem Walk.ixor (C : Walk W l Z a0 tb EL own code ml rt nm R Q ou) (pc' : Nat) {x y : Int32} (hd : decode code pc = .ok (.ixor, 1)) (hp : pc' = pc + 1) (K : W h os k n pc' Ls (.int (x ^^^ y) :: st)) : W h os k n pc Ls (.int y :: .int x :: st) := by
  subst hp; exact C.plain (fun hA hx hb' hr => XT.ixor hA hx rfl (hb hb' hd) rfl hr) K
theorem Walk.ior (C : Walk W l Z a0 tb EL own code ml rt nm R Q ou) (pc' : Nat) {x y : Int32} (hd : decode code pc = .ok (.ior, 1)) (hp : pc' = pc + 1) (K : W h os k n pc' Ls (.int (x ||| y) :: st)) : W h os k n pc Ls (.int y :: .int x :: st) := by
  subst hp; exact C.plain (fun hA hx hb' hr => XT.ior hA hx rfl (hb hb' hd) rfl hr) K
theorem Walk.ishl (C : Walk W l Z a0 tb EL own code ml rt nm R Q ou) (pc' : Nat) {x y : Int32} (hd : decode code pc = .ok (.ishl, 1)) (hp : pc' = pc + 1) (K : W h os k n pc' Ls (.int (x <<< (y &&& 31)) :: st)) : W h os k n pc Ls (.int y :: .int x :: st) := by
  subst hp; exact C.plain (fun hA hx hb' hr => XT.ishl hA hx rfl (hb hb' hd) rfl hr) K
theorem Walk.ishr (C : Walk W l Z a0 tb EL own code ml rt nm R Q ou) (pc' : Nat) {x y : Int32} (hd : decode code pc = .ok (.ishr, 1)) (hp : pc' = pc + 1) (K : W h os k n pc' Ls (.int (x >>> (y &&& 31)) :: st)) : W h os k n pc Ls (.int y :: .int x :: st) := by
  subst hp; exact C.plain (fun hA hx hb' hr => XT.ishr hA hx rfl (hb hb' hd) rfl hr) K
theorem Walk.iushr (C : Walk W l Z a0 tb EL own code ml rt nm R Q ou) (pc' : Nat) {x y : Int32} (hd : decode code pc = .ok (.iushr, 1)) (hp : pc' = pc + 1) (K : W h os k n pc' Ls (.int (XT.ushr x y) :: st)) : W h os k n pc Ls (.int y :: .int x :: st) := by
  subst hp; exact C.plain (fun hA hx hb' hr => XT.iushr hA hx rfl (hb hb' hd) rfl hr) K
theorem Walk.ladd (C : Walk W l Z a0 tb EL own code ml rt nm R Q ou) (pc' : Nat) {x y : Int64} (hd : decode code pc = .ok (.ladd, 1)) (hp : pc' = pc + 1) (K : W h os k n pc' Ls (.long (x + y) :: st)) : W h os k n pc Ls (.long y :: .long x :: st) := by
  subst hp; exact C.plain (fun hA hx hb' hr => XT.ladd hA hx rfl (hb hb' hd) rfl hr) K
theorem Walk.lsub (C : Walk W l Z a0 tb EL own code ml rt nm R Q ou) (pc' : Nat) {x y : Int64} (hd : decode code pc = .ok (.lsub, 1)) (hp : pc' = pc + 1) (K : W h os k n pc' Ls (.long (x - y) :: st)) : W h os k n pc Ls (.long y :: .long x :: st) := by
  subst hp; exact C.plain (fun hA hx hb' hr => XT.lsub hA hx rfl (hb hb' hd) rfl hr) K
theorem Walk.lmul (C : Walk W l Z a0 tb EL own code ml rt nm R Q ou) (pc' : Nat) {x y : Int64} (hd : decode code pc = .ok (.lmul, 1)) (hp : pc' = pc + 1) (K : W h os k n pc' Ls (.long (x * y) :: st)) : W h os k n pc Ls (.long y :: .long x :: st) := by
  subst hp; exact C.plain (fun hA hx hb' hr => XT.lmul hA hx rfl (hb hb' hd) rfl hr) K
theorem Walk.land (C : Walk W l Z a0 tb EL own code ml rt nm R Q ou) (pc' : Nat) {x y : Int64} (hd : decode code pc = .ok (.land, 1)) (hp : pc' = pc + 1) (K : W h os k n pc' Ls (.long (x &&& y) :: st)) : W h os k n pc Ls (.long y :: .long x :: st) := by
  subst hp; exact C.plain (fun hA hx hb' hr => XT.land hA hx rfl (hb hb' hd) rfl hr) K
theorem Walk.lor (C : Walk W l Z a0 tb EL own code ml rt nm R Q ou) (pc' : Nat) {x y : Int64} (hd : decode code pc = .ok (.lor, 1)) (hp : pc' = pc + 1) (K : W h os k n pc' Ls (.long (x ||| y) :: st)) : W h os k n pc Ls (.long y :: .long x :: st) := by
  subst hp; exact C.plain (fun hA hx hb' hr => XT.lor hA hx rfl (hb hb' hd) rfl hr) K
theorem Walk.lxor (C : Walk W l Z a0 tb EL own code ml rt nm R Q ou) (pc' : Nat) {x y : Int64} (hd : decode code pc = .ok (.lxor, 1)) (hp : pc' = pc + 1) (K : W h os k n pc' Ls (.long (x ^^^ y) :: st)) : W h os k n pc Ls (.long y :: .long x :: st) := by
  subst hp; exact C.plain (fun hA hx hb' hr => XT.lxor hA hx rfl (hb hb' hd) rfl hr) K
theorem Walk.lcmp (C : Walk W l Z a0 tb EL own code ml rt nm R Q ou) (pc' : Nat) {x y : Int64} (hd : decode code pc = .ok (.lcmp, 1)) (hp : pc' = pc + 1) (K : W h os k n pc' Ls (.int (XT.cmpL x y) :: st)) : W h os k n pc Ls (.long y :: .long x :: st) := by
  subst hp; exact C.plain (fun hA hx hb' hr => XT.lcmp hA hx rfl (hb hb' hd) rfl hr) K
theorem Walk.idiv (C : Walk W l Z a0 tb EL own code ml rt nm R Q ou) (pc' : Nat) {x y : Int32} (hd : decode code pc = .ok (.idiv, 1)) (hp : pc' = pc + 1) (hy : y ≠ 0) (K : W h os k n pc' Ls (.int (x / y) :: st)) : W h os k n pc Ls (.int y :: .int x :: st) := by
  subst hp; exact C.plain (fun hA hx hb' hr => XS.idiv hA hx rfl (hb hb' hd) rfl hy hr) K
theorem Walk.irem (C : Walk W l Z a0 tb EL own code ml rt nm R Q ou) (pc' : Nat) {x y : Int32} (hd : decode code pc = .ok (.irem, 1)) (hp : pc' = pc + 1) (hy : y ≠ 0) (K : W h os k n pc' Ls (.int (x % y) :: st)) : W h os k n pc Ls (.int y :: .int x :: st) := by
  subst hp; rw [← irem_eq_mod] at K; exact C.plain (fun hA hx hb' hr => XS.irem hA hx rfl (hb hb' hd) rfl hy hr) K
theorem Walk.i2l (C : Walk W l Z a0 tb EL own code ml rt nm R Q ou) (pc' : Nat) {x : Int32} (hd : decode code pc = .ok (.i2l, 1)) (hp : pc' = pc + 1) (K : W h os k n pc' Ls (.long x.toInt64 :: st)) : W h os k n pc Ls (.int x :: st) := by
  subst hp; exact C.plain (fun hA hx hb' hr => XT.i2l hA hx rfl (hb hb' hd) rfl hr) K
theorem Walk.l2i (C : Walk W l Z a0 tb EL own code ml rt nm R Q ou) (pc' : Nat) {x : Int64} (hd : decode code pc = .ok (.l2i, 1)) (hp : pc' = pc + 1) (K : W h os k n pc' Ls (.int x.toInt32 :: st)) : W h os k n pc Ls (.long x :: st) := by
  subst hp; exact C.plain (fun hA hx hb' hr => XT.l2i hA hx rfl (hb hb' hd) rfl hr) K
theorem Walk.i2b (C : Walk W l Z a0 tb EL own code ml rt nm R Q ou) (pc' : Nat) {x : Int32} (hd : decode code pc = .ok (.i2b, 1)) (hp : pc' = pc + 1) (K : W h os k n pc' Ls (.int x.toInt8.toInt32 :: st)) : W h os k n pc Ls (.int x :: st) := by
  subst hp; exact C.plain (fun hA hx hb' hr => XT.i2b hA hx rfl (hb hb' hd) rfl hr) K
theorem Walk.i2c (C : Walk W l Z a0 tb EL own code ml rt nm R Q ou) (pc' : Nat) {x : Int32} (hd : decode code pc = .ok (.i2c, 1)) (hp : pc' = pc + 1) (K : W h os k n pc' Ls (.int x.toUInt32.toUInt16.toUInt32.toInt32 :: st)) : W h os k n pc Ls (.int x :: st) := by
  subst hp; exact C.plain (fun hA hx hb' hr => XT.i2c hA hx rfl (hb hb' hd) rfl hr) K
theorem Walk.ineg (C : Walk W l Z a0 tb EL own code ml rt nm R Q ou) (pc' : Nat) {x : Int32} (hd : decode code pc = .ok (.ineg, 1)) (hp : pc' = pc + 1) (K : W h os k n pc' Ls (.int (-x) :: st)) : W h os k n pc Ls (.int x :: st) := by
  subst hp; exact C.plain (fun hA hx hb' hr => XS.ineg hA hx rfl (hb hb' hd) rfl hr) K
theorem Walk.dup (C : Walk W l Z a0 tb EL own code ml rt nm R Q ou) (pc' : Nat) {x : Value} (hd : decode code pc = .ok (.dup, 1)) (hp : pc' = pc + 1) (hc : x.category = 1) (K : W h os k n pc' Ls (x :: x :: st)) : W h os k n pc Ls (x :: st) := by
  subst hp; exact C.plain (fun hA hx hb' hr => XS.dup hA hx rfl (hb hb' hd) rfl hc hr) K
theorem Walk.dupX1 (C : Walk W l Z a0 tb EL own code ml rt nm R Q ou) (pc' : Nat) {x y : Value} (hd : decode code pc = .ok (.dup_x1, 1)) (hp : pc' = pc + 1) (hc : x.category = 1) (hc' : y.category = 1) (K : W h os k n pc' Ls (x :: y :: x :: st)) : W h os k n pc Ls (x :: y :: st) := by
  subst hp; exact C.plain (fun hA hx hb' hr => XT.dupX1 hA hx rfl (hb hb' hd) rfl hc hc' hr) K
theorem Walk.dup2 (C : Walk W l Z a0 tb EL own code ml rt nm R Q ou) (pc' : Nat) {x y : Value} (hd : decode code pc = .ok (.dup2, 1)) (hp : pc' = pc + 1) (hc : x.category = 1) (hc' : y.category = 1) (K : W h os k n pc' Ls (x :: y :: x :: y :: st)) : W h os k n pc Ls (x :: y :: st) := by
  subst hp; exact C.plain (fun hA hx hb' hr => XT.dup2 hA hx rfl (hb hb' hd) rfl hc hc' hr) K
theorem Walk.pop (C : Walk W l Z a0 tb EL own code ml rt nm R Q ou) (pc' : Nat) {x : Value} (hd : decode code pc = .ok (.pop, 1)) (hp : pc' = pc + 1) (hc : x.category = 1) (K : W h os k n pc' Ls st) : W h os k n pc Ls (x :: st) := by
  subst hp; exact C.plain (fun hA hx hb' hr => XT.pop hA hx rfl (hb hb' hd) rfl hc hr) K
theorem Walk.iinc (C : Walk W l Z a0 tb EL own code ml rt nm R Q ou) (pc' : Nat) (Ls' : Array Slot) {i : Nat} {cst : Int} {x : Int32} (hd : decode code pc = .ok (.iinc i cst, 3)) (hp : pc' = pc + 3) (hl : Ls[i]? = some (.val (.int x))) (hl' : storeLocals Ls i (.int (x + Int32.ofInt cst)) = some Ls') (K : W h os k n pc' Ls' st) : W h os k n pc Ls st := by
  subst hp; exact C.plain (fun hA hx hb' hr => XS.iinc hA hx rfl (hb hb' hd) hl hl' hr) K
theorem Walk.goto (C : Walk W l Z a0 tb EL own code ml rt nm R Q ou) (pc' : Nat) {o : Int} (hd : decode code pc = .ok (.goto o, 3)) (hp : (pc : Int) + o = (pc' : Int)) (K : W h os k n pc' Ls st) : W h os k n pc Ls st :=
  C.plain (fun hA hx hb' hr => XS.goto hA hx rfl (pc0 := pc) (pc' := pc') rfl (hb hb' hd) (by omega) (by omega) hr) K
theorem Walk.ifT (C : Walk W l Z a0 tb EL own code ml rt nm R Q ou) (pc' : Nat) {cd : ClassFile.Cond} {x : Int32} {o : Int} (hd : decode code pc = .ok (.ifCond cd o, 3)) (hp : (pc : Int) + o = (pc' : Int)) (hc : ifCond.holds cd x = true) (K : W h os k n pc' Ls st) : W h os k n pc Ls (.int x :: st) :=
  C.plain (fun hA hx hb' hr => XS.ifYes hA hx rfl (pc0 := pc) (pc' := pc') rfl (hb hb' hd) rfl hc (by omega) (by omega) hr) K
theorem Walk.ifF (C : Walk W l Z a0 tb EL own code ml rt nm R Q ou) (pc' : Nat) {cd : ClassFile.Cond} {x : Int32} {o : Int} (hd : decode code pc = .ok (.ifCond cd o, 3)) (hp : pc' = pc + 3) (hc : ifCond.holds cd x = false) (K : W h os k n pc' Ls st) : W h os k n pc Ls (.int x :: st) := by
  subst hp; exact C.plain (fun hA hx hb' hr => XS.ifNo hA hx rfl (hb hb' hd) rfl hc hr) K
theorem Walk.icmpT (C : Walk W l Z a0 tb EL own code ml rt nm R Q ou) (pc' : Nat) {cd : ClassFile.Cond} {x y : Int32} {o : Int} (hd : decode code pc = .ok (.if_icmp cd o, 3)) (hp : (pc : Int) + o = (pc' : Int)) (hc : if_icmp.holds cd x y = true) (K : W h os k n pc' Ls st) : W h os k n pc Ls (.int y :: .int x :: st) :=
  C.plain (fun hA hx hb' hr => XS.icmpYes hA hx rfl (pc0 := pc) (pc' := pc') rfl (hb hb' hd) rfl hc (by omega) (by omega) hr) K
theorem Walk.icmpF (C : Walk W l Z a0 tb EL own code ml rt nm R Q ou) (pc' : Nat) {cd : ClassFile.Cond} {x y : Int32} {o : Int} (hd : decode code pc = .ok (.if_icmp cd o, 3)) (hp : pc' = pc + 3) (hc : if_icmp.holds cd x y = false) (K : W h os k n pc' Ls st) : W h os k n pc Ls (.int y :: .int x :: st) := by
  subst hp; exact C.plain (fun hA hx hb' hr => XS.icmpNo hA hx rfl (hb hb' hd) rfl hc hr) K
theorem Walk.acmpT (C : Walk W l Z a0 tb EL own code ml rt nm R Q ou) (pc' : Nat) {cd : ClassFile.ACond} {x y : Value} {o : Int} (hd : decode code pc = .ok (.if_acmp cd o, 3)) (hp : (pc : Int) + o = (pc' : Int)) (h1 : x.isRef = true) (h2 : y.isRef = true) (hc : XT.acmp cd x y = true) (K : W h os k n pc' Ls st) : W h os k n pc Ls (y :: x :: st) :=
  C.plain (fun hA hx hb' hr => XT.acmpYes hA hx rfl (pc0 := pc) (pc' := pc') rfl (hb hb' hd) rfl h1 h2 hc (by omega) (by omega) hr) K
theorem Walk.acmpF (C : Walk W l Z a0 tb EL own code ml rt nm R Q ou) (pc' : Nat) {cd : ClassFile.ACond} {x y : Value} {o : Int} (hd : decode code pc = .ok (.if_acmp cd o, 3)) (hp : pc' = pc + 3) (h1 : x.isRef = true) (h2 : y.isRef = true) (hc : XT.acmp cd x y = false) (K : W h os k n pc' Ls st) : W h os k n pc Ls (y :: x :: st) := by
  subst hp; exact C.plain (fun hA hx hb' hr => XT.acmpNo hA hx rfl (hb hb' hd) rfl h1 h2 hc hr) K
theorem Walk.ifnullT (C : Walk W l Z a0 tb EL own code ml rt nm R Q ou) (pc' : Nat) {o : Int} (hd : decode code pc = .ok (.ifnull o, 3)) (hp : (pc : Int) + o = (pc' : Int)) (K : W h os k n pc' Ls st) : W h os k n pc Ls (.null :: st) :=
  C.plain (fun hA hx hb' hr => XS.ifnullYes hA hx rfl (pc0 := pc) (pc' := pc') rfl (hb hb' hd) rfl (by omega) (by omega) hr) K
theorem Walk.ifnullF (C : Walk W l Z a0 tb EL own code ml rt nm R Q ou) (pc' : Nat) {b : Addr} {o : Int} (hd : decode code pc = .ok (.ifnull o, 3)) (hp : pc' = pc + 3) (K : W h os k n pc' Ls st) : W h os k n pc Ls (.ref b :: st) := by
  subst hp; exact C.plain (fun hA hx hb' hr => XS.ifnullNo hA hx rfl (hb hb' hd) rfl hr) K
theorem Walk.ifnonnullT (C : Walk W l Z a0 tb EL own code ml rt nm R Q ou) (pc' : Nat) {b : Addr} {o : Int} (hd : decode code pc = .ok (.ifnonnull o, 3)) (hp : (pc : Int) + o = (pc' : Int)) (K : W h os k n pc' Ls st) : W h os k n pc Ls (.ref b :: st) :=
  C.plain (fun hA hx hb' hr => XT.ifnonnullYes hA hx rfl (pc0 := pc) (pc' := pc') rfl (hb hb' hd) rfl (by omega) (by omega) hr) K
theorem Walk.ifnonnullF (C : Walk W l Z a0 tb EL own code ml rt nm R Q ou) (pc' : Nat) {o : Int} (hd : decode code pc = .ok (.ifnonnull o, 3)) (hp : pc' = pc + 3) (K : W h os k n pc' Ls st) : W h os k n pc Ls (.null :: st) := by
  subst hp; exact C.plain (fun hA hx hb' hr => XT.ifnonnullNo hA hx rfl (hb hb' hd) rfl hr) K
theorem Walk.lshl (C : Walk W l Z a0 tb EL own code ml rt nm R Q ou) (pc' : Nat) {x : Int64} {y : Int32} (hd : decode code pc = .ok (.lshl, 1)) (hp : pc' = pc + 1) (K : W h os k n pc' Ls (.long (x <<< (y.toInt64 &&& 63)) :: st)) : W h os k n pc Ls (.int y :: .long x :: st) := by
  subst hp; exact C.plain (fun hA hx hb' hr => XT.lshl hA hx rfl (hb hb' hd) rfl hr) K
theorem Walk.lshr (C : Walk W l Z a0 tb EL own code ml rt nm R Q ou) (pc' : Nat) {x : Int64} {y : Int32} (hd : decode code pc = .ok (.lshr, 1)) (hp : pc' = pc + 1) (K : W h os k n pc' Ls (.long (x >>> (y.toInt64 &&& 63)) :: st)) : W h os k n pc Ls (.int y :: .long x :: st) := by
  subst hp; exact C.plain (fun hA hx hb' hr => XT.lshr hA hx rfl (hb hb' hd) rfl hr) K
theorem Walk.lushr (C : Walk W l Z a0 tb EL own code ml rt nm R Q ou) (pc' : Nat) {x : Int64} {y : Int32} (hd : decode code pc = .ok (.lushr, 1)) (hp : pc' = pc + 1) (K : W h os k n pc' Ls (.long (XT.ushrL x y) :: st)) : W h os k n pc Ls (.int y :: .long x :: st) := by
  subst hp; exact C.plain (fun hA hx hb' hr => XT.lushr hA hx rfl (hb hb' hd) rfl hr) K
/-! the returns -/
theorem Walk.ret (C : Walk W l Z a0 tb EL own code ml rt nm R Q ou) {v : Value} {t : FieldType} {i : Instr} (hd : decode code pc = .ok (i, 1)) (hrt : rt = some t) (hn : narrow t v = v)
    (hi : (i = .ireturn ∧ (t = .int ∨ t = .boolean ∨ t = .byte ∨ t = .char ∨ t = .short) ∧ ∃ z, v = .int z) ∨ (i = .lreturn ∧ t = .long ∧ ∃ z, v = .long z) ∨ (i = .dreturn ∧ t = .double ∧ ∃ z, v = .double z) ∨ (i = .freturn ∧ t = .float ∧ ∃ z, v = .float z) ∨ (i = .areturn ∧ t.isReference = true ∧ v.isRef = true))
    (hq : Q (some v) h) (hk : k ≤ R.cells) (hs : n ≤ R.slots) (ho : ∀ x ∈ ou (some v), x ∈ os) : W h os k n pc Ls (v :: st) := by
  obtain ⟨p, e, s, m, args, below, meth, c, rfl, hx, hby, hml, hown0, hrt', hlk, hZ0, hnm, hw, hEL⟩ := C
  intro hE vm0 k0 T locs hS hk0 H hos X eT N
  have hZ : Z.Warmed39 (s.setVm vm0).vm := State.Warmed39.trans hZ0 hS.1
  have hown : (s.setVm vm0).vm.findClass own = some m.cls := by show vm0.findClass own = _; rw [hS.1.alike.findClass]; exact hown0
  subst eT hrt
  obtain ⟨fs, hr, hrun, hended, hA, hB, hD, hsame⟩ := X.leaveW hS hk0 (v := some v) (fun h => by rw [hrt'] at h; cases h)
  have hCA : CHr Z EL vm0 T.heap T.vm T.heap := CHv.at X hZ hEL H.1
  exact ⟨_, _, retOut X hx hrt' hn hi (hb hby hd) hr, hrun, hended, _, _, rfl, ⟨hq, hE, N⟩, (hos.on hCA).sub ho, H.trans hCA, hA, hB, hD, hsame.mono hk hs⟩
theorem Walk.ret0 (C : Walk W l Z a0 tb EL own code ml rt nm R Q ou) (hd : decode code pc = .ok (.return_, 1)) (hrt : rt = none) (hk : k ≤ R.cells) (hs : n ≤ R.slots) (hq : Q none h) (ho : ∀ x ∈ ou none, x ∈ os) : W h os k n pc Ls [] := by
  obtain ⟨p, e, s, m, args, below, meth, c, rfl, hx, hby, hml, hown0, hrt', hlk, hZ0, hnm, hw, hEL⟩ := C
  intro hE vm0 k0 T locs hS hk0 H hos X eT N
  have hZ : Z.Warmed39 (s.setVm vm0).vm := State.Warmed39.trans hZ0 hS.1
  have hown : (s.setVm vm0).vm.findClass own = some m.cls := by show vm0.findClass own = _; rw [hS.1.alike.findClass]; exact hown0
  subst eT hrt
  obtain ⟨fs, hr, hrun, hended, hA, hB, hD, hsame⟩ := X.leaveW hS hk0 (v := none) (fun _ => rfl)
  have hCA : CHr Z EL vm0 T.heap T.vm T.heap := CHv.at X hZ hEL H.1
  exact ⟨_, _, X.returnOut hx hrt' (hb hby hd) hr, hrun, hended, _, _, rfl, ⟨hq, hE, N⟩, (hos.on hCA).sub ho, H.trans hCA, hA, hB, hD, hsame.mono hk hs⟩
theorem Walk.retI (C : Walk W l Z a0 tb EL own code ml rt nm R Q ou) {x : Int32} (t : FieldType) (hd : decode code pc = .ok (.ireturn, 1)) (hrt : rt = some t) (ht : t = .int ∨ t = .boolean ∨ t = .byte ∨ t = .char ∨ t = .short) (hn : nar t x = x)
    (hk : k ≤ R.cells) (hs : n ≤ R.slots) (hq : Q (some (.int x)) h) (ho : ∀ y ∈ ou (some (.int x)), y ∈ os) : W h os k n pc Ls (.int x :: st) :=
  C.ret hd hrt (by have e : narrow t (.int x) = .int (nar t x) := by rcases ht with rfl | rfl | rfl | rfl | rfl <;> rfl
                   rw [e, hn]) (Or.inl ⟨rfl, ht, _, rfl⟩) hq hk hs ho
theorem Walk.retA (C : Walk W l Z a0 tb EL own code ml rt nm R Q ou) {v : Value} (t : FieldType) (hd : decode code pc = .ok (.areturn, 1)) (hrt : rt = some t) (ht : t.isReference = true) (hv : v.isRef = true)
    (hk : k ≤ R.cells) (hs : n ≤ R.slots) (hq : Q (some v) h) (ho : ∀ y ∈ ou (some v), y ∈ os) : W h os k n pc Ls (v :: st) :=
  C.ret hd hrt (by cases t <;> first | (cases ht; done) | (cases v <;> first | (cases hv; done) | rfl)) (Or.inr (Or.inr (Or.inr (Or.inr ⟨rfl, ht, hv⟩)))) hq hk hs ho
/-! constants of the pool, static fields, fields -/
theorem Walk.ldc (C : Walk W l Z a0 tb EL own code ml rt nm R Q ou) (pc' : Nat) (v : Int32) {idx : Nat} (hd : decode code pc = .ok (.ldc idx, 2)) (hp : pc' = pc + 2) (w : Jvm.Cond.constant own idx v ∈ tb) (K : W h os k n pc' Ls (.int v :: st)) : W h os k n pc Ls st := by
  obtain ⟨p, e, s, m, args, below, meth, c, rfl, hx, hby, hml, hown0, hrt', hlk, hZ0, hnm, hw, hEL⟩ := C
  intro hE vm0 k0 T locs hS hk0 H hos X eT N
  have hZ : Z.Warmed39 (s.setVm vm0).vm := State.Warmed39.trans hZ0 hS.1
  have hown : (s.setVm vm0).vm.findClass own = some m.cls := by show vm0.findClass own = _; rw [hS.1.alike.findClass]; exact hown0
  subst hp
  obtain ⟨u, o, h1, h2⟩ := K hE vm0 k0 T locs hS hk0 H hos X eT N
  exact ⟨u, o, X.ldcI hx hown (mv hZ (hw _ w)) rfl (hb hby hd) h1, h2⟩
theorem Walk.ldcW (C : Walk W l Z a0 tb EL own code ml rt nm R Q ou) (pc' : Nat) (v : Int32) {idx : Nat} (hd : decode code pc = .ok (.ldc_w idx, 3)) (hp : pc' = pc + 3) (w : Jvm.Cond.constant own idx v ∈ tb) (K : W h os k n pc' Ls (.int v :: st)) : W h os k n pc Ls st := by
  obtain ⟨p, e, s, m, args, below, meth, c, rfl, hx, hby, hml, hown0, hrt', hlk, hZ0, hnm, hw, hEL⟩ := C
  intro hE vm0 k0 T locs hS hk0 H hos X eT N
  have hZ : Z.Warmed39 (s.setVm vm0).vm := State.Warmed39.trans hZ0 hS.1
  have hown : (s.setVm vm0).vm.findClass own = some m.cls := by show vm0.findClass own = _; rw [hS.1.alike.findClass]; exact hown0
  subst hp
  obtain ⟨u, o, h1, h2⟩ := K hE vm0 k0 T locs hS hk0 H hos X eT N
  exact ⟨u, o, X.ldcWI hx hown (mv hZ (hw _ w)) rfl (hb hby hd) h1, h2⟩
theorem Walk.ldc2 (C : Walk W l Z a0 tb EL own code ml rt nm R Q ou) (pc' : Nat) (v : Int64) {idx : Nat} (hd : decode code pc = .ok (.ldc2_w idx, 3)) (hp : pc' = pc + 3) (w : Jvm.Cond.constantLong own idx v ∈ tb) (K : W h os k n pc' Ls (.long v :: st)) : W h os k n pc Ls st := by
  obtain ⟨p, e, s, m, args, below, meth, c, rfl, hx, hby, hml, hown0, hrt', hlk, hZ0, hnm, hw, hEL⟩ := C
  intro hE vm0 k0 T locs hS hk0 H hos X eT N
  have hZ : Z.Warmed39 (s.setVm vm0).vm := State.Warmed39.trans hZ0 hS.1
  have hown : (s.setVm vm0).vm.findClass own = some m.cls := by show vm0.findClass own = _; rw [hS.1.alike.findClass]; exact hown0
  subst hp
  obtain ⟨u, o, h1, h2⟩ := K hE vm0 k0 T locs hS hk0 H hos X eT N
  exact ⟨u, o, X.ldc2J hx hown (mv hZ (hw _ w)) rfl (hb hby hd) h1, h2⟩
theorem Walk.getstatic (C : Walk W l Z a0 tb EL own code ml rt nm R Q ou) (pc' : Nat) {idx : Nat} {O f d : String} {v : Value} (hd : decode code pc = .ok (.getstatic idx, 3)) (hp : pc' = pc + 3) (w : Jvm.Cond.fieldLink own idx O f d ∈ tb) (F : Sta Z Z.heap O f d v) (K : W h os k n pc' Ls (v :: st)) : W h os k n pc Ls st := by
  obtain ⟨p, e, s, m, args, below, meth, c, rfl, hx, hby, hml, hown0, hrt', hlk, hZ0, hnm, hw, hEL⟩ := C
  intro hE vm0 k0 T locs hS hk0 H hos X eT N
  have hZ : Z.Warmed39 (s.setVm vm0).vm := State.Warmed39.trans hZ0 hS.1
  have hown : (s.setVm vm0).vm.findClass own = some m.cls := by show vm0.findClass own = _; rw [hS.1.alike.findClass]; exact hown0
  subst hp
  obtain ⟨T', X', e', S⟩ := getS X hx hZ hown (host := "") (hw _ w) Via.refl eT (F.ext hE) (g := mkF m pc Ls st) rfl (hb hby hd)
  obtain ⟨u, o, h1, h2⟩ := K hE vm0 k0 T' locs hS hk0 H hos X' e' N
  exact ⟨u, o, S _ h1, h2⟩
theorem Walk.getfield (C : Walk W l Z a0 tb EL own code ml rt nm R Q ou) (pc' : Nat) {idx : Nat} {R0 O f d : String} {a : Addr} {v : Value} (hd : decode code pc = .ok (.getfield idx, 3)) (hp : pc' = pc + 3) (w : Jvm.Cond.fieldLink own idx R0 f d ∈ tb) (via : Via Z R0 O f d) (F : Fld Z h a O f d v) (K : W h os k n pc' Ls (v :: st)) : W h os k n pc Ls (.ref a :: st) := by
  obtain ⟨p, e, s, m, args, below, meth, c, rfl, hx, hby, hml, hown0, hrt', hlk, hZ0, hnm, hw, hEL⟩ := C
  intro hE vm0 k0 T locs hS hk0 H hos X eT N
  have hZ : Z.Warmed39 (s.setVm vm0).vm := State.Warmed39.trans hZ0 hS.1
  have hown : (s.setVm vm0).vm.findClass own = some m.cls := by show vm0.findClass own = _; rw [hS.1.alike.findClass]; exact hown0
  subst hp
  obtain ⟨T', X', e', S⟩ := getF X hx hZ hown (host := "") (Or.inl (hw _ w)) via eT F (g := mkF m pc Ls (.ref a :: st)) rfl rfl (hb hby hd)
  obtain ⟨u, o, h1, h2⟩ := K hE vm0 k0 T' locs hS hk0 H hos X' e' N
  exact ⟨u, o, S _ h1, h2⟩
theorem Walk.getfieldOld (C : Walk W l Z a0 tb EL own code ml rt nm R Q ou) (pc' : Nat) {idx : Nat} {R0 O f d : String} {a : Addr} {v : Value} (hd : decode code pc = .ok (.getfield idx, 3)) (hp : pc' = pc + 3) (w : Jvm.Cond.fieldLink own idx R0 f d ∈ tb) (via : Via Z R0 O f d) (F : Fld Z Z.heap a O f d v) (K : W h os k n pc' Ls (v :: st)) : W h os k n pc Ls (.ref a :: st) :=
  C.kept fun hE => C.getfield pc' hd hp w via (F.ext hE) K
theorem Walk.putfield (C : Walk W l Z a0 tb EL own code ml rt nm R Q ou) (pc' : Nat) {idx kk : Nat} {R0 O f d D : String} {a : Addr} {v v' old : Value} (ty : FieldType) (hd : decode code pc = .ok (.putfield idx, 3)) (hp : pc' = pc + 3) (w : Jvm.Cond.fieldLink own idx R0 f d ∈ tb) (via : Via Z R0 O f d) (F : Fld Z h a O f d old) (E : Exa Z h a D)
    (L : Jvm.Cond.lays D O f d ∈ tb ∨ (Jvm.Cond.laysFinal D O f d ∈ tb ∧ own = O ∧ nm = "<init>")) (wi : Jvm.Cond.instantiable D kk ∈ tb) (hty : parseFieldDescriptor d = some ty) (hn : narrow ty v = v') (hf : fits ty v' = true) (ha : a ∈ os)
    (K : ∀ h', Wr h h' a (Jvm.RoadKit.slotOf Z O f d) v' → W h' os k n pc' Ls st) : W h os k n pc Ls (v :: .ref a :: st) := by
  obtain ⟨p, e, s, m, args, below, meth, c, rfl, hx, hby, hml, hown0, hrt', hlk, hZ0, hnm, hw, hEL⟩ := C
  intro hE vm0 k0 T locs hS hk0 H hos X eT N
  have hZ : Z.Warmed39 (s.setVm vm0).vm := State.Warmed39.trans hZ0 hS.1
  have hown : (s.setVm vm0).vm.findClass own = some m.cls := by show vm0.findClass own = _; rw [hS.1.alike.findClass]; exact hown0
  subst hp
  obtain ⟨T', h', X', e', Wr', S⟩ := putFN X hx hZ hown (hw _ w) via eT F E (L.imp (hw _) fun q => ⟨hw _ q.1, q.2.1, hnm.trans q.2.2⟩) (hw _ wi) hty hn hf (g := mkF m pc Ls (v :: .ref a :: st)) rfl rfl (hb hby hd)
  obtain ⟨u, o, h1, h2⟩ := K h' Wr' (Old.wr (n0 := Z.heap.size) ⟨rfl, hE⟩ Wr' (hos a ha).1).2 vm0 k0 T' _ hS (by rw [Wr'.size]; exact hk0) (H.trans (CHr.wr Wr' (hos a ha).2.1 H.1)) (hos.wr Wr' (hos a ha).2.1 H.1) X' e' (Fr.snoc X' N (hos a ha).1)
  exact ⟨u, o, S _ h1, h2⟩
/-! arrays: the places' values as a list -/
def Al (Z : State) (h : Heap) (a : Addr) (ty : FieldType) (vs : List Value) : Prop := ∃ c : Cell, Arr Z h a c ty ∧ c.slots.toList = vs
theorem Al.lt {a : Addr} {ty : FieldType} {vs : List Value} (A : Al Z h a ty vs) : a < h.size := by obtain ⟨c, A, -⟩ := A; exact A.lt
theorem Al.ext {h' : Heap} {a : Addr} {ty : FieldType} {vs : List Value} (A : Al Z h a ty vs) (E : Ext h h') : Al Z h' a ty vs := by obtain ⟨c, A, q⟩ := A; exact ⟨c, A.ext E, q⟩
theorem Al.keep {h' : Heap} {a : Addr} {ty : FieldType} {vs : List Value} {ws : List Addr} (A : Al Z h a ty vs) (K : Keep h h' ws) (q : a ∉ ws) : Al Z h' a ty vs := by obtain ⟨c, A, r⟩ := A; exact ⟨c, ⟨K.2.1 a c A.1 q, A.2⟩, r⟩
theorem Al.set {h' : Heap} {a : Addr} {ty : FieldType} {vs : List Value} {i : Nat} {v : Value} (A : Al Z h a ty vs) (Wr' : Wr h h' a i v) : Al Z h' a ty (vs.set i v) := by
  obtain ⟨c, A, rfl⟩ := A
  exact ⟨_, A.same Wr', by simp [Cell.setSlot]⟩
theorem list_at {c : Cell} {vs : List Value} (q : c.slots.toList = vs) (i : Nat) : c.slots[i]? = vs[i]? := by subst q; simp
theorem list_sz {c : Cell} {vs : List Value} (q : c.slots.toList = vs) : c.slots.size = vs.length := by subst q; simp
theorem Walk.newarray (C : Walk W l Z a0 tb EL own code ml rt nm R Q ou) (pc' : Nat) {aty : ArrayType} {z : Int32} (cap : Nat) (hd : decode code pc = .ok (.newarray aty, 2)) (hp : pc' = pc + 2) (w : Jvm.Cond.arrayClass (newarray.typeOf aty) ∈ tb) (hz : ¬ z < 0) (hcap : z.toNatClampNeg ≤ cap) (hb' : cap * 8 ≤ 536870912) (hc : k + 1 ≤ R.cells) (hl : n + cap ≤ R.slots)
    (K : ∀ h', Ext h h' → Al Z h' h.size (newarray.typeOf aty) (List.replicate z.toNatClampNeg (defaultValue (newarray.typeOf aty))) → W h' (h.size :: os) (k + 1) (n + cap) pc' Ls (.ref h.size :: st)) : W h os k n pc Ls (.int z :: st) := by
  obtain ⟨p, e, s, m, args, below, meth, c, rfl, hx, hby, hml, hown0, hrt', hlk, hZ0, hnm, hw, hEL⟩ := C
  intro hE vm0 k0 T locs hS hk0 H hos X eT N
  have hZ : Z.Warmed39 (s.setVm vm0).vm := State.Warmed39.trans hZ0 hS.1
  have hown : (s.setVm vm0).vm.findClass own = some m.cls := by show vm0.findClass own = _; rw [hS.1.alike.findClass]; exact hown0
  subst hp
  obtain ⟨T', h', cA, X', e', E', A', S⟩ := newP X hx hZ (hw _ w) eT (g := mkF m pc Ls (.int z :: st)) rfl (hb hby hd) rfl hz hcap hb' hc hl
  obtain ⟨u, o, h1, h2⟩ := K h' E' ⟨_, A', by simp [newA]⟩ (Old.ext (n0 := Z.heap.size) ⟨rfl, hE⟩ E').2 vm0 k0 T' _ hS (Nat.le_trans hk0 E'.1) (H.trans (CHr.ext E' H.1)) (hos.made E' H.1 hE.1 A'.lt) X' e' N
  exact ⟨u, o, S _ h1, h2⟩
theorem Walk.anewarray (C : Walk W l Z a0 tb EL own code ml rt nm R Q ou) (pc' : Nat) {idx : Nat} {D : String} {z : Int32} (cap : Nat) (hd : decode code pc = .ok (.anewarray idx, 3)) (hp : pc' = pc + 3) (w : Jvm.Cond.classLink own idx D ∈ tb) (w2 : Jvm.Cond.arrayOver (.object D) ∈ tb) (hz : ¬ z < 0) (hcap : z.toNatClampNeg ≤ cap) (hb' : cap * 8 ≤ 536870912) (hc : k + 1 ≤ R.cells) (hl : n + cap ≤ R.slots)
    (K : ∀ h' cA, Ext h h' → (∃ c : Cell, Arr Z h' h.size c (.object D) ∧ c.cls = cA ∧ c.slots.toList = List.replicate z.toNatClampNeg .null) → Ovr Z cA D → W h' (h.size :: os) (k + 1) (n + cap) pc' Ls (.ref h.size :: st)) : W h os k n pc Ls (.int z :: st) := by
  obtain ⟨p, e, s, m, args, below, meth, c, rfl, hx, hby, hml, hown0, hrt', hlk, hZ0, hnm, hw, hEL⟩ := C
  intro hE vm0 k0 T locs hS hk0 H hos X eT N
  have hZ : Z.Warmed39 (s.setVm vm0).vm := State.Warmed39.trans hZ0 hS.1
  have hown : (s.setVm vm0).vm.findClass own = some m.cls := by show vm0.findClass own = _; rw [hS.1.alike.findClass]; exact hown0
  subst hp
  obtain ⟨T', h', cA, X', e', E', A', O', S⟩ := newR X hx hZ hown (hw _ w) (hw _ w2) eT (g := mkF m pc Ls (.int z :: st)) rfl (hb hby hd) rfl hz hcap hb' hc hl
  obtain ⟨u, o, h1, h2⟩ := K h' cA E' ⟨_, A', rfl, by simp [newA, defaultValue]⟩ O' (Old.ext (n0 := Z.heap.size) ⟨rfl, hE⟩ E').2 vm0 k0 T' _ hS (Nat.le_trans hk0 E'.1) (H.trans (CHr.ext E' H.1)) (hos.made E' H.1 hE.1 A'.lt) X' e' N
  exact ⟨u, o, S _ h1, h2⟩
/-- an array over the class D: its class, its places -/
def Ro (Z : State) (h : Heap) (a : Addr) (D : String) (cA : ClassId) (vs : List Value) : Prop := ∃ c : Cell, Arr Z h a c (.object D) ∧ c.cls = cA ∧ c.slots.toList = vs
theorem Ro.lt {a : Addr} {D : String} {cA : ClassId} {vs : List Value} (A : Ro Z h a D cA vs) : a < h.size := by obtain ⟨c, A, -⟩ := A; exact A.lt
theorem Ro.ext {h' : Heap} {a : Addr} {D : String} {cA : ClassId} {vs : List Value} (A : Ro Z h a D cA vs) (E : Ext h h') : Ro Z h' a D cA vs := by obtain ⟨c, A, q⟩ := A; exact ⟨c, A.ext E, q⟩
theorem Ro.keep {h' : Heap} {a : Addr} {D : String} {cA : ClassId} {vs : List Value} {ws : List Addr} (A : Ro Z h a D cA vs) (K : Keep h h' ws) (q : a ∉ ws) : Ro Z h' a D cA vs := by obtain ⟨c, A, r⟩ := A; exact ⟨c, ⟨K.2.1 a c A.1 q, A.2⟩, r⟩
theorem Walk.aastore (C : Walk W l Z a0 tb EL own code ml rt nm R Q ou) (pc' : Nat) {a b : Addr} {D : String} {cA : ClassId} {vs : List Value} {j : Int32} (i : Nat) (hd : decode code pc = .ok (.aastore, 1)) (hp : pc' = pc + 1) (A : Ro Z h a D cA vs) (O : Ovr Z cA D) (I : Ins Z h b D true) (ha : a ∈ os) (hn : ¬ j < 0) (hi : j.toNatClampNeg = i) (hl : i < vs.length)
    (K : ∀ h', Wr h h' a i (.ref b) → Ro Z h' a D cA (vs.set i (.ref b)) → W h' os k n pc' Ls st) : W h os k n pc Ls (.ref b :: .int j :: .ref a :: st) := by
  obtain ⟨p, e, s, m, args, below, meth, c, rfl, hx, hby, hml, hown0, hrt', hlk, hZ0, hnm, hw, hEL⟩ := C
  intro hE vm0 k0 T locs hS hk0 H hos X eT N
  have hZ : Z.Warmed39 (s.setVm vm0).vm := State.Warmed39.trans hZ0 hS.1
  have hown : (s.setVm vm0).vm.findClass own = some m.cls := by show vm0.findClass own = _; rw [hS.1.alike.findClass]; exact hown0
  subst hp
  obtain ⟨cl, A1, A2, A3⟩ := A
  have hj : ¬ (j < 0 ∨ cl.slots.size ≤ j.toNatClampNeg) := by rw [list_sz A3, hi]; exact fun q => q.elim hn (fun q => absurd hl (Nat.not_lt.mpr q))
  obtain ⟨T', h', X', e', Wr', S⟩ := stR X hx hZ eT A1 hj rfl (Sto.ofV A1 A2 O I) (g := mkF m pc Ls (.ref b :: .int j :: .ref a :: st)) rfl rfl (hb hby hd)
  rw [hi] at Wr'
  have R' : Ro Z h' a D cA (vs.set i (.ref b)) := ⟨_, A1.same Wr', by simpa [Cell.setSlot] using A2, by subst A3; simp [Cell.setSlot]⟩
  obtain ⟨u, o, h1, h2⟩ := K h' Wr' R' (Old.wr (n0 := Z.heap.size) ⟨rfl, hE⟩ Wr' (hos a ha).1).2 vm0 k0 T' _ hS (by rw [Wr'.size]; exact hk0) (H.trans (CHr.wr Wr' (hos a ha).2.1 H.1)) (hos.wr Wr' (hos a ha).2.1 H.1) X' e' (Fr.snoc X' N (hos a ha).1)
  exact ⟨u, o, S _ h1, h2⟩
theorem Walk.castore (C : Walk W l Z a0 tb EL own code ml rt nm R Q ou) (pc' : Nat) {a : Addr} {vs : List Value} {j x : Int32} (i : Nat) (x' : Int32) (hd : decode code pc = .ok (.castore, 1)) (hp : pc' = pc + 1) (A : Al Z h a .char vs) (ha : a ∈ os) (hn : ¬ j < 0) (hi : j.toNatClampNeg = i) (hl : i < vs.length) (hx' : nar .char x = x')
    (K : ∀ h', Wr h h' a i (.int x') → Al Z h' a .char (vs.set i (.int x')) → W h' os k n pc' Ls st) : W h os k n pc Ls (.int x :: .int j :: .ref a :: st) := by
  obtain ⟨p, e, s, m, args, below, meth, c, rfl, hx, hby, hml, hown0, hrt', hlk, hZ0, hnm, hw, hEL⟩ := C
  intro hE vm0 k0 T locs hS hk0 H hos X eT N
  have hZ : Z.Warmed39 (s.setVm vm0).vm := State.Warmed39.trans hZ0 hS.1
  have hown : (s.setVm vm0).vm.findClass own = some m.cls := by show vm0.findClass own = _; rw [hS.1.alike.findClass]; exact hown0
  subst hp
  have A' := A
  obtain ⟨cl, A1, A3⟩ := A
  have hj : ¬ (j < 0 ∨ cl.slots.size ≤ j.toNatClampNeg) := by rw [list_sz A3, hi]; exact fun q => q.elim hn (fun q => absurd hl (Nat.not_lt.mpr q))
  obtain ⟨T', h', X', e', Wr', S⟩ := stC X hx hZ eT A1 hj (g := mkF m pc Ls (.int x :: .int j :: .ref a :: st)) rfl rfl (hb hby hd)
  rw [hi, hx'] at Wr'
  obtain ⟨u, o, h1, h2⟩ := K h' Wr' (A'.set Wr') (Old.wr (n0 := Z.heap.size) ⟨rfl, hE⟩ Wr' (hos a ha).1).2 vm0 k0 T' _ hS (by rw [Wr'.size]; exact hk0) (H.trans (CHr.wr Wr' (hos a ha).2.1 H.1)) (hos.wr Wr' (hos a ha).2.1 H.1) X' e' (Fr.snoc X' N (hos a ha).1)
  exact ⟨u, o, S _ h1, h2⟩
theorem Walk.bastoreB (C : Walk W l Z a0 tb EL own code ml rt nm R Q ou) (pc' : Nat) {a : Addr} {vs : List Value} {j x : Int32} (i : Nat) (x' : Int32) (hd : decode code pc = .ok (.bastore, 1)) (hp : pc' = pc + 1) (A : Al Z h a .byte vs) (ha : a ∈ os) (hn : ¬ j < 0) (hi : j.toNatClampNeg = i) (hl : i < vs.length) (hx' : nar .byte x = x')
    (K : ∀ h', Wr h h' a i (.int x') → Al Z h' a .byte (vs.set i (.int x')) → W h' os k n pc' Ls st) : W h os k n pc Ls (.int x :: .int j :: .ref a :: st) := by
  obtain ⟨p, e, s, m, args, below, meth, c, rfl, hx, hby, hml, hown0, hrt', hlk, hZ0, hnm, hw, hEL⟩ := C
  intro hE vm0 k0 T locs hS hk0 H hos X eT N
  have hZ : Z.Warmed39 (s.setVm vm0).vm := State.Warmed39.trans hZ0 hS.1
  have hown : (s.setVm vm0).vm.findClass own = some m.cls := by show vm0.findClass own = _; rw [hS.1.alike.findClass]; exact hown0
  subst hp
  have A' := A
  obtain ⟨cl, A1, A3⟩ := A
  have hj : ¬ (j < 0 ∨ cl.slots.size ≤ j.toNatClampNeg) := by rw [list_sz A3, hi]; exact fun q => q.elim hn (fun q => absurd hl (Nat.not_lt.mpr q))
  obtain ⟨T', h', X', e', Wr', S⟩ := stB X hx hZ eT A1 hj (g := mkF m pc Ls (.int x :: .int j :: .ref a :: st)) rfl rfl (hb hby hd)
  rw [hi, hx'] at Wr'
  obtain ⟨u, o, h1, h2⟩ := K h' Wr' (A'.set Wr') (Old.wr (n0 := Z.heap.size) ⟨rfl, hE⟩ Wr' (hos a ha).1).2 vm0 k0 T' _ hS (by rw [Wr'.size]; exact hk0) (H.trans (CHr.wr Wr' (hos a ha).2.1 H.1)) (hos.wr Wr' (hos a ha).2.1 H.1) X' e' (Fr.snoc X' N (hos a ha).1)
  exact ⟨u, o, S _ h1, h2⟩
theorem Walk.bastoreZ (C : Walk W l Z a0 tb EL own code ml rt nm R Q ou) (pc' : Nat) {a : Addr} {vs : List Value} {j x : Int32} (i : Nat) (x' : Int32) (hd : decode code pc = .ok (.bastore, 1)) (hp : pc' = pc + 1) (A : Al Z h a .boolean vs) (ha : a ∈ os) (hn : ¬ j < 0) (hi : j.toNatClampNeg = i) (hl : i < vs.length) (hx' : nar .boolean x = x')
    (K : ∀ h', Wr h h' a i (.int x') → Al Z h' a .boolean (vs.set i (.int x')) → W h' os k n pc' Ls st) : W h os k n pc Ls (.int x :: .int j :: .ref a :: st) := by
  obtain ⟨p, e, s, m, args, below, meth, c, rfl, hx, hby, hml, hown0, hrt', hlk, hZ0, hnm, hw, hEL⟩ := C
  intro hE vm0 k0 T locs hS hk0 H hos X eT N
  have hZ : Z.Warmed39 (s.setVm vm0).vm := State.Warmed39.trans hZ0 hS.1
  have hown : (s.setVm vm0).vm.findClass own = some m.cls := by show vm0.findClass own = _; rw [hS.1.alike.findClass]; exact hown0
  subst hp
  have A' := A
  obtain ⟨cl, A1, A3⟩ := A
  have hj : ¬ (j < 0 ∨ cl.slots.size ≤ j.toNatClampNeg) := by rw [list_sz A3, hi]; exact fun q => q.elim hn (fun q => absurd hl (Nat.not_lt.mpr q))
  obtain ⟨T', h', X', e', Wr', S⟩ := stZ X hx hZ eT A1 hj (g := mkF m pc Ls (.int x :: .int j :: .ref a :: st)) rfl rfl (hb hby hd)
  rw [hi, hx'] at Wr'
  obtain ⟨u, o, h1, h2⟩ := K h' Wr' (A'.set Wr') (Old.wr (n0 := Z.heap.size) ⟨rfl, hE⟩ Wr' (hos a ha).1).2 vm0 k0 T' _ hS (by rw [Wr'.size]; exact hk0) (H.trans (CHr.wr Wr' (hos a ha).2.1 H.1)) (hos.wr Wr' (hos a ha).2.1 H.1) X' e' (Fr.snoc X' N (hos a ha).1)
  exact ⟨u, o, S _ h1, h2⟩
theorem Walk.iastore (C : Walk W l Z a0 tb EL own code ml rt nm R Q ou) (pc' : Nat) {a : Addr} {vs : List Value} {j x : Int32} (i : Nat) (hd : decode code pc = .ok (.iastore, 1)) (hp : pc' = pc + 1) (A : Al Z h a .int vs) (ha : a ∈ os) (hn : ¬ j < 0) (hi : j.toNatClampNeg = i) (hl : i < vs.length)
    (K : ∀ h', Wr h h' a i (.int x) → Al Z h' a .int (vs.set i (.int x)) → W h' os k n pc' Ls st) : W h os k n pc Ls (.int x :: .int j :: .ref a :: st) := by
  obtain ⟨p, e, s, m, args, below, meth, c, rfl, hx, hby, hml, hown0, hrt', hlk, hZ0, hnm, hw, hEL⟩ := C
  intro hE vm0 k0 T locs hS hk0 H hos X eT N
  have hZ : Z.Warmed39 (s.setVm vm0).vm := State.Warmed39.trans hZ0 hS.1
  have hown : (s.setVm vm0).vm.findClass own = some m.cls := by show vm0.findClass own = _; rw [hS.1.alike.findClass]; exact hown0
  subst hp
  have A' := A
  obtain ⟨cl, A1, A3⟩ := A
  have hj : ¬ (j < 0 ∨ cl.slots.size ≤ j.toNatClampNeg) := by rw [list_sz A3, hi]; exact fun q => q.elim hn (fun q => absurd hl (Nat.not_lt.mpr q))
  obtain ⟨T', h', X', e', Wr', S⟩ := stI X hx hZ eT A1 hj (g := mkF m pc Ls (.int x :: .int j :: .ref a :: st)) rfl rfl (hb hby hd)
  rw [hi] at Wr'
  obtain ⟨u, o, h1, h2⟩ := K h' Wr' (A'.set Wr') (Old.wr (n0 := Z.heap.size) ⟨rfl, hE⟩ Wr' (hos a ha).1).2 vm0 k0 T' _ hS (by rw [Wr'.size]; exact hk0) (H.trans (CHr.wr Wr' (hos a ha).2.1 H.1)) (hos.wr Wr' (hos a ha).2.1 H.1) X' e' (Fr.snoc X' N (hos a ha).1)
  exact ⟨u, o, S _ h1, h2⟩
theorem Walk.iaload (C : Walk W l Z a0 tb EL own code ml rt nm R Q ou) (pc' : Nat) {a : Addr} {vs : List Value} {j : Int32} (i : Nat) (v : Value) (hd : decode code pc = .ok (.iaload, 1)) (hp : pc' = pc + 1) (A : Al Z h a .int vs) (hn : ¬ j < 0) (hi : j.toNatClampNeg = i) (hv : vs[i]? = some v)
    (K : W h os k n pc' Ls (v :: st)) : W h os k n pc Ls (.int j :: .ref a :: st) := by
  obtain ⟨p, e, s, m, args, below, meth, c, rfl, hx, hby, hml, hown0, hrt', hlk, hZ0, hnm, hw, hEL⟩ := C
  intro hE vm0 k0 T locs hS hk0 H hos X eT N
  have hZ : Z.Warmed39 (s.setVm vm0).vm := State.Warmed39.trans hZ0 hS.1
  have hown : (s.setVm vm0).vm.findClass own = some m.cls := by show vm0.findClass own = _; rw [hS.1.alike.findClass]; exact hown0
  subst hp
  obtain ⟨cl, A1, A3⟩ := A
  have hl : i < vs.length := (List.getElem?_eq_some_iff.mp hv).1
  have hj : ¬ (j < 0 ∨ cl.slots.size ≤ j.toNatClampNeg) := by rw [list_sz A3, hi]; exact fun q => q.elim hn (fun q => absurd hl (Nat.not_lt.mpr q))
  obtain ⟨u, o, h1, h2⟩ := K hE vm0 k0 T _ hS hk0 H hos X eT N
  exact ⟨u, o, X.iaload hx (by rw [eT]; exact A1.1) (State.isArrayOf_alike hZ.alike A1.2.1) A1.2.2 hj (by rw [hi, list_at A3]; exact hv) (g := mkF m pc Ls (.int j :: .ref a :: st)) rfl rfl (hb hby hd) _ h1, h2⟩
theorem Walk.caload (C : Walk W l Z a0 tb EL own code ml rt nm R Q ou) (pc' : Nat) {a : Addr} {vs : List Value} {j : Int32} (i : Nat) (v : Value) (hd : decode code pc = .ok (.caload, 1)) (hp : pc' = pc + 1) (A : Al Z h a .char vs) (hn : ¬ j < 0) (hi : j.toNatClampNeg = i) (hv : vs[i]? = some v)
    (K : W h os k n pc' Ls (v :: st)) : W h os k n pc Ls (.int j :: .ref a :: st) := by
  obtain ⟨p, e, s, m, args, below, meth, c, rfl, hx, hby, hml, hown0, hrt', hlk, hZ0, hnm, hw, hEL⟩ := C
  intro hE vm0 k0 T locs hS hk0 H hos X eT N
  have hZ : Z.Warmed39 (s.setVm vm0).vm := State.Warmed39.trans hZ0 hS.1
  have hown : (s.setVm vm0).vm.findClass own = some m.cls := by show vm0.findClass own = _; rw [hS.1.alike.findClass]; exact hown0
  subst hp
  obtain ⟨cl, A1, A3⟩ := A
  have hl : i < vs.length := (List.getElem?_eq_some_iff.mp hv).1
  have hj : ¬ (j < 0 ∨ cl.slots.size ≤ j.toNatClampNeg) := by rw [list_sz A3, hi]; exact fun q => q.elim hn (fun q => absurd hl (Nat.not_lt.mpr q))
  obtain ⟨u, o, h1, h2⟩ := K hE vm0 k0 T _ hS hk0 H hos X eT N
  exact ⟨u, o, X.caload hx (by rw [eT]; exact A1.1) (State.isArrayOf_alike hZ.alike A1.2.1) A1.2.2 hj (by rw [hi, list_at A3]; exact hv) (g := mkF m pc Ls (.int j :: .ref a :: st)) rfl rfl (hb hby hd) _ h1, h2⟩
theorem Walk.baloadB (C : Walk W l Z a0 tb EL own code ml rt nm R Q ou) (pc' : Nat) {a : Addr} {vs : List Value} {j : Int32} (i : Nat) (v : Value) (hd : decode code pc = .ok (.baload, 1)) (hp : pc' = pc + 1) (A : Al Z h a .byte vs) (hn : ¬ j < 0) (hi : j.toNatClampNeg = i) (hv : vs[i]? = some v)
    (K : W h os k n pc' Ls (v :: st)) : W h os k n pc Ls (.int j :: .ref a :: st) := by
  obtain ⟨p, e, s, m, args, below, meth, c, rfl, hx, hby, hml, hown0, hrt', hlk, hZ0, hnm, hw, hEL⟩ := C
  intro hE vm0 k0 T locs hS hk0 H hos X eT N
  have hZ : Z.Warmed39 (s.setVm vm0).vm := State.Warmed39.trans hZ0 hS.1
  have hown : (s.setVm vm0).vm.findClass own = some m.cls := by show vm0.findClass own = _; rw [hS.1.alike.findClass]; exact hown0
  subst hp
  obtain ⟨cl, A1, A3⟩ := A
  have hl : i < vs.length := (List.getElem?_eq_some_iff.mp hv).1
  have hj : ¬ (j < 0 ∨ cl.slots.size ≤ j.toNatClampNeg) := by rw [list_sz A3, hi]; exact fun q => q.elim hn (fun q => absurd hl (Nat.not_lt.mpr q))
  obtain ⟨u, o, h1, h2⟩ := K hE vm0 k0 T _ hS hk0 H hos X eT N
  exact ⟨u, o, X.baloadBytes hx (by rw [eT]; exact A1.1) (State.isArrayOf_alike hZ.alike A1.2.1) A1.2.2 hj (by rw [hi, list_at A3]; exact hv) (g := mkF m pc Ls (.int j :: .ref a :: st)) rfl rfl (hb hby hd) _ h1, h2⟩
theorem Walk.baloadZ (C : Walk W l Z a0 tb EL own code ml rt nm R Q ou) (pc' : Nat) {a : Addr} {vs : List Value} {j : Int32} (i : Nat) (v : Value) (hd : decode code pc = .ok (.baload, 1)) (hp : pc' = pc + 1) (A : Al Z h a .boolean vs) (hn : ¬ j < 0) (hi : j.toNatClampNeg = i) (hv : vs[i]? = some v)
    (K : W h os k n pc' Ls (v :: st)) : W h os k n pc Ls (.int j :: .ref a :: st) := by
  obtain ⟨p, e, s, m, args, below, meth, c, rfl, hx, hby, hml, hown0, hrt', hlk, hZ0, hnm, hw, hEL⟩ := C
  intro hE vm0 k0 T locs hS hk0 H hos X eT N
  have hZ : Z.Warmed39 (s.setVm vm0).vm := State.Warmed39.trans hZ0 hS.1
  have hown : (s.setVm vm0).vm.findClass own = some m.cls := by show vm0.findClass own = _; rw [hS.1.alike.findClass]; exact hown0
  subst hp
  obtain ⟨cl, A1, A3⟩ := A
  have hl : i < vs.length := (List.getElem?_eq_some_iff.mp hv).1
  have hj : ¬ (j < 0 ∨ cl.slots.size ≤ j.toNatClampNeg) := by rw [list_sz A3, hi]; exact fun q => q.elim hn (fun q => absurd hl (Nat.not_lt.mpr q))
  obtain ⟨u, o, h1, h2⟩ := K hE vm0 k0 T _ hS hk0 H hos X eT N
  exact ⟨u, o, X.baloadBooleans hx (by rw [eT]; exact A1.1) (State.isArrayOf_alike hZ.alike A1.2.1) A1.2.2 hj (by rw [hi, list_at A3]; exact hv) (g := mkF m pc Ls (.int j :: .ref a :: st)) rfl rfl (hb hby hd) _ h1, h2⟩
theorem Walk.aaload (C : Walk W l Z a0 tb EL own code ml rt nm R Q ou) (pc' : Nat) {a : Addr} {D : String} {cA : ClassId} {vs : List Value} {j : Int32} (i : Nat) (v : Value) (hd : decode code pc = .ok (.aaload, 1)) (hp : pc' = pc + 1) (A : Ro Z h a D cA vs) (hn : ¬ j < 0) (hi : j.toNatClampNeg = i) (hv : vs[i]? = some v)
    (K : W h os k n pc' Ls (v :: st)) : W h os k n pc Ls (.int j :: .ref a :: st) := by
  obtain ⟨p, e, s, m, args, below, meth, c, rfl, hx, hby, hml, hown0, hrt', hlk, hZ0, hnm, hw, hEL⟩ := C
  intro hE vm0 k0 T locs hS hk0 H hos X eT N
  have hZ : Z.Warmed39 (s.setVm vm0).vm := State.Warmed39.trans hZ0 hS.1
  have hown : (s.setVm vm0).vm.findClass own = some m.cls := by show vm0.findClass own = _; rw [hS.1.alike.findClass]; exact hown0
  subst hp
  obtain ⟨cl, A1, A2, A3⟩ := A
  have hl : i < vs.length := (List.getElem?_eq_some_iff.mp hv).1
  have hj : ¬ (j < 0 ∨ cl.slots.size ≤ j.toNatClampNeg) := by rw [list_sz A3, hi]; exact fun q => q.elim hn (fun q => absurd hl (Nat.not_lt.mpr q))
  obtain ⟨u, o, h1, h2⟩ := K hE vm0 k0 T _ hS hk0 H hos X eT N
  exact ⟨u, o, X.aaload hx (by rw [eT]; exact A1.1) (State.isArrayOf_alike hZ.alike A1.2.1) rfl A1.2.2 hj (by rw [hi, list_at A3]; exact hv) (g := mkF m pc Ls (.int j :: .ref a :: st)) rfl rfl (hb hby hd) _ h1, h2⟩
theorem Walk.arraylength (C : Walk W l Z a0 tb EL own code ml rt nm R Q ou) (pc' : Nat) {a : Addr} {ty : FieldType} {vs : List Value} (z : Int32) (hd : decode code pc = .ok (.arraylength, 1)) (hp : pc' = pc + 1) (A : Al Z h a ty vs) (hz : vs.length.toInt32 = z)
    (K : W h os k n pc' Ls (.int z :: st)) : W h os k n pc Ls (.ref a :: st) := by
  obtain ⟨p, e, s, m, args, below, meth, c, rfl, hx, hby, hml, hown0, hrt', hlk, hZ0, hnm, hw, hEL⟩ := C
  intro hE vm0 k0 T locs hS hk0 H hos X eT N
  have hZ : Z.Warmed39 (s.setVm vm0).vm := State.Warmed39.trans hZ0 hS.1
  have hown : (s.setVm vm0).vm.findClass own = some m.cls := by show vm0.findClass own = _; rw [hS.1.alike.findClass]; exact hown0
  subst hp
  obtain ⟨cl, A1, A3⟩ := A
  obtain ⟨u, o, h1, h2⟩ := K hE vm0 k0 T _ hS hk0 H hos X eT N
  rw [← hz, ← list_sz A3] at h1
  exact ⟨u, o, X.arraylength hx (by rw [eT]; exact A1.1) (State.isArrayOf_alike hZ.alike A1.2.1) (g := mkF m pc Ls (.ref a :: st)) rfl rfl (hb hby hd) _ h1, h2⟩
/-! objects, calls -/
theorem Walk.new (C : Walk W l Z a0 tb EL own code ml rt nm R Q ou) (pc' : Nat) {idx sz : Nat} {D : String} (hd : decode code pc = .ok (.new idx, 3)) (hp : pc' = pc + 3) (w : Jvm.Cond.classLink own idx D ∈ tb) (wi : Jvm.Cond.instantiable D sz ∈ tb) (wz : Jvm.Cond.initialized D ∈ tb) (hc : k + 1 ≤ R.cells) (hl : n + sz ≤ R.slots)
    (K : ∀ h', Ext h h' → Exa Z h' h.size D → (∀ {O f d : String} {ty : FieldType}, Laid Z a0 D O f d → parseFieldDescriptor d = some ty → Fld Z h' h.size O f d (defaultValue ty)) → W h' (h.size :: os) (k + 1) (n + sz) pc' Ls (.ref h.size :: st)) : W h os k n pc Ls st := by
  obtain ⟨p, e, s, m, args, below, meth, c, rfl, hx, hby, hml, hown0, hrt', hlk, hZ0, hnm, hw, hEL⟩ := C
  intro hE vm0 k0 T locs hS hk0 H hos X eT N
  have hZ : Z.Warmed39 (s.setVm vm0).vm := State.Warmed39.trans hZ0 hS.1
  have hown : (s.setVm vm0).vm.findClass own = some m.cls := by show vm0.findClass own = _; rw [hS.1.alike.findClass]; exact hown0
  subst hp
  obtain ⟨T', h', X', e', E', A', D', -, S⟩ := newO X hx hZ hown (hw _ w) (hw _ wi) (hw _ wz) eT (g := mkF m pc Ls st) rfl (hb hby hd) hc hl
  obtain ⟨u, o, h1, h2⟩ := K h' E' A' D' (Old.ext (n0 := Z.heap.size) ⟨rfl, hE⟩ E').2 vm0 k0 T' _ hS (Nat.le_trans hk0 E'.1) (H.trans (CHr.ext E' H.1)) (hos.made E' H.1 hE.1 A'.lt) X' e' N
  exact ⟨u, o, S _ h1, h2⟩
theorem Walk.initObj (C : Walk W l Z a0 tb EL own code ml rt nm R Q ou) (pc' : Nat) {idx : Nat} {a : Addr} (wd : Nat) (hd : decode code pc = .ok (.invokespecial idx, 3)) (hp : pc' = pc + 3) (w1 : Jvm.Cond.methodLink own idx Lib.objectInit ∈ tb) (w2 : Jvm.Cond.instanceMethod Lib.objectInit ∈ tb) (w3 : Jvm.Cond.code Lib.objectInit ⟨#[0xb1]⟩ 1 none ∈ tb) (hls : Ls.size = ml) (hf : 1 ≤ R.frames) (hwd : (st.map fun v => v.category).sum ≤ wd) (hl : wd + 12 ≤ R.locals)
    (K : W h os k n pc' Ls st) : W h os k n pc Ls (.ref a :: st) := by
  obtain ⟨p, e, s, m, args, below, meth, c, rfl, hx, hby, hml, hown0, hrt', hlk, hZ0, hnm, hw, hEL⟩ := C
  intro hE vm0 k0 T locs hS hk0 H hos X eT N
  have hZ : Z.Warmed39 (s.setVm vm0).vm := State.Warmed39.trans hZ0 hS.1
  have hown : (s.setVm vm0).vm.findClass own = some m.cls := by show vm0.findClass own = _; rw [hS.1.alike.findClass]; exact hown0
  subst hp
  obtain ⟨T', X', e', S⟩ := initO X hx hZ hown (hw _ w1) (hw _ w2) (hw _ w3) eT (g := mkF m pc Ls (.ref a :: st)) rfl (by show Ls.size = _; rw [hls, hml]) rfl (hb hby hd) hf (W := wd) (by show 2 * 0 + _ ≤ _; omega) hl
  obtain ⟨u, o, h1, h2⟩ := K hE vm0 k0 T' _ hS hk0 H hos X' e' N
  exact ⟨u, o, S _ h1, h2⟩
theorem Walk.checkcast (C : Walk W l Z a0 tb EL own code ml rt nm R Q ou) (pc' : Nat) {idx : Nat} {D : String} {a : Addr} (hd : decode code pc = .ok (.checkcast idx, 3)) (hp : pc' = pc + 3) (w : Jvm.Cond.classLink own idx D ∈ tb) (I : Ins Z h a D true) (K : W h os k n pc' Ls (.ref a :: st)) : W h os k n pc Ls (.ref a :: st) := by
  obtain ⟨p, e, s, m, args, below, meth, c, rfl, hx, hby, hml, hown0, hrt', hlk, hZ0, hnm, hw, hEL⟩ := C
  intro hE vm0 k0 T locs hS hk0 H hos X eT N
  have hZ : Z.Warmed39 (s.setVm vm0).vm := State.Warmed39.trans hZ0 hS.1
  have hown : (s.setVm vm0).vm.findClass own = some m.cls := by show vm0.findClass own = _; rw [hS.1.alike.findClass]; exact hown0
  subst hp
  obtain ⟨T', X', e', S⟩ := castY X hx hZ hown (hw _ w) eT I (g := mkF m pc Ls (.ref a :: st)) rfl rfl (hb hby hd)
  obtain ⟨u, o, h1, h2⟩ := K hE vm0 k0 T' _ hS hk0 H hos X' e' N
  exact ⟨u, o, S _ h1, h2⟩
theorem Walk.callS (C : Walk W l Z a0 tb EL own code ml rt nm R Q ou) (pc' : Nat) {idx : Nat} {y : MethodName} {yc : ByteArray} {ym : Nat} {yr : Option FieldType} {rm : Room} {as : List Value} {rest : List Value} {yQ : Option Value → Heap → Prop} {you : Option Value → List Addr} {os' : List Addr} {ps : List FieldType} {r : Option FieldType} (wd : Nat) (hd : decode code pc = .ok (.invokestatic idx, 3)) (hp : pc' = pc + 3) (w1 : Jvm.Cond.methodLink own idx y ∈ tb) (w2 : Jvm.Cond.static y ∈ tb) (w3 : Jvm.Cond.initialized y.cls ∈ tb) (w4 : Jvm.Cond.code y yc ym yr ∈ tb) (hy : y.cls ≠ "java/lang/invoke/MethodHandle" ∧ y.cls ≠ "java/lang/invoke/VarHandle") (con : Con l Z EL y yc ym yr rm as.toArray h os' yQ you) (hos' : ∀ x ∈ os', x ∈ os) (pd : parseMethodDescriptor y.desc = some ⟨ps, r⟩) (hlen : as.length = ps.length) (hls : Ls.size = ml) (hwd : (rest.map fun v => v.category).sum ≤ wd) (hf : rm.frames + 1 ≤ R.frames) (hl : wd + (ym + 11) + rm.locals ≤ R.locals) (hc : k + rm.cells ≤ R.cells) (hs : n + rm.slots ≤ R.slots) (hst : st = as.reverse ++ rest)
    (K : ∀ v h', yQ v h' → W h' (you v ++ os) (k + rm.cells) (n + rm.slots) pc' Ls (v.toList ++ rest)) : W h os k n pc Ls st := by
  obtain ⟨p, e, s, m, args, below, meth, c, rfl, hx, hby, hml, hown0, hrt', hlk, hZ0, hnm, hw, hEL⟩ := C
  intro hE vm0 k0 T locs hS hk0 H hos X eT N
  have hZ : Z.Warmed39 (s.setVm vm0).vm := State.Warmed39.trans hZ0 hS.1
  have hown : (s.setVm vm0).vm.findClass own = some m.cls := by show vm0.findClass own = _; rw [hS.1.alike.findClass]; exact hown0
  subst hp
  obtain ⟨v, vm₁, ⟨T', L', k', n'⟩, -, X', hS', hgr, P, S⟩ := callSS X hx (y := y) hown (mvT hZ (hw _ w1)) (mvT hZ (hw _ w2)) (mvT hZ (hw _ w3)) (mvT hZ (hw _ w4)) hy (paid (vm0 := vm0) (wd := wd) con hE hZ (hw _ w4) (hw _ w3) hf hl hEL H.1 (hos.sub hos')) (g := mkF m pc Ls st) rfl (by show Ls.size = _; rw [hls, hml]) (argsL := as) (rest := rest) (lenOf pd hlen) hst (by show 2 * 0 + _ ≤ _; omega) (hb hby hd) (fun _ _ => ⟨rfl, eT, hc, hs⟩)
  obtain ⟨Lc, ⟨hq, hE', hN⟩, l', y', z', hC, hO⟩ := P
  dsimp only [Pt.U, Pt.locs, Pt.cells, Pt.slots] at X' l' y' z' S hq hE' hS' hgr hC hO
  subst l' y' z'
  obtain ⟨u, o, h1, h2⟩ := K v T'.heap hq hE' T'.vm T'.heap.size T' _ (hS.trans hS' (Nat.le_trans hk0 (eT ▸ hgr))) (Nat.le_refl _) (H.trans hC) (hO.app (hos.on hC)) X' rfl (Fr.app N hN)
  exact ⟨u, o, S.trans h1, h2⟩
theorem Walk.callV (C : Walk W l Z a0 tb EL own code ml rt nm R Q ou) (pc' : Nat) {idx : Nat} {a : Addr} {D : String} {x : MethodName} {y : MethodName} {yc : ByteArray} {ym : Nat} {yr : Option FieldType} {rm : Room} {as : List Value} {rest : List Value} {yQ : Option Value → Heap → Prop} {you : Option Value → List Addr} {os' : List Addr} {ps : List FieldType} {r : Option FieldType} (wd : Nat) (hd : decode code pc = .ok (.invokevirtual idx, 3)) (hp : pc' = pc + 3) (w1 : Jvm.Cond.methodLink own idx x ∈ tb) (w2 : Jvm.Cond.declares x ∈ tb) (w5 : Jvm.Cond.selects D x y ∈ tb) (nf : ∀ args s, (∀ d ∈ tb, d.before a0 Z = true) → Z.Warmed39 s.vm → (Jvm.Cond.selects D x y).before args s = true → NotFace s x) (w6 : Jvm.Cond.instanceMethod y ∈ tb) (w3 : Jvm.Cond.initialized y.cls ∈ tb) (w4 : Jvm.Cond.code y yc ym yr ∈ tb) (hy : x.cls ≠ "java/lang/invoke/MethodHandle" ∧ x.cls ≠ "java/lang/invoke/VarHandle") (E : Exa Z h a D) (con : Con l Z EL y yc ym yr rm (.ref a :: as).toArray h os' yQ you) (hos' : ∀ x ∈ os', x ∈ os) (pd : parseMethodDescriptor x.desc = some ⟨ps, r⟩) (hlen : as.length = ps.length) (hls : Ls.size = ml) (hwd : (rest.map fun v => v.category).sum ≤ wd) (hf : rm.frames + 1 ≤ R.frames) (hl : wd + (ym + 11) + rm.locals ≤ R.locals) (hc : k + rm.cells ≤ R.cells) (hs : n + rm.slots ≤ R.slots) (hst : st = as.reverse ++ .ref a :: rest)
    (K : ∀ v h', yQ v h' → W h' (you v ++ os) (k + rm.cells) (n + rm.slots) pc' Ls (v.toList ++ rest)) : W h os k n pc Ls st := by
  obtain ⟨p, e, s, m, args, below, meth, c, rfl, hx, hby, hml, hown0, hrt', hlk, hZ0, hnm, hw, hEL⟩ := C
  intro hE vm0 k0 T locs hS hk0 H hos X eT N
  have hZ : Z.Warmed39 (s.setVm vm0).vm := State.Warmed39.trans hZ0 hS.1
  have hown : (s.setVm vm0).vm.findClass own = some m.cls := by show vm0.findClass own = _; rw [hS.1.alike.findClass]; exact hown0
  subst hp
  obtain ⟨cq, kq, q1, q2, q3⟩ := isOf (T := T) hZ eT E
  obtain ⟨v, vm₁, ⟨T', L', k', n'⟩, -, X', hS', hgr, P, S⟩ := X.virtualBackS hx (y := x) (z := y) hown (mvT hZ (hw _ w1)) (mvT hZ (hw _ w2)) (nf args (s.setVm vm0) hw hZ (mvT hZ (hw _ w5))) (mvT hZ (hw _ w5)) (mvT hZ (hw _ w6)) hy (paid (vm0 := vm0) (wd := wd) con hE hZ (hw _ w4) (hw _ w3) hf hl hEL H.1 (hos.sub hos')) q1 q3 (g := mkF m pc Ls st) rfl (by show Ls.size = _; rw [hls, hml]) (Steps.refl _) (argsL := as) (rest := rest) (lenOf pd hlen) hst (by show 2 * 0 + _ ≤ _; omega) (hb hby hd) (fun _ _ => ⟨rfl, eT, hc, hs⟩)
  obtain ⟨Lc, ⟨hq, hE', hN⟩, l', y', z', hC, hO⟩ := P
  dsimp only [Pt.U, Pt.locs, Pt.cells, Pt.slots] at X' l' y' z' S hq hE' hS' hgr hC hO
  subst l' y' z'
  obtain ⟨u, o, h1, h2⟩ := K v T'.heap hq hE' T'.vm T'.heap.size T' _ (hS.trans hS' (Nat.le_trans hk0 (eT ▸ hgr))) (Nat.le_refl _) (H.trans hC) (hO.app (hos.on hC)) X' rfl (Fr.app N hN)
  exact ⟨u, o, S.trans h1, h2⟩
theorem nfSelf {x : MethodName} {D : String} : ∀ args s, (∀ d ∈ tb, d.before a0 Z = true) → Z.Warmed39 s.vm → (Jvm.Cond.selects D x x).before args s = true → NotFace s x := fun _ _ _ _ q => notFace_of_selects q
theorem Walk.callI (C : Walk W l Z a0 tb EL own code ml rt nm R Q ou) (pc' : Nat) {idx : Nat} {a : Addr} {y : MethodName} {yc : ByteArray} {ym : Nat} {yr : Option FieldType} {rm : Room} {as : List Value} {rest : List Value} {yQ : Option Value → Heap → Prop} {you : Option Value → List Addr} {os' : List Addr} {ps : List FieldType} {r : Option FieldType} (wd : Nat) (hd : decode code pc = .ok (.invokespecial idx, 3)) (hp : pc' = pc + 3) (hy1 : y.name = "<init>") (hyr : yr = none) (w1 : Jvm.Cond.methodLink own idx y ∈ tb) (w6 : Jvm.Cond.instanceMethod y ∈ tb) (w3 : Jvm.Cond.initialized y.cls ∈ tb) (w4 : Jvm.Cond.code y yc ym yr ∈ tb) (hy : y.cls ≠ "java/lang/invoke/MethodHandle" ∧ y.cls ≠ "java/lang/invoke/VarHandle") (con : Con l Z EL y yc ym yr rm (.ref a :: as).toArray h os' yQ you) (hos' : ∀ x ∈ os', x ∈ os) (pd : parseMethodDescriptor y.desc = some ⟨ps, r⟩) (hlen : as.length = ps.length) (hls : Ls.size = ml) (hwd : (rest.map fun v => v.category).sum ≤ wd) (hf : rm.frames + 1 ≤ R.frames) (hl : wd + (ym + 11) + rm.locals ≤ R.locals) (hc : k + rm.cells ≤ R.cells) (hs : n + rm.slots ≤ R.slots) (hst : st = as.reverse ++ .ref a :: rest)
    (K : ∀ v h', yQ v h' → W h' (you v ++ os) (k + rm.cells) (n + rm.slots) pc' Ls (v.toList ++ rest)) : W h os k n pc Ls st := by
  obtain ⟨p, e, s, m, args, below, meth, c, rfl, hx, hby, hml, hown0, hrt', hlk, hZ0, hnm, hw, hEL⟩ := C
  intro hE vm0 k0 T locs hS hk0 H hos X eT N
  have hZ : Z.Warmed39 (s.setVm vm0).vm := State.Warmed39.trans hZ0 hS.1
  have hown : (s.setVm vm0).vm.findClass own = some m.cls := by show vm0.findClass own = _; rw [hS.1.alike.findClass]; exact hown0
  subst hp
  subst hyr
  obtain ⟨v, vm₁, ⟨T', L', k', n'⟩, -, X', hS', hgr, P, S⟩ := X.specialBackS hx (y := y) hy1 hown (mvT hZ (hw _ w1)) (mvT hZ (hw _ w6)) (mvT hZ (hw _ w4)) hy (paid (vm0 := vm0) (wd := wd) con hE hZ (hw _ w4) (hw _ w3) hf hl hEL H.1 (hos.sub hos')) (g := mkF m pc Ls st) rfl (by show Ls.size = _; rw [hls, hml]) (Steps.refl _) (a := a) (argsL := as) (rest := rest) (lenOf pd hlen) hst (by show 2 * 0 + _ ≤ _; omega) (hb hby hd) (fun _ _ => ⟨rfl, eT, hc, hs⟩)
  obtain ⟨Lc, ⟨hq, hE', hN⟩, l', y', z', hC, hO⟩ := P
  dsimp only [Pt.U, Pt.locs, Pt.cells, Pt.slots] at X' l' y' z' S hq hE' hS' hgr hC hO
  subst l' y' z'
  obtain ⟨u, o, h1, h2⟩ := K v T'.heap hq hE' T'.vm T'.heap.size T' _ (hS.trans hS' (Nat.le_trans hk0 (eT ▸ hgr))) (Nat.le_refl _) (H.trans hC) (hO.app (hos.on hC)) X' rfl (Fr.app N hN)
  exact ⟨u, o, S.trans h1, h2⟩
theorem Walk.callP (C : Walk W l Z a0 tb EL own code ml rt nm R Q ou) (pc' : Nat) {idx : Nat} {a : Addr} {D : String} {y : MethodName} {yc : ByteArray} {ym : Nat} {yr : Option FieldType} {rm : Room} {as : List Value} {rest : List Value} {yQ : Option Value → Heap → Prop} {you : Option Value → List Addr} {os' : List Addr} {ps : List FieldType} {r : Option FieldType} (wd : Nat) (hd : decode code pc = .ok (.invokevirtual idx, 3)) (hp : pc' = pc + 3) (w1 : Jvm.Cond.methodLink own idx y ∈ tb) (w5 : Jvm.Cond.selects y.cls y y ∈ tb) (w7 : Jvm.Cond.privateMethod y ∈ tb) (w6 : Jvm.Cond.instanceMethod y ∈ tb) (w3 : Jvm.Cond.initialized y.cls ∈ tb) (w4 : Jvm.Cond.code y yc ym yr ∈ tb) (hy : y.cls ≠ "java/lang/invoke/MethodHandle" ∧ y.cls ≠ "java/lang/invoke/VarHandle") (E : Exa Z h a D) (con : Con l Z EL y yc ym yr rm (.ref a :: as).toArray h os' yQ you) (hos' : ∀ x ∈ os', x ∈ os) (pd : parseMethodDescriptor y.desc = some ⟨ps, r⟩) (hlen : as.length = ps.length) (hls : Ls.size = ml) (hwd : (rest.map fun v => v.category).sum ≤ wd) (hf : rm.frames + 1 ≤ R.frames) (hl : wd + (ym + 11) + rm.locals ≤ R.locals) (hc : k + rm.cells ≤ R.cells) (hs : n + rm.slots ≤ R.slots) (hst : st = as.reverse ++ .ref a :: rest)
    (K : ∀ v h', yQ v h' → W h' (you v ++ os) (k + rm.cells) (n + rm.slots) pc' Ls (v.toList ++ rest)) : W h os k n pc Ls st := by
  obtain ⟨p, e, s, m, args, below, meth, c, rfl, hx, hby, hml, hown0, hrt', hlk, hZ0, hnm, hw, hEL⟩ := C
  intro hE vm0 k0 T locs hS hk0 H hos X eT N
  have hZ : Z.Warmed39 (s.setVm vm0).vm := State.Warmed39.trans hZ0 hS.1
  have hown : (s.setVm vm0).vm.findClass own = some m.cls := by show vm0.findClass own = _; rw [hS.1.alike.findClass]; exact hown0
  subst hp
  obtain ⟨cell, hcl, hob⟩ := E.cell
  obtain ⟨v, vm₁, ⟨T', L', k', n'⟩, -, X', hS', hgr, P, S⟩ := X.privateBackS hx (y := y) hown (mvT hZ (hw _ w1)) (mvT hZ (hw _ w6)) (mvT hZ (hw _ w5)) (Cond.privateMethod_at (mvP (s := s.setVm vm0) (args := args) hZ (hw _ w7))) (mvT hZ (hw _ w4)) hy (paid (vm0 := vm0) (wd := wd) con hE hZ (hw _ w4) (hw _ w3) hf hl hEL H.1 (hos.sub hos')) (g := mkF m pc Ls st) rfl (by show Ls.size = _; rw [hls, hml]) (Steps.refl _) (a := a) (by rw [eT]; exact hcl) hob (argsL := as) (rest := rest) (lenOf pd hlen) hst (by show 2 * 0 + _ ≤ _; omega) (hb hby hd) (fun _ _ => ⟨rfl, eT, hc, hs⟩)
  obtain ⟨Lc, ⟨hq, hE', hN⟩, l', y', z', hC, hO⟩ := P
  dsimp only [Pt.U, Pt.locs, Pt.cells, Pt.slots] at X' l' y' z' S hq hE' hS' hgr hC hO
  subst l' y' z'
  obtain ⟨u, o, h1, h2⟩ := K v T'.heap hq hE' T'.vm T'.heap.size T' _ (hS.trans hS' (Nat.le_trans hk0 (eT ▸ hgr))) (Nat.le_refl _) (H.trans hC) (hO.app (hos.on hC)) X' rfl (Fr.app N hN)
  exact ⟨u, o, S.trans h1, h2⟩
theorem Walk.callF (C : Walk W l Z a0 tb EL own code ml rt nm R Q ou) (pc' : Nat) {idx cnt : Nat} {a : Addr} {D : String} {x : MethodName} {y : MethodName} {yc : ByteArray} {ym : Nat} {yr : Option FieldType} {rm : Room} {as : List Value} {rest : List Value} {yQ : Option Value → Heap → Prop} {you : Option Value → List Addr} {os' : List Addr} {ps : List FieldType} {r : Option FieldType} (wd : Nat) (hd : decode code pc = .ok (.invokeinterface idx cnt, 5)) (hp : pc' = pc + 5) (w1 : Jvm.Cond.methodLink own idx x ∈ tb) (w2 : Jvm.Cond.declares x ∈ tb) (w7 : Jvm.Cond.interfaceMethod x.cls x.cls x.name x.desc ∈ tb) (w5 : Jvm.Cond.selects D x y ∈ tb) (w6 : Jvm.Cond.instanceMethod y ∈ tb) (w8 : Jvm.Cond.publicMethod y ∈ tb) (w9 : Jvm.Cond.unhidden D x.name x.desc ∈ tb) (w10 : Jvm.Cond.castable D x.cls ∈ tb) (hI : ((Jvm.Cond.interfaceMethod x.cls x.cls x.name x.desc).onTables && (Jvm.Cond.interfaceMethod x.cls x.cls x.name x.desc).keepsFace) = true) (w3 : Jvm.Cond.initialized y.cls ∈ tb) (w4 : Jvm.Cond.code y yc ym yr ∈ tb) (hy : x.cls ≠ "java/lang/invoke/MethodHandle" ∧ x.cls ≠ "java/lang/invoke/VarHandle") (E : Exa Z h a D) (con : Con l Z EL y yc ym yr rm (.ref a :: as).toArray h os' yQ you) (hos' : ∀ x ∈ os', x ∈ os) (pd : parseMethodDescriptor x.desc = some ⟨ps, r⟩) (hlen : as.length = ps.length) (hls : Ls.size = ml) (hwd : (rest.map fun v => v.category).sum ≤ wd) (hf : rm.frames + 1 ≤ R.frames) (hl : wd + (ym + 11) + rm.locals ≤ R.locals) (hc : k + rm.cells ≤ R.cells) (hs : n + rm.slots ≤ R.slots) (hst : st = as.reverse ++ .ref a :: rest)
    (K : ∀ v h', yQ v h' → W h' (you v ++ os) (k + rm.cells) (n + rm.slots) pc' Ls (v.toList ++ rest)) : W h os k n pc Ls st := by
  obtain ⟨p, e, s, m, args, below, meth, c, rfl, hx, hby, hml, hown0, hrt', hlk, hZ0, hnm, hw, hEL⟩ := C
  intro hE vm0 k0 T locs hS hk0 H hos X eT N
  have hZ : Z.Warmed39 (s.setVm vm0).vm := State.Warmed39.trans hZ0 hS.1
  have hown : (s.setVm vm0).vm.findClass own = some m.cls := by show vm0.findClass own = _; rw [hS.1.alike.findClass]; exact hown0
  subst hp
  obtain ⟨cq, kq, q1, q2, q3⟩ := isOf (T := T) hZ eT E
  obtain ⟨v, vm₁, ⟨T', L', k', n'⟩, -, X', hS', hgr, P, S⟩ := X.interfaceBackS hx (xi := x) (y := y) hown (mvT hZ (hw _ w1)) (mvT hZ (hw _ w2)) (mvT hZ (hw _ w7) hI) (mvT hZ (hw _ w5)) (mvT hZ (hw _ w6)) (mvT hZ (hw _ w8)) (mvT hZ (hw _ w9)) (mvT hZ (hw _ w10)) hy (paid (vm0 := vm0) (wd := wd) con hE hZ (hw _ w4) (hw _ w3) hf hl hEL H.1 (hos.sub hos')) q1 q2 q3 (g := mkF m pc Ls st) rfl (by show Ls.size = _; rw [hls, hml]) (Steps.refl _) (argsL := as) (rest := rest) (lenOf pd hlen) hst (by show 2 * 0 + _ ≤ _; omega) (hb hby hd) (fun _ _ => ⟨rfl, eT, hc, hs⟩)
  obtain ⟨Lc, ⟨hq, hE', hN⟩, l', y', z', hC, hO⟩ := P
  dsimp only [Pt.U, Pt.locs, Pt.cells, Pt.slots] at X' l' y' z' S hq hE' hS' hgr hC hO
  subst l' y' z'
  obtain ⟨u, o, h1, h2⟩ := K v T'.heap hq hE' T'.vm T'.heap.size T' _ (hS.trans hS' (Nat.le_trans hk0 (eT ▸ hgr))) (Nat.le_refl _) (H.trans hC) (hO.app (hos.on hC)) X' rfl (Fr.app N hN)
  exact ⟨u, o, S.trans h1, h2⟩
theorem Walk.instanceofT (C : Walk W l Z a0 tb EL own code ml rt nm R Q ou) (pc' : Nat) {idx : Nat} {D : String} {a : Addr} (hd : decode code pc = .ok (.instanceof idx, 3)) (hp : pc' = pc + 3) (w : Jvm.Cond.classLink own idx D ∈ tb) (I : Ins Z h a D true) (K : W h os k n pc' Ls (.int 1 :: st)) : W h os k n pc Ls (.ref a :: st) := by
  obtain ⟨p, e, s, m, args, below, meth, c, rfl, hx, hby, hml, hown0, hrt', hlk, hZ0, hnm, hw, hEL⟩ := C
  intro hE vm0 k0 T locs hS hk0 H hos X eT N
  have hZ : Z.Warmed39 (s.setVm vm0).vm := State.Warmed39.trans hZ0 hS.1
  have hown : (s.setVm vm0).vm.findClass own = some m.cls := by show vm0.findClass own = _; rw [hS.1.alike.findClass]; exact hown0
  subst hp
  obtain ⟨T', X', e', S⟩ := instY X hx hZ hown (hw _ w) eT I (g := mkF m pc Ls (.ref a :: st)) rfl rfl (hb hby hd)
  obtain ⟨u, o, h1, h2⟩ := K hE vm0 k0 T' _ hS hk0 H hos X' e' N
  exact ⟨u, o, S _ h1, h2⟩
theorem Ro.al {a : Addr} {D : String} {cA : ClassId} {vs : List Value} (A : Ro Z h a D cA vs) : Al Z h a (.object D) vs := by obtain ⟨c, A1, -, A3⟩ := A; exact ⟨c, A1, A3⟩
theorem Walk.aaloadA (C : Walk W l Z a0 tb EL own code ml rt nm R Q ou) (pc' : Nat) {a : Addr} {ty : FieldType} {vs : List Value} {j : Int32} (i : Nat) (v : Value) (hd : decode code pc = .ok (.aaload, 1)) (hp : pc' = pc + 1) (hty : ty.isReference = true) (A : Al Z h a ty vs) (hn : ¬ j < 0) (hi : j.toNatClampNeg = i) (hv : vs[i]? = some v)
    (K : W h os k n pc' Ls (v :: st)) : W h os k n pc Ls (.int j :: .ref a :: st) := by
  obtain ⟨p, e, s, m, args, below, meth, c, rfl, hx, hby, hml, hown0, hrt', hlk, hZ0, hnm, hw, hEL⟩ := C
  intro hE vm0 k0 T locs hS hk0 H hos X eT N
  have hZ : Z.Warmed39 (s.setVm vm0).vm := State.Warmed39.trans hZ0 hS.1
  have hown : (s.setVm vm0).vm.findClass own = some m.cls := by show vm0.findClass own = _; rw [hS.1.alike.findClass]; exact hown0
  subst hp
  obtain ⟨cl, A1, A3⟩ := A
  have hl : i < vs.length := (List.getElem?_eq_some_iff.mp hv).1
  have hj : ¬ (j < 0 ∨ cl.slots.size ≤ j.toNatClampNeg) := by rw [list_sz A3, hi]; exact fun q => q.elim hn (fun q => absurd hl (Nat.not_lt.mpr q))
  obtain ⟨u, o, h1, h2⟩ := K hE vm0 k0 T _ hS hk0 H hos X eT N
  exact ⟨u, o, X.aaload hx (by rw [eT]; exact A1.1) (State.isArrayOf_alike hZ.alike A1.2.1) hty A1.2.2 hj (by rw [hi, list_at A3]; exact hv) (g := mkF m pc Ls (.int j :: .ref a :: st)) rfl rfl (hb hby hd) _ h1, h2⟩
theorem Walk.clone (C : Walk W l Z a0 tb EL own code ml rt nm R Q ou) (pc' : Nat) {idx : Nat} {a : Addr} {ad : String} {cl : Cell} {ty : FieldType} (cap wd : Nat) (hd : decode code pc = .ok (.invokevirtual idx, 3)) (hp : pc' = pc + 3) (w1 : Jvm.Cond.methodLink own idx ⟨ad, "clone", "()Ljava/lang/Object;"⟩ ∈ tb) (w2 : Jvm.Cond.sameMethod ad "java/lang/Object" "clone" "()Ljava/lang/Object;" ∈ tb) (w3 : Jvm.Cond.native ⟨"java/lang/Object", "clone", "()Ljava/lang/Object;"⟩ ∈ tb) (w4 : Jvm.Cond.instanceMethod ⟨"java/lang/Object", "clone", "()Ljava/lang/Object;"⟩ ∈ tb) (w5 : Jvm.Cond.selects ad ⟨ad, "clone", "()Ljava/lang/Object;"⟩ ⟨"java/lang/Object", "clone", "()Ljava/lang/Object;"⟩ ∈ tb) (w6 : Jvm.Cond.castable ad "java/lang/Cloneable" ∈ tb)
    (A : Arr Z h a cl ty) (E : Exa Z h a ad) (F : FitC Z cl) (hls : Ls.size = ml) (hf : 1 ≤ R.frames) (hwd : (st.map fun v => v.category).sum ≤ wd) (hl : wd + 14 ≤ R.locals) (hcap : cl.slots.size ≤ cap) (hc : k + 1 ≤ R.cells) (hs : n + cap ≤ R.slots)
    (K : ∀ h', Ext h h' → Al Z h' h.size ty cl.slots.toList → Exa Z h' h.size ad → W h' (h.size :: os) (k + 1) (n + cap) pc' Ls (.ref h.size :: st)) : W h os k n pc Ls (.ref a :: st) := by
  obtain ⟨p, e, s, m, args, below, meth, c, rfl, hx, hby, hml, hown0, hrt', hlk, hZ0, hnm, hw, hEL⟩ := C
  intro hE vm0 k0 T locs hS hk0 H hos X eT N
  have hZ : Z.Warmed39 (s.setVm vm0).vm := State.Warmed39.trans hZ0 hS.1
  have hown : (s.setVm vm0).vm.findClass own = some m.cls := by show vm0.findClass own = _; rw [hS.1.alike.findClass]; exact hown0
  subst hp
  obtain ⟨T', h', X', e', E', A', X2, S⟩ := cloneA X hx hZ hown (hw _ w1) (hw _ w2) (hw _ w3) (hw _ w4) (hw _ w5) (hw _ w6) eT A E F (g := mkF m pc Ls (.ref a :: st)) rfl (by show Ls.size = _; rw [hls, hml]) rfl (hb hby hd) hf (W := wd) (cap := cap) (by show 2 * 0 + _ ≤ _; omega) hl hcap hc hs
  obtain ⟨u, o, h1, h2⟩ := K h' E' ⟨_, A', rfl⟩ X2 (Old.ext (n0 := Z.heap.size) ⟨rfl, hE⟩ E').2 vm0 k0 T' _ hS (Nat.le_trans hk0 E'.1) (H.trans (CHr.ext E' H.1)) (hos.made E' H.1 hE.1 A'.lt) X' e' N
  exact ⟨u, o, S _ h1, h2⟩
theorem al_of_arv {b : Addr} {kc : ClassId} {ty : FieldType} {z : Int32} {vs : List Value} {d : Value} (F : Arv Z h b kc ty z vs d) (hl : z.toNatClampNeg = vs.length) : Jvm.Own.Al Z h b ty vs := by
  obtain ⟨c, A, -, s1, -, hh, -⟩ := F
  refine ⟨c, A, ?_⟩
  apply List.ext_getElem?
  intro i
  rw [← Jvm.Own.list_at rfl i]
  by_cases hi : i < vs.length
  · rw [hh i (by omega)]; simp [List.getD, hi]
  · rw [Array.getElem?_eq_none (by omega), List.getElem?_eq_none (by omega)]
theorem Walk.ldcC (C : Walk W l Z a0 tb EL own code ml rt nm R Q ou) (pc' : Nat) {idx : Nat} {text : String} {vs : List Value} (z : Int32) (cap : Nat) (hd : decode code pc = .ok (.ldc idx, 2)) (hp : pc' = pc + 2) (w : Jvm.Cond.stringLink own idx text ∈ tb) (wS : ∀ a ∈ Bundle.stringAtoms, a.before a0 Z = true) (hm : (own, idx) ∈ EL)
    (ht : (∀ c ∈ text.toList, c.toNat < 256) ∧ text.toList.map (fun c => Value.int (Jvm.Lit.byteI c.toNat.toUInt16)) = vs) (hz : ¬ z < 0) (hl : z.toNatClampNeg = vs.length) (hn : 4 * text.toList.length ≤ cap) (hb' : cap ≤ 536870912) (hc : k + 2 ≤ R.cells) (hl' : n + (cap + 4) ≤ R.slots)
    (K : ∀ h' a b, Ext h h' → Exa Z h' a "java/lang/String" → Fld Z h' a "java/lang/String" "value" "[B" (.ref b) → Fld Z h' a "java/lang/String" "coder" "B" (.int 0) → Al Z h' b .byte vs → (∀ x ∈ os, x ≠ a ∧ x ≠ b) → W h' os (k + 2) (n + (cap + 4)) pc' Ls (.ref a :: st)) : W h os k n pc Ls st := by
  obtain ⟨p, e, s, m, args, below, meth, c, rfl, hx, hby, hml, hown0, hrt', hlk, hZ0, hnm, hw, hEL⟩ := C
  intro hE vm0 k0 T locs hS hk0 H hos X eT N
  have hZ : Z.Warmed39 (s.setVm vm0).vm := State.Warmed39.trans hZ0 hS.1
  have hown : (s.setVm vm0).vm.findClass own = some m.cls := by show vm0.findClass own = _; rw [hS.1.alike.findClass]; exact hown0
  subst hp
  obtain ⟨a, T', h', k1, b, kc, X', e', E', hS2, hk2, hZ2, hown2, q1, q2, q3, q4, q5, q6, hC, hL, hne, S⟩ := ldcCH X hx hZ hown (hw _ w) wS eT hS hk0 hEL hm H.1 ht hz hl (g := mkF m pc Ls st) rfl (hb hby hd) hn hb' hc hl'
  obtain ⟨u, o, h1, h2⟩ := K h' a b E' q1 q3 q2 (al_of_arv q4 hl) (fun x hx => hne x ((hos.on hC) x hx).2.1) (Old.ext (n0 := Z.heap.size) ⟨rfl, hE⟩ E').2 T'.vm k1 T' _ hS2 hk2 (H.trans hC) (hos.on hC) X' e' N
  exact ⟨u, o, S _ h1, h2⟩
theorem Walk.ldcO (C : Walk W l Z a0 tb EL own code ml rt nm R Q ou) (pc' : Nat) {idx : Nat} {text : String} (cap : Nat) (hd : decode code pc = .ok (.ldc idx, 2)) (hp : pc' = pc + 2) (w : Jvm.Cond.stringLink own idx text ∈ tb) (wS : ∀ a ∈ Bundle.stringAtoms, a.before a0 Z = true)
    (hn : 4 * text.toList.length ≤ cap) (hb' : cap ≤ 536870912) (hc : k + 2 ≤ R.cells) (hl' : n + (cap + 4) ≤ R.slots)
    (K : ∀ h' a, Ext h h' → W h' os (k + 2) (n + (cap + 4)) pc' Ls (.ref a :: st)) : W h os k n pc Ls st := by
  obtain ⟨p, e, s, m, args, below, meth, c, rfl, hx, hby, hml, hown0, hrt', hlk, hZ0, hnm, hw, hEL⟩ := C
  intro hE vm0 k0 T locs hS hk0 H hos X eT N
  have hZ : Z.Warmed39 (s.setVm vm0).vm := State.Warmed39.trans hZ0 hS.1
  have hown : (s.setVm vm0).vm.findClass own = some m.cls := by show vm0.findClass own = _; rw [hS.1.alike.findClass]; exact hown0
  subst hp
  obtain ⟨a, T', h', k1, X', e', E', hS2, hk2, hZ2, hown2, hC, hL, S⟩ := ldcOH X hx hZ hown (hw _ w) wS eT hS hk0 hEL H.1 (g := mkF m pc Ls st) rfl (hb hby hd) hn hb' hc hl'
  obtain ⟨u, o, h1, h2⟩ := K h' a E' (Old.ext (n0 := Z.heap.size) ⟨rfl, hE⟩ E').2 T'.vm k1 T' _ hS2 hk2 (H.trans hC) (hos.on hC) X' e' N
  exact ⟨u, o, S _ h1, h2⟩
end Rules
end Jvm.Own

namespace Jvm.Pilot.@@N@@
open Jvm Jvm.ClassFile Sem Op Lib Jvm.Free Jvm.Stand Jvm.LawKit Jvm.RoadKit Bundle Jvm.Own Jvm.Pilot.@@N@@.Jvm.D
theorem tw (i : Nat) {d : Jvm.Cond} (h : tables_1[i]? = some d := by rfl) : d ∈ tables_1 := List.mem_of_getElem? h
def EL0 : List (String × Nat) := [("java/lang/String", 7)]
theorem oI {x : Nat} (h : x < 2 ^ 31) : (Int32.ofNat x).toInt = x := Int32.toInt_ofNat_of_lt h
theorem o_lt {x y : Nat} (hx : x < 2 ^ 31) (hy : y < 2 ^ 31) : Int32.ofNat x < Int32.ofNat y ↔ x < y := by rw [Int32.lt_iff_toInt_lt, oI hx, oI hy]; omega
theorem o_add (x y : Nat) : Int32.ofNat x + Int32.ofNat y = Int32.ofNat (x + y) := (Int32.ofNat_add x y).symm
theorem o_nn {x : Nat} (h : x < 2 ^ 31) : ¬ Int32.ofNat x < 0 := by
  have e : (0 : Int32).toInt = 0 := rfl
  rw [Int32.lt_iff_toInt_lt, oI h, e]; omega
theorem o_cl {x : Nat} (h : x < 2 ^ 31) : (Int32.ofNat x).toNatClampNeg = x := clamp_of rfl h
theorem o_ne {x : Nat} (h : x < 2 ^ 31) (h0 : x ≠ 0) : ¬ Int32.ofNat x = 0 := fun q => by
  have r := congrArg Int32.toInt q
  have e : (0 : Int32).toInt = 0 := rfl
  rw [oI h, e] at r; omega
theorem o_inj {x y : Nat} (hx : x < 2 ^ 31) (hy : y < 2 ^ 31) (h : Int32.ofNat x = Int32.ofNat y) : x = y := by
  have r := congrArg Int32.toInt h
  rw [oI hx, oI hy] at r; omega
def by8 (c : Int32) : Int32 := c.toInt8.toInt32
theorem by8_nar (x : Int32) : nar .byte (by8 x) = by8 x := by
  show x.toInt8.toInt32.toInt8.toInt32 = x.toInt8.toInt32
  simp
abbrev iv' (xs : List Int32) : List Value := xs.map Value.int
def b0 (c : Int32) : Int32 := (c >>> ((0 : Int32) &&& 31)).toInt8.toInt32
def b1 (c : Int32) : Int32 := (c >>> ((8 : Int32) &&& 31)).toInt8.toInt32
theorem b0_nar (c : Int32) : nar .byte (b0 c) = b0 c := by8_nar (c >>> ((0 : Int32) &&& 31))
theorem b1_nar (c : Int32) : nar .byte (b1 c) = b1 c := by8_nar (c >>> ((8 : Int32) &&& 31))
def u16 : List Int32 → List Int32
  | [] => []
  | c :: cs => b0 c :: b1 c :: u16 cs
theorem u16_len : ∀ cs : List Int32, (u16 cs).length = 2 * cs.length
  | [] => rfl
  | c :: cs => by show (u16 cs).length + 1 + 1 = 2 * (cs.length + 1); rw [u16_len cs]; omega
theorem u16_app : ∀ (as bs : List Int32), u16 (as ++ bs) = u16 as ++ u16 bs
  | [], _ => rfl
  | c :: as, bs => by show b0 c :: b1 c :: u16 (as ++ bs) = _; rw [u16_app as bs]; rfl
theorem u16_0 : ∀ (cs : List Int32) (i : Nat) (c : Int32), cs[i]? = some c → (u16 cs)[2 * i]? = some (b0 c) ∧ (u16 cs)[2 * i + 1]? = some (b1 c)
  | [], i, c, h => by simp at h
  | d :: cs, 0, c, h => by
    have e : d = c := by simpa using h
    subst e; exact ⟨rfl, rfl⟩
  | d :: cs, i + 1, c, h => by
    have q := u16_0 cs i c (by simpa using h)
    rw [show 2 * (i + 1) = 2 * i + 1 + 1 by omega, show 2 * i + 1 + 1 + 1 = (2 * i + 1) + 1 + 1 by omega]
    simpa [u16] using q
/-- a char's range -/
def Ch (c : Int32) : Prop := 0 ≤ c.toInt ∧ c.toInt < 65536
def lat (cs : List Int32) : Prop := ∀ c ∈ cs, ¬ (255 : Int32) < c
instance (cs : List Int32) : Decidable (lat cs) := by unfold lat; exact inferInstance
theorem i255 : (255 : Int32).toInt = 255 := rfl
theorem gl8 {c : Int32} (h : Ch c) (hc : ¬ (255 : Int32) < c) : (by8 c &&& (255 : Int32)).toUInt32.toUInt16.toUInt32.toInt32 = c := by
  apply Int32.toInt_inj.mp
  rw [Int32.lt_iff_toInt_lt, i255] at hc
  have h1 := c_i2b c
  have h2 := c_mask (by8 c) (255 : Int32) 8 (by decide) (by decide)
  have h3 := c_i2c (by8 c &&& (255 : Int32))
  have e : (by8 c).toInt = c.toInt8.toInt32.toInt := rfl
  obtain ⟨q1, q2⟩ := h
  omega
theorem gl16 {c : Int32} (h : Ch c) : (((b0 c &&& (255 : Int32)) <<< ((0 : Int32) &&& 31)) ||| ((b1 c &&& (255 : Int32)) <<< ((8 : Int32) &&& 31))).toUInt32.toUInt16.toUInt32.toInt32 = c := by
  apply Int32.toInt_inj.mp
  obtain ⟨q1, q2⟩ := h
  have a1 := c_ishr c (0 : Int32) 0 (by decide)
  have a2 := c_ishr c (8 : Int32) 8 (by decide)
  have a3 := c_i2b (c >>> ((0 : Int32) &&& 31))
  have a4 := c_i2b (c >>> ((8 : Int32) &&& 31))
  have e0 : (b0 c).toInt = (c >>> ((0 : Int32) &&& 31)).toInt8.toInt32.toInt := rfl
  have e1 : (b1 c).toInt = (c >>> ((8 : Int32) &&& 31)).toInt8.toInt32.toInt := rfl
  have m0 := c_mask (b0 c) (255 : Int32) 8 (by decide) (by decide)
  have m1 := c_mask (b1 c) (255 : Int32) 8 (by decide) (by decide)
  have s0 := c_ishl (b0 c &&& (255 : Int32)) (0 : Int32) 0 (by decide)
  have s1 := c_ishl (b1 c &&& (255 : Int32)) (8 : Int32) 8 (by decide)
  have r0 := rng32 ((b0 c &&& (255 : Int32)) <<< ((0 : Int32) &&& 31))
  have r1 := rng32 ((b1 c &&& (255 : Int32)) <<< ((8 : Int32) &&& 31))
  have f0 : ((b0 c &&& (255 : Int32)) <<< ((0 : Int32) &&& 31)).toInt = c.toInt % 256 := by omega
  have f1 : ((b1 c &&& (255 : Int32)) <<< ((8 : Int32) &&& 31)).toInt = c.toInt / 256 * 256 := by omega
  have o1 := c_or' ((b0 c &&& (255 : Int32)) <<< ((0 : Int32) &&& 31)) ((b1 c &&& (255 : Int32)) <<< ((8 : Int32) &&& 31)) 8 (by decide) 256 rfl (by omega) (by omega) (by omega)
  have o2 := c_i2c (((b0 c &&& (255 : Int32)) <<< ((0 : Int32) &&& 31)) ||| ((b1 c &&& (255 : Int32)) <<< ((8 : Int32) &&& 31)))
  omega
theorem set2 {α : Type} (A B : List α) (x y z w : α) : ((A ++ x :: y :: B).set A.length z).set (A.length + 1) w = A ++ z :: w :: B := by
  induction A with
  | nil => rfl
  | cons a A ih => simpa using ih
def outR : Option Value → List Addr
  | some (.ref b) => [b]
  | _ => []
theorem ch_nar {c : Int32} (h : Ch c) : nar .char c = c := by
  apply Int32.toInt_inj.mp
  have q := c_i2c c
  obtain ⟨q1, q2⟩ := h
  show c.toUInt32.toUInt16.toUInt32.toInt32.toInt = _
  omega
def cod (cs : List Int32) : Int32 := if lat cs then 0 else 1
def enc (cs : List Int32) : List Int32 := if lat cs then cs.map by8 else u16 cs
/-- a String whose chars are cs, its bytes in the byte[] at b -/
def Str (Z : State) (h : Heap) (a b : Addr) (cs : List Int32) : Prop :=
  Exa Z h a "java/lang/String" ∧ Fld Z h a "java/lang/String" "value" "[B" (.ref b) ∧ Fld Z h a "java/lang/String" "coder" "B" (.int (cod cs)) ∧ Al Z h b .byte (iv' (enc cs))
theorem Str.keep {Z : State} {h h' : Heap} {a b : Addr} {cs : List Int32} {ws : List Addr} (S : Str Z h a b cs) (K : Keep h h' ws) (qa : a ∉ ws) (qb : b ∉ ws) : Str Z h' a b cs := ⟨S.1.keep K, S.2.1.keep K qa, S.2.2.1.keep K qa, S.2.2.2.keep K qb⟩
theorem Str.ext {Z : State} {h h' : Heap} {a b : Addr} {cs : List Int32} (S : Str Z h a b cs) (E : Ext h h') : Str Z h' a b cs := ⟨S.1.ext E, S.2.1.ext E, S.2.2.1.ext E, S.2.2.2.ext E⟩
theorem cod_nar (cs : List Int32) : nar .byte (cod cs) = cod cs := by unfold cod; split <;> rfl
theorem cod_l {cs : List Int32} (h : lat cs) : cod cs = 0 := if_pos h
theorem cod_u {cs : List Int32} (h : ¬ lat cs) : cod cs = 1 := if_neg h
theorem enc_l {cs : List Int32} (h : lat cs) : enc cs = cs.map by8 := if_pos h
theorem enc_u {cs : List Int32} (h : ¬ lat cs) : enc cs = u16 cs := if_neg h
theorem o_dbl {x : Nat} (h : x < 2 ^ 30) : Int32.ofNat x <<< ((1 : Int32) &&& 31) = Int32.ofNat (2 * x) := by
  apply Int32.toInt_inj.mp
  have s := c_ishl (Int32.ofNat x) (1 : Int32) 1 (by decide)
  have r := rng32 (Int32.ofNat x <<< ((1 : Int32) &&& 31))
  rw [oI (show x < 2 ^ 31 by omega)] at s
  rw [oI (show 2 * x < 2 ^ 31 by omega)]; omega
theorem o_half {x : Nat} (h : x < 2 ^ 30) : Int32.ofNat (2 * x) >>> ((1 : Int32) &&& 31) = Int32.ofNat x := by
  apply Int32.toInt_inj.mp
  have s := c_ishr (Int32.ofNat (2 * x)) (1 : Int32) 1 (by decide)
  rw [oI (show 2 * x < 2 ^ 31 by omega)] at s
  rw [s, oI (show x < 2 ^ 31 by omega)]; omega
theorem o_shr0 {x : Nat} (h : x < 2 ^ 30) : Int32.ofNat x >>> ((0 : Int32) &&& 31) = Int32.ofNat x := by
  apply Int32.toInt_inj.mp
  have s := c_ishr (Int32.ofNat x) (0 : Int32) 0 (by decide)
  rw [s]; omega
theorem o_cfu {x : Nat} (h : x < 2 ^ 30) (h0 : x ≠ 0) : (XT.ushr (Int32.ofNat x - Int32.ofNat (2 * x)) (31 : Int32)).toInt8.toInt32 = 1 := by
  have e : XT.ushr (Int32.ofNat x - Int32.ofNat (2 * x)) (31 : Int32) = 1 := by
    apply Int32.toInt_inj.mp
    have s := c_iushr (Int32.ofNat x - Int32.ofNat (2 * x)) (31 : Int32) 31 (by decide) (by decide)
    have d := c_isub (Int32.ofNat x) (Int32.ofNat (2 * x))
    rw [oI (show x < 2 ^ 31 by omega), oI (show 2 * x < 2 ^ 31 by omega)] at d
    have r := rng32 (Int32.ofNat x - Int32.ofNat (2 * x))
    have e1 : (1 : Int32).toInt = 1 := rfl
    show ((Int32.ofNat x - Int32.ofNat (2 * x)).toUInt32 >>> ((31 : Int32) &&& 31).toUInt32).toInt32.toInt = _
    rw [s, e1]; omega
  rw [e]; rfl
theorem pn0 : plainFor x = true := plainFor_of_name (by first | (simp [x, plainName, overriddenIn]; done) | decide +kernel)
theorem d6_0 : decode jdk_52_method_21_code 0 = .ok (.iconst 0, 1) := by decide +kernel
theorem d6_1 : decode jdk_52_method_21_code 1 = .ok (.istore 5, 2) := by decide +kernel
theorem d6_3 : decode jdk_52_method_21_code 3 = .ok (.iload 5, 2) := by decide +kernel
theorem d6_5 : decode jdk_52_method_21_code 5 = .ok (.iload 4, 2) := by decide +kernel
theorem d6_7 : decode jdk_52_method_21_code 7 = .ok (.if_icmp .ge 37, 3) := by decide +kernel
theorem d6_10 : decode jdk_52_method_21_code 10 = .ok (.aload_n 0, 1) := by decide +kernel
theorem d6_11 : decode jdk_52_method_21_code 11 = .ok (.iload_n 1, 1) := by decide +kernel
theorem d6_12 : decode jdk_52_method_21_code 12 = .ok (.caload, 1) := by decide +kernel
theorem d6_13 : decode jdk_52_method_21_code 13 = .ok (.istore 6, 2) := by decide +kernel
theorem d6_15 : decode jdk_52_method_21_code 15 = .ok (.iload 6, 2) := by decide +kernel
theorem d6_17 : decode jdk_52_method_21_code 17 = .ok (.sipush 255, 3) := by decide +kernel
theorem d6_20 : decode jdk_52_method_21_code 20 = .ok (.if_icmp .le 6, 3) := by decide +kernel
theorem d6_23 : decode jdk_52_method_21_code 23 = .ok (.iload 5, 2) := by decide +kernel
theorem d6_25 : decode jdk_52_method_21_code 25 = .ok (.ireturn, 1) := by decide +kernel
theorem d6_26 : decode jdk_52_method_21_code 26 = .ok (.aload_n 2, 1) := by decide +kernel
theorem d6_27 : decode jdk_52_method_21_code 27 = .ok (.iload_n 3, 1) := by decide +kernel
theorem d6_28 : decode jdk_52_method_21_code 28 = .ok (.iload 6, 2) := by decide +kernel
theorem d6_30 : decode jdk_52_method_21_code 30 = .ok (.i2b, 1) := by decide +kernel
theorem d6_31 : decode jdk_52_method_21_code 31 = .ok (.bastore, 1) := by decide +kernel
theorem d6_32 : decode jdk_52_method_21_code 32 = .ok (.iinc 1 1, 3) := by decide +kernel
theorem d6_35 : decode jdk_52_method_21_code 35 = .ok (.iinc 3 1, 3) := by decide +kernel
theorem d6_38 : decode jdk_52_method_21_code 38 = .ok (.iinc 5 1, 3) := by decide +kernel
theorem d6_41 : decode jdk_52_method_21_code 41 = .ok (.goto (-38), 3) := by decide +kernel
theorem d6_44 : decode jdk_52_method_21_code 44 = .ok (.iload 4, 2) := by decide +kernel
theorem d6_46 : decode jdk_52_method_21_code 46 = .ok (.ireturn, 1) := by decide +kernel
theorem pn6 : plainFor (⟨"java/lang/StringUTF16", "compress", "([CI[BII)I"⟩ : MethodName) = true := by first | exact plainFor_of_name (by first | (simp [plainName, overriddenIn]; done) | decide +kernel) | decide +kernel
theorem pd6 : parseMethodDescriptor "([CI[BII)I" = some ⟨[(.array .char), .int, (.array .byte), .int, .int], some .int⟩ := by decide +kernel
set_option maxRecDepth 65536 in
set_option maxHeartbeats 40000000 in
theorem c5_loop {W : Wk} {l : Launch} {Z : State} {a0' : Array Value} {R : Room} {Q : Option Value → Heap → Prop} (C : Walk W l Z a0' tables_1 EL0 "java/lang/StringUTF16" jdk_52_method_21_code 7 (some .int) "compress" R Q (fun _ => [])) {ck cs' : Nat} (hck : ck ≤ R.cells) (hcs : cs' ≤ R.slots) (os : List Addr) (src dst : Addr) (zd : dst ∈ os) (ne : src ≠ dst) (cs : List Int32) (hn : cs.length < 2 ^ 29) :
    ∀ (rest pre : List Int32) (h : Heap) (s6 : Slot), cs = pre ++ rest → lat pre → Al Z h src .char (iv' cs) → Al Z h dst .byte (iv' (pre.map by8) ++ List.replicate rest.length (.int 0)) → (s6 = .unset ∨ ∃ w : Value, s6 = .val w ∧ w.category = 1) →
      (∀ h' : Heap, Keep h h' [dst] → lat cs → Al Z h' dst .byte (iv' (cs.map by8)) → Q (some (.int (Int32.ofNat cs.length))) h') →
      (∀ (h' : Heap) (r : Nat) (c : Int32), Keep h h' [dst] → cs[r]? = some c → (255 : Int32) < c → Q (some (.int (Int32.ofNat r))) h') → W h os ck cs' 3 #[.val (.ref src), .val (.int (Int32.ofNat pre.length)), .val (.ref dst), .val (.int (Int32.ofNat pre.length)), .val (.int (Int32.ofNat cs.length)), .val (.int (Int32.ofNat pre.length)), s6] []
  | [], pre, h, s6, e, hp, A, B, h6, K, KU => by
    have e' : pre = cs := by rw [e, List.append_nil]
    subst e'
    show W h os ck cs' 3 #[.val (.ref src), .val (.int (Int32.ofNat pre.length)), .val (.ref dst), .val (.int (Int32.ofNat pre.length)), .val (.int (Int32.ofNat pre.length)), .val (.int (Int32.ofNat pre.length)), s6] []
    have q : ¬ Int32.ofNat pre.length < Int32.ofNat pre.length := Int32.lt_irrefl
    refine C.iload 5 d6_3 rfl rfl ?_
    refine C.iload 7 d6_5 rfl rfl ?_
    refine C.icmpT 44 d6_7 rfl (flt q).2.1 ?_
    refine C.iload 46 d6_44 rfl rfl ?_
    exact C.retI .int d6_46 rfl (by simp) rfl hck hcs (K h (Keep.refl _ _) hp (by simpa using B)) (fun _ q => nomatch q)
  | c :: rest, pre, h, s6, e, hp, A, B, h6, K, KU => by
    have hlen : pre.length < cs.length := by rw [e, List.length_append, List.length_cons]; omega
    have q : Int32.ofNat pre.length < Int32.ofNat cs.length := (o_lt (by omega) (by omega)).mpr hlen
    have hg : cs[pre.length]? = some c := by rw [e]; simp
    refine C.iload 5 d6_3 rfl rfl ?_
    refine C.iload 7 d6_5 rfl rfl ?_
    refine C.icmpF 10 d6_7 rfl (tlt q).2.1 ?_
    refine C.aloadN 11 d6_10 rfl rfl rfl ?_
    refine C.iloadN 12 d6_11 rfl rfl ?_
    refine C.caload 13 pre.length (.int c) d6_12 rfl A (o_nn (by omega)) (o_cl (by omega)) (by rw [e]; simp) ?_
    refine C.istore 15 #[.val (.ref src), .val (.int (Int32.ofNat pre.length)), .val (.ref dst), .val (.int (Int32.ofNat pre.length)), .val (.int (Int32.ofNat cs.length)), .val (.int (Int32.ofNat pre.length)), .val (.int c)] d6_13 rfl (XS.store1 rfl h6 rfl) ?_
    refine C.iload 17 d6_15 rfl rfl ?_
    refine C.sipush 20 (255 : Int32) d6_17 rfl rfl ?_
    by_cases hc : (255 : Int32) < c
    · refine C.icmpF 23 d6_20 rfl (tlt hc).2.2.2 ?_
      refine C.iload 25 d6_23 rfl rfl ?_
      exact C.retI .int d6_25 rfl (by simp) rfl hck hcs (KU h pre.length c (Keep.refl _ _) hg hc) (fun _ q => nomatch q)
    · refine C.icmpT 26 d6_20 rfl (flt hc).2.2.2 ?_
      refine C.aloadN 27 d6_26 rfl rfl rfl ?_
      refine C.iloadN 28 d6_27 rfl rfl ?_
      refine C.iload 30 d6_28 rfl rfl ?_
      refine C.i2b 31 d6_30 rfl ?_
      refine C.bastoreB 32 pre.length (by8 c) d6_31 rfl B zd (o_nn (by omega)) (o_cl (by omega)) (by simp) (by8_nar c) ?_
      intro h1 W1 B1
      refine C.iinc 35 #[.val (.ref src), .val (.int ((Int32.ofNat pre.length) + (1 : Int32))), .val (.ref dst), .val (.int (Int32.ofNat pre.length)), .val (.int (Int32.ofNat cs.length)), .val (.int (Int32.ofNat pre.length)), .val (.int c)] d6_32 rfl rfl rfl ?_
      refine C.iinc 38 #[.val (.ref src), .val (.int ((Int32.ofNat pre.length) + (1 : Int32))), .val (.ref dst), .val (.int ((Int32.ofNat pre.length) + (1 : Int32))), .val (.int (Int32.ofNat cs.length)), .val (.int (Int32.ofNat pre.length)), .val (.int c)] d6_35 rfl rfl rfl ?_
      refine C.iinc 41 #[.val (.ref src), .val (.int ((Int32.ofNat pre.length) + (1 : Int32))), .val (.ref dst), .val (.int ((Int32.ofNat pre.length) + (1 : Int32))), .val (.int (Int32.ofNat cs.length)), .val (.int ((Int32.ofNat pre.length) + (1 : Int32))), .val (.int c)] d6_38 rfl rfl rfl ?_
      have e1 : Int32.ofNat pre.length + (1 : Int32) = Int32.ofNat (pre ++ [c]).length := by rw [List.length_append]; exact o_add pre.length 1
      show W h1 os ck cs' 41 #[.val (.ref src), .val (.int ((Int32.ofNat pre.length) + (1 : Int32))), .val (.ref dst), .val (.int ((Int32.ofNat pre.length) + (1 : Int32))), .val (.int (Int32.ofNat cs.length)), .val (.int ((Int32.ofNat pre.length) + (1 : Int32))), .val (.int c)] []
      rw [e1]
      refine C.goto 3 d6_41 rfl ?_
      refine c5_loop C hck hcs os src dst zd ne cs hn rest (pre ++ [c]) h1 _ (by rw [e]; simp) (fun x hx => by rcases List.mem_append.mp hx with hx | hx; exact hp x hx; rw [List.mem_singleton.mp hx]; exact hc) (A.keep (Keep.of_wr W1) (ninS ne nin0)) ?_ (Or.inr ⟨_, rfl, rfl⟩) (fun h' K' l' B' => K h' ((Keep.of_wr W1).trans K' (fun x hx => Or.inl hx)) l' B') (fun h' r c' K' g' b' => KU h' r c' ((Keep.of_wr W1).trans K' (fun x hx => Or.inl hx)) g' b')
      have e2 : (iv' (pre.map by8) ++ List.replicate (c :: rest).length (Value.int 0)).set pre.length (.int (by8 c)) = iv' ((pre ++ [c]).map by8) ++ List.replicate rest.length (.int 0) := by simp [List.replicate_succ]
      rw [e2] at B1
      exact B1
set_option maxRecDepth 65536 in
set_option maxHeartbeats 40000000 in
theorem c5 (l : Launch) (Z : State) (a0' : Array Value) (hw : ∀ d ∈ tables_1, d.before a0' Z = true) (hEL : EW Z a0' EL0) (hSA : ∀ a ∈ Bundle.stringAtoms, a.before a0' Z = true) (h : Heap) (src dst : Addr) (ne : src ≠ dst) (cs : List Int32) (hn : cs.length < 2 ^ 29) (A : Al Z h src .char (iv' cs)) (B : Al Z h dst .byte (List.replicate cs.length (.int 0))) :
    Con l Z EL0 (⟨"java/lang/StringUTF16", "compress", "([CI[BII)I"⟩ : MethodName) jdk_52_method_21_code 7 (some .int) ⟨0, 0, 0, 0⟩ #[.ref src, .int 0, .ref dst, .int 0, .int (Int32.ofNat cs.length)] h [dst] (fun v h' => Keep h h' [dst] ∧ ((v = some (.int (Int32.ofNat cs.length)) ∧ lat cs ∧ Al Z h' dst .byte (iv' (cs.map by8))) ∨ ∃ (r : Nat) (c : Int32), v = some (.int (Int32.ofNat r)) ∧ cs[r]? = some c ∧ (255 : Int32) < c)) (fun _ => []) := by
  refine Con.of (Ls := #[.val (.ref src), .val (.int (0 : Int32)), .val (.ref dst), .val (.int (0 : Int32)), .val (.int (Int32.ofNat cs.length)), .unset, .unset]) hw hEL pn6 (fun m => by first | (simp [entryFrame, mkF, argsToLocals, Value.category, maxLocals]; done) | rfl) fun W C => ?_
  refine C.kept fun hE => ?_
  have z0 : Z.heap.size ≤ h.size := hE.1
  refine C.iconst 1 (0 : Int32) d6_0 rfl rfl ?_
  refine C.istore 3 #[.val (.ref src), .val (.int (0 : Int32)), .val (.ref dst), .val (.int (0 : Int32)), .val (.int (Int32.ofNat cs.length)), .val (.int (0 : Int32)), .unset] d6_1 rfl rfl ?_
  exact c5_loop C (by decide) (by decide) [dst] src dst (by simp) ne cs hn cs [] h _ rfl (fun x hx => nomatch hx) A B (Or.inl rfl) (fun h' K' l' B' => ⟨K', Or.inl ⟨rfl, l', B'⟩⟩) (fun h' r c K' g' b' => ⟨K', Or.inr ⟨r, c, rfl, g', b'⟩⟩)
theorem d5_0 : decode jdk_52_method_16_code 0 = .ok (.iload_n 2, 1) := by decide +kernel
theorem d5_1 : decode jdk_52_method_16_code 1 = .ok (.newarray .byte, 2) := by decide +kernel
theorem d5_3 : decode jdk_52_method_16_code 3 = .ok (.astore_n 3, 1) := by decide +kernel
theorem d5_4 : decode jdk_52_method_16_code 4 = .ok (.aload_n 0, 1) := by decide +kernel
theorem d5_5 : decode jdk_52_method_16_code 5 = .ok (.iload_n 1, 1) := by decide +kernel
theorem d5_6 : decode jdk_52_method_16_code 6 = .ok (.aload_n 3, 1) := by decide +kernel
theorem d5_7 : decode jdk_52_method_16_code 7 = .ok (.iconst 0, 1) := by decide +kernel
theorem d5_8 : decode jdk_52_method_16_code 8 = .ok (.iload_n 2, 1) := by decide +kernel
theorem d5_9 : decode jdk_52_method_16_code 9 = .ok (.invokestatic 115, 3) := by decide +kernel
theorem d5_12 : decode jdk_52_method_16_code 12 = .ok (.istore 4, 2) := by decide +kernel
theorem d5_14 : decode jdk_52_method_16_code 14 = .ok (.iload 4, 2) := by decide +kernel
theorem d5_16 : decode jdk_52_method_16_code 16 = .ok (.iload_n 2, 1) := by decide +kernel
theorem d5_17 : decode jdk_52_method_16_code 17 = .ok (.if_icmp .eq 40, 3) := by decide +kernel
theorem d5_20 : decode jdk_52_method_16_code 20 = .ok (.aload_n 0, 1) := by decide +kernel
theorem d5_21 : decode jdk_52_method_16_code 21 = .ok (.iload_n 1, 1) := by decide +kernel
theorem d5_22 : decode jdk_52_method_16_code 22 = .ok (.iload_n 2, 1) := by decide +kernel
theorem d5_23 : decode jdk_52_method_16_code 23 = .ok (.invokestatic 119, 3) := by decide +kernel
theorem d5_26 : decode jdk_52_method_16_code 26 = .ok (.astore 5, 2) := by decide +kernel
theorem d5_28 : decode jdk_52_method_16_code 28 = .ok (.aload 5, 2) := by decide +kernel
theorem d5_30 : decode jdk_52_method_16_code 30 = .ok (.iload 4, 2) := by decide +kernel
theorem d5_32 : decode jdk_52_method_16_code 32 = .ok (.invokestatic 71, 3) := by decide +kernel
theorem d5_35 : decode jdk_52_method_16_code 35 = .ok (.sipush 255, 3) := by decide +kernel
theorem d5_38 : decode jdk_52_method_16_code 38 = .ok (.if_icmp .gt 16, 3) := by decide +kernel
theorem d5_41 : decode jdk_52_method_16_code 41 = .ok (.aload 5, 2) := by decide +kernel
theorem d5_43 : decode jdk_52_method_16_code 43 = .ok (.iconst 0, 1) := by decide +kernel
theorem d5_44 : decode jdk_52_method_16_code 44 = .ok (.aload_n 3, 1) := by decide +kernel
theorem d5_45 : decode jdk_52_method_16_code 45 = .ok (.iconst 0, 1) := by decide +kernel
theorem d5_46 : decode jdk_52_method_16_code 46 = .ok (.iload_n 2, 1) := by decide +kernel
theorem d5_47 : decode jdk_52_method_16_code 47 = .ok (.invokestatic 123, 3) := by decide +kernel
theorem d5_50 : decode jdk_52_method_16_code 50 = .ok (.iload_n 2, 1) := by decide +kernel
theorem d5_51 : decode jdk_52_method_16_code 51 = .ok (.if_icmp .eq 6, 3) := by decide +kernel
theorem d5_54 : decode jdk_52_method_16_code 54 = .ok (.aload 5, 2) := by decide +kernel
theorem d5_56 : decode jdk_52_method_16_code 56 = .ok (.areturn, 1) := by decide +kernel
theorem d5_57 : decode jdk_52_method_16_code 57 = .ok (.aload_n 3, 1) := by decide +kernel
theorem d5_58 : decode jdk_52_method_16_code 58 = .ok (.areturn, 1) := by decide +kernel
theorem pn5 : plainFor (⟨"java/lang/StringUTF16", "compress", "([CII)[B"⟩ : MethodName) = true := by first | exact plainFor_of_name (by first | (simp [plainName, overriddenIn]; done) | decide +kernel) | decide +kernel
theorem pd5 : parseMethodDescriptor "([CII)[B" = some ⟨[(.array .char), .int, .int], some (.array .byte)⟩ := by decide +kernel
set_option maxRecDepth 65536 in
set_option maxHeartbeats 40000000 in
theorem c3 (l : Launch) (Z : State) (a0' : Array Value) (hw : ∀ d ∈ tables_1, d.before a0' Z = true) (hEL : EW Z a0' EL0) (hSA : ∀ a ∈ Bundle.stringAtoms, a.before a0' Z = true) (h : Heap) (cpt : Int32) (SCP : Sta Z Z.heap "java/lang/String" "COMPACT_STRINGS" "Z" (.int cpt)) (hcp : ¬ cpt = 0) (src : Addr) (cs : List Int32) (hn : cs.length ≤ 3) (hch : ∀ c ∈ cs, Ch c) (hlat : lat cs) (A : Al Z h src .char (iv' cs)) :
    Con l Z EL0 (⟨"java/lang/StringUTF16", "compress", "([CII)[B"⟩ : MethodName) jdk_52_method_16_code 6 (some (.array .byte)) ⟨1, 1, 3, 18⟩ #[.ref src, .int 0, .int (Int32.ofNat cs.length)] h [] (fun v h' => ∃ b, v = some (.ref b) ∧ h.size ≤ b ∧ Ext h h' ∧ Al Z h' b .byte (iv' (enc cs))) (fun _ => []) := by
  refine Con.of (Ls := #[.val (.ref src), .val (.int (0 : Int32)), .val (.int (Int32.ofNat cs.length)), .unset, .unset, .unset]) hw hEL pn5 (fun m => by first | (simp [entryFrame, mkF, argsToLocals, Value.category, maxLocals]; done) | rfl) fun W C => ?_
  refine C.kept fun hE => ?_
  have z0 : Z.heap.size ≤ h.size := hE.1
  refine C.iloadN 1 d5_0 rfl rfl ?_
  refine C.newarray 3 3 d5_1 rfl (tw 23) (o_nn (by omega)) (by rw [o_cl (by omega)]; exact hn) (by decide) (by decide) (by decide) ?_
  intro h1 E1 B1
  rw [o_cl (by omega)] at B1
  obtain ⟨b, gb⟩ : ∃ z, z = h.size := ⟨_, rfl⟩
  rw [← gb] at B1 ⊢
  have ne : src ≠ b := by rw [gb]; exact Nat.ne_of_lt A.lt
  show W h1 [b] 1 3 3 #[.val (.ref src), .val (.int (0 : Int32)), .val (.int (Int32.ofNat cs.length)), .unset, .unset, .unset] [.ref b]
  refine C.astoreN 4 #[.val (.ref src), .val (.int (0 : Int32)), .val (.int (Int32.ofNat cs.length)), .val (.ref b), .unset, .unset] d5_3 rfl rfl rfl ?_
  refine C.aloadN 5 d5_4 rfl rfl rfl ?_
  refine C.iloadN 6 d5_5 rfl rfl ?_
  refine C.aloadN 7 d5_6 rfl rfl rfl ?_
  refine C.iconst 8 (0 : Int32) d5_7 rfl rfl ?_
  refine C.iloadN 9 d5_8 rfl rfl ?_
  refine C.callS 12 (as := [.ref src, .int (0 : Int32), .ref b, .int (0 : Int32), .int (Int32.ofNat cs.length)]) (rest := []) (rm := ⟨0, 0, 0, 0⟩) 0 d5_9 rfl (tw 24) (tw 25) (tw 21) (tw 26) (by decide) (c5 l Z a0' hw hEL hSA h1 src b ne cs (by omega) (A.ext E1) B1) (by simp) pd6 rfl rfl (Nat.le_of_eq rfl) (by decide) (by decide) (by decide) (by decide) rfl ?_
  rintro v h2 ⟨K2, ⟨rfl, hl, B2⟩ | ⟨r, c, rfl, hg, hc⟩⟩
  all_goals have K : Keep h h2 [] := ((Keep.refl h []).ext E1).trans K2 (fun x hx => Or.inr (by cases List.mem_singleton.mp hx; exact Nat.le_of_eq gb.symm))
  all_goals have E : Ext h h2 := ⟨K.1, fun x c q => K.2.1 x c q nin0⟩
  · show W h2 [b] 1 3 12 #[.val (.ref src), .val (.int (0 : Int32)), .val (.int (Int32.ofNat cs.length)), .val (.ref b), .unset, .unset] [.int (Int32.ofNat cs.length)]
    refine C.istore 14 #[.val (.ref src), .val (.int (0 : Int32)), .val (.int (Int32.ofNat cs.length)), .val (.ref b), .val (.int (Int32.ofNat cs.length)), .unset] d5_12 rfl rfl ?_
    refine C.iload 16 d5_14 rfl rfl ?_
    refine C.iloadN 17 d5_16 rfl rfl ?_
    refine C.icmpT 57 d5_17 rfl (teq rfl).1 ?_
    refine C.aloadN 58 d5_57 rfl rfl rfl ?_
    exact C.retA (.array .byte) d5_58 rfl rfl rfl (by decide) (by decide) ⟨b, rfl, Nat.le_of_eq gb.symm, E, by rw [enc_l hl]; exact B2⟩ (fun _ q => nomatch q)
  · exact absurd hc (hlat c (List.mem_of_getElem? hg))
theorem d7_0 : decode jdk_52_method_15_code 0 = .ok (.iload_n 1, 1) := by decide +kernel
theorem d7_1 : decode jdk_52_method_15_code 1 = .ok (.aload_n 0, 1) := by decide +kernel
theorem d7_2 : decode jdk_52_method_15_code 2 = .ok (.arraylength, 1) := by decide +kernel
theorem d7_3 : decode jdk_52_method_15_code 3 = .ok (.isub, 1) := by decide +kernel
theorem d7_4 : decode jdk_52_method_15_code 4 = .ok (.bipush 31, 2) := by decide +kernel
theorem d7_6 : decode jdk_52_method_15_code 6 = .ok (.iushr, 1) := by decide +kernel
theorem d7_7 : decode jdk_52_method_15_code 7 = .ok (.i2b, 1) := by decide +kernel
theorem d7_8 : decode jdk_52_method_15_code 8 = .ok (.ireturn, 1) := by decide +kernel
theorem pn7 : plainFor (⟨"java/lang/StringUTF16", "coderFromArrayLen", "([BI)B"⟩ : MethodName) = true := by first | exact plainFor_of_name (by first | (simp [plainName, overriddenIn]; done) | decide +kernel) | decide +kernel
theorem pd7 : parseMethodDescriptor "([BI)B" = some ⟨[(.array .byte), .int], some .byte⟩ := by decide +kernel
set_option maxRecDepth 65536 in
set_option maxHeartbeats 40000000 in
theorem cfa (l : Launch) (Z : State) (a0' : Array Value) (hw : ∀ d ∈ tables_1, d.before a0' Z = true) (hEL : EW Z a0' EL0) (hSA : ∀ a ∈ Bundle.stringAtoms, a.before a0' Z = true) (h : Heap) (b : Addr) (cs : List Int32) (hn : cs.length < 2 ^ 28) (h0 : cs.length ≠ 0) (B : Al Z h b .byte (iv' (enc cs))) :
    Con l Z EL0 (⟨"java/lang/StringUTF16", "coderFromArrayLen", "([BI)B"⟩ : MethodName) jdk_52_method_15_code 2 (some .byte) ⟨0, 0, 0, 0⟩ #[.ref b, .int (Int32.ofNat cs.length)] h [] (Same (some (.int (cod cs))) h) (fun _ => []) := by
  refine Con.of (Ls := #[.val (.ref b), .val (.int (Int32.ofNat cs.length))]) hw hEL pn7 (fun m => by first | (simp [entryFrame, mkF, argsToLocals, Value.category, maxLocals]; done) | rfl) fun W C => ?_
  refine C.kept fun hE => ?_
  have z0 : Z.heap.size ≤ h.size := hE.1
  refine C.iloadN 1 d7_0 rfl rfl ?_
  refine C.aloadN 2 d7_1 rfl rfl rfl ?_
  by_cases hl : lat cs
  · rw [enc_l hl] at B
    refine C.arraylength 3 (Int32.ofNat cs.length) d7_2 rfl B (by simp) ?_
    refine C.isub 4 d7_3 rfl ?_
    rw [Int32.sub_self]
    refine C.bipush 6 (31 : Int32) d7_4 rfl rfl ?_
    refine C.iushr 7 d7_6 rfl ?_
    refine C.i2b 8 d7_7 rfl ?_
    show W h [] 0 0 8 #[.val (.ref b), .val (.int (Int32.ofNat cs.length))] [.int (0 : Int32)]
    exact C.retI .byte d7_8 rfl (by simp) rfl (by decide) (by decide) ⟨by rw [cod_l hl], rfl⟩ (fun _ q => nomatch q)
  · rw [enc_u hl] at B
    refine C.arraylength 3 (Int32.ofNat (2 * cs.length)) d7_2 rfl B (by simp [u16_len]) ?_
    refine C.isub 4 d7_3 rfl ?_
    refine C.bipush 6 (31 : Int32) d7_4 rfl rfl ?_
    refine C.iushr 7 d7_6 rfl ?_
    refine C.i2b 8 d7_7 rfl ?_
    rw [o_cfu (by omega) h0]
    exact C.retI .byte d7_8 rfl (by simp) rfl (by decide) (by decide) ⟨by rw [cod_u hl], rfl⟩ (fun _ q => nomatch q)
theorem d3_0 : decode jdk_42_method_149_code 0 = .ok (.aload_n 0, 1) := by decide +kernel
theorem d3_1 : decode jdk_42_method_149_code 1 = .ok (.invokespecial 1, 3) := by decide +kernel
theorem d3_4 : decode jdk_42_method_149_code 4 = .ok (.iload_n 3, 1) := by decide +kernel
theorem d3_5 : decode jdk_42_method_149_code 5 = .ok (.ifCond .ne 22, 3) := by decide +kernel
theorem d3_8 : decode jdk_42_method_149_code 8 = .ok (.aload_n 0, 1) := by decide +kernel
theorem d3_9 : decode jdk_42_method_149_code 9 = .ok (.ldc 7, 2) := by decide +kernel
theorem d3_11 : decode jdk_42_method_149_code 11 = .ok (.getfield 9, 3) := by decide +kernel
theorem d3_14 : decode jdk_42_method_149_code 14 = .ok (.putfield 9, 3) := by decide +kernel
theorem d3_17 : decode jdk_42_method_149_code 17 = .ok (.aload_n 0, 1) := by decide +kernel
theorem d3_18 : decode jdk_42_method_149_code 18 = .ok (.ldc 7, 2) := by decide +kernel
theorem d3_20 : decode jdk_42_method_149_code 20 = .ok (.getfield 15, 3) := by decide +kernel
theorem d3_23 : decode jdk_42_method_149_code 23 = .ok (.putfield 15, 3) := by decide +kernel
theorem d3_26 : decode jdk_42_method_149_code 26 = .ok (.return_, 1) := by decide +kernel
theorem d3_27 : decode jdk_42_method_149_code 27 = .ok (.getstatic 38, 3) := by decide +kernel
theorem d3_30 : decode jdk_42_method_149_code 30 = .ok (.ifCond .eq 28, 3) := by decide +kernel
theorem d3_33 : decode jdk_42_method_149_code 33 = .ok (.aload_n 1, 1) := by decide +kernel
theorem d3_34 : decode jdk_42_method_149_code 34 = .ok (.iload_n 2, 1) := by decide +kernel
theorem d3_35 : decode jdk_42_method_149_code 35 = .ok (.iload_n 3, 1) := by decide +kernel
theorem d3_36 : decode jdk_42_method_149_code 36 = .ok (.invokestatic 177, 3) := by decide +kernel
theorem d3_39 : decode jdk_42_method_149_code 39 = .ok (.astore 5, 2) := by decide +kernel
theorem d3_41 : decode jdk_42_method_149_code 41 = .ok (.aload_n 0, 1) := by decide +kernel
theorem d3_42 : decode jdk_42_method_149_code 42 = .ok (.aload 5, 2) := by decide +kernel
theorem d3_44 : decode jdk_42_method_149_code 44 = .ok (.iload_n 3, 1) := by decide +kernel
theorem d3_45 : decode jdk_42_method_149_code 45 = .ok (.invokestatic 47, 3) := by decide +kernel
theorem d3_48 : decode jdk_42_method_149_code 48 = .ok (.putfield 15, 3) := by decide +kernel
theorem d3_51 : decode jdk_42_method_149_code 51 = .ok (.aload_n 0, 1) := by decide +kernel
theorem d3_52 : decode jdk_42_method_149_code 52 = .ok (.aload 5, 2) := by decide +kernel
theorem d3_54 : decode jdk_42_method_149_code 54 = .ok (.putfield 9, 3) := by decide +kernel
theorem d3_57 : decode jdk_42_method_149_code 57 = .ok (.return_, 1) := by decide +kernel
theorem d3_58 : decode jdk_42_method_149_code 58 = .ok (.aload_n 0, 1) := by decide +kernel
theorem d3_59 : decode jdk_42_method_149_code 59 = .ok (.iconst 1, 1) := by decide +kernel
theorem d3_60 : decode jdk_42_method_149_code 60 = .ok (.putfield 15, 3) := by decide +kernel
theorem d3_63 : decode jdk_42_method_149_code 63 = .ok (.aload_n 0, 1) := by decide +kernel
theorem d3_64 : decode jdk_42_method_149_code 64 = .ok (.aload_n 1, 1) := by decide +kernel
theorem d3_65 : decode jdk_42_method_149_code 65 = .ok (.iload_n 2, 1) := by decide +kernel
theorem d3_66 : decode jdk_42_method_149_code 66 = .ok (.iload_n 3, 1) := by decide +kernel
theorem d3_67 : decode jdk_42_method_149_code 67 = .ok (.invokestatic 180, 3) := by decide +kernel
theorem d3_70 : decode jdk_42_method_149_code 70 = .ok (.putfield 9, 3) := by decide +kernel
theorem d3_73 : decode jdk_42_method_149_code 73 = .ok (.return_, 1) := by decide +kernel
theorem pn3 : plainFor (⟨"java/lang/String", "<init>", "([CIILjava/lang/Void;)V"⟩ : MethodName) = true := by first | exact plainFor_of_name (by first | (simp [plainName, overriddenIn]; done) | decide +kernel) | decide +kernel
theorem pd3 : parseMethodDescriptor "([CIILjava/lang/Void;)V" = some ⟨[(.array .char), .int, .int, (.object "java/lang/Void")], none⟩ := by decide +kernel
set_option maxRecDepth 65536 in
set_option maxHeartbeats 40000000 in
theorem si4 (l : Launch) (Z : State) (a0' : Array Value) (hw : ∀ d ∈ tables_1, d.before a0' Z = true) (hEL : EW Z a0' EL0) (hSA : ∀ a ∈ Bundle.stringAtoms, a.before a0' Z = true) (h : Heap) (a src : Addr) (cpt : Int32) (SCP : Sta Z Z.heap "java/lang/String" "COMPACT_STRINGS" "Z" (.int cpt)) (hcp : ¬ cpt = 0) (cs : List Int32) (hn : cs.length ≤ 3) (h0 : cs.length ≠ 0) (hch : ∀ c ∈ cs, Ch c) (hlat : lat cs) (E : Exa Z h a "java/lang/String") (FV : Fld Z h a "java/lang/String" "value" "[B" .null) (FC : Fld Z h a "java/lang/String" "coder" "B" (.int 0)) (A : Al Z h src .char (iv' cs)) :
    Con l Z EL0 (⟨"java/lang/String", "<init>", "([CIILjava/lang/Void;)V"⟩ : MethodName) jdk_42_method_149_code 6 none ⟨2, 4, 8, 35⟩ #[.ref a, .ref src, .int 0, .int (Int32.ofNat cs.length), .null] h [a] (fun v h' => ∃ b, v = none ∧ b ≠ a ∧ Keep h h' [a] ∧ Str Z h' a b cs) (fun _ => []) := by
  refine Con.of (Ls := #[.val (.ref a), .val (.ref src), .val (.int (0 : Int32)), .val (.int (Int32.ofNat cs.length)), .val (.null), .unset]) hw hEL pn3 (fun m => by first | (simp [entryFrame, mkF, argsToLocals, Value.category, maxLocals]; done) | rfl) fun W C => ?_
  refine C.kept fun hE => ?_
  have z0 : Z.heap.size ≤ h.size := hE.1
  refine C.aloadN 1 d3_0 rfl rfl rfl ?_
  refine C.initObj 4 0 d3_1 rfl (tw 15) (tw 16) (tw 17) rfl (by decide) (Nat.le_of_eq rfl) (by decide) ?_
  refine C.iloadN 5 d3_4 rfl rfl ?_
  refine C.ifT 27 d3_5 rfl ((if0 _ _).trans (feq (o_ne (by omega) h0)).2) ?_
  refine C.getstatic 30 d3_27 rfl (tw 18) SCP ?_
  refine C.ifF 33 d3_30 rfl ((if0 _ _).trans (feq hcp).1) ?_
  refine C.aloadN 34 d3_33 rfl rfl rfl ?_
  refine C.iloadN 35 d3_34 rfl rfl ?_
  refine C.iloadN 36 d3_35 rfl rfl ?_
  refine C.callS 39 (as := [.ref src, .int (0 : Int32), .int (Int32.ofNat cs.length)]) (rest := []) (rm := ⟨1, 1, 3, 18⟩) 0 d3_36 rfl (tw 19) (tw 20) (tw 21) (tw 22) (by decide) (c3 l Z a0' hw hEL hSA h cpt SCP hcp src cs hn hch hlat A) (by simp) pd5 rfl rfl (Nat.le_of_eq rfl) (by decide) (by decide) (by decide) (by decide) rfl ?_
  rintro v h1 ⟨b, rfl, gb, E1, B1⟩
  have z1 : Z.heap.size ≤ h1.size := Nat.le_trans z0 E1.1
  have nab : a ≠ b := Nat.ne_of_lt (Nat.lt_of_lt_of_le E.lt gb)
  show W h1 [a] 1 3 39 #[.val (.ref a), .val (.ref src), .val (.int (0 : Int32)), .val (.int (Int32.ofNat cs.length)), .val (.null), .unset] [.ref b]
  refine C.astore 41 #[.val (.ref a), .val (.ref src), .val (.int (0 : Int32)), .val (.int (Int32.ofNat cs.length)), .val (.null), .val (.ref b)] d3_39 rfl rfl rfl ?_
  refine C.aloadN 42 d3_41 rfl rfl rfl ?_
  refine C.aload 44 d3_42 rfl rfl rfl ?_
  refine C.iloadN 45 d3_44 rfl rfl ?_
  refine C.callS 48 (as := [.ref b, .int (Int32.ofNat cs.length)]) (rest := [.ref a]) (rm := ⟨0, 0, 0, 0⟩) 1 d3_45 rfl (tw 27) (tw 28) (tw 21) (tw 29) (by decide) (cfa l Z a0' hw hEL hSA h1 b cs (by omega) h0 B1) (by simp) pd7 rfl rfl (Nat.le_of_eq rfl) (by decide) (by decide) (by decide) (by decide) rfl ?_
  refine same_intro ?_
  show W h1 [a] 1 3 48 #[.val (.ref a), .val (.ref src), .val (.int (0 : Int32)), .val (.int (Int32.ofNat cs.length)), .val (.null), .val (.ref b)] [.int (cod cs), .ref a]
  have FC1 := FC.ext E1
  have FV1 := FV.ext E1
  have X1 := E.ext E1
  have cod01 : cod cs = 0 ∨ cod cs = 1 := by unfold cod; split <;> simp
  have nb : narrow .byte (.int (cod cs)) = .int (cod cs) := by rcases cod01 with q | q <;> rw [q] <;> rfl
  have fb : fits .byte (.int (cod cs)) = true := by rcases cod01 with q | q <;> rw [q] <;> rfl
  refine C.putfield 51 (v' := .int (cod cs)) .byte d3_48 rfl (tw 30) Via.refl FC1 X1 (Or.inr ⟨(tw 31), rfl, rfl⟩) (tw 6) (by decide) nb fb (by simp) ?_
  intro h2 W2
  have z2 : Z.heap.size ≤ h2.size := by rw [W2.size]; exact z1
  refine C.aloadN 52 d3_51 rfl rfl rfl ?_
  refine C.aload 54 d3_52 rfl rfl rfl ?_
  have FV2 := FV1.other W2 (Or.inr (slot_ne (Or.inr (hw _ (tw 33))) (Or.inr (hw _ (tw 31))) (by decide) (t := (.array .byte)) (t' := .byte) (by decide) (by decide)))
  refine C.putfield 57 (v' := .ref b) (.array .byte) d3_54 rfl (tw 32) Via.refl FV2 (X1.wr W2) (Or.inr ⟨(tw 33), rfl, rfl⟩) (tw 6) (by decide) rfl rfl (by simp) ?_
  intro h3 W3
  have z3 : Z.heap.size ≤ h3.size := by rw [W3.size]; exact z2
  have FC3 := (FC1.same W2).other W3 (Or.inr (slot_ne (Or.inr (hw _ (tw 31))) (Or.inr (hw _ (tw 33))) (by decide) (t := .byte) (t' := (.array .byte)) (by decide) (by decide)))
  have B3 := (B1.keep (Keep.of_wr W2) (ninS nab.symm nin0)).keep (Keep.of_wr W3) (ninS nab.symm nin0)
  exact C.ret0 d3_57 rfl (by decide) (by decide) ⟨b, rfl, nab.symm, (((Keep.refl h [a]).ext E1).wr W2 (Or.inl (List.mem_of_getElem? (i := 0) rfl))).wr W3 (Or.inl (List.mem_of_getElem? (i := 0) rfl)), (X1.wr W2).wr W3, FV2.same W3, FC3, B3⟩ (fun _ q => nomatch q)
set_option maxRecDepth 65536 in
set_option maxHeartbeats 40000000 in
theorem si4e (l : Launch) (Z : State) (a0' : Array Value) (hw : ∀ d ∈ tables_1, d.before a0' Z = true) (hEL : EW Z a0' EL0) (hSA : ∀ a ∈ Bundle.stringAtoms, a.before a0' Z = true) (h : Heap) (a src : Addr) (cpt : Int32) (SCP : Sta Z Z.heap "java/lang/String" "COMPACT_STRINGS" "Z" (.int cpt)) (hcp : ¬ cpt = 0) (cs : List Int32) (hn : cs.length ≤ 3) (h0 : cs = []) (hch : ∀ c ∈ cs, Ch c) (hlat : lat cs) (E : Exa Z h a "java/lang/String") (FV : Fld Z h a "java/lang/String" "value" "[B" .null) (FC : Fld Z h a "java/lang/String" "coder" "B" (.int 0)) (A : Al Z h src .char (iv' cs)) :
    Con l Z EL0 (⟨"java/lang/String", "<init>", "([CIILjava/lang/Void;)V"⟩ : MethodName) jdk_42_method_149_code 6 none ⟨2, 4, 8, 35⟩ #[.ref a, .ref src, .int 0, .int (Int32.ofNat cs.length), .null] h [a] (fun v h' => ∃ b, v = none ∧ b ≠ a ∧ Keep h h' [a] ∧ Str Z h' a b cs) (fun _ => []) := by
  refine Con.of (Ls := #[.val (.ref a), .val (.ref src), .val (.int (0 : Int32)), .val (.int (Int32.ofNat cs.length)), .val (.null), .unset]) hw hEL pn3 (fun m => by first | (simp [entryFrame, mkF, argsToLocals, Value.category, maxLocals]; done) | rfl) fun W C => ?_
  refine C.kept fun hE => ?_
  have z0 : Z.heap.size ≤ h.size := hE.1
  subst h0
  refine C.aloadN 1 d3_0 rfl rfl rfl ?_
  refine C.initObj 4 0 d3_1 rfl (tw 15) (tw 16) (tw 17) rfl (by decide) (Nat.le_of_eq rfl) (by decide) ?_
  refine C.iloadN 5 d3_4 rfl rfl ?_
  show W h [a] 0 0 5 #[.val (.ref a), .val (.ref src), .val (.int (0 : Int32)), .val (.int (0 : Int32)), .val (.null), .unset] [.int (0 : Int32)]
  refine C.ifF 8 d3_5 rfl (by decide) ?_
  refine C.aloadN 9 d3_8 rfl rfl rfl ?_
  refine C.ldcC 11 (vs := []) 0 0 d3_9 rfl (tw 34) hSA (by simp [EL0]) ⟨by simp, rfl⟩ (by decide) rfl (by decide) (by decide) (by decide) (by decide) ?_
  intro h1 u1 v1 E1 Y1 V1 D1 A1 ne1
  have z1 : Z.heap.size ≤ h1.size := Nat.le_trans z0 E1.1
  show W h1 [a] 2 4 11 #[.val (.ref a), .val (.ref src), .val (.int (0 : Int32)), .val (.int (0 : Int32)), .val (.null), .unset] [.ref u1, .ref a]
  refine C.getfield 14 d3_11 rfl (tw 32) Via.refl V1 ?_
  have FV1 := FV.ext E1
  have FC1 := FC.ext E1
  have X1 := E.ext E1
  have na := ne1 a (by simp)
  refine C.putfield 17 (v' := .ref v1) (.array .byte) d3_14 rfl (tw 32) Via.refl FV1 X1 (Or.inr ⟨(tw 33), rfl, rfl⟩) (tw 6) (by decide) rfl rfl (by simp) ?_
  intro h2 W2
  have z2 : Z.heap.size ≤ h2.size := by rw [W2.size]; exact z1
  have FV2 := FV1.same W2
  have FC2 := FC1.other W2 (Or.inr (slot_ne (Or.inr (hw _ (tw 31))) (Or.inr (hw _ (tw 33))) (by decide) (t := .byte) (t' := (.array .byte)) (by decide) (by decide)))
  have X2 := X1.wr W2
  have A2 := A1.keep (Keep.of_wr W2) (ninS na.2.symm nin0)
  refine C.aloadN 18 d3_17 rfl rfl rfl ?_
  refine C.ldcC 20 (vs := []) 0 0 d3_18 rfl (tw 34) hSA (by simp [EL0]) ⟨by simp, rfl⟩ (by decide) rfl (by decide) (by decide) (by decide) (by decide) ?_
  intro h3 u3 v3 E3 Y3 V3 D3 A3 ne3
  have z3 : Z.heap.size ≤ h3.size := Nat.le_trans z2 E3.1
  show W h3 [a] 4 8 20 #[.val (.ref a), .val (.ref src), .val (.int (0 : Int32)), .val (.int (0 : Int32)), .val (.null), .unset] [.ref u3, .ref a]
  refine C.getfield 23 d3_20 rfl (tw 30) Via.refl D3 ?_
  have FV3 := FV2.ext E3
  have FC3 := FC2.ext E3
  have X3 := X2.ext E3
  have A4 := A2.ext E3
  refine C.putfield 26 (v' := .int (0 : Int32)) .byte d3_23 rfl (tw 30) Via.refl FC3 X3 (Or.inr ⟨(tw 31), rfl, rfl⟩) (tw 6) (by decide) rfl rfl (by simp) ?_
  intro h4 W4
  have z4 : Z.heap.size ≤ h4.size := by rw [W4.size]; exact z3
  exact C.ret0 d3_26 rfl (by decide) (by decide) ⟨v1, rfl, na.2.symm, ((((Keep.refl h [a]).ext E1).wr W2 (Or.inl (List.mem_of_getElem? (i := 0) rfl))).ext E3).wr W4 (Or.inl (List.mem_of_getElem? (i := 0) rfl)), X3.wr W4, FV3.other W4 (Or.inr (slot_ne (Or.inr (hw _ (tw 33))) (Or.inr (hw _ (tw 31))) (by decide) (t := (.array .byte)) (t' := .byte) (by decide) (by decide))), FC3.same W4, A4.keep (Keep.of_wr W4) (ninS na.2.symm nin0)⟩ (fun _ q => nomatch q)
theorem d2_0 : decode jdk_42_method_3_code 0 = .ok (.aload_n 0, 1) := by decide +kernel
theorem d2_1 : decode jdk_42_method_3_code 1 = .ok (.aload_n 1, 1) := by decide +kernel
theorem d2_2 : decode jdk_42_method_3_code 2 = .ok (.iconst 0, 1) := by decide +kernel
theorem d2_3 : decode jdk_42_method_3_code 3 = .ok (.aload_n 1, 1) := by decide +kernel
theorem d2_4 : decode jdk_42_method_3_code 4 = .ok (.arraylength, 1) := by decide +kernel
theorem d2_5 : decode jdk_42_method_3_code 5 = .ok (.aconst_null, 1) := by decide +kernel
theorem d2_6 : decode jdk_42_method_3_code 6 = .ok (.invokespecial 27, 3) := by decide +kernel
theorem d2_9 : decode jdk_42_method_3_code 9 = .ok (.return_, 1) := by decide +kernel
theorem pn2 : plainFor (⟨"java/lang/String", "<init>", "([C)V"⟩ : MethodName) = true := by first | exact plainFor_of_name (by first | (simp [plainName, overriddenIn]; done) | decide +kernel) | decide +kernel
theorem pd2 : parseMethodDescriptor "([C)V" = some ⟨[(.array .char)], none⟩ := by decide +kernel
set_option maxRecDepth 65536 in
set_option maxHeartbeats 40000000 in
theorem si1 (l : Launch) (Z : State) (a0' : Array Value) (hw : ∀ d ∈ tables_1, d.before a0' Z = true) (hEL : EW Z a0' EL0) (hSA : ∀ a ∈ Bundle.stringAtoms, a.before a0' Z = true) (h : Heap) (a src : Addr) (cpt : Int32) (SCP : Sta Z Z.heap "java/lang/String" "COMPACT_STRINGS" "Z" (.int cpt)) (hcp : ¬ cpt = 0) (cs : List Int32) (hn : cs.length ≤ 3) (h0 : cs.length ≠ 0) (hch : ∀ c ∈ cs, Ch c) (hlat : lat cs) (E : Exa Z h a "java/lang/String") (FV : Fld Z h a "java/lang/String" "value" "[B" .null) (FC : Fld Z h a "java/lang/String" "coder" "B" (.int 0)) (A : Al Z h src .char (iv' cs)) :
    Con l Z EL0 (⟨"java/lang/String", "<init>", "([C)V"⟩ : MethodName) jdk_42_method_3_code 2 none ⟨3, 4, 8, 52⟩ #[.ref a, .ref src] h [a] (fun v h' => ∃ b, v = none ∧ b ≠ a ∧ Keep h h' [a] ∧ Str Z h' a b cs) (fun _ => []) := by
  refine Con.of (Ls := #[.val (.ref a), .val (.ref src)]) hw hEL pn2 (fun m => by first | (simp [entryFrame, mkF, argsToLocals, Value.category, maxLocals]; done) | rfl) fun W C => ?_
  refine C.kept fun hE => ?_
  have z0 : Z.heap.size ≤ h.size := hE.1
  refine C.aloadN 1 d2_0 rfl rfl rfl ?_
  refine C.aloadN 2 d2_1 rfl rfl rfl ?_
  refine C.iconst 3 (0 : Int32) d2_2 rfl rfl ?_
  refine C.aloadN 4 d2_3 rfl rfl rfl ?_
  refine C.arraylength 5 (Int32.ofNat cs.length) d2_4 rfl A (by simp) ?_
  refine C.aconstNull 6 d2_5 rfl ?_
  refine C.callI 9 (a := a) (as := [.ref src, .int (0 : Int32), .int (Int32.ofNat cs.length), .null]) (rest := []) (rm := ⟨2, 4, 8, 35⟩) 0 d2_6 rfl rfl rfl (tw 11) (tw 12) (tw 7) (tw 14) (by decide) (si4 l Z a0' hw hEL hSA h a src cpt SCP hcp cs hn h0 hch hlat E FV FC A) (by simp) pd3 rfl rfl (Nat.le_of_eq rfl) (by decide) (by decide) (by decide) (by decide) rfl ?_
  rintro v h1 ⟨b, rfl, gb, K1, S1⟩
  show W h1 [a] 4 8 9 #[.val (.ref a), .val (.ref src)] []
  exact C.ret0 d2_9 rfl (by decide) (by decide) ⟨b, rfl, gb, K1, S1⟩ (fun _ q => nomatch q)
set_option maxRecDepth 65536 in
set_option maxHeartbeats 40000000 in
theorem si1e (l : Launch) (Z : State) (a0' : Array Value) (hw : ∀ d ∈ tables_1, d.before a0' Z = true) (hEL : EW Z a0' EL0) (hSA : ∀ a ∈ Bundle.stringAtoms, a.before a0' Z = true) (h : Heap) (a src : Addr) (cpt : Int32) (SCP : Sta Z Z.heap "java/lang/String" "COMPACT_STRINGS" "Z" (.int cpt)) (hcp : ¬ cpt = 0) (cs : List Int32) (hn : cs.length ≤ 3) (h0 : cs = []) (hch : ∀ c ∈ cs, Ch c) (hlat : lat cs) (E : Exa Z h a "java/lang/String") (FV : Fld Z h a "java/lang/String" "value" "[B" .null) (FC : Fld Z h a "java/lang/String" "coder" "B" (.int 0)) (A : Al Z h src .char (iv' cs)) :
    Con l Z EL0 (⟨"java/lang/String", "<init>", "([C)V"⟩ : MethodName) jdk_42_method_3_code 2 none ⟨3, 4, 8, 52⟩ #[.ref a, .ref src] h [a] (fun v h' => ∃ b, v = none ∧ b ≠ a ∧ Keep h h' [a] ∧ Str Z h' a b cs) (fun _ => []) := by
  refine Con.of (Ls := #[.val (.ref a), .val (.ref src)]) hw hEL pn2 (fun m => by first | (simp [entryFrame, mkF, argsToLocals, Value.category, maxLocals]; done) | rfl) fun W C => ?_
  refine C.kept fun hE => ?_
  have z0 : Z.heap.size ≤ h.size := hE.1
  refine C.aloadN 1 d2_0 rfl rfl rfl ?_
  refine C.aloadN 2 d2_1 rfl rfl rfl ?_
  refine C.iconst 3 (0 : Int32) d2_2 rfl rfl ?_
  refine C.aloadN 4 d2_3 rfl rfl rfl ?_
  refine C.arraylength 5 (Int32.ofNat cs.length) d2_4 rfl A (by simp) ?_
  refine C.aconstNull 6 d2_5 rfl ?_
  refine C.callI 9 (a := a) (as := [.ref src, .int (0 : Int32), .int (Int32.ofNat cs.length), .null]) (rest := []) (rm := ⟨2, 4, 8, 35⟩) 0 d2_6 rfl rfl rfl (tw 11) (tw 12) (tw 7) (tw 14) (by decide) (si4e l Z a0' hw hEL hSA h a src cpt SCP hcp cs hn h0 hch hlat E FV FC A) (by simp) pd3 rfl rfl (Nat.le_of_eq rfl) (by decide) (by decide) (by decide) (by decide) rfl ?_
  rintro v h1 ⟨b, rfl, gb, K1, S1⟩
  show W h1 [a] 4 8 9 #[.val (.ref a), .val (.ref src)] []
  exact C.ret0 d2_9 rfl (by decide) (by decide) ⟨b, rfl, gb, K1, S1⟩ (fun _ q => nomatch q)
theorem d15_0 : decode jdk_43_method_13_code 0 = .ok (.aload_n 0, 1) := by decide +kernel
theorem d15_1 : decode jdk_43_method_13_code 1 = .ok (.arraylength, 1) := by decide +kernel
theorem d15_2 : decode jdk_43_method_13_code 2 = .ok (.aload_n 1, 1) := by decide +kernel
theorem d15_3 : decode jdk_43_method_13_code 3 = .ok (.arraylength, 1) := by decide +kernel
theorem d15_4 : decode jdk_43_method_13_code 4 = .ok (.if_icmp .ne 30, 3) := by decide +kernel
theorem d15_7 : decode jdk_43_method_13_code 7 = .ok (.iconst 0, 1) := by decide +kernel
theorem d15_8 : decode jdk_43_method_13_code 8 = .ok (.istore_n 2, 1) := by decide +kernel
theorem d15_9 : decode jdk_43_method_13_code 9 = .ok (.iload_n 2, 1) := by decide +kernel
theorem d15_10 : decode jdk_43_method_13_code 10 = .ok (.aload_n 0, 1) := by decide +kernel
theorem d15_11 : decode jdk_43_method_13_code 11 = .ok (.arraylength, 1) := by decide +kernel
theorem d15_12 : decode jdk_43_method_13_code 12 = .ok (.if_icmp .ge 20, 3) := by decide +kernel
theorem d15_15 : decode jdk_43_method_13_code 15 = .ok (.aload_n 0, 1) := by decide +kernel
theorem d15_16 : decode jdk_43_method_13_code 16 = .ok (.iload_n 2, 1) := by decide +kernel
theorem d15_17 : decode jdk_43_method_13_code 17 = .ok (.baload, 1) := by decide +kernel
theorem d15_18 : decode jdk_43_method_13_code 18 = .ok (.aload_n 1, 1) := by decide +kernel
theorem d15_19 : decode jdk_43_method_13_code 19 = .ok (.iload_n 2, 1) := by decide +kernel
theorem d15_20 : decode jdk_43_method_13_code 20 = .ok (.baload, 1) := by decide +kernel
theorem d15_21 : decode jdk_43_method_13_code 21 = .ok (.if_icmp .eq 5, 3) := by decide +kernel
theorem d15_24 : decode jdk_43_method_13_code 24 = .ok (.iconst 0, 1) := by decide +kernel
theorem d15_25 : decode jdk_43_method_13_code 25 = .ok (.ireturn, 1) := by decide +kernel
theorem d15_26 : decode jdk_43_method_13_code 26 = .ok (.iinc 2 1, 3) := by decide +kernel
theorem d15_29 : decode jdk_43_method_13_code 29 = .ok (.goto (-20), 3) := by decide +kernel
theorem d15_32 : decode jdk_43_method_13_code 32 = .ok (.iconst 1, 1) := by decide +kernel
theorem d15_33 : decode jdk_43_method_13_code 33 = .ok (.ireturn, 1) := by decide +kernel
theorem d15_34 : decode jdk_43_method_13_code 34 = .ok (.iconst 0, 1) := by decide +kernel
theorem d15_35 : decode jdk_43_method_13_code 35 = .ok (.ireturn, 1) := by decide +kernel
theorem pn15 : plainFor (⟨"java/lang/StringLatin1", "equals", "([B[B)Z"⟩ : MethodName) = true := by first | exact plainFor_of_name (by first | (simp [plainName, overriddenIn]; done) | decide +kernel) | decide +kernel
theorem pd15 : parseMethodDescriptor "([B[B)Z" = some ⟨[(.array .byte), (.array .byte)], some .boolean⟩ := by decide +kernel
theorem map8_inj : ∀ cs ds : List Int32, (∀ c ∈ cs, Ch c) → (∀ c ∈ ds, Ch c) → lat cs → lat ds → cs.map by8 = ds.map by8 → cs = ds
  | [], [], _, _, _, _, _ => rfl
  | [], d :: ds, _, _, _, _, h => by simp at h
  | c :: cs, [], _, _, _, _, h => by simp at h
  | c :: cs, d :: ds, h1, h2, l1, l2, h => by
    rw [List.map_cons, List.map_cons] at h
    obtain ⟨q, r⟩ := List.cons.inj h
    have a := gl8 (h1 c (by simp)) (l1 c (by simp))
    have b := gl8 (h2 d (by simp)) (l2 d (by simp))
    rw [q, b] at a
    rw [a, map8_inj cs ds (fun x hx => h1 x (List.mem_cons_of_mem _ hx)) (fun x hx => h2 x (List.mem_cons_of_mem _ hx)) (fun x hx => l1 x (List.mem_cons_of_mem _ hx)) (fun x hx => l2 x (List.mem_cons_of_mem _ hx)) r]
theorem u16_inj : ∀ cs ds : List Int32, (∀ c ∈ cs, Ch c) → (∀ c ∈ ds, Ch c) → u16 cs = u16 ds → cs = ds
  | [], [], _, _, _ => rfl
  | [], d :: ds, _, _, h => by simp [u16] at h
  | c :: cs, [], _, _, h => by simp [u16] at h
  | c :: cs, d :: ds, h1, h2, h => by
    obtain ⟨q, r⟩ := List.cons.inj (show b0 c :: b1 c :: u16 cs = b0 d :: b1 d :: u16 ds from h)
    obtain ⟨q', r⟩ := List.cons.inj r
    have a := gl16 (h1 c (by simp))
    have b := gl16 (h2 d (by simp))
    rw [q, q', b] at a
    rw [a, u16_inj cs ds (fun x hx => h1 x (List.mem_cons_of_mem _ hx)) (fun x hx => h2 x (List.mem_cons_of_mem _ hx)) r]
theorem enc_inj {cs ds : List Int32} (h1 : ∀ c ∈ cs, Ch c) (h2 : ∀ c ∈ ds, Ch c) (hk : cod cs = cod ds) (h : enc cs = enc ds) : cs = ds := by
  by_cases a : lat cs <;> by_cases b : lat ds
  · rw [enc_l a, enc_l b] at h; exact map8_inj cs ds h1 h2 a b h
  · rw [cod_l a, cod_u b] at hk; exact absurd hk (by decide)
  · rw [cod_u a, cod_l b] at hk; exact absurd hk (by decide)
  · rw [enc_u a, enc_u b] at h; exact u16_inj cs ds h1 h2 h
theorem enc_len {cs : List Int32} (h : cs.length < 2 ^ 28) : (enc cs).length < 2 ^ 30 := by
  by_cases a : lat cs
  · rw [enc_l a, List.length_map]; omega
  · rw [enc_u a, u16_len]; omega
theorem enc_if {cs ds : List Int32} {r : Int32} (h1 : ∀ c ∈ cs, Ch c) (h2 : ∀ c ∈ ds, Ch c) (hk : cod cs = cod ds) (hr : r = if cs = ds then 1 else 0) : r = if enc cs = enc ds then 1 else 0 := by
  rw [hr]
  by_cases q : cs = ds
  · rw [if_pos q, if_pos (by rw [q])]
  · rw [if_neg q, if_neg (fun z => q (enc_inj h1 h2 hk z))]
set_option maxRecDepth 65536 in
set_option maxHeartbeats 40000000 in
theorem eqL_loop {W : Wk} {l : Launch} {Z : State} {a0' : Array Value} {R : Room} {Q : Option Value → Heap → Prop} (C : Walk W l Z a0' tables_1 EL0 "java/lang/StringLatin1" jdk_43_method_13_code 3 (some .boolean) "equals" R Q (fun _ => [])) {ck cs' : Nat} (hck : ck ≤ R.cells) (hcs : cs' ≤ R.slots) (os : List Addr) (x y : Addr) (h : Heap) (xs ys : List Int32) (hn : xs.length < 2 ^ 30) (A : Al Z h x .byte (iv' xs)) (B : Al Z h y .byte (iv' ys)) :
    ∀ (r1 r2 pre : List Int32), xs = pre ++ r1 → ys = pre ++ r2 → r1.length = r2.length → (r1 = r2 → Q (some (.int 1)) h) → (¬ r1 = r2 → Q (some (.int 0)) h) → W h os ck cs' 9 #[.val (.ref x), .val (.ref y), .val (.int (Int32.ofNat pre.length))] []
  | [], r2, pre, e1, e2, hl, K1, K0 => by
    have e2' : r2 = [] := List.length_eq_zero_iff.mp hl.symm
    have el : pre.length = xs.length := by rw [e1, List.append_nil]
    have q : ¬ Int32.ofNat pre.length < Int32.ofNat xs.length := by rw [el]; exact Int32.lt_irrefl
    refine C.iloadN 10 d15_9 rfl rfl ?_
    refine C.aloadN 11 d15_10 rfl rfl rfl ?_
    refine C.arraylength 12 (Int32.ofNat xs.length) d15_11 rfl A (by simp) ?_
    refine C.icmpT 32 d15_12 rfl (flt q).2.1 ?_
    refine C.iconst 33 (1 : Int32) d15_32 rfl rfl ?_
    exact C.retI .boolean d15_33 rfl (by simp) rfl hck hcs (K1 e2'.symm) (fun _ q => nomatch q)
  | a :: r1, [], pre, e1, e2, hl, K1, K0 => by simp at hl
  | a :: r1, b :: r2, pre, e1, e2, hl, K1, K0 => by
    have hlen : pre.length < xs.length := by rw [e1, List.length_append, List.length_cons]; omega
    have q : Int32.ofNat pre.length < Int32.ofNat xs.length := (o_lt (by omega) (by omega)).mpr hlen
    refine C.iloadN 10 d15_9 rfl rfl ?_
    refine C.aloadN 11 d15_10 rfl rfl rfl ?_
    refine C.arraylength 12 (Int32.ofNat xs.length) d15_11 rfl A (by simp) ?_
    refine C.icmpF 15 d15_12 rfl (tlt q).2.1 ?_
    refine C.aloadN 16 d15_15 rfl rfl rfl ?_
    refine C.iloadN 17 d15_16 rfl rfl ?_
    refine C.baloadB 18 pre.length (.int a) d15_17 rfl A (o_nn (by omega)) (o_cl (by omega)) (by rw [e1]; simp) ?_
    refine C.aloadN 19 d15_18 rfl rfl rfl ?_
    refine C.iloadN 20 d15_19 rfl rfl ?_
    refine C.baloadB 21 pre.length (.int b) d15_20 rfl B (o_nn (by omega)) (o_cl (by omega)) (by rw [e2]; simp) ?_
    by_cases hc : a = b
    · refine C.icmpT 26 d15_21 rfl (teq hc).1 ?_
      refine C.iinc 29 #[.val (.ref x), .val (.ref y), .val (.int ((Int32.ofNat pre.length) + (1 : Int32)))] d15_26 rfl rfl rfl ?_
      have e3 : Int32.ofNat pre.length + (1 : Int32) = Int32.ofNat (pre ++ [a]).length := by rw [List.length_append]; exact o_add pre.length 1
      show W h os ck cs' 29 #[.val (.ref x), .val (.ref y), .val (.int ((Int32.ofNat pre.length) + (1 : Int32)))] []
      rw [e3]
      refine C.goto 9 d15_29 rfl ?_
      exact eqL_loop C hck hcs os x y h xs ys hn A B r1 r2 (pre ++ [a]) (by rw [e1]; simp) (by rw [e2, hc]; simp) (by simpa using hl) (fun z => K1 (by rw [z, hc])) (fun z => K0 (fun w => z (List.cons.inj w).2))
    · refine C.icmpF 24 d15_21 rfl (feq hc).1 ?_
      refine C.iconst 25 (0 : Int32) d15_24 rfl rfl ?_
      exact C.retI .boolean d15_25 rfl (by simp) rfl hck hcs (K0 (fun w => hc (List.cons.inj w).1)) (fun _ q => nomatch q)
set_option maxRecDepth 65536 in
set_option maxHeartbeats 40000000 in
theorem eqL (l : Launch) (Z : State) (a0' : Array Value) (hw : ∀ d ∈ tables_1, d.before a0' Z = true) (hEL : EW Z a0' EL0) (hSA : ∀ a ∈ Bundle.stringAtoms, a.before a0' Z = true) (h : Heap) (x y : Addr) (xs ys : List Int32) (hn : xs.length < 2 ^ 30) (hm : ys.length < 2 ^ 30) (A : Al Z h x .byte (iv' xs)) (B : Al Z h y .byte (iv' ys)) (r : Int32) (hr : r = if xs = ys then 1 else 0) :
    Con l Z EL0 (⟨"java/lang/StringLatin1", "equals", "([B[B)Z"⟩ : MethodName) jdk_43_method_13_code 3 (some .boolean) ⟨0, 0, 0, 0⟩ #[.ref x, .ref y] h [] (Same (some (.int r)) h) (fun _ => []) := by
  refine Con.of (Ls := #[.val (.ref x), .val (.ref y), .unset]) hw hEL pn15 (fun m => by first | (simp [entryFrame, mkF, argsToLocals, Value.category, maxLocals]; done) | rfl) fun W C => ?_
  refine C.kept fun hE => ?_
  have z0 : Z.heap.size ≤ h.size := hE.1
  refine C.aloadN 1 d15_0 rfl rfl rfl ?_
  refine C.arraylength 2 (Int32.ofNat xs.length) d15_1 rfl A (by simp) ?_
  refine C.aloadN 3 d15_2 rfl rfl rfl ?_
  refine C.arraylength 4 (Int32.ofNat ys.length) d15_3 rfl B (by simp) ?_
  by_cases hl : xs.length = ys.length
  · have q : Int32.ofNat xs.length = Int32.ofNat ys.length := by rw [hl]
    refine C.icmpF 7 d15_4 rfl (teq q).2 ?_
    refine C.iconst 8 (0 : Int32) d15_7 rfl rfl ?_
    refine C.istoreN 9 #[.val (.ref x), .val (.ref y), .val (.int (0 : Int32))] d15_8 rfl rfl ?_
    exact eqL_loop C (by decide) (by decide) [] x y h xs ys hn A B xs ys [] rfl rfl hl (fun z => ⟨by rw [hr, if_pos z], rfl⟩) (fun z => ⟨by rw [hr, if_neg z], rfl⟩)
  · have q : ¬ Int32.ofNat xs.length = Int32.ofNat ys.length := fun z => hl (o_inj (by omega) (by omega) z)
    refine C.icmpT 34 d15_4 rfl (feq q).2 ?_
    refine C.iconst 35 (0 : Int32) d15_34 rfl rfl ?_
    exact C.retI .boolean d15_35 rfl (by simp) rfl (by decide) (by decide) ⟨by rw [hr, if_neg (fun z => hl (by rw [z]))], rfl⟩ (fun _ q => nomatch q)
theorem d14_0 : decode jdk_42_method_66_code 0 = .ok (.aload_n 0, 1) := by decide +kernel
theorem d14_1 : decode jdk_42_method_66_code 1 = .ok (.aload_n 1, 1) := by decide +kernel
theorem d14_2 : decode jdk_42_method_66_code 2 = .ok (.if_acmp .ne 5, 3) := by decide +kernel
theorem d14_5 : decode jdk_42_method_66_code 5 = .ok (.iconst 1, 1) := by decide +kernel
theorem d14_6 : decode jdk_42_method_66_code 6 = .ok (.ireturn, 1) := by decide +kernel
theorem d14_7 : decode jdk_42_method_66_code 7 = .ok (.aload_n 1, 1) := by decide +kernel
theorem d14_8 : decode jdk_42_method_66_code 8 = .ok (.instanceof 10, 3) := by decide +kernel
theorem d14_11 : decode jdk_42_method_66_code 11 = .ok (.ifCond .eq 43, 3) := by decide +kernel
theorem d14_14 : decode jdk_42_method_66_code 14 = .ok (.aload_n 1, 1) := by decide +kernel
theorem d14_15 : decode jdk_42_method_66_code 15 = .ok (.checkcast 10, 3) := by decide +kernel
theorem d14_18 : decode jdk_42_method_66_code 18 = .ok (.astore_n 2, 1) := by decide +kernel
theorem d14_19 : decode jdk_42_method_66_code 19 = .ok (.getstatic 38, 3) := by decide +kernel
theorem d14_22 : decode jdk_42_method_66_code 22 = .ok (.ifCond .eq 14, 3) := by decide +kernel
theorem d14_25 : decode jdk_42_method_66_code 25 = .ok (.aload_n 0, 1) := by decide +kernel
theorem d14_26 : decode jdk_42_method_66_code 26 = .ok (.getfield 15, 3) := by decide +kernel
theorem d14_29 : decode jdk_42_method_66_code 29 = .ok (.aload_n 2, 1) := by decide +kernel
theorem d14_30 : decode jdk_42_method_66_code 30 = .ok (.getfield 15, 3) := by decide +kernel
theorem d14_33 : decode jdk_42_method_66_code 33 = .ok (.if_icmp .ne 21, 3) := by decide +kernel
theorem d14_36 : decode jdk_42_method_66_code 36 = .ok (.aload_n 0, 1) := by decide +kernel
theorem d14_37 : decode jdk_42_method_66_code 37 = .ok (.getfield 9, 3) := by decide +kernel
theorem d14_40 : decode jdk_42_method_66_code 40 = .ok (.aload_n 2, 1) := by decide +kernel
theorem d14_41 : decode jdk_42_method_66_code 41 = .ok (.getfield 9, 3) := by decide +kernel
theorem d14_44 : decode jdk_42_method_66_code 44 = .ok (.invokestatic 541, 3) := by decide +kernel
theorem d14_47 : decode jdk_42_method_66_code 47 = .ok (.ifCond .eq 7, 3) := by decide +kernel
theorem d14_50 : decode jdk_42_method_66_code 50 = .ok (.iconst 1, 1) := by decide +kernel
theorem d14_51 : decode jdk_42_method_66_code 51 = .ok (.goto 4, 3) := by decide +kernel
theorem d14_54 : decode jdk_42_method_66_code 54 = .ok (.iconst 0, 1) := by decide +kernel
theorem d14_55 : decode jdk_42_method_66_code 55 = .ok (.ireturn, 1) := by decide +kernel
theorem pn14 : plainFor (⟨"java/lang/String", "equals", "(Ljava/lang/Object;)Z"⟩ : MethodName) = true := by first | exact plainFor_of_name (by first | (simp [plainName, overriddenIn]; done) | decide +kernel) | decide +kernel
theorem pd14 : parseMethodDescriptor "(Ljava/lang/Object;)Z" = some ⟨[(.object "java/lang/Object")], some .boolean⟩ := by decide +kernel
set_option maxRecDepth 65536 in
set_option maxHeartbeats 40000000 in
theorem seq (l : Launch) (Z : State) (a0' : Array Value) (hw : ∀ d ∈ tables_1, d.before a0' Z = true) (hEL : EW Z a0' EL0) (hSA : ∀ a ∈ Bundle.stringAtoms, a.before a0' Z = true) (h : Heap) (cpt : Int32) (SCP : Sta Z Z.heap "java/lang/String" "COMPACT_STRINGS" "Z" (.int cpt)) (hcp : ¬ cpt = 0) (a b va vb : Addr) (ne : ¬ a = b) (cs ds : List Int32) (hn : cs.length < 2 ^ 28) (hm : ds.length < 2 ^ 28) (hcc : ∀ c ∈ cs, Ch c) (hcd : ∀ c ∈ ds, Ch c) (A : Str Z h a va cs) (B : Str Z h b vb ds) (r : Int32) (hr : r = if cs = ds then 1 else 0) :
    Con l Z EL0 (⟨"java/lang/String", "equals", "(Ljava/lang/Object;)Z"⟩ : MethodName) jdk_42_method_66_code 3 (some .boolean) ⟨1, 0, 0, 14⟩ #[.ref a, .ref b] h [] (Same (some (.int r)) h) (fun _ => []) := by
  refine Con.of (Ls := #[.val (.ref a), .val (.ref b), .unset]) hw hEL pn14 (fun m => by first | (simp [entryFrame, mkF, argsToLocals, Value.category, maxLocals]; done) | rfl) fun W C => ?_
  refine C.kept fun hE => ?_
  have z0 : Z.heap.size ≤ h.size := hE.1
  refine C.aloadN 1 d14_0 rfl rfl rfl ?_
  refine C.aloadN 2 d14_1 rfl rfl rfl ?_
  refine C.acmpT 7 d14_2 rfl rfl rfl (by simp [XT.acmp, ne]) ?_
  refine C.aloadN 8 d14_7 rfl rfl rfl ?_
  refine C.instanceofT 11 d14_8 rfl (tw 102) (Ins.self B.1) ?_
  refine C.ifF 14 d14_11 rfl (by decide) ?_
  refine C.aloadN 15 d14_14 rfl rfl rfl ?_
  refine C.checkcast 18 d14_15 rfl (tw 102) (Ins.self B.1) ?_
  refine C.astoreN 19 #[.val (.ref a), .val (.ref b), .val (.ref b)] d14_18 rfl rfl rfl ?_
  refine C.getstatic 22 d14_19 rfl (tw 18) SCP ?_
  refine C.ifF 25 d14_22 rfl ((if0 _ _).trans (feq hcp).1) ?_
  refine C.aloadN 26 d14_25 rfl rfl rfl ?_
  refine C.getfield 29 d14_26 rfl (tw 30) Via.refl A.2.2.1 ?_
  refine C.aloadN 30 d14_29 rfl rfl rfl ?_
  refine C.getfield 33 d14_30 rfl (tw 30) Via.refl B.2.2.1 ?_
  by_cases hk : cod cs = cod ds
  · refine C.icmpF 36 d14_33 rfl (teq hk).2 ?_
    refine C.aloadN 37 d14_36 rfl rfl rfl ?_
    refine C.getfield 40 d14_37 rfl (tw 32) Via.refl A.2.1 ?_
    refine C.aloadN 41 d14_40 rfl rfl rfl ?_
    refine C.getfield 44 d14_41 rfl (tw 32) Via.refl B.2.1 ?_
    refine C.callS 47 (as := [.ref va, .ref vb]) (rest := []) (rm := ⟨0, 0, 0, 0⟩) 0 d14_44 rfl (tw 103) (tw 104) (tw 105) (tw 106) (by decide) (eqL l Z a0' hw hEL hSA h va vb (enc cs) (enc ds) (enc_len hn) (enc_len hm) A.2.2.2 B.2.2.2 r (enc_if hcc hcd hk hr)) (by simp) pd15 rfl rfl (Nat.le_of_eq rfl) (by decide) (by decide) (by decide) (by decide) rfl ?_
    refine same_intro ?_
    show W h [] 0 0 47 #[.val (.ref a), .val (.ref b), .val (.ref b)] [.int r]
    have r01 : r = 1 ∨ r = 0 := by rw [hr]; split <;> simp
    clear hr
    rcases r01 with rfl | rfl
    · refine C.ifF 50 d14_47 rfl (by decide) ?_
      refine C.iconst 51 (1 : Int32) d14_50 rfl rfl ?_
      refine C.goto 55 d14_51 rfl ?_
      exact C.retI .boolean d14_55 rfl (by simp) rfl (by decide) (by decide) ⟨rfl, rfl⟩ (fun _ q => nomatch q)
    · refine C.ifT 54 d14_47 rfl (by decide) ?_
      refine C.iconst 55 (0 : Int32) d14_54 rfl rfl ?_
      exact C.retI .boolean d14_55 rfl (by simp) rfl (by decide) (by decide) ⟨rfl, rfl⟩ (fun _ q => nomatch q)
  · refine C.icmpT 54 d14_33 rfl (feq hk).2 ?_
    refine C.iconst 55 (0 : Int32) d14_54 rfl rfl ?_
    exact C.retI .boolean d14_55 rfl (by simp) rfl (by decide) (by decide) ⟨by rw [hr, if_neg (fun z => hk (by rw [z]))], rfl⟩ (fun _ q => nomatch q)
/-- a byte's char -/
def B8 (c : Int32) : Prop := Ch c ∧ ¬ (255 : Int32) < c
theorem low (y : Int32) : B8 (Int32.toUInt32 (y &&& (255 : Int32))).toUInt16.toUInt32.toInt32 := by
  have q := c_i2c (y &&& (255 : Int32))
  have m := c_mask y (255 : Int32) 8 (by decide) (by decide)
  refine ⟨⟨q.2.1, q.2.2⟩, ?_⟩
  rw [Int32.lt_iff_toInt_lt, i255]; omega
def chs (k : Nat) (c0 c1 c2 : Int32) : List Int32 := [c0, c1, c2].take k
theorem chs_all {k : Nat} {c0 c1 c2 : Int32} (h0 : B8 c0) (h1 : B8 c1) (h2 : B8 c2) : ∀ c ∈ chs k c0 c1 c2, B8 c := fun c hc => by
  have q := List.mem_of_mem_take hc
  simp only [List.mem_cons, List.not_mem_nil, or_false] at q
  rcases q with rfl | rfl | rfl <;> assumption
theorem chs_ch {k : Nat} {c0 c1 c2 : Int32} (h0 : B8 c0) (h1 : B8 c1) (h2 : B8 c2) : ∀ c ∈ chs k c0 c1 c2, Ch c := fun c hc => (chs_all h0 h1 h2 c hc).1
theorem chs_lat {k : Nat} {c0 c1 c2 : Int32} (h0 : B8 c0) (h1 : B8 c1) (h2 : B8 c2) : lat (chs k c0 c1 c2) := fun c hc => (chs_all h0 h1 h2 c hc).2
theorem chs_len (k : Nat) (c0 c1 c2 : Int32) : (chs k c0 c1 c2).length < 2 ^ 28 := by
  have : (chs k c0 c1 c2).length ≤ 3 := by unfold chs; rw [List.length_take]; exact Nat.min_le_right _ _
  omega
theorem chs_ne {i j : Nat} (hi : i < 4) (hj : j < 4) (hij : ¬ i = j) (a b c d e f : Int32) : ¬ chs i a b c = chs j d e f := fun q => by
  have r := congrArg List.length q
  unfold chs at r
  simp only [List.length_take, List.length_cons, List.length_nil] at r
  omega
theorem and3 (p : Int32) : ∃ i : Nat, i < 4 ∧ p &&& (3 : Int32) = Int32.ofNat i := by
  have h1 := c_and p (3 : Int32) (by decide)
  have e : (3 : Int32).toInt = 3 := rfl
  rw [e] at h1
  generalize p &&& (3 : Int32) = r at h1 ⊢
  refine ⟨r.toInt.toNat, by omega, Int32.toInt_inj.mp ?_⟩
  rw [Int32.toInt_ofNat_of_lt (by omega)]; omega
theorem d1_0 : decode method_2_code 0 = .ok (.iload_n 0, 1) := by decide +kernel
theorem d1_1 : decode method_2_code 1 = .ok (.ifCond .ne 14, 3) := by decide +kernel
theorem d1_4 : decode method_2_code 4 = .ok (.new 7, 3) := by decide +kernel
theorem d1_7 : decode method_2_code 7 = .ok (.dup, 1) := by decide +kernel
theorem d1_8 : decode method_2_code 8 = .ok (.iconst 0, 1) := by decide +kernel
theorem d1_9 : decode method_2_code 9 = .ok (.newarray .char, 2) := by decide +kernel
theorem d1_11 : decode method_2_code 11 = .ok (.invokespecial 9, 3) := by decide +kernel
theorem d1_14 : decode method_2_code 14 = .ok (.areturn, 1) := by decide +kernel
theorem d1_15 : decode method_2_code 15 = .ok (.iload_n 0, 1) := by decide +kernel
theorem d1_16 : decode method_2_code 16 = .ok (.iconst 1, 1) := by decide +kernel
theorem d1_17 : decode method_2_code 17 = .ok (.if_icmp .ne 23, 3) := by decide +kernel
theorem d1_20 : decode method_2_code 20 = .ok (.iconst 1, 1) := by decide +kernel
theorem d1_21 : decode method_2_code 21 = .ok (.newarray .char, 2) := by decide +kernel
theorem d1_23 : decode method_2_code 23 = .ok (.astore 4, 2) := by decide +kernel
theorem d1_25 : decode method_2_code 25 = .ok (.aload 4, 2) := by decide +kernel
theorem d1_27 : decode method_2_code 27 = .ok (.iconst 0, 1) := by decide +kernel
theorem d1_28 : decode method_2_code 28 = .ok (.iload_n 1, 1) := by decide +kernel
theorem d1_29 : decode method_2_code 29 = .ok (.castore, 1) := by decide +kernel
theorem d1_30 : decode method_2_code 30 = .ok (.new 7, 3) := by decide +kernel
theorem d1_33 : decode method_2_code 33 = .ok (.dup, 1) := by decide +kernel
theorem d1_34 : decode method_2_code 34 = .ok (.aload 4, 2) := by decide +kernel
theorem d1_36 : decode method_2_code 36 = .ok (.invokespecial 9, 3) := by decide +kernel
theorem d1_39 : decode method_2_code 39 = .ok (.areturn, 1) := by decide +kernel
theorem d1_40 : decode method_2_code 40 = .ok (.iload_n 0, 1) := by decide +kernel
theorem d1_41 : decode method_2_code 41 = .ok (.iconst 2, 1) := by decide +kernel
theorem d1_42 : decode method_2_code 42 = .ok (.if_icmp .ne 28, 3) := by decide +kernel
theorem d1_45 : decode method_2_code 45 = .ok (.iconst 2, 1) := by decide +kernel
theorem d1_46 : decode method_2_code 46 = .ok (.newarray .char, 2) := by decide +kernel
theorem d1_48 : decode method_2_code 48 = .ok (.astore 4, 2) := by decide +kernel
theorem d1_50 : decode method_2_code 50 = .ok (.aload 4, 2) := by decide +kernel
theorem d1_52 : decode method_2_code 52 = .ok (.iconst 0, 1) := by decide +kernel
theorem d1_53 : decode method_2_code 53 = .ok (.iload_n 1, 1) := by decide +kernel
theorem d1_54 : decode method_2_code 54 = .ok (.castore, 1) := by decide +kernel
theorem d1_55 : decode method_2_code 55 = .ok (.aload 4, 2) := by decide +kernel
theorem d1_57 : decode method_2_code 57 = .ok (.iconst 1, 1) := by decide +kernel
theorem d1_58 : decode method_2_code 58 = .ok (.iload_n 2, 1) := by decide +kernel
theorem d1_59 : decode method_2_code 59 = .ok (.castore, 1) := by decide +kernel
theorem d1_60 : decode method_2_code 60 = .ok (.new 7, 3) := by decide +kernel
theorem d1_63 : decode method_2_code 63 = .ok (.dup, 1) := by decide +kernel
theorem d1_64 : decode method_2_code 64 = .ok (.aload 4, 2) := by decide +kernel
theorem d1_66 : decode method_2_code 66 = .ok (.invokespecial 9, 3) := by decide +kernel
theorem d1_69 : decode method_2_code 69 = .ok (.areturn, 1) := by decide +kernel
theorem d1_70 : decode method_2_code 70 = .ok (.iconst 3, 1) := by decide +kernel
theorem d1_71 : decode method_2_code 71 = .ok (.newarray .char, 2) := by decide +kernel
theorem d1_73 : decode method_2_code 73 = .ok (.astore 4, 2) := by decide +kernel
theorem d1_75 : decode method_2_code 75 = .ok (.aload 4, 2) := by decide +kernel
theorem d1_77 : decode method_2_code 77 = .ok (.iconst 0, 1) := by decide +kernel
theorem d1_78 : decode method_2_code 78 = .ok (.iload_n 1, 1) := by decide +kernel
theorem d1_79 : decode method_2_code 79 = .ok (.castore, 1) := by decide +kernel
theorem d1_80 : decode method_2_code 80 = .ok (.aload 4, 2) := by decide +kernel
theorem d1_82 : decode method_2_code 82 = .ok (.iconst 1, 1) := by decide +kernel
theorem d1_83 : decode method_2_code 83 = .ok (.iload_n 2, 1) := by decide +kernel
theorem d1_84 : decode method_2_code 84 = .ok (.castore, 1) := by decide +kernel
theorem d1_85 : decode method_2_code 85 = .ok (.aload 4, 2) := by decide +kernel
theorem d1_87 : decode method_2_code 87 = .ok (.iconst 2, 1) := by decide +kernel
theorem d1_88 : decode method_2_code 88 = .ok (.iload_n 3, 1) := by decide +kernel
theorem d1_89 : decode method_2_code 89 = .ok (.castore, 1) := by decide +kernel
theorem d1_90 : decode method_2_code 90 = .ok (.new 7, 3) := by decide +kernel
theorem d1_93 : decode method_2_code 93 = .ok (.dup, 1) := by decide +kernel
theorem d1_94 : decode method_2_code 94 = .ok (.aload 4, 2) := by decide +kernel
theorem d1_96 : decode method_2_code 96 = .ok (.invokespecial 9, 3) := by decide +kernel
theorem d1_99 : decode method_2_code 99 = .ok (.areturn, 1) := by decide +kernel
theorem pn1 : plainFor (⟨"com/example/weftline/weftline/XmlElementInVocabularyPinLaw", "str", "(ICCC)Ljava/lang/String;"⟩ : MethodName) = true := by first | exact plainFor_of_name (by first | (simp [plainName, overriddenIn]; done) | decide +kernel) | decide +kernel
theorem pd1 : parseMethodDescriptor "(ICCC)Ljava/lang/String;" = some ⟨[.int, .char, .char, .char], some (.object "java/lang/String")⟩ := by decide +kernel
set_option maxRecDepth 65536 in
set_option maxHeartbeats 40000000 in
theorem str (l : Launch) (Z : State) (a0' : Array Value) (hw : ∀ d ∈ tables_1, d.before a0' Z = true) (hEL : EW Z a0' EL0) (hSA : ∀ a ∈ Bundle.stringAtoms, a.before a0' Z = true) (h : Heap) (cpt : Int32) (SCP : Sta Z Z.heap "java/lang/String" "COMPACT_STRINGS" "Z" (.int cpt)) (hcp : ¬ cpt = 0) (k : Nat) (hk : k < 4) (c0 c1 c2 : Int32) (y0 : B8 c0) (y1 : B8 c1) (y2 : B8 c2) :
    Con l Z EL0 (⟨"com/example/weftline/weftline/XmlElementInVocabularyPinLaw", "str", "(ICCC)Ljava/lang/String;"⟩ : MethodName) method_2_code 5 (some (.object "java/lang/String")) ⟨4, 6, 15, 66⟩ #[.int (Int32.ofNat k), .int c0, .int c1, .int c2] h [] (fun v h' => ∃ a b, v = some (.ref a) ∧ h.size ≤ a ∧ Ext h h' ∧ Str Z h' a b (chs k c0 c1 c2)) (fun _ => []) := by
  refine Con.of (Ls := #[.val (.int (Int32.ofNat k)), .val (.int c0), .val (.int c1), .val (.int c2), .unset]) hw hEL pn1 (fun m => by first | (simp [entryFrame, mkF, argsToLocals, Value.category, maxLocals]; done) | rfl) fun W C => ?_
  refine C.kept fun hE => ?_
  have z0 : Z.heap.size ≤ h.size := hE.1
  match k, hk with
  | 0, _ =>
    show W h [] 0 0 0 #[.val (.int (0 : Int32)), .val (.int c0), .val (.int c1), .val (.int c2), .unset] []
    refine C.iloadN 1 d1_0 rfl rfl ?_
    refine C.ifF 4 d1_1 rfl (by decide) ?_
    have hch : ∀ c ∈ chs 0 c0 c1 c2, Ch c := chs_ch y0 y1 y2
    have hla : lat (chs 0 c0 c1 c2) := chs_lat y0 y1 y2
    have K := Keep.refl h []
    refine C.new 7 d1_4 rfl (tw 5) (tw 6) (tw 7) (by decide) (by decide) ?_
    intro h1 E1 X1 D1
    obtain ⟨b1, g1⟩ : ∃ z, z = h.size := ⟨_, rfl⟩
    rw [← g1] at X1 ⊢
    rw [← g1] at D1
    have z1 : Z.heap.size ≤ h1.size := Nat.le_trans z0 E1.1
    have zb1 : Z.heap.size ≤ b1 := by rw [g1]; exact z0
    show W h1 [b1] 1 4 7 #[.val (.int (0 : Int32)), .val (.int c0), .val (.int c1), .val (.int c2), .unset] [.ref b1]
    have NV : Fld Z h1 b1 "java/lang/String" "value" "[B" .null := D1 (Or.inr (hw _ (tw 33))) (ty := (.array .byte)) (by decide)
    have NC : Fld Z h1 b1 "java/lang/String" "coder" "B" (.int (0 : Int32)) := D1 (Or.inr (hw _ (tw 31))) (ty := .byte) (by decide)
    have X := X1
    replace K := K.ext E1
    refine C.dup 8 d1_7 rfl rfl ?_
    refine C.iconst 9 (0 : Int32) d1_8 rfl rfl ?_
    refine C.newarray 11 0 d1_9 rfl (tw 4) (by decide) (by decide) (by decide) (by decide) (by decide) ?_
    intro h2 E2 A2
    obtain ⟨b2, g2⟩ : ∃ z, z = h1.size := ⟨_, rfl⟩
    rw [← g2] at A2 ⊢
    have Ab2_2 : Al Z h2 b2 .char [] := A2
    have z2 : Z.heap.size ≤ h2.size := Nat.le_trans z1 E2.1
    have zb2 : Z.heap.size ≤ b2 := by rw [g2]; exact z1
    show W h2 [b2, b1] 2 4 11 #[.val (.int (0 : Int32)), .val (.int c0), .val (.int c1), .val (.int c2), .unset] [.ref b2, .ref b1, .ref b1]
    replace K := K.ext E2
    replace NV := NV.ext E2
    replace NC := NC.ext E2
    replace X := X.ext E2
    have fa : h.size ≤ b1 := by rw [g1]; exact Nat.le_refl _
    have AC : Al Z _ b2 .char (iv' (chs 0 c0 c1 c2)) := Ab2_2
    refine C.callI 14 (a := b1) (as := [.ref b2]) (rest := [.ref b1]) (rm := ⟨3, 4, 8, 52⟩) 1 d1_11 rfl rfl rfl (tw 8) (tw 9) (tw 7) (tw 10) (by decide) (si1e l Z a0' hw hEL hSA _ b1 b2 cpt SCP hcp (chs 0 c0 c1 c2) (by simp [chs]) rfl hch hla X NV NC AC) (by simp) pd2 rfl rfl (Nat.le_of_eq rfl) (by decide) (by decide) (by decide) (by decide) rfl ?_
    rintro v h' ⟨s, rfl, sn, K', T⟩
    show W h' [b2, b1] 6 12 14 #[.val (.int (0 : Int32)), .val (.int c0), .val (.int c1), .val (.int c2), .unset] [.ref b1]
    have KK := K.trans K' (fun y hy => Or.inr (by cases List.mem_singleton.mp hy; exact fa))
    exact C.retA (.object "java/lang/String") d1_14 rfl rfl rfl (by decide) (by decide) ⟨b1, s, rfl, fa, ⟨KK.1, fun y c q => KK.2.1 y c q nin0⟩, T⟩ (fun _ q => nomatch q)
  | 1, _ =>
    show W h [] 0 0 0 #[.val (.int (1 : Int32)), .val (.int c0), .val (.int c1), .val (.int c2), .unset] []
    refine C.iloadN 1 d1_0 rfl rfl ?_
    refine C.ifT 15 d1_1 rfl (by decide) ?_
    refine C.iloadN 16 d1_15 rfl rfl ?_
    refine C.iconst 17 (1 : Int32) d1_16 rfl rfl ?_
    refine C.icmpF 20 d1_17 rfl (by decide) ?_
    have hch : ∀ c ∈ chs 1 c0 c1 c2, Ch c := chs_ch y0 y1 y2
    have hla : lat (chs 1 c0 c1 c2) := chs_lat y0 y1 y2
    have K := Keep.refl h []
    refine C.iconst 21 (1 : Int32) d1_20 rfl rfl ?_
    refine C.newarray 23 1 d1_21 rfl (tw 4) (by decide) (by decide) (by decide) (by decide) (by decide) ?_
    intro h1 E1 A1
    obtain ⟨b1, g1⟩ : ∃ z, z = h.size := ⟨_, rfl⟩
    rw [← g1] at A1 ⊢
    have Ab1_1 : Al Z h1 b1 .char [.int (0 : Int32)] := A1
    have z1 : Z.heap.size ≤ h1.size := Nat.le_trans z0 E1.1
    have zb1 : Z.heap.size ≤ b1 := by rw [g1]; exact z0
    show W h1 [b1] 1 1 23 #[.val (.int (1 : Int32)), .val (.int c0), .val (.int c1), .val (.int c2), .unset] [.ref b1]
    replace K := K.ext E1
    have fb : h.size ≤ b1 := by rw [g1]; exact Nat.le_refl _
    refine C.astore 25 #[.val (.int (1 : Int32)), .val (.int c0), .val (.int c1), .val (.int c2), .val (.ref b1)] d1_23 rfl rfl rfl ?_
    refine C.aload 27 d1_25 rfl rfl rfl ?_
    refine C.iconst 28 (0 : Int32) d1_27 rfl rfl ?_
    refine C.iloadN 29 d1_28 rfl rfl ?_
    refine C.castore 30 0 c0 d1_29 rfl Ab1_1 (by simp) (by decide) rfl (Nat.le_of_ble_eq_true rfl) (ch_nar y0.1) ?_
    intro h2 W2 A2
    have Ab1_2 : Al Z h2 b1 .char [.int c0] := A2
    have z2 : Z.heap.size ≤ h2.size := by rw [W2.size]; exact z1
    replace K := K.wr W2 (Or.inr fb)
    refine C.new 33 d1_30 rfl (tw 5) (tw 6) (tw 7) (by decide) (by decide) ?_
    intro h3 E3 X3 D3
    obtain ⟨b3, g3⟩ : ∃ z, z = h2.size := ⟨_, rfl⟩
    rw [← g3] at X3 ⊢
    rw [← g3] at D3
    have z3 : Z.heap.size ≤ h3.size := Nat.le_trans z2 E3.1
    have zb3 : Z.heap.size ≤ b3 := by rw [g3]; exact z2
    have Ab1_3 := Ab1_2.ext E3
    show W h3 [b3, b1] 2 5 33 #[.val (.int (1 : Int32)), .val (.int c0), .val (.int c1), .val (.int c2), .val (.ref b1)] [.ref b3]
    have NV : Fld Z h3 b3 "java/lang/String" "value" "[B" .null := D3 (Or.inr (hw _ (tw 33))) (ty := (.array .byte)) (by decide)
    have NC : Fld Z h3 b3 "java/lang/String" "coder" "B" (.int (0 : Int32)) := D3 (Or.inr (hw _ (tw 31))) (ty := .byte) (by decide)
    have X := X3
    have fa : h.size ≤ b3 := by rw [g3]; exact K.1
    replace K := K.ext E3
    refine C.dup 34 d1_33 rfl rfl ?_
    refine C.aload 36 d1_34 rfl rfl rfl ?_
    have AC : Al Z _ b1 .char (iv' (chs 1 c0 c1 c2)) := Ab1_3
    refine C.callI 39 (a := b3) (as := [.ref b1]) (rest := [.ref b3]) (rm := ⟨3, 4, 8, 52⟩) 1 d1_36 rfl rfl rfl (tw 8) (tw 9) (tw 7) (tw 10) (by decide) (si1 l Z a0' hw hEL hSA _ b3 b1 cpt SCP hcp (chs 1 c0 c1 c2) (by simp [chs]) (by simp [chs]) hch hla X NV NC AC) (by simp) pd2 rfl rfl (Nat.le_of_eq rfl) (by decide) (by decide) (by decide) (by decide) rfl ?_
    rintro v h' ⟨s, rfl, sn, K', T⟩
    show W h' [b3, b1] 6 13 39 #[.val (.int (1 : Int32)), .val (.int c0), .val (.int c1), .val (.int c2), .val (.ref b1)] [.ref b3]
    have KK := K.trans K' (fun y hy => Or.inr (by cases List.mem_singleton.mp hy; exact fa))
    exact C.retA (.object "java/lang/String") d1_39 rfl rfl rfl (by decide) (by decide) ⟨b3, s, rfl, fa, ⟨KK.1, fun y c q => KK.2.1 y c q nin0⟩, T⟩ (fun _ q => nomatch q)
  | 2, _ =>
    show W h [] 0 0 0 #[.val (.int (2 : Int32)), .val (.int c0), .val (.int c1), .val (.int c2), .unset] []
    refine C.iloadN 1 d1_0 rfl rfl ?_
    refine C.ifT 15 d1_1 rfl (by decide) ?_
    refine C.iloadN 16 d1_15 rfl rfl ?_
    refine C.iconst 17 (1 : Int32) d1_16 rfl rfl ?_
    refine C.icmpT 40 d1_17 rfl (by decide) ?_
    refine C.iloadN 41 d1_40 rfl rfl ?_
    refine C.iconst 42 (2 : Int32) d1_41 rfl rfl ?_
    refine C.icmpF 45 d1_42 rfl (by decide) ?_
    have hch : ∀ c ∈ chs 2 c0 c1 c2, Ch c := chs_ch y0 y1 y2
    have hla : lat (chs 2 c0 c1 c2) := chs_lat y0 y1 y2
    have K := Keep.refl h []
    refine C.iconst 46 (2 : Int32) d1_45 rfl rfl ?_
    refine C.newarray 48 2 d1_46 rfl (tw 4) (by decide) (by decide) (by decide) (by decide) (by decide) ?_
    intro h1 E1 A1
    obtain ⟨b1, g1⟩ : ∃ z, z = h.size := ⟨_, rfl⟩
    rw [← g1] at A1 ⊢
    have Ab1_1 : Al Z h1 b1 .char [.int (0 : Int32), .int (0 : Int32)] := A1
    have z1 : Z.heap.size ≤ h1.size := Nat.le_trans z0 E1.1
    have zb1 : Z.heap.size ≤ b1 := by rw [g1]; exact z0
    show W h1 [b1] 1 2 48 #[.val (.int (2 : Int32)), .val (.int c0), .val (.int c1), .val (.int c2), .unset] [.ref b1]
    replace K := K.ext E1
    have fb : h.size ≤ b1 := by rw [g1]; exact Nat.le_refl _
    refine C.astore 50 #[.val (.int (2 : Int32)), .val (.int c0), .val (.int c1), .val (.int c2), .val (.ref b1)] d1_48 rfl rfl rfl ?_
    refine C.aload 52 d1_50 rfl rfl rfl ?_
    refine C.iconst 53 (0 : Int32) d1_52 rfl rfl ?_
    refine C.iloadN 54 d1_53 rfl rfl ?_
    refine C.castore 55 0 c0 d1_54 rfl Ab1_1 (by simp) (by decide) rfl (Nat.le_of_ble_eq_true rfl) (ch_nar y0.1) ?_
    intro h2 W2 A2
    have Ab1_2 : Al Z h2 b1 .char [.int c0, .int (0 : Int32)] := A2
    have z2 : Z.heap.size ≤ h2.size := by rw [W2.size]; exact z1
    replace K := K.wr W2 (Or.inr fb)
    refine C.aload 57 d1_55 rfl rfl rfl ?_
    refine C.iconst 58 (1 : Int32) d1_57 rfl rfl ?_
    refine C.iloadN 59 d1_58 rfl rfl ?_
    refine C.castore 60 1 c1 d1_59 rfl Ab1_2 (by simp) (by decide) rfl (Nat.le_of_ble_eq_true rfl) (ch_nar y1.1) ?_
    intro h3 W3 A3
    have Ab1_3 : Al Z h3 b1 .char [.int c0, .int c1] := A3
    have z3 : Z.heap.size ≤ h3.size := by rw [W3.size]; exact z2
    replace K := K.wr W3 (Or.inr fb)
    refine C.new 63 d1_60 rfl (tw 5) (tw 6) (tw 7) (by decide) (by decide) ?_
    intro h4 E4 X4 D4
    obtain ⟨b4, g4⟩ : ∃ z, z = h3.size := ⟨_, rfl⟩
    rw [← g4] at X4 ⊢
    rw [← g4] at D4
    have z4 : Z.heap.size ≤ h4.size := Nat.le_trans z3 E4.1
    have zb4 : Z.heap.size ≤ b4 := by rw [g4]; exact z3
    have Ab1_4 := Ab1_3.ext E4
    show W h4 [b4, b1] 2 6 63 #[.val (.int (2 : Int32)), .val (.int c0), .val (.int c1), .val (.int c2), .val (.ref b1)] [.ref b4]
    have NV : Fld Z h4 b4 "java/lang/String" "value" "[B" .null := D4 (Or.inr (hw _ (tw 33))) (ty := (.array .byte)) (by decide)
    have NC : Fld Z h4 b4 "java/lang/String" "coder" "B" (.int (0 : Int32)) := D4 (Or.inr (hw _ (tw 31))) (ty := .byte) (by decide)
    have X := X4
    have fa : h.size ≤ b4 := by rw [g4]; exact K.1
    replace K := K.ext E4
    refine C.dup 64 d1_63 rfl rfl ?_
    refine C.aload 66 d1_64 rfl rfl rfl ?_
    have AC : Al Z _ b1 .char (iv' (chs 2 c0 c1 c2)) := Ab1_4
    refine C.callI 69 (a := b4) (as := [.ref b1]) (rest := [.ref b4]) (rm := ⟨3, 4, 8, 52⟩) 1 d1_66 rfl rfl rfl (tw 8) (tw 9) (tw 7) (tw 10) (by decide) (si1 l Z a0' hw hEL hSA _ b4 b1 cpt SCP hcp (chs 2 c0 c1 c2) (by simp [chs]) (by simp [chs]) hch hla X NV NC AC) (by simp) pd2 rfl rfl (Nat.le_of_eq rfl) (by decide) (by decide) (by decide) (by decide) rfl ?_
    rintro v h' ⟨s, rfl, sn, K', T⟩
    show W h' [b4, b1] 6 14 69 #[.val (.int (2 : Int32)), .val (.int c0), .val (.int c1), .val (.int c2), .val (.ref b1)] [.ref b4]
    have KK := K.trans K' (fun y hy => Or.inr (by cases List.mem_singleton.mp hy; exact fa))
    exact C.retA (.object "java/lang/String") d1_69 rfl rfl rfl (by decide) (by decide) ⟨b4, s, rfl, fa, ⟨KK.1, fun y c q => KK.2.1 y c q nin0⟩, T⟩ (fun _ q => nomatch q)
  | 3, _ =>
    show W h [] 0 0 0 #[.val (.int (3 : Int32)), .val (.int c0), .val (.int c1), .val (.int c2), .unset] []
    refine C.iloadN 1 d1_0 rfl rfl ?_
    refine C.ifT 15 d1_1 rfl (by decide) ?_
    refine C.iloadN 16 d1_15 rfl rfl ?_
    refine C.iconst 17 (1 : Int32) d1_16 rfl rfl ?_
    refine C.icmpT 40 d1_17 rfl (by decide) ?_
    refine C.iloadN 41 d1_40 rfl rfl ?_
    refine C.iconst 42 (2 : Int32) d1_41 rfl rfl ?_
    refine C.icmpT 70 d1_42 rfl (by decide) ?_
    have hch : ∀ c ∈ chs 3 c0 c1 c2, Ch c := chs_ch y0 y1 y2
    have hla : lat (chs 3 c0 c1 c2) := chs_lat y0 y1 y2
    have K := Keep.refl h []
    refine C.iconst 71 (3 : Int32) d1_70 rfl rfl ?_
    refine C.newarray 73 3 d1_71 rfl (tw 4) (by decide) (by decide) (by decide) (by decide) (by decide) ?_
    intro h1 E1 A1
    obtain ⟨b1, g1⟩ : ∃ z, z = h.size := ⟨_, rfl⟩
    rw [← g1] at A1 ⊢
    have Ab1_1 : Al Z h1 b1 .char [.int (0 : Int32), .int (0 : Int32), .int (0 : Int32)] := A1
    have z1 : Z.heap.size ≤ h1.size := Nat.le_trans z0 E1.1
    have zb1 : Z.heap.size ≤ b1 := by rw [g1]; exact z0
    show W h1 [b1] 1 3 73 #[.val (.int (3 : Int32)), .val (.int c0), .val (.int c1), .val (.int c2), .unset] [.ref b1]
    replace K := K.ext E1
    have fb : h.size ≤ b1 := by rw [g1]; exact Nat.le_refl _
    refine C.astore 75 #[.val (.int (3 : Int32)), .val (.int c0), .val (.int c1), .val (.int c2), .val (.ref b1)] d1_73 rfl rfl rfl ?_
    refine C.aload 77 d1_75 rfl rfl rfl ?_
    refine C.iconst 78 (0 : Int32) d1_77 rfl rfl ?_
    refine C.iloadN 79 d1_78 rfl rfl ?_
    refine C.castore 80 0 c0 d1_79 rfl Ab1_1 (by simp) (by decide) rfl (Nat.le_of_ble_eq_true rfl) (ch_nar y0.1) ?_
    intro h2 W2 A2
    have Ab1_2 : Al Z h2 b1 .char [.int c0, .int (0 : Int32), .int (0 : Int32)] := A2
    have z2 : Z.heap.size ≤ h2.size := by rw [W2.size]; exact z1
    replace K := K.wr W2 (Or.inr fb)
    refine C.aload 82 d1_80 rfl rfl rfl ?_
    refine C.iconst 83 (1 : Int32) d1_82 rfl rfl ?_
    refine C.iloadN 84 d1_83 rfl rfl ?_
    refine C.castore 85 1 c1 d1_84 rfl Ab1_2 (by simp) (by decide) rfl (Nat.le_of_ble_eq_true rfl) (ch_nar y1.1) ?_
    intro h3 W3 A3
    have Ab1_3 : Al Z h3 b1 .char [.int c0, .int c1, .int (0 : Int32)] := A3
    have z3 : Z.heap.size ≤ h3.size := by rw [W3.size]; exact z2
    replace K := K.wr W3 (Or.inr fb)
    refine C.aload 87 d1_85 rfl rfl rfl ?_
    refine C.iconst 88 (2 : Int32) d1_87 rfl rfl ?_
    refine C.iloadN 89 d1_88 rfl rfl ?_
    refine C.castore 90 2 c2 d1_89 rfl Ab1_3 (by simp) (by decide) rfl (Nat.le_of_ble_eq_true rfl) (ch_nar y2.1) ?_
    intro h4 W4 A4
    have Ab1_4 : Al Z h4 b1 .char [.int c0, .int c1, .int c2] := A4
    have z4 : Z.heap.size ≤ h4.size := by rw [W4.size]; exact z3
    replace K := K.wr W4 (Or.inr fb)
    refine C.new 93 d1_90 rfl (tw 5) (tw 6) (tw 7) (by decide) (by decide) ?_
    intro h5 E5 X5 D5
    obtain ⟨b5, g5⟩ : ∃ z, z = h4.size := ⟨_, rfl⟩
    rw [← g5] at X5 ⊢
    rw [← g5] at D5
    have z5 : Z.heap.size ≤ h5.size := Nat.le_trans z4 E5.1
    have zb5 : Z.heap.size ≤ b5 := by rw [g5]; exact z4
    have Ab1_5 := Ab1_4.ext E5
    show W h5 [b5, b1] 2 7 93 #[.val (.int (3 : Int32)), .val (.int c0), .val (.int c1), .val (.int c2), .val (.ref b1)] [.ref b5]
    have NV : Fld Z h5 b5 "java/lang/String" "value" "[B" .null := D5 (Or.inr (hw _ (tw 33))) (ty := (.array .byte)) (by decide)
    have NC : Fld Z h5 b5 "java/lang/String" "coder" "B" (.int (0 : Int32)) := D5 (Or.inr (hw _ (tw 31))) (ty := .byte) (by decide)
    have X := X5
    have fa : h.size ≤ b5 := by rw [g5]; exact K.1
    replace K := K.ext E5
    refine C.dup 94 d1_93 rfl rfl ?_
    refine C.aload 96 d1_94 rfl rfl rfl ?_
    have AC : Al Z _ b1 .char (iv' (chs 3 c0 c1 c2)) := Ab1_5
    refine C.callI 99 (a := b5) (as := [.ref b1]) (rest := [.ref b5]) (rm := ⟨3, 4, 8, 52⟩) 1 d1_96 rfl rfl rfl (tw 8) (tw 9) (tw 7) (tw 10) (by decide) (si1 l Z a0' hw hEL hSA _ b5 b1 cpt SCP hcp (chs 3 c0 c1 c2) (by simp [chs]) (by simp [chs]) hch hla X NV NC AC) (by simp) pd2 rfl rfl (Nat.le_of_eq rfl) (by decide) (by decide) (by decide) (by decide) rfl ?_
    rintro v h' ⟨s, rfl, sn, K', T⟩
    show W h' [b5, b1] 6 15 99 #[.val (.int (3 : Int32)), .val (.int c0), .val (.int c1), .val (.int c2), .val (.ref b1)] [.ref b5]
    have KK := K.trans K' (fun y hy => Or.inr (by cases List.mem_singleton.mp hy; exact fa))
    exact C.retA (.object "java/lang/String") d1_99 rfl rfl rfl (by decide) (by decide) ⟨b5, s, rfl, fa, ⟨KK.1, fun y c q => KK.2.1 y c q nin0⟩, T⟩ (fun _ q => nomatch q)
  | k + 4, h => exact absurd h (by omega)
theorem d10_0 : decode jdk_22_method_1_code 0 = .ok (.aload_n 0, 1) := by decide +kernel
theorem d10_1 : decode jdk_22_method_1_code 1 = .ok (.invokespecial 1, 3) := by decide +kernel
theorem d10_4 : decode jdk_22_method_1_code 4 = .ok (.return_, 1) := by decide +kernel
theorem pn10 : plainFor (⟨"java/util/AbstractCollection", "<init>", "()V"⟩ : MethodName) = true := by first | exact plainFor_of_name (by first | (simp [plainName, overriddenIn]; done) | decide +kernel) | decide +kernel
theorem pd10 : parseMethodDescriptor "()V" = some ⟨[], none⟩ := by decide +kernel
set_option maxRecDepth 65536 in
set_option maxHeartbeats 40000000 in
theorem ac_init (l : Launch) (Z : State) (a0' : Array Value) (hw : ∀ d ∈ tables_1, d.before a0' Z = true) (hEL : EW Z a0' EL0) (hSA : ∀ a ∈ Bundle.stringAtoms, a.before a0' Z = true) (h : Heap) (a : Addr) :
    Con l Z EL0 (⟨"java/util/AbstractCollection", "<init>", "()V"⟩ : MethodName) jdk_22_method_1_code 1 none ⟨1, 0, 0, 12⟩ #[.ref a] h [] (Same none h) (fun _ => []) := by
  refine Con.of (Ls := #[.val (.ref a)]) hw hEL pn10 (fun m => by first | (simp [entryFrame, mkF, argsToLocals, Value.category, maxLocals]; done) | rfl) fun W C => ?_
  refine C.kept fun hE => ?_
  have z0 : Z.heap.size ≤ h.size := hE.1
  refine C.aloadN 1 d10_0 rfl rfl rfl ?_
  refine C.initObj 4 0 d10_1 rfl (tw 59) (tw 16) (tw 17) rfl (by decide) (Nat.le_of_eq rfl) (by decide) ?_
  exact C.ret0 d10_4 rfl (by decide) (by decide) ⟨rfl, rfl⟩ (fun _ q => nomatch q)
theorem d9_0 : decode jdk_39_method_1_code 0 = .ok (.aload_n 0, 1) := by decide +kernel
theorem d9_1 : decode jdk_39_method_1_code 1 = .ok (.invokespecial 1, 3) := by decide +kernel
theorem d9_4 : decode jdk_39_method_1_code 4 = .ok (.aload_n 0, 1) := by decide +kernel
theorem d9_5 : decode jdk_39_method_1_code 5 = .ok (.iconst 0, 1) := by decide +kernel
theorem d9_6 : decode jdk_39_method_1_code 6 = .ok (.putfield 7, 3) := by decide +kernel
theorem d9_9 : decode jdk_39_method_1_code 9 = .ok (.return_, 1) := by decide +kernel
theorem pn9 : plainFor (⟨"java/util/AbstractList", "<init>", "()V"⟩ : MethodName) = true := by first | exact plainFor_of_name (by first | (simp [plainName, overriddenIn]; done) | decide +kernel) | decide +kernel
theorem pd9 : parseMethodDescriptor "()V" = some ⟨[], none⟩ := by decide +kernel
set_option maxRecDepth 65536 in
set_option maxHeartbeats 40000000 in
theorem ab_init (l : Launch) (Z : State) (a0' : Array Value) (hw : ∀ d ∈ tables_1, d.before a0' Z = true) (hEL : EW Z a0' EL0) (hSA : ∀ a ∈ Bundle.stringAtoms, a.before a0' Z = true) (h : Heap) (a : Addr) (E : Exa Z h a "java/util/ArrayList") (F : Fld Z h a "java/util/AbstractList" "modCount" "I" (.int 0)) :
    Con l Z EL0 (⟨"java/util/AbstractList", "<init>", "()V"⟩ : MethodName) jdk_39_method_1_code 1 none ⟨2, 0, 0, 24⟩ #[.ref a] h [a] (fun v h' => v = none ∧ Wr h h' a (Jvm.RoadKit.slotOf Z "java/util/AbstractList" "modCount" "I") (.int 0)) (fun _ => []) := by
  refine Con.of (Ls := #[.val (.ref a)]) hw hEL pn9 (fun m => by first | (simp [entryFrame, mkF, argsToLocals, Value.category, maxLocals]; done) | rfl) fun W C => ?_
  refine C.kept fun hE => ?_
  have z0 : Z.heap.size ≤ h.size := hE.1
  refine C.aloadN 1 d9_0 rfl rfl rfl ?_
  refine C.callI 4 (a := a) (as := []) (rest := []) (rm := ⟨1, 0, 0, 12⟩) 0 d9_1 rfl rfl rfl (tw 53) (tw 54) (tw 57) (tw 58) (by decide) (ac_init l Z a0' hw hEL hSA h a) (by simp) pd10 rfl rfl (Nat.le_of_eq rfl) (by decide) (by decide) (by decide) (by decide) rfl ?_
  refine same_intro ?_
  show W h [a] 0 0 4 #[.val (.ref a)] []
  refine C.aloadN 5 d9_4 rfl rfl rfl ?_
  refine C.iconst 6 (0 : Int32) d9_5 rfl rfl ?_
  refine C.putfield 9 (v' := .int (0 : Int32)) .int d9_6 rfl (tw 60) Via.refl F E (Or.inl (tw 61)) (tw 42) (by decide) rfl rfl (by simp) ?_
  intro h1 W1
  have z1 : Z.heap.size ≤ h1.size := by rw [W1.size]; exact z0
  exact C.ret0 d9_9 rfl (by decide) (by decide) ⟨rfl, W1⟩ (fun _ q => nomatch q)
theorem d8_0 : decode jdk_38_method_2_code 0 = .ok (.aload_n 0, 1) := by decide +kernel
theorem d8_1 : decode jdk_38_method_2_code 1 = .ok (.invokespecial 1, 3) := by decide +kernel
theorem d8_4 : decode jdk_38_method_2_code 4 = .ok (.aload_n 0, 1) := by decide +kernel
theorem d8_5 : decode jdk_38_method_2_code 5 = .ok (.getstatic 39, 3) := by decide +kernel
theorem d8_8 : decode jdk_38_method_2_code 8 = .ok (.putfield 9, 3) := by decide +kernel
theorem d8_11 : decode jdk_38_method_2_code 11 = .ok (.return_, 1) := by decide +kernel
theorem pn8 : plainFor (⟨"java/util/ArrayList", "<init>", "()V"⟩ : MethodName) = true := by first | exact plainFor_of_name (by first | (simp [plainName, overriddenIn]; done) | decide +kernel) | decide +kernel
theorem pd8 : parseMethodDescriptor "()V" = some ⟨[], none⟩ := by decide +kernel
set_option maxRecDepth 65536 in
set_option maxHeartbeats 40000000 in
theorem al_init (l : Launch) (Z : State) (a0' : Array Value) (hw : ∀ d ∈ tables_1, d.before a0' Z = true) (hEL : EW Z a0' EL0) (hSA : ∀ a ∈ Bundle.stringAtoms, a.before a0' Z = true) (h : Heap) (a : Addr) (dd : Addr) (SD : Sta Z Z.heap "java/util/ArrayList" "DEFAULTCAPACITY_EMPTY_ELEMENTDATA" "[Ljava/lang/Object;" (.ref dd)) (E : Exa Z h a "java/util/ArrayList") (F0 : Fld Z h a "java/util/ArrayList" "elementData" "[Ljava/lang/Object;" .null) (F2 : Fld Z h a "java/util/AbstractList" "modCount" "I" (.int 0)) :
    Con l Z EL0 (⟨"java/util/ArrayList", "<init>", "()V"⟩ : MethodName) jdk_38_method_2_code 1 none ⟨3, 0, 0, 36⟩ #[.ref a] h [a] (fun v h' => v = none ∧ Keep h h' [a]) (fun _ => []) := by
  refine Con.of (Ls := #[.val (.ref a)]) hw hEL pn8 (fun m => by first | (simp [entryFrame, mkF, argsToLocals, Value.category, maxLocals]; done) | rfl) fun W C => ?_
  refine C.kept fun hE => ?_
  have z0 : Z.heap.size ≤ h.size := hE.1
  refine C.aloadN 1 d8_0 rfl rfl rfl ?_
  refine C.callI 4 (a := a) (as := []) (rest := []) (rm := ⟨2, 0, 0, 24⟩) 0 d8_1 rfl rfl rfl (tw 47) (tw 48) (tw 51) (tw 52) (by decide) (ab_init l Z a0' hw hEL hSA h a E F2) (by simp) pd9 rfl rfl (Nat.le_of_eq rfl) (by decide) (by decide) (by decide) (by decide) rfl ?_
  rintro v h1 ⟨rfl, W1⟩
  have z1 : Z.heap.size ≤ h1.size := by rw [W1.size]; exact z0
  show W h1 [a] 0 0 4 #[.val (.ref a)] []
  refine C.aloadN 5 d8_4 rfl rfl rfl ?_
  refine C.getstatic 8 d8_5 rfl (tw 62) SD ?_
  have G0 := F0.other W1 (Or.inr (slot_ne (Or.inl (hw _ (tw 64))) (Or.inl (hw _ (tw 61))) (by decide) (t := (.array (.object "java/lang/Object"))) (t' := .int) (by decide) (by decide)))
  refine C.putfield 11 (v' := .ref dd) (.array (.object "java/lang/Object")) d8_8 rfl (tw 63) Via.refl G0 (E.wr W1) (Or.inl (tw 64)) (tw 42) (by decide) rfl rfl (by simp) ?_
  intro h2 W2
  have z2 : Z.heap.size ≤ h2.size := by rw [W2.size]; exact z1
  exact C.ret0 d8_11 rfl (by decide) (by decide) ⟨rfl, (Keep.of_wr W1).wr W2 (Or.inl (List.mem_of_getElem? (i := 0) rfl))⟩ (fun _ q => nomatch q)
theorem d12_0 : decode jdk_30_method_1_code 0 = .ok (.aload_n 0, 1) := by decide +kernel
theorem d12_1 : decode jdk_30_method_1_code 1 = .ok (.invokespecial 1, 3) := by decide +kernel
theorem d12_4 : decode jdk_30_method_1_code 4 = .ok (.return_, 1) := by decide +kernel
theorem pn12 : plainFor (⟨"java/lang/Record", "<init>", "()V"⟩ : MethodName) = true := by first | exact plainFor_of_name (by first | (simp [plainName, overriddenIn]; done) | decide +kernel) | decide +kernel
theorem pd12 : parseMethodDescriptor "()V" = some ⟨[], none⟩ := by decide +kernel
set_option maxRecDepth 65536 in
set_option maxHeartbeats 40000000 in
theorem rci (l : Launch) (Z : State) (a0' : Array Value) (hw : ∀ d ∈ tables_1, d.before a0' Z = true) (hEL : EW Z a0' EL0) (hSA : ∀ a ∈ Bundle.stringAtoms, a.before a0' Z = true) (h : Heap) (a : Addr) :
    Con l Z EL0 (⟨"java/lang/Record", "<init>", "()V"⟩ : MethodName) jdk_30_method_1_code 1 none ⟨1, 0, 0, 12⟩ #[.ref a] h [] (Same none h) (fun _ => []) := by
  refine Con.of (Ls := #[.val (.ref a)]) hw hEL pn12 (fun m => by first | (simp [entryFrame, mkF, argsToLocals, Value.category, maxLocals]; done) | rfl) fun W C => ?_
  refine C.kept fun hE => ?_
  have z0 : Z.heap.size ≤ h.size := hE.1
  refine C.aloadN 1 d12_0 rfl rfl rfl ?_
  refine C.initObj 4 0 d12_1 rfl (tw 73) (tw 16) (tw 17) rfl (by decide) (Nat.le_of_eq rfl) (by decide) ?_
  exact C.ret0 d12_4 rfl (by decide) (by decide) ⟨rfl, rfl⟩ (fun _ q => nomatch q)
theorem d11_0 : decode prog_112_method_1_code 0 = .ok (.aload_n 0, 1) := by decide +kernel
theorem d11_1 : decode prog_112_method_1_code 1 = .ok (.invokespecial 1, 3) := by decide +kernel
theorem d11_4 : decode prog_112_method_1_code 4 = .ok (.aload_n 0, 1) := by decide +kernel
theorem d11_5 : decode prog_112_method_1_code 5 = .ok (.aload_n 1, 1) := by decide +kernel
theorem d11_6 : decode prog_112_method_1_code 6 = .ok (.putfield 7, 3) := by decide +kernel
theorem d11_9 : decode prog_112_method_1_code 9 = .ok (.aload_n 0, 1) := by decide +kernel
theorem d11_10 : decode prog_112_method_1_code 10 = .ok (.aload_n 2, 1) := by decide +kernel
theorem d11_11 : decode prog_112_method_1_code 11 = .ok (.putfield 13, 3) := by decide +kernel
theorem d11_14 : decode prog_112_method_1_code 14 = .ok (.aload_n 0, 1) := by decide +kernel
theorem d11_15 : decode prog_112_method_1_code 15 = .ok (.aload_n 3, 1) := by decide +kernel
theorem d11_16 : decode prog_112_method_1_code 16 = .ok (.putfield 16, 3) := by decide +kernel
theorem d11_19 : decode prog_112_method_1_code 19 = .ok (.aload_n 0, 1) := by decide +kernel
theorem d11_20 : decode prog_112_method_1_code 20 = .ok (.aload 4, 2) := by decide +kernel
theorem d11_22 : decode prog_112_method_1_code 22 = .ok (.putfield 19, 3) := by decide +kernel
theorem d11_25 : decode prog_112_method_1_code 25 = .ok (.aload_n 0, 1) := by decide +kernel
theorem d11_26 : decode prog_112_method_1_code 26 = .ok (.iload 5, 2) := by decide +kernel
theorem d11_28 : decode prog_112_method_1_code 28 = .ok (.putfield 22, 3) := by decide +kernel
theorem d11_31 : decode prog_112_method_1_code 31 = .ok (.aload_n 0, 1) := by decide +kernel
theorem d11_32 : decode prog_112_method_1_code 32 = .ok (.aload 6, 2) := by decide +kernel
theorem d11_34 : decode prog_112_method_1_code 34 = .ok (.putfield 26, 3) := by decide +kernel
theorem d11_37 : decode prog_112_method_1_code 37 = .ok (.aload_n 0, 1) := by decide +kernel
theorem d11_38 : decode prog_112_method_1_code 38 = .ok (.aload 7, 2) := by decide +kernel
theorem d11_40 : decode prog_112_method_1_code 40 = .ok (.putfield 30, 3) := by decide +kernel
theorem d11_43 : decode prog_112_method_1_code 43 = .ok (.aload_n 0, 1) := by decide +kernel
theorem d11_44 : decode prog_112_method_1_code 44 = .ok (.aload 8, 2) := by decide +kernel
theorem d11_46 : decode prog_112_method_1_code 46 = .ok (.putfield 34, 3) := by decide +kernel
theorem d11_49 : decode prog_112_method_1_code 49 = .ok (.aload_n 0, 1) := by decide +kernel
theorem d11_50 : decode prog_112_method_1_code 50 = .ok (.aload 9, 2) := by decide +kernel
theorem d11_52 : decode prog_112_method_1_code 52 = .ok (.putfield 37, 3) := by decide +kernel
theorem d11_55 : decode prog_112_method_1_code 55 = .ok (.return_, 1) := by decide +kernel
theorem pn11 : plainFor (⟨"com/example/weftline/weftline/XmlElement", "<init>", "(Ljava/lang/String;Ljava/lang/String;Ljava/lang/String;Ljava/lang/String;ILjava/util/Map;Ljava/util/List;Ljava/util/Map;Ljava/util/List;)V"⟩ : MethodName) = true := by first | exact plainFor_of_name (by first | (simp [plainName, overriddenIn]; done) | decide +kernel) | decide +kernel
theorem pd11 : parseMethodDescriptor "(Ljava/lang/String;Ljava/lang/String;Ljava/lang/String;Ljava/lang/String;ILjava/util/Map;Ljava/util/List;Ljava/util/Map;Ljava/util/List;)V" = some ⟨[(.object "java/lang/String"), (.object "java/lang/String"), (.object "java/lang/String"), (.object "java/lang/String"), .int, (.object "java/util/Map"), (.object "java/util/List"), (.object "java/util/Map"), (.object "java/util/List")], none⟩ := by decide +kernel
set_option maxRecDepth 65536 in
set_option maxHeartbeats 40000000 in
theorem xei (l : Launch) (Z : State) (a0' : Array Value) (hw : ∀ d ∈ tables_1, d.before a0' Z = true) (hEL : EW Z a0' EL0) (hSA : ∀ a ∈ Bundle.stringAtoms, a.before a0' Z = true) (h : Heap) (e v n lo q y1 y2 : Addr) (z : Int32) (X : Exa Z h e "com/example/weftline/weftline/XmlElement") (F0 : Fld Z h e "com/example/weftline/weftline/XmlElement" "vocabulary" "Ljava/lang/String;" (.null)) (F1 : Fld Z h e "com/example/weftline/weftline/XmlElement" "namespace" "Ljava/lang/String;" (.null)) (F2 : Fld Z h e "com/example/weftline/weftline/XmlElement" "localName" "Ljava/lang/String;" (.null)) (F3 : Fld Z h e "com/example/weftline/weftline/XmlElement" "qName" "Ljava/lang/String;" (.null)) (F4 : Fld Z h e "com/example/weftline/weftline/XmlElement" "line" "I" (.int 0)) (F5 : Fld Z h e "com/example/weftline/weftline/XmlElement" "attributes" "Ljava/util/Map;" (.null)) (F6 : Fld Z h e "com/example/weftline/weftline/XmlElement" "qualifiedAttributes" "Ljava/util/List;" (.null)) (F7 : Fld Z h e "com/example/weftline/weftline/XmlElement" "prefixes" "Ljava/util/Map;" (.null)) (F8 : Fld Z h e "com/example/weftline/weftline/XmlElement" "content" "Ljava/util/List;" (.null)) :
    Con l Z EL0 (⟨"com/example/weftline/weftline/XmlElement", "<init>", "(Ljava/lang/String;Ljava/lang/String;Ljava/lang/String;Ljava/lang/String;ILjava/util/Map;Ljava/util/List;Ljava/util/Map;Ljava/util/List;)V"⟩ : MethodName) prog_112_method_1_code 10 none ⟨2, 0, 0, 24⟩ #[.ref e, .ref v, .ref n, .ref lo, .ref q, .int z, .null, .ref y1, .null, .ref y2] h [e] (fun r h' => r = none ∧ Keep h h' [e] ∧ Exa Z h' e "com/example/weftline/weftline/XmlElement" ∧ Fld Z h' e "com/example/weftline/weftline/XmlElement" "vocabulary" "Ljava/lang/String;" (.ref v) ∧ Fld Z h' e "com/example/weftline/weftline/XmlElement" "namespace" "Ljava/lang/String;" (.ref n)) (fun _ => []) := by
  refine Con.of (Ls := #[.val (.ref e), .val (.ref v), .val (.ref n), .val (.ref lo), .val (.ref q), .val (.int z), .val (.null), .val (.ref y1), .val (.null), .val (.ref y2)]) hw hEL pn11 (fun m => by first | (simp [entryFrame, mkF, argsToLocals, Value.category, maxLocals]; done) | rfl) fun W C => ?_
  refine C.kept fun hE => ?_
  have z0 : Z.heap.size ≤ h.size := hE.1
  refine C.aloadN 1 d11_0 rfl rfl rfl ?_
  refine C.callI 4 (a := e) (as := []) (rest := []) (rm := ⟨1, 0, 0, 12⟩) 0 d11_1 rfl rfl rfl (tw 68) (tw 69) (tw 71) (tw 72) (by decide) (rci l Z a0' hw hEL hSA h e) (by simp) pd12 rfl rfl (Nat.le_of_eq rfl) (by decide) (by decide) (by decide) (by decide) rfl ?_
  refine same_intro ?_
  show W h [e] 0 0 4 #[.val (.ref e), .val (.ref v), .val (.ref n), .val (.ref lo), .val (.ref q), .val (.int z), .val (.null), .val (.ref y1), .val (.null), .val (.ref y2)] []
  have K := Keep.refl h [e]
  refine C.aloadN 5 d11_4 rfl rfl rfl ?_
  refine C.aloadN 6 d11_5 rfl rfl rfl ?_
  refine C.putfield 9 (v' := .ref v) (.object "java/lang/String") d11_6 rfl (tw 74) Via.refl F0 X (Or.inr ⟨(tw 75), rfl, rfl⟩) (tw 38) (by decide) rfl rfl (by simp) ?_
  intro h1 W1
  have z1 : Z.heap.size ≤ h1.size := by rw [W1.size]; exact z0
  replace F0 := F0.same W1
  replace F1 := F1.other W1 (Or.inr (slot_ne (Or.inr (hw _ (tw 77))) (Or.inr (hw _ (tw 75))) (by decide) (t := (.object "java/lang/String")) (t' := (.object "java/lang/String")) (by decide) (by decide)))
  replace F2 := F2.other W1 (Or.inr (slot_ne (Or.inr (hw _ (tw 79))) (Or.inr (hw _ (tw 75))) (by decide) (t := (.object "java/lang/String")) (t' := (.object "java/lang/String")) (by decide) (by decide)))
  replace F3 := F3.other W1 (Or.inr (slot_ne (Or.inr (hw _ (tw 81))) (Or.inr (hw _ (tw 75))) (by decide) (t := (.object "java/lang/String")) (t' := (.object "java/lang/String")) (by decide) (by decide)))
  replace F4 := F4.other W1 (Or.inr (slot_ne (Or.inr (hw _ (tw 83))) (Or.inr (hw _ (tw 75))) (by decide) (t := .int) (t' := (.object "java/lang/String")) (by decide) (by decide)))
  replace F5 := F5.other W1 (Or.inr (slot_ne (Or.inr (hw _ (tw 85))) (Or.inr (hw _ (tw 75))) (by decide) (t := (.object "java/util/Map")) (t' := (.object "java/lang/String")) (by decide) (by decide)))
  replace F6 := F6.other W1 (Or.inr (slot_ne (Or.inr (hw _ (tw 87))) (Or.inr (hw _ (tw 75))) (by decide) (t := (.object "java/util/List")) (t' := (.object "java/lang/String")) (by decide) (by decide)))
  replace F7 := F7.other W1 (Or.inr (slot_ne (Or.inr (hw _ (tw 89))) (Or.inr (hw _ (tw 75))) (by decide) (t := (.object "java/util/Map")) (t' := (.object "java/lang/String")) (by decide) (by decide)))
  replace F8 := F8.other W1 (Or.inr (slot_ne (Or.inr (hw _ (tw 91))) (Or.inr (hw _ (tw 75))) (by decide) (t := (.object "java/util/List")) (t' := (.object "java/lang/String")) (by decide) (by decide)))
  replace X := X.wr W1
  replace K := K.wr W1 (Or.inl (List.mem_of_getElem? (i := 0) rfl))
  refine C.aloadN 10 d11_9 rfl rfl rfl ?_
  refine C.aloadN 11 d11_10 rfl rfl rfl ?_
  refine C.putfield 14 (v' := .ref n) (.object "java/lang/String") d11_11 rfl (tw 76) Via.refl F1 X (Or.inr ⟨(tw 77), rfl, rfl⟩) (tw 38) (by decide) rfl rfl (by simp) ?_
  intro h2 W2
  have z2 : Z.heap.size ≤ h2.size := by rw [W2.size]; exact z1
  replace F0 := F0.other W2 (Or.inr (slot_ne (Or.inr (hw _ (tw 75))) (Or.inr (hw _ (tw 77))) (by decide) (t := (.object "java/lang/String")) (t' := (.object "java/lang/String")) (by decide) (by decide)))
  replace F1 := F1.same W2
  replace F2 := F2.other W2 (Or.inr (slot_ne (Or.inr (hw _ (tw 79))) (Or.inr (hw _ (tw 77))) (by decide) (t := (.object "java/lang/String")) (t' := (.object "java/lang/String")) (by decide) (by decide)))
  replace F3 := F3.other W2 (Or.inr (slot_ne (Or.inr (hw _ (tw 81))) (Or.inr (hw _ (tw 77))) (by decide) (t := (.object "java/lang/String")) (t' := (.object "java/lang/String")) (by decide) (by decide)))
  replace F4 := F4.other W2 (Or.inr (slot_ne (Or.inr (hw _ (tw 83))) (Or.inr (hw _ (tw 77))) (by decide) (t := .int) (t' := (.object "java/lang/String")) (by decide) (by decide)))
  replace F5 := F5.other W2 (Or.inr (slot_ne (Or.inr (hw _ (tw 85))) (Or.inr (hw _ (tw 77))) (by decide) (t := (.object "java/util/Map")) (t' := (.object "java/lang/String")) (by decide) (by decide)))
  replace F6 := F6.other W2 (Or.inr (slot_ne (Or.inr (hw _ (tw 87))) (Or.inr (hw _ (tw 77))) (by decide) (t := (.object "java/util/List")) (t' := (.object "java/lang/String")) (by decide) (by decide)))
  replace F7 := F7.other W2 (Or.inr (slot_ne (Or.inr (hw _ (tw 89))) (Or.inr (hw _ (tw 77))) (by decide) (t := (.object "java/util/Map")) (t' := (.object "java/lang/String")) (by decide) (by decide)))
  replace F8 := F8.other W2 (Or.inr (slot_ne (Or.inr (hw _ (tw 91))) (Or.inr (hw _ (tw 77))) (by decide) (t := (.object "java/util/List")) (t' := (.object "java/lang/String")) (by decide) (by decide)))
  replace X := X.wr W2
  replace K := K.wr W2 (Or.inl (List.mem_of_getElem? (i := 0) rfl))
  refine C.aloadN 15 d11_14 rfl rfl rfl ?_
  refine C.aloadN 16 d11_15 rfl rfl rfl ?_
  refine C.putfield 19 (v' := .ref lo) (.object "java/lang/String") d11_16 rfl (tw 78) Via.refl F2 X (Or.inr ⟨(tw 79), rfl, rfl⟩) (tw 38) (by decide) rfl rfl (by simp) ?_
  intro h3 W3
  have z3 : Z.heap.size ≤ h3.size := by rw [W3.size]; exact z2
  replace F0 := F0.other W3 (Or.inr (slot_ne (Or.inr (hw _ (tw 75))) (Or.inr (hw _ (tw 79))) (by decide) (t := (.object "java/lang/String")) (t' := (.object "java/lang/String")) (by decide) (by decide)))
  replace F1 := F1.other W3 (Or.inr (slot_ne (Or.inr (hw _ (tw 77))) (Or.inr (hw _ (tw 79))) (by decide) (t := (.object "java/lang/String")) (t' := (.object "java/lang/String")) (by decide) (by decide)))
  replace F2 := F2.same W3
  replace F3 := F3.other W3 (Or.inr (slot_ne (Or.inr (hw _ (tw 81))) (Or.inr (hw _ (tw 79))) (by decide) (t := (.object "java/lang/String")) (t' := (.object "java/lang/String")) (by decide) (by decide)))
  replace F4 := F4.other W3 (Or.inr (slot_ne (Or.inr (hw _ (tw 83))) (Or.inr (hw _ (tw 79))) (by decide) (t := .int) (t' := (.object "java/lang/String")) (by decide) (by decide)))
  replace F5 := F5.other W3 (Or.inr (slot_ne (Or.inr (hw _ (tw 85))) (Or.inr (hw _ (tw 79))) (by decide) (t := (.object "java/util/Map")) (t' := (.object "java/lang/String")) (by decide) (by decide)))
  replace F6 := F6.other W3 (Or.inr (slot_ne (Or.inr (hw _ (tw 87))) (Or.inr (hw _ (tw 79))) (by decide) (t := (.object "java/util/List")) (t' := (.object "java/lang/String")) (by decide) (by decide)))
  replace F7 := F7.other W3 (Or.inr (slot_ne (Or.inr (hw _ (tw 89))) (Or.inr (hw _ (tw 79))) (by decide) (t := (.object "java/util/Map")) (t' := (.object "java/lang/String")) (by decide) (by decide)))
  replace F8 := F8.other W3 (Or.inr (slot_ne (Or.inr (hw _ (tw 91))) (Or.inr (hw _ (tw 79))) (by decide) (t := (.object "java/util/List")) (t' := (.object "java/lang/String")) (by decide) (by decide)))
  replace X := X.wr W3
  replace K := K.wr W3 (Or.inl (List.mem_of_getElem? (i := 0) rfl))
  refine C.aloadN 20 d11_19 rfl rfl rfl ?_
  refine C.aload 22 d11_20 rfl rfl rfl ?_
  refine C.putfield 25 (v' := .ref q) (.object "java/lang/String") d11_22 rfl (tw 80) Via.refl F3 X (Or.inr ⟨(tw 81), rfl, rfl⟩) (tw 38) (by decide) rfl rfl (by simp) ?_
  intro h4 W4
  have z4 : Z.heap.size ≤ h4.size := by rw [W4.size]; exact z3
  replace F0 := F0.other W4 (Or.inr (slot_ne (Or.inr (hw _ (tw 75))) (Or.inr (hw _ (tw 81))) (by decide) (t := (.object "java/lang/String")) (t' := (.object "java/lang/String")) (by decide) (by decide)))
  replace F1 := F1.other W4 (Or.inr (slot_ne (Or.inr (hw _ (tw 77))) (Or.inr (hw _ (tw 81))) (by decide) (t := (.object "java/lang/String")) (t' := (.object "java/lang/String")) (by decide) (by decide)))
  replace F3 := F3.same W4
  replace F4 := F4.other W4 (Or.inr (slot_ne (Or.inr (hw _ (tw 83))) (Or.inr (hw _ (tw 81))) (by decide) (t := .int) (t' := (.object "java/lang/String")) (by decide) (by decide)))
  replace F5 := F5.other W4 (Or.inr (slot_ne (Or.inr (hw _ (tw 85))) (Or.inr (hw _ (tw 81))) (by decide) (t := (.object "java/util/Map")) (t' := (.object "java/lang/String")) (by decide) (by decide)))
  replace F6 := F6.other W4 (Or.inr (slot_ne (Or.inr (hw _ (tw 87))) (Or.inr (hw _ (tw 81))) (by decide) (t := (.object "java/util/List")) (t' := (.object "java/lang/String")) (by decide) (by decide)))
  replace F7 := F7.other W4 (Or.inr (slot_ne (Or.inr (hw _ (tw 89))) (Or.inr (hw _ (tw 81))) (by decide) (t := (.object "java/util/Map")) (t' := (.object "java/lang/String")) (by decide) (by decide)))
  replace F8 := F8.other W4 (Or.inr (slot_ne (Or.inr (hw _ (tw 91))) (Or.inr (hw _ (tw 81))) (by decide) (t := (.object "java/util/List")) (t' := (.object "java/lang/String")) (by decide) (by decide)))
  replace X := X.wr W4
  replace K := K.wr W4 (Or.inl (List.mem_of_getElem? (i := 0) rfl))
  refine C.aloadN 26 d11_25 rfl rfl rfl ?_
  refine C.iload 28 d11_26 rfl rfl ?_
  refine C.putfield 31 (v' := .int z) .int d11_28 rfl (tw 82) Via.refl F4 X (Or.inr ⟨(tw 83), rfl, rfl⟩) (tw 38) (by decide) rfl rfl (by simp) ?_
  intro h5 W5
  have z5 : Z.heap.size ≤ h5.size := by rw [W5.size]; exact z4
  replace F0 := F0.other W5 (Or.inr (slot_ne (Or.inr (hw _ (tw 75))) (Or.inr (hw _ (tw 83))) (by decide) (t := (.object "java/lang/String")) (t' := .int) (by decide) (by decide)))
  replace F1 := F1.other W5 (Or.inr (slot_ne (Or.inr (hw _ (tw 77))) (Or.inr (hw _ (tw 83))) (by decide) (t := (.object "java/lang/String")) (t' := .int) (by decide) (by decide)))
  replace F4 := F4.same W5
  replace F5 := F5.other W5 (Or.inr (slot_ne (Or.inr (hw _ (tw 85))) (Or.inr (hw _ (tw 83))) (by decide) (t := (.object "java/util/Map")) (t' := .int) (by decide) (by decide)))
  replace F6 := F6.other W5 (Or.inr (slot_ne (Or.inr (hw _ (tw 87))) (Or.inr (hw _ (tw 83))) (by decide) (t := (.object "java/util/List")) (t' := .int) (by decide) (by decide)))
  replace F7 := F7.other W5 (Or.inr (slot_ne (Or.inr (hw _ (tw 89))) (Or.inr (hw _ (tw 83))) (by decide) (t := (.object "java/util/Map")) (t' := .int) (by decide) (by decide)))
  replace F8 := F8.other W5 (Or.inr (slot_ne (Or.inr (hw _ (tw 91))) (Or.inr (hw _ (tw 83))) (by decide) (t := (.object "java/util/List")) (t' := .int) (by decide) (by decide)))
  replace X := X.wr W5
  replace K := K.wr W5 (Or.inl (List.mem_of_getElem? (i := 0) rfl))
  refine C.aloadN 32 d11_31 rfl rfl rfl ?_
  refine C.aload 34 d11_32 rfl rfl rfl ?_
  refine C.putfield 37 (v' := .null) (.object "java/util/Map") d11_34 rfl (tw 84) Via.refl F5 X (Or.inr ⟨(tw 85), rfl, rfl⟩) (tw 38) (by decide) rfl rfl (by simp) ?_
  intro h6 W6
  have z6 : Z.heap.size ≤ h6.size := by rw [W6.size]; exact z5
  replace F0 := F0.other W6 (Or.inr (slot_ne (Or.inr (hw _ (tw 75))) (Or.inr (hw _ (tw 85))) (by decide) (t := (.object "java/lang/String")) (t' := (.object "java/util/Map")) (by decide) (by decide)))
  replace F1 := F1.other W6 (Or.inr (slot_ne (Or.inr (hw _ (tw 77))) (Or.inr (hw _ (tw 85))) (by decide) (t := (.object "java/lang/String")) (t' := (.object "java/util/Map")) (by decide) (by decide)))
  replace F5 := F5.same W6
  replace F6 := F6.other W6 (Or.inr (slot_ne (Or.inr (hw _ (tw 87))) (Or.inr (hw _ (tw 85))) (by decide) (t := (.object "java/util/List")) (t' := (.object "java/util/Map")) (by decide) (by decide)))
  replace F7 := F7.other W6 (Or.inr (slot_ne (Or.inr (hw _ (tw 89))) (Or.inr (hw _ (tw 85))) (by decide) (t := (.object "java/util/Map")) (t' := (.object "java/util/Map")) (by decide) (by decide)))
  replace F8 := F8.other W6 (Or.inr (slot_ne (Or.inr (hw _ (tw 91))) (Or.inr (hw _ (tw 85))) (by decide) (t := (.object "java/util/List")) (t' := (.object "java/util/Map")) (by decide) (by decide)))
  replace X := X.wr W6
  replace K := K.wr W6 (Or.inl (List.mem_of_getElem? (i := 0) rfl))
  refine C.aloadN 38 d11_37 rfl rfl rfl ?_
  refine C.aload 40 d11_38 rfl rfl rfl ?_
  refine C.putfield 43 (v' := .ref y1) (.object "java/util/List") d11_40 rfl (tw 86) Via.refl F6 X (Or.inr ⟨(tw 87), rfl, rfl⟩) (tw 38) (by decide) rfl rfl (by simp) ?_
  intro h7 W7
  have z7 : Z.heap.size ≤ h7.size := by rw [W7.size]; exact z6
  replace F0 := F0.other W7 (Or.inr (slot_ne (Or.inr (hw _ (tw 75))) (Or.inr (hw _ (tw 87))) (by decide) (t := (.object "java/lang/String")) (t' := (.object "java/util/List")) (by decide) (by decide)))
  replace F1 := F1.other W7 (Or.inr (slot_ne (Or.inr (hw _ (tw 77))) (Or.inr (hw _ (tw 87))) (by decide) (t := (.object "java/lang/String")) (t' := (.object "java/util/List")) (by decide) (by decide)))
  replace F6 := F6.same W7
  replace F7 := F7.other W7 (Or.inr (slot_ne (Or.inr (hw _ (tw 89))) (Or.inr (hw _ (tw 87))) (by decide) (t := (.object "java/util/Map")) (t' := (.object "java/util/List")) (by decide) (by decide)))
  replace F8 := F8.other W7 (Or.inr (slot_ne (Or.inr (hw _ (tw 91))) (Or.inr (hw _ (tw 87))) (by decide) (t := (.object "java/util/List")) (t' := (.object "java/util/List")) (by decide) (by decide)))
  replace X := X.wr W7
  replace K := K.wr W7 (Or.inl (List.mem_of_getElem? (i := 0) rfl))
  refine C.aloadN 44 d11_43 rfl rfl rfl ?_
  refine C.aload 46 d11_44 rfl rfl rfl ?_
  refine C.putfield 49 (v' := .null) (.object "java/util/Map") d11_46 rfl (tw 88) Via.refl F7 X (Or.inr ⟨(tw 89), rfl, rfl⟩) (tw 38) (by decide) rfl rfl (by simp) ?_
  intro h8 W8
  have z8 : Z.heap.size ≤ h8.size := by rw [W8.size]; exact z7
  replace F0 := F0.other W8 (Or.inr (slot_ne (Or.inr (hw _ (tw 75))) (Or.inr (hw _ (tw 89))) (by decide) (t := (.object "java/lang/String")) (t' := (.object "java/util/Map")) (by decide) (by decide)))
  replace F1 := F1.other W8 (Or.inr (slot_ne (Or.inr (hw _ (tw 77))) (Or.inr (hw _ (tw 89))) (by decide) (t := (.object "java/lang/String")) (t' := (.object "java/util/Map")) (by decide) (by decide)))
  replace F7 := F7.same W8
  replace F8 := F8.other W8 (Or.inr (slot_ne (Or.inr (hw _ (tw 91))) (Or.inr (hw _ (tw 89))) (by decide) (t := (.object "java/util/List")) (t' := (.object "java/util/Map")) (by decide) (by decide)))
  replace X := X.wr W8
  replace K := K.wr W8 (Or.inl (List.mem_of_getElem? (i := 0) rfl))
  refine C.aloadN 50 d11_49 rfl rfl rfl ?_
  refine C.aload 52 d11_50 rfl rfl rfl ?_
  refine C.putfield 55 (v' := .ref y2) (.object "java/util/List") d11_52 rfl (tw 90) Via.refl F8 X (Or.inr ⟨(tw 91), rfl, rfl⟩) (tw 38) (by decide) rfl rfl (by simp) ?_
  intro h9 W9
  have z9 : Z.heap.size ≤ h9.size := by rw [W9.size]; exact z8
  replace F0 := F0.other W9 (Or.inr (slot_ne (Or.inr (hw _ (tw 75))) (Or.inr (hw _ (tw 91))) (by decide) (t := (.object "java/lang/String")) (t' := (.object "java/util/List")) (by decide) (by decide)))
  replace F1 := F1.other W9 (Or.inr (slot_ne (Or.inr (hw _ (tw 77))) (Or.inr (hw _ (tw 91))) (by decide) (t := (.object "java/lang/String")) (t' := (.object "java/util/List")) (by decide) (by decide)))
  replace F8 := F8.same W9
  replace X := X.wr W9
  replace K := K.wr W9 (Or.inl (List.mem_of_getElem? (i := 0) rfl))
  exact C.ret0 d11_55 rfl (by decide) (by decide) ⟨rfl, K, X, F0, F1⟩ (fun _ q => nomatch q)
theorem d13_0 : decode prog_112_method_2_code 0 = .ok (.aload_n 0, 1) := by decide +kernel
theorem d13_1 : decode prog_112_method_2_code 1 = .ok (.getfield 7, 3) := by decide +kernel
theorem d13_4 : decode prog_112_method_2_code 4 = .ok (.aload_n 0, 1) := by decide +kernel
theorem d13_5 : decode prog_112_method_2_code 5 = .ok (.getfield 13, 3) := by decide +kernel
theorem d13_8 : decode prog_112_method_2_code 8 = .ok (.invokevirtual 40, 3) := by decide +kernel
theorem d13_11 : decode prog_112_method_2_code 11 = .ok (.ireturn, 1) := by decide +kernel
theorem pn13 : plainFor (⟨"com/example/weftline/weftline/XmlElement", "inVocabulary", "()Z"⟩ : MethodName) = true := by first | exact plainFor_of_name (by first | (simp [plainName, overriddenIn]; done) | decide +kernel) | decide +kernel
theorem pd13 : parseMethodDescriptor "()Z" = some ⟨[], some .boolean⟩ := by decide +kernel
set_option maxRecDepth 65536 in
set_option maxHeartbeats 40000000 in
theorem xiv (l : Launch) (Z : State) (a0' : Array Value) (hw : ∀ d ∈ tables_1, d.before a0' Z = true) (hEL : EW Z a0' EL0) (hSA : ∀ a ∈ Bundle.stringAtoms, a.before a0' Z = true) (h : Heap) (cpt : Int32) (SCP : Sta Z Z.heap "java/lang/String" "COMPACT_STRINGS" "Z" (.int cpt)) (hcp : ¬ cpt = 0) (e a b va vb : Addr) (G0 : Fld Z h e "com/example/weftline/weftline/XmlElement" "vocabulary" "Ljava/lang/String;" (.ref a)) (G1 : Fld Z h e "com/example/weftline/weftline/XmlElement" "namespace" "Ljava/lang/String;" (.ref b)) (ne : ¬ a = b) (cs ds : List Int32) (hn : cs.length < 2 ^ 28) (hm : ds.length < 2 ^ 28) (hc : ∀ c ∈ cs, Ch c) (hd : ∀ c ∈ ds, Ch c) (A : Str Z h a va cs) (B : Str Z h b vb ds) (r : Int32) (hr : r = if cs = ds then 1 else 0) :
    Con l Z EL0 (⟨"com/example/weftline/weftline/XmlElement", "inVocabulary", "()Z"⟩ : MethodName) prog_112_method_2_code 1 (some .boolean) ⟨2, 0, 0, 28⟩ #[.ref e] h [] (Same (some (.int r)) h) (fun _ => []) := by
  refine Con.of (Ls := #[.val (.ref e)]) hw hEL pn13 (fun m => by first | (simp [entryFrame, mkF, argsToLocals, Value.category, maxLocals]; done) | rfl) fun W C => ?_
  refine C.kept fun hE => ?_
  have z0 : Z.heap.size ≤ h.size := hE.1
  refine C.aloadN 1 d13_0 rfl rfl rfl ?_
  refine C.getfield 4 d13_1 rfl (tw 74) Via.refl G0 ?_
  refine C.aloadN 5 d13_4 rfl rfl rfl ?_
  refine C.getfield 8 d13_5 rfl (tw 76) Via.refl G1 ?_
  refine C.callV 11 (as := [.ref b]) (rest := []) (rm := ⟨1, 0, 0, 14⟩) 0 d13_8 rfl (tw 97) (tw 98) (tw 100) nfSelf (tw 99) (tw 7) (tw 101) (by decide) A.1 (seq l Z a0' hw hEL hSA h cpt SCP hcp a b va vb ne cs ds hn hm hc hd A B r hr) (by simp) pd14 rfl rfl (Nat.le_of_eq rfl) (by decide) (by decide) (by decide) (by decide) rfl ?_
  refine same_intro ?_
  show W h [] 0 0 11 #[.val (.ref e)] [.int r]
  have nb : nar .boolean r = r := by rw [hr]; split <;> rfl
  exact C.retI .boolean d13_11 rfl (by simp) nb (by decide) (by decide) ⟨rfl, rfl⟩ (fun _ q => nomatch q)
set_option maxRecDepth 65536 in
set_option maxHeartbeats 40000000 in
theorem law_con (l : Launch) (Z : State) (a0' : Array Value) (hw : ∀ d ∈ tables_1, d.before a0' Z = true) (hEL : EW Z a0' EL0) (hSA : ∀ a ∈ Bundle.stringAtoms, a.before a0' Z = true) (a b c : Int32) (cpt : Int32) (SCP : Sta Z Z.heap "java/lang/String" "COMPACT_STRINGS" "Z" (.int cpt)) (hcp : ¬ cpt = 0) (dd : Addr) (SD : Sta Z Z.heap "java/util/ArrayList" "DEFAULTCAPACITY_EMPTY_ELEMENTDATA" "[Ljava/lang/Object;" (.ref dd)) :
    Con l Z EL0 x code maxLocals ret room_1 #[.int a, .int b, .int c] Z.heap [] (fun v _ => v = some (.int 1)) (fun _ => []) := by
  refine Con.of (Ls := #[.val (.int a), .val (.int b), .val (.int c), .unset, .unset, .unset, .unset, .unset, .unset, .unset, .unset, .unset, .unset, .unset, .unset, .unset, .unset, .unset]) hw hEL pn0 (fun m => by first | (simp [entryFrame, mkF, argsToLocals, Value.category, maxLocals]; done) | rfl) fun W C => ?_
  have z0 : Z.heap.size ≤ Z.heap.size := Nat.le_refl _
  have tail : ∀ (i j : Nat) (hi : i < 4) (hj : j < 4) (s4 s6 d : Int32), W Z.heap [] 0 0 62 #[.val (.int a), .val (.int b), .val (.int c), .val (.int (Int32.ofNat i)), .val (.int s4), .val (.int (Int32.ofNat j)), .val (.int s6), .val (.int d), .unset, .unset, .unset, .unset, .unset, .unset, .unset, .unset, .unset, .unset] [] := by
    intro i j hi hj s4 s6 d
    refine C.iloadN 63 at_62 rfl rfl ?_
    refine C.sipush 66 (255 : Int32) at_63 rfl rfl ?_
    refine C.iand 67 at_66 rfl ?_
    refine C.i2c 68 at_67 rfl ?_
    have Hv0 := low a
    generalize (Int32.toUInt32 (a &&& (255 : Int32))).toUInt16.toUInt32.toInt32 = v0 at Hv0 ⊢
    refine C.istore 70 #[.val (.int a), .val (.int b), .val (.int c), .val (.int (Int32.ofNat i)), .val (.int s4), .val (.int (Int32.ofNat j)), .val (.int s6), .val (.int d), .val (.int v0), .unset, .unset, .unset, .unset, .unset, .unset, .unset, .unset, .unset] at_68 rfl rfl ?_
    refine C.iloadN 71 at_70 rfl rfl ?_
    refine C.bipush 73 (8 : Int32) at_71 rfl rfl ?_
    refine C.iushr 74 at_73 rfl ?_
    refine C.sipush 77 (255 : Int32) at_74 rfl rfl ?_
    refine C.iand 78 at_77 rfl ?_
    refine C.i2c 79 at_78 rfl ?_
    have Hv1 := low (XT.ushr a (8 : Int32))
    generalize (Int32.toUInt32 ((XT.ushr a (8 : Int32)) &&& (255 : Int32))).toUInt16.toUInt32.toInt32 = v1 at Hv1 ⊢
    refine C.istore 81 #[.val (.int a), .val (.int b), .val (.int c), .val (.int (Int32.ofNat i)), .val (.int s4), .val (.int (Int32.ofNat j)), .val (.int s6), .val (.int d), .val (.int v0), .val (.int v1), .unset, .unset, .unset, .unset, .unset, .unset, .unset, .unset] at_79 rfl rfl ?_
    refine C.iloadN 82 at_81 rfl rfl ?_
    refine C.bipush 84 (16 : Int32) at_82 rfl rfl ?_
    refine C.iushr 85 at_84 rfl ?_
    refine C.sipush 88 (255 : Int32) at_85 rfl rfl ?_
    refine C.iand 89 at_88 rfl ?_
    refine C.i2c 90 at_89 rfl ?_
    have Hv2 := low (XT.ushr a (16 : Int32))
    generalize (Int32.toUInt32 ((XT.ushr a (16 : Int32)) &&& (255 : Int32))).toUInt16.toUInt32.toInt32 = v2 at Hv2 ⊢
    refine C.istore 92 #[.val (.int a), .val (.int b), .val (.int c), .val (.int (Int32.ofNat i)), .val (.int s4), .val (.int (Int32.ofNat j)), .val (.int s6), .val (.int d), .val (.int v0), .val (.int v1), .val (.int v2), .unset, .unset, .unset, .unset, .unset, .unset, .unset] at_90 rfl rfl ?_
    refine C.iload 94 at_92 rfl rfl ?_
    refine C.iload 96 at_94 rfl rfl ?_
    refine C.ixor 97 at_96 rfl ?_
    refine C.sipush 100 (255 : Int32) at_97 rfl rfl ?_
    refine C.iand 101 at_100 rfl ?_
    refine C.i2c 102 at_101 rfl ?_
    have Hn0 := low (v0 ^^^ d)
    generalize (Int32.toUInt32 ((v0 ^^^ d) &&& (255 : Int32))).toUInt16.toUInt32.toInt32 = n0 at Hn0 ⊢
    refine C.istore 104 #[.val (.int a), .val (.int b), .val (.int c), .val (.int (Int32.ofNat i)), .val (.int s4), .val (.int (Int32.ofNat j)), .val (.int s6), .val (.int d), .val (.int v0), .val (.int v1), .val (.int v2), .val (.int n0), .unset, .unset, .unset, .unset, .unset, .unset] at_102 rfl rfl ?_
    refine C.iload 106 at_104 rfl rfl ?_
    refine C.iload 108 at_106 rfl rfl ?_
    refine C.bipush 110 (8 : Int32) at_108 rfl rfl ?_
    refine C.iushr 111 at_110 rfl ?_
    refine C.ixor 112 at_111 rfl ?_
    refine C.sipush 115 (255 : Int32) at_112 rfl rfl ?_
    refine C.iand 116 at_115 rfl ?_
    refine C.i2c 117 at_116 rfl ?_
    have Hn1 := low (v1 ^^^ (XT.ushr d (8 : Int32)))
    generalize (Int32.toUInt32 ((v1 ^^^ (XT.ushr d (8 : Int32))) &&& (255 : Int32))).toUInt16.toUInt32.toInt32 = n1 at Hn1 ⊢
    refine C.istore 119 #[.val (.int a), .val (.int b), .val (.int c), .val (.int (Int32.ofNat i)), .val (.int s4), .val (.int (Int32.ofNat j)), .val (.int s6), .val (.int d), .val (.int v0), .val (.int v1), .val (.int v2), .val (.int n0), .val (.int n1), .unset, .unset, .unset, .unset, .unset] at_117 rfl rfl ?_
    refine C.iload 121 at_119 rfl rfl ?_
    refine C.iload 123 at_121 rfl rfl ?_
    refine C.bipush 125 (16 : Int32) at_123 rfl rfl ?_
    refine C.iushr 126 at_125 rfl ?_
    refine C.ixor 127 at_126 rfl ?_
    refine C.sipush 130 (255 : Int32) at_127 rfl rfl ?_
    refine C.iand 131 at_130 rfl ?_
    refine C.i2c 132 at_131 rfl ?_
    have Hn2 := low (v2 ^^^ (XT.ushr d (16 : Int32)))
    generalize (Int32.toUInt32 ((v2 ^^^ (XT.ushr d (16 : Int32))) &&& (255 : Int32))).toUInt16.toUInt32.toInt32 = n2 at Hn2 ⊢
    refine C.istore 134 #[.val (.int a), .val (.int b), .val (.int c), .val (.int (Int32.ofNat i)), .val (.int s4), .val (.int (Int32.ofNat j)), .val (.int s6), .val (.int d), .val (.int v0), .val (.int v1), .val (.int v2), .val (.int n0), .val (.int n1), .val (.int n2), .unset, .unset, .unset, .unset] at_132 rfl rfl ?_
    refine C.iloadN 135 at_134 rfl rfl ?_
    refine C.iload 137 at_135 rfl rfl ?_
    refine C.iload 139 at_137 rfl rfl ?_
    refine C.iload 141 at_139 rfl rfl ?_
    refine C.callS 144 (as := [.int (Int32.ofNat i), .int v0, .int v1, .int v2]) (rest := []) (rm := ⟨4, 6, 15, 66⟩) 0 at_141 rfl (tw 0) (tw 1) (tw 2) (tw 3) (by decide) (str l Z a0' hw hEL hSA Z.heap cpt SCP hcp i hi v0 v1 v2 Hv0 Hv1 Hv2) (by simp) pd1 rfl rfl (Nat.le_of_eq rfl) (by decide) (by decide) (by decide) (by decide) rfl ?_
    rintro v h1 ⟨a1, s1, rfl, ga1, E1, T1⟩
    have z1 : Z.heap.size ≤ h1.size := Nat.le_trans z0 E1.1
    show W h1 [] 6 15 144 #[.val (.int a), .val (.int b), .val (.int c), .val (.int (Int32.ofNat i)), .val (.int s4), .val (.int (Int32.ofNat j)), .val (.int s6), .val (.int d), .val (.int v0), .val (.int v1), .val (.int v2), .val (.int n0), .val (.int n1), .val (.int n2), .unset, .unset, .unset, .unset] [.ref a1]
    refine C.astore 146 #[.val (.int a), .val (.int b), .val (.int c), .val (.int (Int32.ofNat i)), .val (.int s4), .val (.int (Int32.ofNat j)), .val (.int s6), .val (.int d), .val (.int v0), .val (.int v1), .val (.int v2), .val (.int n0), .val (.int n1), .val (.int n2), .val (.ref a1), .unset, .unset, .unset] at_144 rfl rfl rfl ?_
    refine C.iload 148 at_146 rfl rfl ?_
    refine C.iload 150 at_148 rfl rfl ?_
    refine C.iload 152 at_150 rfl rfl ?_
    refine C.iload 154 at_152 rfl rfl ?_
    refine C.callS 157 (as := [.int (Int32.ofNat j), .int n0, .int n1, .int n2]) (rest := []) (rm := ⟨4, 6, 15, 66⟩) 0 at_154 rfl (tw 0) (tw 1) (tw 2) (tw 3) (by decide) (str l Z a0' hw hEL hSA h1 cpt SCP hcp j hj n0 n1 n2 Hn0 Hn1 Hn2) (by simp) pd1 rfl rfl (Nat.le_of_eq rfl) (by decide) (by decide) (by decide) (by decide) rfl ?_
    rintro v h2 ⟨a2, s2, rfl, ga2, E2, T2⟩
    have z2 : Z.heap.size ≤ h2.size := Nat.le_trans z1 E2.1
    show W h2 [] 12 30 157 #[.val (.int a), .val (.int b), .val (.int c), .val (.int (Int32.ofNat i)), .val (.int s4), .val (.int (Int32.ofNat j)), .val (.int s6), .val (.int d), .val (.int v0), .val (.int v1), .val (.int v2), .val (.int n0), .val (.int n1), .val (.int n2), .val (.ref a1), .unset, .unset, .unset] [.ref a2]
    have ne12 : a1 ≠ a2 := Nat.ne_of_lt (Nat.lt_of_lt_of_le T1.1.lt ga2)
    replace T1 := T1.ext E2
    refine C.astore 159 #[.val (.int a), .val (.int b), .val (.int c), .val (.int (Int32.ofNat i)), .val (.int s4), .val (.int (Int32.ofNat j)), .val (.int s6), .val (.int d), .val (.int v0), .val (.int v1), .val (.int v2), .val (.int n0), .val (.int n1), .val (.int n2), .val (.ref a1), .val (.ref a2), .unset, .unset] at_157 rfl rfl rfl ?_
    refine C.new 162 at_159 rfl (tw 37) (tw 38) (tw 39) (by decide) (by decide) ?_
    intro h3 E3 X3 D3
    obtain ⟨b3, g3⟩ : ∃ z, z = h2.size := ⟨_, rfl⟩
    rw [← g3] at X3 ⊢
    rw [← g3] at D3
    have z3 : Z.heap.size ≤ h3.size := Nat.le_trans z2 E3.1
    have zb3 : Z.heap.size ≤ b3 := by rw [g3]; exact z2
    show W h3 [b3] 13 39 162 #[.val (.int a), .val (.int b), .val (.int c), .val (.int (Int32.ofNat i)), .val (.int s4), .val (.int (Int32.ofNat j)), .val (.int s6), .val (.int d), .val (.int v0), .val (.int v1), .val (.int v2), .val (.int n0), .val (.int n1), .val (.int n2), .val (.ref a1), .val (.ref a2), .unset, .unset] [.ref b3]
    have X := X3
    have na1 : a1 ≠ b3 := by rw [g3]; exact Nat.ne_of_lt T1.1.lt
    have nb1 : s1 ≠ b3 := by rw [g3]; exact Nat.ne_of_lt T1.2.2.2.lt
    replace T1 := T1.ext E3
    have na2 : a2 ≠ b3 := by rw [g3]; exact Nat.ne_of_lt T2.1.lt
    have nb2 : s2 ≠ b3 := by rw [g3]; exact Nat.ne_of_lt T2.2.2.2.lt
    replace T2 := T2.ext E3
    have F0 : Fld Z h3 b3 "com/example/weftline/weftline/XmlElement" "vocabulary" "Ljava/lang/String;" (.null) := D3 (Or.inr (hw _ (tw 75))) (ty := (.object "java/lang/String")) (by decide)
    have F1 : Fld Z h3 b3 "com/example/weftline/weftline/XmlElement" "namespace" "Ljava/lang/String;" (.null) := D3 (Or.inr (hw _ (tw 77))) (ty := (.object "java/lang/String")) (by decide)
    have F2 : Fld Z h3 b3 "com/example/weftline/weftline/XmlElement" "localName" "Ljava/lang/String;" (.null) := D3 (Or.inr (hw _ (tw 79))) (ty := (.object "java/lang/String")) (by decide)
    have F3 : Fld Z h3 b3 "com/example/weftline/weftline/XmlElement" "qName" "Ljava/lang/String;" (.null) := D3 (Or.inr (hw _ (tw 81))) (ty := (.object "java/lang/String")) (by decide)
    have F4 : Fld Z h3 b3 "com/example/weftline/weftline/XmlElement" "line" "I" (.int 0) := D3 (Or.inr (hw _ (tw 83))) (ty := .int) (by decide)
    have F5 : Fld Z h3 b3 "com/example/weftline/weftline/XmlElement" "attributes" "Ljava/util/Map;" (.null) := D3 (Or.inr (hw _ (tw 85))) (ty := (.object "java/util/Map")) (by decide)
    have F6 : Fld Z h3 b3 "com/example/weftline/weftline/XmlElement" "qualifiedAttributes" "Ljava/util/List;" (.null) := D3 (Or.inr (hw _ (tw 87))) (ty := (.object "java/util/List")) (by decide)
    have F7 : Fld Z h3 b3 "com/example/weftline/weftline/XmlElement" "prefixes" "Ljava/util/Map;" (.null) := D3 (Or.inr (hw _ (tw 89))) (ty := (.object "java/util/Map")) (by decide)
    have F8 : Fld Z h3 b3 "com/example/weftline/weftline/XmlElement" "content" "Ljava/util/List;" (.null) := D3 (Or.inr (hw _ (tw 91))) (ty := (.object "java/util/List")) (by decide)
    refine C.dup 163 at_162 rfl rfl ?_
    refine C.aload 165 at_163 rfl rfl rfl ?_
    refine C.aload 167 at_165 rfl rfl rfl ?_
    refine C.ldcO 169 4 at_167 rfl (tw 40) hSA (by decide) (by decide) (by decide) (by decide) ?_
    intro h4 u4 E4
    have z4 : Z.heap.size ≤ h4.size := Nat.le_trans z3 E4.1
    show W h4 [b3] 15 47 169 #[.val (.int a), .val (.int b), .val (.int c), .val (.int (Int32.ofNat i)), .val (.int s4), .val (.int (Int32.ofNat j)), .val (.int s6), .val (.int d), .val (.int v0), .val (.int v1), .val (.int v2), .val (.int n0), .val (.int n1), .val (.int n2), .val (.ref a1), .val (.ref a2), .unset, .unset] [.ref u4, .ref a2, .ref a1, .ref b3, .ref b3]
    replace X := X.ext E4
    replace T1 := T1.ext E4
    replace T2 := T2.ext E4
    replace F0 := F0.ext E4
    replace F1 := F1.ext E4
    replace F2 := F2.ext E4
    replace F3 := F3.ext E4
    replace F4 := F4.ext E4
    replace F5 := F5.ext E4
    replace F6 := F6.ext E4
    replace F7 := F7.ext E4
    replace F8 := F8.ext E4
    refine C.ldcO 171 4 at_169 rfl (tw 40) hSA (by decide) (by decide) (by decide) (by decide) ?_
    intro h5 u5 E5
    have z5 : Z.heap.size ≤ h5.size := Nat.le_trans z4 E5.1
    show W h5 [b3] 17 55 171 #[.val (.int a), .val (.int b), .val (.int c), .val (.int (Int32.ofNat i)), .val (.int s4), .val (.int (Int32.ofNat j)), .val (.int s6), .val (.int d), .val (.int v0), .val (.int v1), .val (.int v2), .val (.int n0), .val (.int n1), .val (.int n2), .val (.ref a1), .val (.ref a2), .unset, .unset] [.ref u5, .ref u4, .ref a2, .ref a1, .ref b3, .ref b3]
    replace X := X.ext E5
    replace T1 := T1.ext E5
    replace T2 := T2.ext E5
    replace F0 := F0.ext E5
    replace F1 := F1.ext E5
    replace F2 := F2.ext E5
    replace F3 := F3.ext E5
    replace F4 := F4.ext E5
    replace F5 := F5.ext E5
    replace F6 := F6.ext E5
    replace F7 := F7.ext E5
    replace F8 := F8.ext E5
    refine C.iconst 172 (1 : Int32) at_171 rfl rfl ?_
    refine C.aconstNull 173 at_172 rfl ?_
    refine C.new 176 at_173 rfl (tw 41) (tw 42) (tw 43) (by decide) (by decide) ?_
    intro h6 E6 X6 D6
    obtain ⟨b6, g6⟩ : ∃ z, z = h5.size := ⟨_, rfl⟩
    rw [← g6] at X6 ⊢
    rw [← g6] at D6
    have z6 : Z.heap.size ≤ h6.size := Nat.le_trans z5 E6.1
    have zb6 : Z.heap.size ≤ b6 := by rw [g6]; exact z5
    show W h6 [b6, b3] 18 58 176 #[.val (.int a), .val (.int b), .val (.int c), .val (.int (Int32.ofNat i)), .val (.int s4), .val (.int (Int32.ofNat j)), .val (.int s6), .val (.int d), .val (.int v0), .val (.int v1), .val (.int v2), .val (.int n0), .val (.int n1), .val (.int n2), .val (.ref a1), .val (.ref a2), .unset, .unset] [.ref b6, .null, .int (1 : Int32), .ref u5, .ref u4, .ref a2, .ref a1, .ref b3, .ref b3]
    have nX : b3 ≠ b6 := by rw [g6]; exact Nat.ne_of_lt X.lt
    have ma1 : a1 ≠ b6 := by rw [g6]; exact Nat.ne_of_lt T1.1.lt
    have mb1 : s1 ≠ b6 := by rw [g6]; exact Nat.ne_of_lt T1.2.2.2.lt
    have ma2 : a2 ≠ b6 := by rw [g6]; exact Nat.ne_of_lt T2.1.lt
    have mb2 : s2 ≠ b6 := by rw [g6]; exact Nat.ne_of_lt T2.2.2.2.lt
    replace X := X.ext E6
    replace T1 := T1.ext E6
    replace T2 := T2.ext E6
    replace F0 := F0.ext E6
    replace F1 := F1.ext E6
    replace F2 := F2.ext E6
    replace F3 := F3.ext E6
    replace F4 := F4.ext E6
    replace F5 := F5.ext E6
    replace F6 := F6.ext E6
    replace F7 := F7.ext E6
    replace F8 := F8.ext E6
    have N_elementData : Fld Z h6 b6 "java/util/ArrayList" "elementData" "[Ljava/lang/Object;" (.null) := D6 (Or.inl (hw _ (tw 64))) (ty := (.array (.object "java/lang/Object"))) (by decide)
    have N_modCount : Fld Z h6 b6 "java/util/AbstractList" "modCount" "I" (.int 0) := D6 (Or.inl (hw _ (tw 61))) (ty := .int) (by decide)
    refine C.dup 177 at_176 rfl rfl ?_
    refine C.callI 180 (a := b6) (as := []) (rest := [.ref b6, .null, .int (1 : Int32), .ref u5, .ref u4, .ref a2, .ref a1, .ref b3, .ref b3]) (rm := ⟨3, 0, 0, 36⟩) 9 at_177 rfl rfl rfl (tw 44) (tw 45) (tw 43) (tw 46) (by decide) (al_init l Z a0' hw hEL hSA h6 b6 dd SD X6 N_elementData N_modCount) (by simp) pd8 rfl rfl (Nat.le_of_eq rfl) (by decide) (by decide) (by decide) (by decide) rfl ?_
    rintro v h7 ⟨rfl, K⟩
    have z7 : Z.heap.size ≤ h7.size := Nat.le_trans z6 K.1
    show W h7 [b6, b3] 18 58 180 #[.val (.int a), .val (.int b), .val (.int c), .val (.int (Int32.ofNat i)), .val (.int s4), .val (.int (Int32.ofNat j)), .val (.int s6), .val (.int d), .val (.int v0), .val (.int v1), .val (.int v2), .val (.int n0), .val (.int n1), .val (.int n2), .val (.ref a1), .val (.ref a2), .unset, .unset] [.ref b6, .null, .int (1 : Int32), .ref u5, .ref u4, .ref a2, .ref a1, .ref b3, .ref b3]
    replace X := X.keep K
    replace F0 := F0.keep K (ninS nX nin0)
    replace F1 := F1.keep K (ninS nX nin0)
    replace F2 := F2.keep K (ninS nX nin0)
    replace F3 := F3.keep K (ninS nX nin0)
    replace F4 := F4.keep K (ninS nX nin0)
    replace F5 := F5.keep K (ninS nX nin0)
    replace F6 := F6.keep K (ninS nX nin0)
    replace F7 := F7.keep K (ninS nX nin0)
    replace F8 := F8.keep K (ninS nX nin0)
    replace T1 := T1.keep K (ninS ma1 nin0) (ninS mb1 nin0)
    replace T2 := T2.keep K (ninS ma2 nin0) (ninS mb2 nin0)
    refine C.aconstNull 181 at_180 rfl ?_
    refine C.new 184 at_181 rfl (tw 41) (tw 42) (tw 43) (by decide) (by decide) ?_
    intro h8 E8 X8 D8
    obtain ⟨b8, g8⟩ : ∃ z, z = h7.size := ⟨_, rfl⟩
    rw [← g8] at X8 ⊢
    rw [← g8] at D8
    have z8 : Z.heap.size ≤ h8.size := Nat.le_trans z7 E8.1
    have zb8 : Z.heap.size ≤ b8 := by rw [g8]; exact z7
    show W h8 [b8, b6, b3] 19 61 184 #[.val (.int a), .val (.int b), .val (.int c), .val (.int (Int32.ofNat i)), .val (.int s4), .val (.int (Int32.ofNat j)), .val (.int s6), .val (.int d), .val (.int v0), .val (.int v1), .val (.int v2), .val (.int n0), .val (.int n1), .val (.int n2), .val (.ref a1), .val (.ref a2), .unset, .unset] [.ref b8, .null, .ref b6, .null, .int (1 : Int32), .ref u5, .ref u4, .ref a2, .ref a1, .ref b3, .ref b3]
    have nX : b3 ≠ b8 := by rw [g8]; exact Nat.ne_of_lt X.lt
    have ma1 : a1 ≠ b8 := by rw [g8]; exact Nat.ne_of_lt T1.1.lt
    have mb1 : s1 ≠ b8 := by rw [g8]; exact Nat.ne_of_lt T1.2.2.2.lt
    have ma2 : a2 ≠ b8 := by rw [g8]; exact Nat.ne_of_lt T2.1.lt
    have mb2 : s2 ≠ b8 := by rw [g8]; exact Nat.ne_of_lt T2.2.2.2.lt
    replace X := X.ext E8
    replace T1 := T1.ext E8
    replace T2 := T2.ext E8
    replace F0 := F0.ext E8
    replace F1 := F1.ext E8
    replace F2 := F2.ext E8
    replace F3 := F3.ext E8
    replace F4 := F4.ext E8
    replace F5 := F5.ext E8
    replace F6 := F6.ext E8
    replace F7 := F7.ext E8
    replace F8 := F8.ext E8
    have N_elementData : Fld Z h8 b8 "java/util/ArrayList" "elementData" "[Ljava/lang/Object;" (.null) := D8 (Or.inl (hw _ (tw 64))) (ty := (.array (.object "java/lang/Object"))) (by decide)
    have N_modCount : Fld Z h8 b8 "java/util/AbstractList" "modCount" "I" (.int 0) := D8 (Or.inl (hw _ (tw 61))) (ty := .int) (by decide)
    refine C.dup 185 at_184 rfl rfl ?_
    refine C.callI 188 (a := b8) (as := []) (rest := [.ref b8, .null, .ref b6, .null, .int (1 : Int32), .ref u5, .ref u4, .ref a2, .ref a1, .ref b3, .ref b3]) (rm := ⟨3, 0, 0, 36⟩) 11 at_185 rfl rfl rfl (tw 44) (tw 45) (tw 43) (tw 46) (by decide) (al_init l Z a0' hw hEL hSA h8 b8 dd SD X8 N_elementData N_modCount) (by simp) pd8 rfl rfl (Nat.le_of_eq rfl) (by decide) (by decide) (by decide) (by decide) rfl ?_
    rintro v h9 ⟨rfl, K⟩
    have z9 : Z.heap.size ≤ h9.size := Nat.le_trans z8 K.1
    show W h9 [b8, b6, b3] 19 61 188 #[.val (.int a), .val (.int b), .val (.int c), .val (.int (Int32.ofNat i)), .val (.int s4), .val (.int (Int32.ofNat j)), .val (.int s6), .val (.int d), .val (.int v0), .val (.int v1), .val (.int v2), .val (.int n0), .val (.int n1), .val (.int n2), .val (.ref a1), .val (.ref a2), .unset, .unset] [.ref b8, .null, .ref b6, .null, .int (1 : Int32), .ref u5, .ref u4, .ref a2, .ref a1, .ref b3, .ref b3]
    replace X := X.keep K
    replace F0 := F0.keep K (ninS nX nin0)
    replace F1 := F1.keep K (ninS nX nin0)
    replace F2 := F2.keep K (ninS nX nin0)
    replace F3 := F3.keep K (ninS nX nin0)
    replace F4 := F4.keep K (ninS nX nin0)
    replace F5 := F5.keep K (ninS nX nin0)
    replace F6 := F6.keep K (ninS nX nin0)
    replace F7 := F7.keep K (ninS nX nin0)
    replace F8 := F8.keep K (ninS nX nin0)
    replace T1 := T1.keep K (ninS ma1 nin0) (ninS mb1 nin0)
    replace T2 := T2.keep K (ninS ma2 nin0) (ninS mb2 nin0)
    refine C.callI 191 (a := b3) (as := [.ref a1, .ref a2, .ref u4, .ref u5, .int (1 : Int32), .null, .ref b6, .null, .ref b8]) (rest := [.ref b3]) (rm := ⟨2, 0, 0, 24⟩) 1 at_188 rfl rfl rfl (tw 65) (tw 66) (tw 39) (tw 67) (by decide) (xei l Z a0' hw hEL hSA _ b3 a1 a2 u4 u5 b6 b8 1 X F0 F1 F2 F3 F4 F5 F6 F7 F8) (by simp) pd11 rfl rfl (Nat.le_of_eq rfl) (by decide) (by decide) (by decide) (by decide) rfl ?_
    rintro r h10 ⟨rfl, K, X', G0, G1⟩
    have z10 : Z.heap.size ≤ h10.size := Nat.le_trans z9 K.1
    show W h10 [b8, b6, b3] 19 61 191 #[.val (.int a), .val (.int b), .val (.int c), .val (.int (Int32.ofNat i)), .val (.int s4), .val (.int (Int32.ofNat j)), .val (.int s6), .val (.int d), .val (.int v0), .val (.int v1), .val (.int v2), .val (.int n0), .val (.int n1), .val (.int n2), .val (.ref a1), .val (.ref a2), .unset, .unset] [.ref b3]
    replace T1 := T1.keep K (ninS na1 nin0) (ninS nb1 nin0)
    replace T2 := T2.keep K (ninS na2 nin0) (ninS nb2 nin0)
    replace X := X'
    refine C.astore 193 #[.val (.int a), .val (.int b), .val (.int c), .val (.int (Int32.ofNat i)), .val (.int s4), .val (.int (Int32.ofNat j)), .val (.int s6), .val (.int d), .val (.int v0), .val (.int v1), .val (.int v2), .val (.int n0), .val (.int n1), .val (.int n2), .val (.ref a1), .val (.ref a2), .val (.ref b3), .unset] at_191 rfl rfl rfl ?_
    refine C.iloadN 194 at_193 rfl rfl ?_
    refine C.iload 196 at_194 rfl rfl ?_
    by_cases hij : i = j
    · subst hij
      refine C.icmpF 199 at_196 rfl (teq rfl).2 ?_
      match i, hi with
      | 0, _ =>
        show W h10 [b8, b6, b3] 19 61 199 #[.val (.int a), .val (.int b), .val (.int c), .val (.int (0 : Int32)), .val (.int s4), .val (.int (0 : Int32)), .val (.int s6), .val (.int d), .val (.int v0), .val (.int v1), .val (.int v2), .val (.int n0), .val (.int n1), .val (.int n2), .val (.ref a1), .val (.ref a2), .val (.ref b3), .unset] []
        refine C.iloadN 200 at_199 rfl rfl ?_
        refine C.iconst 201 (1 : Int32) at_200 rfl rfl ?_
        refine C.icmpT 211 at_201 rfl (by decide) ?_
        refine C.iloadN 212 at_211 rfl rfl ?_
        refine C.iconst 213 (2 : Int32) at_212 rfl rfl ?_
        refine C.icmpT 223 at_213 rfl (by decide) ?_
        refine C.iloadN 224 at_223 rfl rfl ?_
        refine C.iconst 225 (3 : Int32) at_224 rfl rfl ?_
        refine C.icmpT 235 at_225 rfl (by decide) ?_
        refine C.iconst 236 (1 : Int32) at_235 rfl rfl ?_
        refine C.goto 240 at_236 rfl ?_
        refine C.istore 242 #[.val (.int a), .val (.int b), .val (.int c), .val (.int (0 : Int32)), .val (.int s4), .val (.int (0 : Int32)), .val (.int s6), .val (.int d), .val (.int v0), .val (.int v1), .val (.int v2), .val (.int n0), .val (.int n1), .val (.int n2), .val (.ref a1), .val (.ref a2), .val (.ref b3), .val (.int (1 : Int32))] at_240 rfl rfl ?_
        refine C.aload 244 at_242 rfl rfl rfl ?_
        refine C.callV 247 (as := []) (rest := []) (rm := ⟨2, 0, 0, 28⟩) 0 at_244 rfl (tw 92) (tw 93) (tw 95) nfSelf (tw 94) (tw 39) (tw 96) (by decide) X (xiv l Z a0' hw hEL hSA _ cpt SCP hcp b3 a1 a2 s1 s2 G0 G1 ne12 _ _ (chs_len 0 _ _ _) (chs_len 0 _ _ _) (chs_ch Hv0 Hv1 Hv2) (chs_ch Hn0 Hn1 Hn2) T1 T2 1 (by rw [if_pos (by simp [chs])])) (by simp) pd13 rfl rfl (Nat.le_of_eq rfl) (by decide) (by decide) (by decide) (by decide) rfl ?_
        refine same_intro ?_
        show W h10 [b8, b6, b3] 19 61 247 #[.val (.int a), .val (.int b), .val (.int c), .val (.int (0 : Int32)), .val (.int s4), .val (.int (0 : Int32)), .val (.int s6), .val (.int d), .val (.int v0), .val (.int v1), .val (.int v2), .val (.int n0), .val (.int n1), .val (.int n2), .val (.ref a1), .val (.ref a2), .val (.ref b3), .val (.int (1 : Int32))] [.int (1 : Int32)]
        refine C.iload 249 at_247 rfl rfl ?_
        refine C.icmpF 252 at_249 rfl (by decide) ?_
        refine C.iconst 253 (1 : Int32) at_252 rfl rfl ?_
        refine C.goto 257 at_253 rfl ?_
        exact C.retI .boolean at_257 rfl (by simp) rfl (by decide) (by decide) rfl (fun _ q => nomatch q)
      | 1, _ =>
        show W h10 [b8, b6, b3] 19 61 199 #[.val (.int a), .val (.int b), .val (.int c), .val (.int (1 : Int32)), .val (.int s4), .val (.int (1 : Int32)), .val (.int s6), .val (.int d), .val (.int v0), .val (.int v1), .val (.int v2), .val (.int n0), .val (.int n1), .val (.int n2), .val (.ref a1), .val (.ref a2), .val (.ref b3), .unset] []
        refine C.iloadN 200 at_199 rfl rfl ?_
        refine C.iconst 201 (1 : Int32) at_200 rfl rfl ?_
        refine C.icmpF 204 at_201 rfl (by decide) ?_
        refine C.iload 206 at_204 rfl rfl ?_
        refine C.iload 208 at_206 rfl rfl ?_
        by_cases p0 : v0 = n0
        · refine C.icmpF 211 at_208 rfl (teq p0).2 ?_
          refine C.iloadN 212 at_211 rfl rfl ?_
          refine C.iconst 213 (2 : Int32) at_212 rfl rfl ?_
          refine C.icmpT 223 at_213 rfl (by decide) ?_
          refine C.iloadN 224 at_223 rfl rfl ?_
          refine C.iconst 225 (3 : Int32) at_224 rfl rfl ?_
          refine C.icmpT 235 at_225 rfl (by decide) ?_
          refine C.iconst 236 (1 : Int32) at_235 rfl rfl ?_
          refine C.goto 240 at_236 rfl ?_
          refine C.istore 242 #[.val (.int a), .val (.int b), .val (.int c), .val (.int (1 : Int32)), .val (.int s4), .val (.int (1 : Int32)), .val (.int s6), .val (.int d), .val (.int v0), .val (.int v1), .val (.int v2), .val (.int n0), .val (.int n1), .val (.int n2), .val (.ref a1), .val (.ref a2), .val (.ref b3), .val (.int (1 : Int32))] at_240 rfl rfl ?_
          refine C.aload 244 at_242 rfl rfl rfl ?_
          refine C.callV 247 (as := []) (rest := []) (rm := ⟨2, 0, 0, 28⟩) 0 at_244 rfl (tw 92) (tw 93) (tw 95) nfSelf (tw 94) (tw 39) (tw 96) (by decide) X (xiv l Z a0' hw hEL hSA _ cpt SCP hcp b3 a1 a2 s1 s2 G0 G1 ne12 _ _ (chs_len 1 _ _ _) (chs_len 1 _ _ _) (chs_ch Hv0 Hv1 Hv2) (chs_ch Hn0 Hn1 Hn2) T1 T2 1 (by rw [if_pos (by simp [chs, p0])])) (by simp) pd13 rfl rfl (Nat.le_of_eq rfl) (by decide) (by decide) (by decide) (by decide) rfl ?_
          refine same_intro ?_
          show W h10 [b8, b6, b3] 19 61 247 #[.val (.int a), .val (.int b), .val (.int c), .val (.int (1 : Int32)), .val (.int s4), .val (.int (1 : Int32)), .val (.int s6), .val (.int d), .val (.int v0), .val (.int v1), .val (.int v2), .val (.int n0), .val (.int n1), .val (.int n2), .val (.ref a1), .val (.ref a2), .val (.ref b3), .val (.int (1 : Int32))] [.int (1 : Int32)]
          refine C.iload 249 at_247 rfl rfl ?_
          refine C.icmpF 252 at_249 rfl (by decide) ?_
          refine C.iconst 253 (1 : Int32) at_252 rfl rfl ?_
          refine C.goto 257 at_253 rfl ?_
          exact C.retI .boolean at_257 rfl (by simp) rfl (by decide) (by decide) rfl (fun _ q => nomatch q)
        · refine C.icmpT 239 at_208 rfl (feq p0).2 ?_
          refine C.iconst 240 (0 : Int32) at_239 rfl rfl ?_
          refine C.istore 242 #[.val (.int a), .val (.int b), .val (.int c), .val (.int (1 : Int32)), .val (.int s4), .val (.int (1 : Int32)), .val (.int s6), .val (.int d), .val (.int v0), .val (.int v1), .val (.int v2), .val (.int n0), .val (.int n1), .val (.int n2), .val (.ref a1), .val (.ref a2), .val (.ref b3), .val (.int (0 : Int32))] at_240 rfl rfl ?_
          refine C.aload 244 at_242 rfl rfl rfl ?_
          refine C.callV 247 (as := []) (rest := []) (rm := ⟨2, 0, 0, 28⟩) 0 at_244 rfl (tw 92) (tw 93) (tw 95) nfSelf (tw 94) (tw 39) (tw 96) (by decide) X (xiv l Z a0' hw hEL hSA _ cpt SCP hcp b3 a1 a2 s1 s2 G0 G1 ne12 _ _ (chs_len 1 _ _ _) (chs_len 1 _ _ _) (chs_ch Hv0 Hv1 Hv2) (chs_ch Hn0 Hn1 Hn2) T1 T2 0 (by rw [if_neg (by simp [chs, p0])])) (by simp) pd13 rfl rfl (Nat.le_of_eq rfl) (by decide) (by decide) (by decide) (by decide) rfl ?_
          refine same_intro ?_
          show W h10 [b8, b6, b3] 19 61 247 #[.val (.int a), .val (.int b), .val (.int c), .val (.int (1 : Int32)), .val (.int s4), .val (.int (1 : Int32)), .val (.int s6), .val (.int d), .val (.int v0), .val (.int v1), .val (.int v2), .val (.int n0), .val (.int n1), .val (.int n2), .val (.ref a1), .val (.ref a2), .val (.ref b3), .val (.int (0 : Int32))] [.int (0 : Int32)]
          refine C.iload 249 at_247 rfl rfl ?_
          refine C.icmpF 252 at_249 rfl (by decide) ?_
          refine C.iconst 253 (1 : Int32) at_252 rfl rfl ?_
          refine C.goto 257 at_253 rfl ?_
          exact C.retI .boolean at_257 rfl (by simp) rfl (by decide) (by decide) rfl (fun _ q => nomatch q)
      | 2, _ =>
        show W h10 [b8, b6, b3] 19 61 199 #[.val (.int a), .val (.int b), .val (.int c), .val (.int (2 : Int32)), .val (.int s4), .val (.int (2 : Int32)), .val (.int s6), .val (.int d), .val (.int v0), .val (.int v1), .val (.int v2), .val (.int n0), .val (.int n1), .val (.int n2), .val (.ref a1), .val (.ref a2), .val (.ref b3), .unset] []
        refine C.iloadN 200 at_199 rfl rfl ?_
        refine C.iconst 201 (1 : Int32) at_200 rfl rfl ?_
        refine C.icmpF 204 at_201 rfl (by decide) ?_
        refine C.iload 206 at_204 rfl rfl ?_
        refine C.iload 208 at_206 rfl rfl ?_
        by_cases p0 : v0 = n0
        · refine C.icmpF 211 at_208 rfl (teq p0).2 ?_
          refine C.iloadN 212 at_211 rfl rfl ?_
          refine C.iconst 213 (2 : Int32) at_212 rfl rfl ?_
          refine C.icmpF 216 at_213 rfl (by decide) ?_
          refine C.iload 218 at_216 rfl rfl ?_
          refine C.iload 220 at_218 rfl rfl ?_
          by_cases p1 : v1 = n1
          · refine C.icmpF 223 at_220 rfl (teq p1).2 ?_
            refine C.iloadN 224 at_223 rfl rfl ?_
            refine C.iconst 225 (3 : Int32) at_224 rfl rfl ?_
            refine C.icmpT 235 at_225 rfl (by decide) ?_
            refine C.iconst 236 (1 : Int32) at_235 rfl rfl ?_
            refine C.goto 240 at_236 rfl ?_
            refine C.istore 242 #[.val (.int a), .val (.int b), .val (.int c), .val (.int (2 : Int32)), .val (.int s4), .val (.int (2 : Int32)), .val (.int s6), .val (.int d), .val (.int v0), .val (.int v1), .val (.int v2), .val (.int n0), .val (.int n1), .val (.int n2), .val (.ref a1), .val (.ref a2), .val (.ref b3), .val (.int (1 : Int32))] at_240 rfl rfl ?_
            refine C.aload 244 at_242 rfl rfl rfl ?_
            refine C.callV 247 (as := []) (rest := []) (rm := ⟨2, 0, 0, 28⟩) 0 at_244 rfl (tw 92) (tw 93) (tw 95) nfSelf (tw 94) (tw 39) (tw 96) (by decide) X (xiv l Z a0' hw hEL hSA _ cpt SCP hcp b3 a1 a2 s1 s2 G0 G1 ne12 _ _ (chs_len 2 _ _ _) (chs_len 2 _ _ _) (chs_ch Hv0 Hv1 Hv2) (chs_ch Hn0 Hn1 Hn2) T1 T2 1 (by rw [if_pos (by simp [chs, p0, p1])])) (by simp) pd13 rfl rfl (Nat.le_of_eq rfl) (by decide) (by decide) (by decide) (by decide) rfl ?_
            refine same_intro ?_
            show W h10 [b8, b6, b3] 19 61 247 #[.val (.int a), .val (.int b), .val (.int c), .val (.int (2 : Int32)), .val (.int s4), .val (.int (2 : Int32)), .val (.int s6), .val (.int d), .val (.int v0), .val (.int v1), .val (.int v2), .val (.int n0), .val (.int n1), .val (.int n2), .val (.ref a1), .val (.ref a2), .val (.ref b3), .val (.int (1 : Int32))] [.int (1 : Int32)]
            refine C.iload 249 at_247 rfl rfl ?_
            refine C.icmpF 252 at_249 rfl (by decide) ?_
            refine C.iconst 253 (1 : Int32) at_252 rfl rfl ?_
            refine C.goto 257 at_253 rfl ?_
            exact C.retI .boolean at_257 rfl (by simp) rfl (by decide) (by decide) rfl (fun _ q => nomatch q)
          · refine C.icmpT 239 at_220 rfl (feq p1).2 ?_
            refine C.iconst 240 (0 : Int32) at_239 rfl rfl ?_
            refine C.istore 242 #[.val (.int a), .val (.int b), .val (.int c), .val (.int (2 : Int32)), .val (.int s4), .val (.int (2 : Int32)), .val (.int s6), .val (.int d), .val (.int v0), .val (.int v1), .val (.int v2), .val (.int n0), .val (.int n1), .val (.int n2), .val (.ref a1), .val (.ref a2), .val (.ref b3), .val (.int (0 : Int32))] at_240 rfl rfl ?_
            refine C.aload 244 at_242 rfl rfl rfl ?_
            refine C.callV 247 (as := []) (rest := []) (rm := ⟨2, 0, 0, 28⟩) 0 at_244 rfl (tw 92) (tw 93) (tw 95) nfSelf (tw 94) (tw 39) (tw 96) (by decide) X (xiv l Z a0' hw hEL hSA _ cpt SCP hcp b3 a1 a2 s1 s2 G0 G1 ne12 _ _ (chs_len 2 _ _ _) (chs_len 2 _ _ _) (chs_ch Hv0 Hv1 Hv2) (chs_ch Hn0 Hn1 Hn2) T1 T2 0 (by rw [if_neg (by simp [chs, p1])])) (by simp) pd13 rfl rfl (Nat.le_of_eq rfl) (by decide) (by decide) (by decide) (by decide) rfl ?_
            refine same_intro ?_
            show W h10 [b8, b6, b3] 19 61 247 #[.val (.int a), .val (.int b), .val (.int c), .val (.int (2 : Int32)), .val (.int s4), .val (.int (2 : Int32)), .val (.int s6), .val (.int d), .val (.int v0), .val (.int v1), .val (.int v2), .val (.int n0), .val (.int n1), .val (.int n2), .val (.ref a1), .val (.ref a2), .val (.ref b3), .val (.int (0 : Int32))] [.int (0 : Int32)]
            refine C.iload 249 at_247 rfl rfl ?_
            refine C.icmpF 252 at_249 rfl (by decide) ?_
            refine C.iconst 253 (1 : Int32) at_252 rfl rfl ?_
            refine C.goto 257 at_253 rfl ?_
            exact C.retI .boolean at_257 rfl (by simp) rfl (by decide) (by decide) rfl (fun _ q => nomatch q)
        · refine C.icmpT 239 at_208 rfl (feq p0).2 ?_
          refine C.iconst 240 (0 : Int32) at_239 rfl rfl ?_
          refine C.istore 242 #[.val (.int a), .val (.int b), .val (.int c), .val (.int (2 : Int32)), .val (.int s4), .val (.int (2 : Int32)), .val (.int s6), .val (.int d), .val (.int v0), .val (.int v1), .val (.int v2), .val (.int n0), .val (.int n1), .val (.int n2), .val (.ref a1), .val (.ref a2), .val (.ref b3), .val (.int (0 : Int32))] at_240 rfl rfl ?_
          refine C.aload 244 at_242 rfl rfl rfl ?_
          refine C.callV 247 (as := []) (rest := []) (rm := ⟨2, 0, 0, 28⟩) 0 at_244 rfl (tw 92) (tw 93) (tw 95) nfSelf (tw 94) (tw 39) (tw 96) (by decide) X (xiv l Z a0' hw hEL hSA _ cpt SCP hcp b3 a1 a2 s1 s2 G0 G1 ne12 _ _ (chs_len 2 _ _ _) (chs_len 2 _ _ _) (chs_ch Hv0 Hv1 Hv2) (chs_ch Hn0 Hn1 Hn2) T1 T2 0 (by rw [if_neg (by simp [chs, p0])])) (by simp) pd13 rfl rfl (Nat.le_of_eq rfl) (by decide) (by decide) (by decide) (by decide) rfl ?_
          refine same_intro ?_
          show W h10 [b8, b6, b3] 19 61 247 #[.val (.int a), .val (.int b), .val (.int c), .val (.int (2 : Int32)), .val (.int s4), .val (.int (2 : Int32)), .val (.int s6), .val (.int d), .val (.int v0), .val (.int v1), .val (.int v2), .val (.int n0), .val (.int n1), .val (.int n2), .val (.ref a1), .val (.ref a2), .val (.ref b3), .val (.int (0 : Int32))] [.int (0 : Int32)]
          refine C.iload 249 at_247 rfl rfl ?_
          refine C.icmpF 252 at_249 rfl (by decide) ?_
          refine C.iconst 253 (1 : Int32) at_252 rfl rfl ?_
          refine C.goto 257 at_253 rfl ?_
          exact C.retI .boolean at_257 rfl (by simp) rfl (by decide) (by decide) rfl (fun _ q => nomatch q)
      | 3, _ =>
        show W h10 [b8, b6, b3] 19 61 199 #[.val (.int a), .val (.int b), .val (.int c), .val (.int (3 : Int32)), .val (.int s4), .val (.int (3 : Int32)), .val (.int s6), .val (.int d), .val (.int v0), .val (.int v1), .val (.int v2), .val (.int n0), .val (.int n1), .val (.int n2), .val (.ref a1), .val (.ref a2), .val (.ref b3), .unset] []
        refine C.iloadN 200 at_199 rfl rfl ?_
        refine C.iconst 201 (1 : Int32) at_200 rfl rfl ?_
        refine C.icmpF 204 at_201 rfl (by decide) ?_
        refine C.iload 206 at_204 rfl rfl ?_
        refine C.iload 208 at_206 rfl rfl ?_
        by_cases p0 : v0 = n0
        · refine C.icmpF 211 at_208 rfl (teq p0).2 ?_
          refine C.iloadN 212 at_211 rfl rfl ?_
          refine C.iconst 213 (2 : Int32) at_212 rfl rfl ?_
          refine C.icmpF 216 at_213 rfl (by decide) ?_
          refine C.iload 218 at_216 rfl rfl ?_
          refine C.iload 220 at_218 rfl rfl ?_
          by_cases p1 : v1 = n1
          · refine C.icmpF 223 at_220 rfl (teq p1).2 ?_
            refine C.iloadN 224 at_223 rfl rfl ?_
            refine C.iconst 225 (3 : Int32) at_224 rfl rfl ?_
            refine C.icmpF 228 at_225 rfl (by decide) ?_
            refine C.iload 230 at_228 rfl rfl ?_
            refine C.iload 232 at_230 rfl rfl ?_
            by_cases p2 : v2 = n2
            · refine C.icmpF 235 at_232 rfl (teq p2).2 ?_
              refine C.iconst 236 (1 : Int32) at_235 rfl rfl ?_
              refine C.goto 240 at_236 rfl ?_
              refine C.istore 242 #[.val (.int a), .val (.int b), .val (.int c), .val (.int (3 : Int32)), .val (.int s4), .val (.int (3 : Int32)), .val (.int s6), .val (.int d), .val (.int v0), .val (.int v1), .val (.int v2), .val (.int n0), .val (.int n1), .val (.int n2), .val (.ref a1), .val (.ref a2), .val (.ref b3), .val (.int (1 : Int32))] at_240 rfl rfl ?_
              refine C.aload 244 at_242 rfl rfl rfl ?_
              refine C.callV 247 (as := []) (rest := []) (rm := ⟨2, 0, 0, 28⟩) 0 at_244 rfl (tw 92) (tw 93) (tw 95) nfSelf (tw 94) (tw 39) (tw 96) (by decide) X (xiv l Z a0' hw hEL hSA _ cpt SCP hcp b3 a1 a2 s1 s2 G0 G1 ne12 _ _ (chs_len 3 _ _ _) (chs_len 3 _ _ _) (chs_ch Hv0 Hv1 Hv2) (chs_ch Hn0 Hn1 Hn2) T1 T2 1 (by rw [if_pos (by simp [chs, p0, p1, p2])])) (by simp) pd13 rfl rfl (Nat.le_of_eq rfl) (by decide) (by decide) (by decide) (by decide) rfl ?_
              refine same_intro ?_
              show W h10 [b8, b6, b3] 19 61 247 #[.val (.int a), .val (.int b), .val (.int c), .val (.int (3 : Int32)), .val (.int s4), .val (.int (3 : Int32)), .val (.int s6), .val (.int d), .val (.int v0), .val (.int v1), .val (.int v2), .val (.int n0), .val (.int n1), .val (.int n2), .val (.ref a1), .val (.ref a2), .val (.ref b3), .val (.int (1 : Int32))] [.int (1 : Int32)]
              refine C.iload 249 at_247 rfl rfl ?_
              refine C.icmpF 252 at_249 rfl (by decide) ?_
              refine C.iconst 253 (1 : Int32) at_252 rfl rfl ?_
              refine C.goto 257 at_253 rfl ?_
              exact C.retI .boolean at_257 rfl (by simp) rfl (by decide) (by decide) rfl (fun _ q => nomatch q)
            · refine C.icmpT 239 at_232 rfl (feq p2).2 ?_
              refine C.iconst 240 (0 : Int32) at_239 rfl rfl ?_
              refine C.istore 242 #[.val (.int a), .val (.int b), .val (.int c), .val (.int (3 : Int32)), .val (.int s4), .val (.int (3 : Int32)), .val (.int s6), .val (.int d), .val (.int v0), .val (.int v1), .val (.int v2), .val (.int n0), .val (.int n1), .val (.int n2), .val (.ref a1), .val (.ref a2), .val (.ref b3), .val (.int (0 : Int32))] at_240 rfl rfl ?_
              refine C.aload 244 at_242 rfl rfl rfl ?_
              refine C.callV 247 (as := []) (rest := []) (rm := ⟨2, 0, 0, 28⟩) 0 at_244 rfl (tw 92) (tw 93) (tw 95) nfSelf (tw 94) (tw 39) (tw 96) (by decide) X (xiv l Z a0' hw hEL hSA _ cpt SCP hcp b3 a1 a2 s1 s2 G0 G1 ne12 _ _ (chs_len 3 _ _ _) (chs_len 3 _ _ _) (chs_ch Hv0 Hv1 Hv2) (chs_ch Hn0 Hn1 Hn2) T1 T2 0 (by rw [if_neg (by simp [chs, p2])])) (by simp) pd13 rfl rfl (Nat.le_of_eq rfl) (by decide) (by decide) (by decide) (by decide) rfl ?_
              refine same_intro ?_
              show W h10 [b8, b6, b3] 19 61 247 #[.val (.int a), .val (.int b), .val (.int c), .val (.int (3 : Int32)), .val (.int s4), .val (.int (3 : Int32)), .val (.int s6), .val (.int d), .val (.int v0), .val (.int v1), .val (.int v2), .val (.int n0), .val (.int n1), .val (.int n2), .val (.ref a1), .val (.ref a2), .val (.ref b3), .val (.int (0 : Int32))] [.int (0 : Int32)]
              refine C.iload 249 at_247 rfl rfl ?_
              refine C.icmpF 252 at_249 rfl (by decide) ?_
              refine C.iconst 253 (1 : Int32) at_252 rfl rfl ?_
              refine C.goto 257 at_253 rfl ?_
              exact C.retI .boolean at_257 rfl (by simp) rfl (by decide) (by decide) rfl (fun _ q => nomatch q)
          · refine C.icmpT 239 at_220 rfl (feq p1).2 ?_
            refine C.iconst 240 (0 : Int32) at_239 rfl rfl ?_
            refine C.istore 242 #[.val (.int a), .val (.int b), .val (.int c), .val (.int (3 : Int32)), .val (.int s4), .val (.int (3 : Int32)), .val (.int s6), .val (.int d), .val (.int v0), .val (.int v1), .val (.int v2), .val (.int n0), .val (.int n1), .val (.int n2), .val (.ref a1), .val (.ref a2), .val (.ref b3), .val (.int (0 : Int32))] at_240 rfl rfl ?_
            refine C.aload 244 at_242 rfl rfl rfl ?_
            refine C.callV 247 (as := []) (rest := []) (rm := ⟨2, 0, 0, 28⟩) 0 at_244 rfl (tw 92) (tw 93) (tw 95) nfSelf (tw 94) (tw 39) (tw 96) (by decide) X (xiv l Z a0' hw hEL hSA _ cpt SCP hcp b3 a1 a2 s1 s2 G0 G1 ne12 _ _ (chs_len 3 _ _ _) (chs_len 3 _ _ _) (chs_ch Hv0 Hv1 Hv2) (chs_ch Hn0 Hn1 Hn2) T1 T2 0 (by rw [if_neg (by simp [chs, p1])])) (by simp) pd13 rfl rfl (Nat.le_of_eq rfl) (by decide) (by decide) (by decide) (by decide) rfl ?_
            refine same_intro ?_
            show W h10 [b8, b6, b3] 19 61 247 #[.val (.int a), .val (.int b), .val (.int c), .val (.int (3 : Int32)), .val (.int s4), .val (.int (3 : Int32)), .val (.int s6), .val (.int d), .val (.int v0), .val (.int v1), .val (.int v2), .val (.int n0), .val (.int n1), .val (.int n2), .val (.ref a1), .val (.ref a2), .val (.ref b3), .val (.int (0 : Int32))] [.int (0 : Int32)]
            refine C.iload 249 at_247 rfl rfl ?_
            refine C.icmpF 252 at_249 rfl (by decide) ?_
            refine C.iconst 253 (1 : Int32) at_252 rfl rfl ?_
            refine C.goto 257 at_253 rfl ?_
            exact C.retI .boolean at_257 rfl (by simp) rfl (by decide) (by decide) rfl (fun _ q => nomatch q)
        · refine C.icmpT 239 at_208 rfl (feq p0).2 ?_
          refine C.iconst 240 (0 : Int32) at_239 rfl rfl ?_
          refine C.istore 242 #[.val (.int a), .val (.int b), .val (.int c), .val (.int (3 : Int32)), .val (.int s4), .val (.int (3 : Int32)), .val (.int s6), .val (.int d), .val (.int v0), .val (.int v1), .val (.int v2), .val (.int n0), .val (.int n1), .val (.int n2), .val (.ref a1), .val (.ref a2), .val (.ref b3), .val (.int (0 : Int32))] at_240 rfl rfl ?_
          refine C.aload 244 at_242 rfl rfl rfl ?_
          refine C.callV 247 (as := []) (rest := []) (rm := ⟨2, 0, 0, 28⟩) 0 at_244 rfl (tw 92) (tw 93) (tw 95) nfSelf (tw 94) (tw 39) (tw 96) (by decide) X (xiv l Z a0' hw hEL hSA _ cpt SCP hcp b3 a1 a2 s1 s2 G0 G1 ne12 _ _ (chs_len 3 _ _ _) (chs_len 3 _ _ _) (chs_ch Hv0 Hv1 Hv2) (chs_ch Hn0 Hn1 Hn2) T1 T2 0 (by rw [if_neg (by simp [chs, p0])])) (by simp) pd13 rfl rfl (Nat.le_of_eq rfl) (by decide) (by decide) (by decide) (by decide) rfl ?_
          refine same_intro ?_
          show W h10 [b8, b6, b3] 19 61 247 #[.val (.int a), .val (.int b), .val (.int c), .val (.int (3 : Int32)), .val (.int s4), .val (.int (3 : Int32)), .val (.int s6), .val (.int d), .val (.int v0), .val (.int v1), .val (.int v2), .val (.int n0), .val (.int n1), .val (.int n2), .val (.ref a1), .val (.ref a2), .val (.ref b3), .val (.int (0 : Int32))] [.int (0 : Int32)]
          refine C.iload 249 at_247 rfl rfl ?_
          refine C.icmpF 252 at_249 rfl (by decide) ?_
          refine C.iconst 253 (1 : Int32) at_252 rfl rfl ?_
          refine C.goto 257 at_253 rfl ?_
          exact C.retI .boolean at_257 rfl (by simp) rfl (by decide) (by decide) rfl (fun _ q => nomatch q)
      | k + 4, h => exact absurd h (by omega)
    · have q : ¬ Int32.ofNat i = Int32.ofNat j := fun z => hij (o_inj (by omega) (by omega) z)
      refine C.icmpT 239 at_196 rfl (feq q).2 ?_
      refine C.iconst 240 (0 : Int32) at_239 rfl rfl ?_
      refine C.istore 242 #[.val (.int a), .val (.int b), .val (.int c), .val (.int (Int32.ofNat i)), .val (.int s4), .val (.int (Int32.ofNat j)), .val (.int s6), .val (.int d), .val (.int v0), .val (.int v1), .val (.int v2), .val (.int n0), .val (.int n1), .val (.int n2), .val (.ref a1), .val (.ref a2), .val (.ref b3), .val (.int (0 : Int32))] at_240 rfl rfl ?_
      refine C.aload 244 at_242 rfl rfl rfl ?_
      refine C.callV 247 (as := []) (rest := []) (rm := ⟨2, 0, 0, 28⟩) 0 at_244 rfl (tw 92) (tw 93) (tw 95) nfSelf (tw 94) (tw 39) (tw 96) (by decide) X (xiv l Z a0' hw hEL hSA _ cpt SCP hcp b3 a1 a2 s1 s2 G0 G1 ne12 _ _ (chs_len i _ _ _) (chs_len j _ _ _) (chs_ch Hv0 Hv1 Hv2) (chs_ch Hn0 Hn1 Hn2) T1 T2 0 (by rw [if_neg (chs_ne hi hj hij _ _ _ _ _ _)])) (by simp) pd13 rfl rfl (Nat.le_of_eq rfl) (by decide) (by decide) (by decide) (by decide) rfl ?_
      refine same_intro ?_
      show W h10 [b8, b6, b3] 19 61 247 #[.val (.int a), .val (.int b), .val (.int c), .val (.int (Int32.ofNat i)), .val (.int s4), .val (.int (Int32.ofNat j)), .val (.int s6), .val (.int d), .val (.int v0), .val (.int v1), .val (.int v2), .val (.int n0), .val (.int n1), .val (.int n2), .val (.ref a1), .val (.ref a2), .val (.ref b3), .val (.int (0 : Int32))] [.int (0 : Int32)]
      refine C.iload 249 at_247 rfl rfl ?_
      refine C.icmpF 252 at_249 rfl (by decide) ?_
      refine C.iconst 253 (1 : Int32) at_252 rfl rfl ?_
      refine C.goto 257 at_253 rfl ?_
      exact C.retI .boolean at_257 rfl (by simp) rfl (by decide) (by decide) rfl (fun _ q => nomatch q)
  obtain ⟨i, hi, ei⟩ := and3 c
  refine C.iloadN 1 at_0 rfl rfl ?_
  refine C.iconst 2 (3 : Int32) at_1 rfl rfl ?_
  refine C.iand 3 at_2 rfl ?_
  rw [ei]
  refine C.istoreN 4 #[.val (.int a), .val (.int b), .val (.int c), .val (.int (Int32.ofNat i)), .unset, .unset, .unset, .unset, .unset, .unset, .unset, .unset, .unset, .unset, .unset, .unset, .unset, .unset] at_3 rfl rfl ?_
  refine C.iloadN 5 at_4 rfl rfl ?_
  refine C.iconst 6 (5 : Int32) at_5 rfl rfl ?_
  refine C.iushr 7 at_6 rfl ?_
  refine C.iconst 8 (1 : Int32) at_7 rfl rfl ?_
  refine C.iand 9 at_8 rfl ?_
  by_cases f1 : XT.ushr c (5 : Int32) &&& (1 : Int32) = 0
  · refine C.ifT 16 at_9 rfl ((if0 _ _).trans (teq f1).1) ?_
    refine C.iconst 17 (0 : Int32) at_16 rfl rfl ?_
    refine C.istore 19 #[.val (.int a), .val (.int b), .val (.int c), .val (.int (Int32.ofNat i)), .val (.int (0 : Int32)), .unset, .unset, .unset, .unset, .unset, .unset, .unset, .unset, .unset, .unset, .unset, .unset, .unset] at_17 rfl rfl ?_
    refine C.iload 21 at_19 rfl rfl ?_
    refine C.ifT 28 at_21 rfl (by decide) ?_
    refine C.iloadN 29 at_28 rfl rfl ?_
    refine C.iconst 30 (2 : Int32) at_29 rfl rfl ?_
    refine C.iushr 31 at_30 rfl ?_
    refine C.iconst 32 (3 : Int32) at_31 rfl rfl ?_
    refine C.iand 33 at_32 rfl ?_
    obtain ⟨j, hj, ej⟩ := and3 (XT.ushr c (2 : Int32))
    rw [ej]
    refine C.istore 35 #[.val (.int a), .val (.int b), .val (.int c), .val (.int (Int32.ofNat i)), .val (.int (0 : Int32)), .val (.int (Int32.ofNat j)), .unset, .unset, .unset, .unset, .unset, .unset, .unset, .unset, .unset, .unset, .unset, .unset] at_33 rfl rfl ?_
    refine C.iloadN 36 at_35 rfl rfl ?_
    refine C.iconst 37 (4 : Int32) at_36 rfl rfl ?_
    refine C.iushr 38 at_37 rfl ?_
    refine C.iconst 39 (1 : Int32) at_38 rfl rfl ?_
    refine C.iand 40 at_39 rfl ?_
    by_cases f2 : XT.ushr c (4 : Int32) &&& (1 : Int32) = 0
    · refine C.ifT 47 at_40 rfl ((if0 _ _).trans (teq f2).1) ?_
      refine C.iconst 48 (0 : Int32) at_47 rfl rfl ?_
      refine C.istore 50 #[.val (.int a), .val (.int b), .val (.int c), .val (.int (Int32.ofNat i)), .val (.int (0 : Int32)), .val (.int (Int32.ofNat j)), .val (.int (0 : Int32)), .unset, .unset, .unset, .unset, .unset, .unset, .unset, .unset, .unset, .unset, .unset] at_48 rfl rfl ?_
      refine C.iload 52 at_50 rfl rfl ?_
      refine C.ifT 59 at_52 rfl (by decide) ?_
      refine C.iloadN 60 at_59 rfl rfl ?_
      refine C.istore 62 #[.val (.int a), .val (.int b), .val (.int c), .val (.int (Int32.ofNat i)), .val (.int (0 : Int32)), .val (.int (Int32.ofNat j)), .val (.int (0 : Int32)), .val (.int b), .unset, .unset, .unset, .unset, .unset, .unset, .unset, .unset, .unset, .unset] at_60 rfl rfl ?_
      exact tail _ _ hi hj _ _ _
    · refine C.ifF 43 at_40 rfl ((if0 _ _).trans (feq f2).1) ?_
      refine C.iconst 44 (1 : Int32) at_43 rfl rfl ?_
      refine C.goto 48 at_44 rfl ?_
      refine C.istore 50 #[.val (.int a), .val (.int b), .val (.int c), .val (.int (Int32.ofNat i)), .val (.int (0 : Int32)), .val (.int (Int32.ofNat j)), .val (.int (1 : Int32)), .unset, .unset, .unset, .unset, .unset, .unset, .unset, .unset, .unset, .unset, .unset] at_48 rfl rfl ?_
      refine C.iload 52 at_50 rfl rfl ?_
      refine C.ifF 55 at_52 rfl (by decide) ?_
      refine C.iconst 56 (0 : Int32) at_55 rfl rfl ?_
      refine C.goto 60 at_56 rfl ?_
      refine C.istore 62 #[.val (.int a), .val (.int b), .val (.int c), .val (.int (Int32.ofNat i)), .val (.int (0 : Int32)), .val (.int (Int32.ofNat j)), .val (.int (1 : Int32)), .val (.int (0 : Int32)), .unset, .unset, .unset, .unset, .unset, .unset, .unset, .unset, .unset, .unset] at_60 rfl rfl ?_
      exact tail _ _ hi hj _ _ _
  · refine C.ifF 12 at_9 rfl ((if0 _ _).trans (feq f1).1) ?_
    refine C.iconst 13 (1 : Int32) at_12 rfl rfl ?_
    refine C.goto 17 at_13 rfl ?_
    refine C.istore 19 #[.val (.int a), .val (.int b), .val (.int c), .val (.int (Int32.ofNat i)), .val (.int (1 : Int32)), .unset, .unset, .unset, .unset, .unset, .unset, .unset, .unset, .unset, .unset, .unset, .unset, .unset] at_17 rfl rfl ?_
    refine C.iload 21 at_19 rfl rfl ?_
    refine C.ifF 24 at_21 rfl (by decide) ?_
    refine C.iloadN 25 at_24 rfl rfl ?_
    refine C.goto 33 at_25 rfl ?_
    refine C.istore 35 #[.val (.int a), .val (.int b), .val (.int c), .val (.int (Int32.ofNat i)), .val (.int (1 : Int32)), .val (.int (Int32.ofNat i)), .unset, .unset, .unset, .unset, .unset, .unset, .unset, .unset, .unset, .unset, .unset, .unset] at_33 rfl rfl ?_
    refine C.iloadN 36 at_35 rfl rfl ?_
    refine C.iconst 37 (4 : Int32) at_36 rfl rfl ?_
    refine C.iushr 38 at_37 rfl ?_
    refine C.iconst 39 (1 : Int32) at_38 rfl rfl ?_
    refine C.iand 40 at_39 rfl ?_
    by_cases f2 : XT.ushr c (4 : Int32) &&& (1 : Int32) = 0
    · refine C.ifT 47 at_40 rfl ((if0 _ _).trans (teq f2).1) ?_
      refine C.iconst 48 (0 : Int32) at_47 rfl rfl ?_
      refine C.istore 50 #[.val (.int a), .val (.int b), .val (.int c), .val (.int (Int32.ofNat i)), .val (.int (1 : Int32)), .val (.int (Int32.ofNat i)), .val (.int (0 : Int32)), .unset, .unset, .unset, .unset, .unset, .unset, .unset, .unset, .unset, .unset, .unset] at_48 rfl rfl ?_
      refine C.iload 52 at_50 rfl rfl ?_
      refine C.ifT 59 at_52 rfl (by decide) ?_
      refine C.iloadN 60 at_59 rfl rfl ?_
      refine C.istore 62 #[.val (.int a), .val (.int b), .val (.int c), .val (.int (Int32.ofNat i)), .val (.int (1 : Int32)), .val (.int (Int32.ofNat i)), .val (.int (0 : Int32)), .val (.int b), .unset, .unset, .unset, .unset, .unset, .unset, .unset, .unset, .unset, .unset] at_60 rfl rfl ?_
      exact tail _ _ hi hi _ _ _
    · refine C.ifF 43 at_40 rfl ((if0 _ _).trans (feq f2).1) ?_
      refine C.iconst 44 (1 : Int32) at_43 rfl rfl ?_
      refine C.goto 48 at_44 rfl ?_
      refine C.istore 50 #[.val (.int a), .val (.int b), .val (.int c), .val (.int (Int32.ofNat i)), .val (.int (1 : Int32)), .val (.int (Int32.ofNat i)), .val (.int (1 : Int32)), .unset, .unset, .unset, .unset, .unset, .unset, .unset, .unset, .unset, .unset, .unset] at_48 rfl rfl ?_
      refine C.iload 52 at_50 rfl rfl ?_
      refine C.ifF 55 at_52 rfl (by decide) ?_
      refine C.iconst 56 (0 : Int32) at_55 rfl rfl ?_
      refine C.goto 60 at_56 rfl ?_
      refine C.istore 62 #[.val (.int a), .val (.int b), .val (.int c), .val (.int (Int32.ofNat i)), .val (.int (1 : Int32)), .val (.int (Int32.ofNat i)), .val (.int (1 : Int32)), .val (.int (0 : Int32)), .unset, .unset, .unset, .unset, .unset, .unset, .unset, .unset, .unset, .unset] at_60 rfl rfl ?_
      exact tail _ _ hi hi _ _ _
set_option maxRecDepth 65536 in
set_option maxHeartbeats 40000000 in
theorem comes_1 {Post : Tables → Env → Array Value → State → Outcome → State → Prop} (hpost : ∀ tb e args s v u, (limb_1_1.after args s (.returned v) u = true ∧ limb_1_2.after args s (.returned v) u = true ∧ True) → ReturnedEndW s (.returned v) u (Jvm.fieldLocs frame_1_writes args s ++ Jvm.arrayLocs frame_1_arrays args s ++ Jvm.staticLocs frame_1_statics s) 32 2240 → Post tb e args s (.returned v) u) :
    ArmFor flags0 classFile x code maxLocals ret World_1 tables_1 room_1 Calls_1 rest_1 Pre_1 Post := by
  intro l hfl _ _ p e ha hc hk s m args below hf hA hF happ hP
  obtain ⟨hcalls, hrest, hpre⟩ := hP
  obtain ⟨-, -, -, hnamed, -, -, -, hat⟩ := (Spec.applies_iff hf).mp happ
  obtain ⟨hg, hn⟩ := and_e (Cond.before_iff.mp (show (Jvm.Cond.and given_1 narrow_1).before args s = true from hpre))
  obtain ⟨h1, h2⟩ := and_e hg
  obtain ⟨w0, w1, w2, rfl⟩ : ∃ w0 w1 w2 : Value, args = #[w0, w1, w2] := by
    have hs : args.size = 3 := by simpa [Cond.value, given_1] using h1
    obtain ⟨L⟩ := args
    match L, hs with
    | [w0, w1, w2], _ => exact ⟨w0, w1, w2, rfl⟩
  have hw := fun d (hd : d ∈ tables_1) => atoms_spec (ws := Jvm.Cond.code x code maxLocals ret :: tables_1) hat d (List.mem_cons_of_mem _ hd)
  have hfit : Fit s := fun {y c} hc i hi => by
    obtain ⟨ha, rfl⟩ := Array.getElem?_eq_some_iff.mp hc
    have q := List.all_eq_true.mp ((Array.all_eq_true_iff_forall_mem.mp hF) _ (Array.getElem_mem ha)) i (List.mem_range.mpr hi)
    simpa [Array.getElem?_eq_getElem hi] using q
  obtain ⟨q0, h2⟩ := and_e h2
  obtain ⟨i0, e0⟩ := is_v q0
  obtain rfl : w0 = (.int i0) := Option.some.inj e0
  obtain ⟨q1, h2⟩ := and_e h2
  obtain ⟨i1, e1⟩ := is_v q1
  obtain rfl : w1 = (.int i1) := Option.some.inj e1
  obtain ⟨i2, e2⟩ := is_v h2
  obtain rfl : w2 = (.int i2) := Option.some.inj e2
  obtain ⟨hsets, hown0⟩ := atoms_of _ (rest_1_c_eq ▸ (show rest_1_c.before _ s = true from hrest))
  obtain ⟨cpt, ecp⟩ := is_v (Cond.before_iff.mp (hsets _ (List.mem_of_getElem? (i := 1) rfl)))
  have SCP := Sta.start ecp (Or.inl (hsets _ (List.mem_of_getElem? (i := 0) rfl)))
  have hcp := gotF (Cond.eq_ints ecp (Term.int_eval (0))) (not_v (Cond.before_iff.mp (hsets _ (List.mem_of_getElem? (i := 2) rfl))))
  obtain ⟨sf, esf, hsf⟩ := isR_v (Cond.before_iff.mp (hsets _ (List.mem_of_getElem? (i := 8) rfl)))
  have SSF := Sta.start esf (Or.inl (hsets _ (List.mem_of_getElem? (i := 7) rfl)))
  have hEL : EW s #[.int i0, .int i1, .int i2] EL0 := (EW.cons (text := "") (hw _ (tw 34)) (by decide) EW.nil)
  have hSA : ∀ a ∈ Bundle.stringAtoms, a.before #[.int i0, .int i1, .int i2] s = true := fun a ha => by
    simp only [Bundle.stringAtoms, List.mem_cons, List.not_mem_nil, or_false] at ha
    rcases ha with rfl | rfl | rfl | rfl | rfl | rfl | rfl
    · exact hw _ (tw 7)
    · exact hw _ (tw 6)
    · exact hw _ (tw 23)
    · exact hw _ (tw 33)
    · exact hw _ (tw 31)
    · exact hw _ (tw 35)
    · exact hw _ (tw 36)
  have hCH : CHv s EL0 s.vm s.heap := CHv.start hEL (fun p hp => hcalls.1 p (List.mem_cons_of_mem _ hp)) (hsets _ (List.mem_of_getElem? (i := 2) rfl)) (hw _ (tw 23)) (hw _ (tw 6))
  obtain ⟨dd, edd⟩ := exa_v (Cond.before_iff.mp (hsets _ (List.mem_of_getElem? (i := 16) rfl)))
  have SD := Sta.start edd (Or.inr ⟨hw _ (tw 43), (hsets _ (List.mem_of_getElem? (i := 11) rfl))⟩)
  obtain ⟨n, o, h1, h2, h3, _, L, rfl, ⟨rfl, -, N⟩, -, -, hq⟩ := law_con l s _ hw hEL hSA i0 i1 i2 cpt SCP hcp dd SD ⟨Nat.le_refl _, fun _ _ q => q⟩ tables_1 p e ha hc hk s m _ below hf ((Spec.applies_iff_loose hf).mp happ).1 ⟨rfl, State.Warmed39.refl s, rfl, hCH, fun _ q => nomatch q⟩ trivial
  refine ⟨n, _, h1, h2, h3, hpost _ _ _ _ _ _ ⟨Cond.after_iff.mpr rfl, Cond.after_iff.mpr (eq_i res_at (Term.int_eval (1)) rfl), trivial⟩ ⟨hq.1, hq.2.1, hq.2.2.1, (hq.2.2.2.sift fun y hy => Or.inr (N y hy)).mono (by decide) (by decide)⟩⟩
theorem main_1_1 : Claimed_1_1 := comes_1 fun _ _ _ _ _ _ h hF => ⟨h.1, hF⟩
theorem main_1_2 : Claimed_1_2 := comes_1 fun _ _ _ _ _ _ h hF => ⟨h.2.1, hF⟩
end Jvm.Pilot.@@N@@
namespace Jvm.Pilot.@@N@@
open Jvm Jvm.ClassFile Sem Op Lib Jvm.Free Jvm.Stand Jvm.Pilot.@@N@@.Jvm.D
/-! MADE BY PROGRAM (witnessworld.py) out of the Statement's table words and the real class files: 31 classes; the members and pool entries that the words name. The judged class is class 1, her method 2. -/
namespace start1
open Jvm.ClassFile
def u (s : String) : CpInfo := .utf8 (stringToUtf16 s)
/-- a pool by its gaps: so many unusable entries, then the entry; so many at the end -/
def gap : Nat → List CpInfo → List CpInfo
  | 0, r => r
  | n + 1, r => .unusable :: gap n r
def poolList (es : List (Nat × CpInfo)) (last : Nat) : List CpInfo := es.foldr (fun e r => gap e.1 (e.2 :: r)) (gap last [])
def pool (es : List (Nat × CpInfo)) (last : Nat) : Array CpInfo := ⟨poolList es last⟩
def fileOf (pool : Array CpInfo) (this : Nat) (attrs : Array Attribute := #[]) (ms : Array MethodInfo := #[]) (fl : Nat := 33) (sup : Nat := 0) (ifs : Array Nat := #[]) (fds : Array FieldInfo := #[]) : ClassFile where
  minorVersion := 0
  majorVersion := 65
  constantPool := pool
  accessFlags := fl
  thisClass := this
  superClass := sup
  interfaces := ifs
  fields := fds
  methods := ms
  attributes := attrs
def plain (name : String) (sup : Option ClassId) : Class where
  name := name
  kind := .ordinary
  loader := none
  accessFlags := 33
  super := sup
  interfaces := #[]
  cf := none
  fields := #[]
  methods := #[]
  instanceTypes := #[]
  staticTypes := #[]
  resolved := #[]
  callSites := []
  init := .initialized
  statics := none
  mirror := none

def pool0 : Array CpInfo := pool [(5, u "<init>"), (0, u "()V"), (1, .class_ 10), (1, u "java/lang/Object")] 113

def k0c0 : Code := { maxStack := 0, maxLocals := 1, code := object_method_1_code, exceptionTable := #[], attributes := #[] }
def k0m0 : Method := { name := "<init>", desc := "()V", sig := { parameters := [], returnType := none }, accessFlags := 1, code := some k0c0 }
/-- java/lang/Object -/
def k0 : Class := { plain "java/lang/Object" none with
  accessFlags := 33
  interfaces := #[]
  cf := some (fileOf pool0 8 #[] #[{ accessFlags := 1, nameIndex := 5, descriptorIndex := 6, attributes := #[] }] 33 0 #[] #[])
  fields := #[]
  methods := #[k0m0]
  instanceTypes := #[]
  staticTypes := #[]
  resolved := Array.replicate 124 none
  statics := none }

def pool1 : Array CpInfo := pool [(2, .class_ 4), (0, .nameAndType 5 6), (0, u "java/lang/Object"), (0, u "<init>"), (0, u "()V"), (0, .class_ 8), (0, u "java/lang/String"), (0, .methodref 7 10), (0, .nameAndType 5 11), (0, u "([C)V"), (0, .methodref 13 14), (0, .class_ 15), (0, .nameAndType 16 17), (0, u "com/example/weftline/weftline/XmlElementInVocabularyPinLaw"), (0, u "str"), (0, u "(ICCC)Ljava/lang/String;"), (0, .class_ 19), (0, u "com/example/weftline/weftline/XmlElement"), (0, .string 21), (0, u "x"), (0, .class_ 23), (0, u "java/util/ArrayList"), (0, .methodref 22 3), (0, .methodref 18 26), (0, .nameAndType 5 27), (0, u "(Ljava/lang/String;Ljava/lang/String;Ljava/lang/String;Ljava/lang/String;ILjava/util/Map;Ljava/util/List;Ljava/util/Map;Ljava/util/List;)V"), (0, .methodref 18 29), (0, .nameAndType 30 31), (0, u "inVocabulary"), (0, u "()Z"), (3, u "law"), (0, u "(III)Z")] 2

def k1m0 : Method := { name := "<init>", desc := "()V", sig := { parameters := [], returnType := none }, accessFlags := 1, code := none }
def k1c1 : Code := { maxStack := 3, maxLocals := 5, code := method_2_code, exceptionTable := #[], attributes := #[] }
def k1m1 : Method := { name := "str", desc := "(ICCC)Ljava/lang/String;", sig := { parameters := [.int, .char, .char, .char], returnType := some (.object "java/lang/String") }, accessFlags := 10, code := some k1c1 }
def k1c2 : Code := { maxStack := 12, maxLocals := 18, code := code, exceptionTable := #[], attributes := #[] }
def k1m2 : Method := { name := "law", desc := "(III)Z", sig := { parameters := [.int, .int, .int], returnType := some .boolean }, accessFlags := 9, code := some k1c2 }
/-- com/example/weftline/weftline/XmlElementInVocabularyPinLaw -/
def k1 : Class := { plain "com/example/weftline/weftline/XmlElementInVocabularyPinLaw" (some 0) with
  accessFlags := 49
  interfaces := #[]
  cf := some (fileOf pool1 13 #[] #[{ accessFlags := 1, nameIndex := 5, descriptorIndex := 6, attributes := #[] }, { accessFlags := 10, nameIndex := 16, descriptorIndex := 17, attributes := #[] }, { accessFlags := 9, nameIndex := 35, descriptorIndex := 36, attributes := #[] }] 49 2 #[] #[])
  fields := #[]
  methods := #[k1m0, k1m1, k1m2]
  instanceTypes := #[]
  staticTypes := #[]
  resolved := Array.replicate 39 none
  statics := none }

def pool2 : Array CpInfo := pool [(1, .class_ 2), (0, u "java/io/Serializable"), (0, .class_ 4), (0, u "java/lang/Object")] 2

/-- java/io/Serializable -/
def k2 : Class := { plain "java/io/Serializable" (some 0) with
  accessFlags := 1537
  interfaces := #[]
  cf := some (fileOf pool2 1 #[] #[] 1537 3 #[] #[])
  fields := #[]
  methods := #[]
  instanceTypes := #[]
  staticTypes := #[]
  resolved := Array.replicate 7 none
  statics := none }

def pool3 : Array CpInfo := pool [(1, .class_ 2), (0, u "java/lang/Comparable"), (0, .class_ 4), (0, u "java/lang/Object")] 7

/-- java/lang/Comparable -/
def k3 : Class := { plain "java/lang/Comparable" (some 0) with
  accessFlags := 1537
  interfaces := #[]
  cf := some (fileOf pool3 1 #[] #[] 1537 3 #[] #[])
  fields := #[]
  methods := #[]
  instanceTypes := #[]
  staticTypes := #[]
  resolved := Array.replicate 12 none
  statics := none }

def pool4 : Array CpInfo := pool [(2, .class_ 4), (1, u "java/lang/CharSequence"), (42, .class_ 48), (0, u "java/lang/CharSequence$1CodePointIterator"), (10, .class_ 60), (0, u "java/lang/CharSequence$1CharIterator"), (5, .class_ 67), (0, u "java/lang/Object")] 63

/-- java/lang/CharSequence -/
def k4 : Class := { plain "java/lang/CharSequence" (some 0) with
  accessFlags := 1537
  interfaces := #[]
  cf := some (fileOf pool4 2 #[.nestMembers #[47, 59]] #[] 1537 66 #[] #[])
  fields := #[]
  methods := #[]
  instanceTypes := #[]
  staticTypes := #[]
  resolved := Array.replicate 131 none
  statics := none }

def pool5 : Array CpInfo := pool [(1, .class_ 2), (0, u "java/lang/constant/Constable"), (0, .class_ 4), (0, u "java/lang/Object")] 6

/-- java/lang/constant/Constable -/
def k5 : Class := { plain "java/lang/constant/Constable" (some 0) with
  accessFlags := 1537
  interfaces := #[]
  cf := some (fileOf pool5 1 #[] #[] 1537 3 #[] #[])
  fields := #[]
  methods := #[]
  instanceTypes := #[]
  staticTypes := #[]
  resolved := Array.replicate 11 none
  statics := none }

def pool6 : Array CpInfo := pool [(1, .class_ 2), (0, u "java/lang/constant/ConstantDesc"), (0, .class_ 4), (0, u "java/lang/Object")] 32

/-- java/lang/constant/ConstantDesc -/
def k6 : Class := { plain "java/lang/constant/ConstantDesc" (some 0) with
  accessFlags := 1537
  interfaces := #[]
  cf := some (fileOf pool6 1 #[] #[] 1537 3 #[] #[])
  fields := #[]
  methods := #[]
  instanceTypes := #[]
  staticTypes := #[]
  resolved := Array.replicate 37 none
  statics := none }

def pool7 : Array CpInfo := pool [(1, .methodref 2 3), (0, .class_ 4), (0, .nameAndType 5 6), (0, u "java/lang/Object"), (0, u "<init>"), (0, u "()V"), (0, .string 8), (0, u ""), (0, .fieldref 10 11), (0, .class_ 12), (0, .nameAndType 13 14), (0, u "java/lang/String"), (0, u "value"), (0, u "[B"), (0, .fieldref 10 16), (0, .nameAndType 17 18), (0, u "coder"), (0, u "B"), (2, u "hash"), (0, u "I"), (2, u "hashIsZero"), (0, u "Z"), (0, .methodref 10 28), (0, .nameAndType 5 29), (0, u "([CIILjava/lang/Void;)V"), (8, .fieldref 10 39), (0, .nameAndType 40 26), (0, u "COMPACT_STRINGS"), (1, .class_ 44), (1, u "java/lang/StringUTF16"), (0, u "compress"), (1, .methodref 42 48), (0, .nameAndType 49 50), (0, u "coderFromArrayLen"), (0, u "([BI)B"), (56, .class_ 109), (1, u "java/lang/StringLatin1"), (67, .methodref 42 178), (0, .nameAndType 45 179), (0, u "([CII)[B"), (361, .methodref 107 542), (0, .nameAndType 543 544), (0, u "equals"), (0, u "([B[B)Z"), (28, u "(Ljava/lang/Object;)Z"), (1, .class_ 576), (0, u "java/lang/CharSequence"), (22, u "CASE_INSENSITIVE_ORDER"), (0, u "Ljava/util/Comparator;"), (409, u "([C)V"), (90, u "serialPersistentFields"), (0, u "[Ljava/io/ObjectStreamField;"), (0, .class_ 1104), (0, u "java/lang/String$CaseInsensitiveComparator"), (1, .class_ 1107), (0, u "java/io/Serializable"), (0, .class_ 1109), (0, u "java/lang/Comparable"), (0, .class_ 1111), (0, u "java/lang/constant/Constable"), (0, .class_ 1113), (0, u "java/lang/constant/ConstantDesc"), (2, u "serialVersionUID"), (0, u "J"), (3, u "REPL"), (0, u "C"), (2, u "LATIN1"), (1, u "UTF16")] 323

def k7m0 : Method := { name := "<init>", desc := "()V", sig := { parameters := [], returnType := none }, accessFlags := 1, code := none }
def k7c1 : Code := { maxStack := 5, maxLocals := 2, code := jdk_42_method_3_code, exceptionTable := #[], attributes := #[] }
def k7m1 : Method := { name := "<init>", desc := "([C)V", sig := { parameters := [(.array .char)], returnType := none }, accessFlags := 1, code := some k7c1 }
def k7c2 : Code := { maxStack := 2, maxLocals := 3, code := jdk_42_method_66_code, exceptionTable := #[], attributes := #[] }
def k7m2 : Method := { name := "equals", desc := "(Ljava/lang/Object;)Z", sig := { parameters := [(.object "java/lang/Object")], returnType := some .boolean }, accessFlags := 1, code := some k7c2 }
def k7c3 : Code := { maxStack := 4, maxLocals := 6, code := jdk_42_method_149_code, exceptionTable := #[], attributes := #[] }
def k7m3 : Method := { name := "<init>", desc := "([CIILjava/lang/Void;)V", sig := { parameters := [(.array .char), .int, .int, (.object "java/lang/Void")], returnType := none }, accessFlags := 2, code := some k7c3 }
/-- java/lang/String -/
def k7 : Class := { plain "java/lang/String" (some 0) with
  accessFlags := 49
  interfaces := #[2, 3, 4, 5, 6]
  cf := some (fileOf pool7 10 #[.nestMembers #[1103]] #[{ accessFlags := 1, nameIndex := 5, descriptorIndex := 6, attributes := #[] }, { accessFlags := 1, nameIndex := 5, descriptorIndex := 1010, attributes := #[] }, { accessFlags := 1, nameIndex := 543, descriptorIndex := 573, attributes := #[] }, { accessFlags := 2, nameIndex := 5, descriptorIndex := 29, attributes := #[] }] 49 2 #[1106, 1108, 575, 1110, 1112] #[{ accessFlags := 18, nameIndex := 13, descriptorIndex := 14, attributes := #[] }, { accessFlags := 18, nameIndex := 17, descriptorIndex := 18, attributes := #[] }, { accessFlags := 2, nameIndex := 21, descriptorIndex := 22, attributes := #[] }, { accessFlags := 2, nameIndex := 25, descriptorIndex := 26, attributes := #[] }, { accessFlags := 26, nameIndex := 1116, descriptorIndex := 1117, attributes := #[] }, { accessFlags := 24, nameIndex := 40, descriptorIndex := 26, attributes := #[] }, { accessFlags := 26, nameIndex := 1101, descriptorIndex := 1102, attributes := #[] }, { accessFlags := 26, nameIndex := 1121, descriptorIndex := 1122, attributes := #[] }, { accessFlags := 25, nameIndex := 599, descriptorIndex := 600, attributes := #[] }, { accessFlags := 24, nameIndex := 1125, descriptorIndex := 18, attributes := #[] }, { accessFlags := 24, nameIndex := 1127, descriptorIndex := 18, attributes := #[] }])
  fields := #[{ name := "value", type := (.array .byte), accessFlags := 18, slot := 0, constantValue := 0 }, { name := "coder", type := .byte, accessFlags := 18, slot := 1, constantValue := 0 }, { name := "hash", type := .int, accessFlags := 2, slot := 2, constantValue := 0 }, { name := "hashIsZero", type := .boolean, accessFlags := 2, slot := 3, constantValue := 0 }, { name := "serialVersionUID", type := .long, accessFlags := 26, slot := 0, constantValue := 0 }, { name := "COMPACT_STRINGS", type := .boolean, accessFlags := 24, slot := 1, constantValue := 0 }, { name := "serialPersistentFields", type := (.array (.object "java/io/ObjectStreamField")), accessFlags := 26, slot := 2, constantValue := 0 }, { name := "REPL", type := .char, accessFlags := 26, slot := 3, constantValue := 0 }, { name := "CASE_INSENSITIVE_ORDER", type := (.object "java/util/Comparator"), accessFlags := 25, slot := 4, constantValue := 0 }, { name := "LATIN1", type := .byte, accessFlags := 24, slot := 5, constantValue := 0 }, { name := "UTF16", type := .byte, accessFlags := 24, slot := 6, constantValue := 0 }]
  methods := #[k7m0, k7m1, k7m2, k7m3]
  instanceTypes := #[(.array .byte), .byte, .int, .boolean]
  staticTypes := #[.long, .boolean, (.array (.object "java/io/ObjectStreamField")), .char, (.object "java/util/Comparator"), .byte, .byte]
  resolved := Array.replicate 1451 none
  statics := some 0 }

def pool8 : Array CpInfo := pool [(6, .class_ 8), (1, u "java/lang/Object"), (0, u "<init>"), (0, u "()V"), (1, .class_ 14), (1, u "java/lang/StringUTF16"), (31, u "$assertionsDisabled"), (0, u "Z"), (13, u "HI_BYTE_SHIFT"), (0, u "I"), (2, u "LO_BYTE_SHIFT"), (49, .methodref 12 116), (0, .nameAndType 117 118), (0, u "compress"), (0, u "([CI[BII)I"), (3, u "([CII)[B"), (138, u "coderFromArrayLen"), (0, u "([BI)B"), (106, .class_ 371), (1, u "java/lang/StringUTF16$LinesSpliterator"), (58, u "MAX_LENGTH"), (196, .class_ 628), (0, u "java/lang/StringUTF16$CodePointsSpliterator"), (0, .class_ 630), (0, u "java/lang/StringUTF16$CharsSpliterator")] 4

def k8m0 : Method := { name := "<init>", desc := "()V", sig := { parameters := [], returnType := none }, accessFlags := 0, code := none }
def k8c1 : Code := { maxStack := 2, maxLocals := 2, code := jdk_52_method_15_code, exceptionTable := #[], attributes := #[] }
def k8m1 : Method := { name := "coderFromArrayLen", desc := "([BI)B", sig := { parameters := [(.array .byte), .int], returnType := some .byte }, accessFlags := 8, code := some k8c1 }
def k8c2 : Code := { maxStack := 5, maxLocals := 6, code := jdk_52_method_16_code, exceptionTable := #[], attributes := #[] }
def k8m2 : Method := { name := "compress", desc := "([CII)[B", sig := { parameters := [(.array .char), .int, .int], returnType := some (.array .byte) }, accessFlags := 9, code := some k8c2 }
def k8c3 : Code := { maxStack := 3, maxLocals := 7, code := jdk_52_method_21_code, exceptionTable := #[], attributes := #[] }
def k8m3 : Method := { name := "compress", desc := "([CI[BII)I", sig := { parameters := [(.array .char), .int, (.array .byte), .int, .int], returnType := some .int }, accessFlags := 9, code := some k8c3 }
/-- java/lang/StringUTF16 -/
def k8 : Class := { plain "java/lang/StringUTF16" (some 0) with
  accessFlags := 48
  interfaces := #[]
  cf := some (fileOf pool8 12 #[.nestMembers #[627, 629, 369]] #[{ accessFlags := 0, nameIndex := 9, descriptorIndex := 10, attributes := #[] }, { accessFlags := 8, nameIndex := 261, descriptorIndex := 262, attributes := #[] }, { accessFlags := 9, nameIndex := 117, descriptorIndex := 122, attributes := #[] }, { accessFlags := 9, nameIndex := 117, descriptorIndex := 118, attributes := #[] }] 48 6 #[] #[{ accessFlags := 26, nameIndex := 61, descriptorIndex := 62, attributes := #[] }, { accessFlags := 26, nameIndex := 65, descriptorIndex := 62, attributes := #[] }, { accessFlags := 24, nameIndex := 430, descriptorIndex := 62, attributes := #[] }, { accessFlags := 4120, nameIndex := 46, descriptorIndex := 47, attributes := #[] }])
  fields := #[{ name := "HI_BYTE_SHIFT", type := .int, accessFlags := 26, slot := 0, constantValue := 0 }, { name := "LO_BYTE_SHIFT", type := .int, accessFlags := 26, slot := 1, constantValue := 0 }, { name := "MAX_LENGTH", type := .int, accessFlags := 24, slot := 2, constantValue := 0 }, { name := "$assertionsDisabled", type := .boolean, accessFlags := 4120, slot := 3, constantValue := 0 }]
  methods := #[k8m0, k8m1, k8m2, k8m3]
  instanceTypes := #[]
  staticTypes := #[.int, .int, .int, .boolean]
  resolved := Array.replicate 635 none
  statics := none }

def pool9 : Array CpInfo := pool [(1, .methodref 2 3), (0, .class_ 4), (0, .nameAndType 5 6), (0, u "java/lang/Object"), (0, u "<init>"), (0, u "()V"), (0, .class_ 8), (0, u "java/lang/Record")] 13

def k9c0 : Code := { maxStack := 1, maxLocals := 1, code := jdk_30_method_1_code, exceptionTable := #[], attributes := #[] }
def k9m0 : Method := { name := "<init>", desc := "()V", sig := { parameters := [], returnType := none }, accessFlags := 4, code := some k9c0 }
/-- java/lang/Record -/
def k9 : Class := { plain "java/lang/Record" (some 0) with
  accessFlags := 1057
  interfaces := #[]
  cf := some (fileOf pool9 7 #[] #[{ accessFlags := 4, nameIndex := 5, descriptorIndex := 6, attributes := #[] }] 1057 2 #[] #[])
  fields := #[]
  methods := #[k9m0]
  instanceTypes := #[]
  staticTypes := #[]
  resolved := Array.replicate 22 none
  statics := none }

def pool10 : Array CpInfo := pool [(1, .class_ 2), (0, u "com/example/weftline/weftline/XmlContent"), (0, .class_ 4), (0, u "java/lang/Object"), (3, .class_ 9), (0, u "com/example/weftline/weftline/XmlContent$Instruction"), (0, .class_ 11), (0, u "com/example/weftline/weftline/XmlContent$Comment"), (0, .class_ 13), (0, u "com/example/weftline/weftline/XmlContent$Text")] 7

/-- com/example/weftline/weftline/XmlContent -/
def k10 : Class := { plain "com/example/weftline/weftline/XmlContent" (some 0) with
  accessFlags := 1536
  interfaces := #[]
  cf := some (fileOf pool10 1 #[.nestMembers #[8, 10, 12]] #[] 1536 3 #[] #[])
  fields := #[]
  methods := #[]
  instanceTypes := #[]
  staticTypes := #[]
  resolved := Array.replicate 21 none
  statics := none }

def pool11 : Array CpInfo := pool [(1, .methodref 2 3), (0, .class_ 4), (0, .nameAndType 5 6), (0, u "java/lang/Record"), (0, u "<init>"), (0, u "()V"), (0, .fieldref 8 9), (0, .class_ 10), (0, .nameAndType 11 12), (0, u "com/example/weftline/weftline/XmlElement"), (0, u "vocabulary"), (0, u "Ljava/lang/String;"), (0, .fieldref 8 14), (0, .nameAndType 15 12), (0, u "namespace"), (0, .fieldref 8 17), (0, .nameAndType 18 12), (0, u "localName"), (0, .fieldref 8 20), (0, .nameAndType 21 12), (0, u "qName"), (0, .fieldref 8 23), (0, .nameAndType 24 25), (0, u "line"), (0, u "I"), (0, .fieldref 8 27), (0, .nameAndType 28 29), (0, u "attributes"), (0, u "Ljava/util/Map;"), (0, .fieldref 8 31), (0, .nameAndType 32 33), (0, u "qualifiedAttributes"), (0, u "Ljava/util/List;"), (0, .fieldref 8 35), (0, .nameAndType 36 29), (0, u "prefixes"), (0, .fieldref 8 38), (0, .nameAndType 39 33), (0, u "content"), (0, .methodref 41 42), (0, .class_ 43), (0, .nameAndType 44 45), (0, u "java/lang/String"), (0, u "equals"), (0, u "(Ljava/lang/Object;)Z"), (2, u "inVocabulary"), (0, u "()Z"), (36, .class_ 87), (0, u "com/example/weftline/weftline/XmlElement$QualifiedAttribute"), (7, .class_ 96), (0, u "com/example/weftline/weftline/XmlContent"), (41, u "(Ljava/lang/String;Ljava/lang/String;Ljava/lang/String;Ljava/lang/String;ILjava/util/Map;Ljava/util/List;Ljava/util/Map;Ljava/util/List;)V"), (24, .class_ 164), (0, u "com/example/weftline/weftline/XmlElement$Builder"), (0, .class_ 166), (0, u "com/example/weftline/weftline/XmlElement$Builder$Open")] 40

def k11c0 : Code := { maxStack := 2, maxLocals := 10, code := prog_112_method_1_code, exceptionTable := #[], attributes := #[] }
def k11m0 : Method := { name := "<init>", desc := "(Ljava/lang/String;Ljava/lang/String;Ljava/lang/String;Ljava/lang/String;ILjava/util/Map;Ljava/util/List;Ljava/util/Map;Ljava/util/List;)V", sig := { parameters := [(.object "java/lang/String"), (.object "java/lang/String"), (.object "java/lang/String"), (.object "java/lang/String"), .int, (.object "java/util/Map"), (.object "java/util/List"), (.object "java/util/Map"), (.object "java/util/List")], returnType := none }, accessFlags := 0, code := some k11c0 }
def k11c1 : Code := { maxStack := 2, maxLocals := 1, code := prog_112_method_2_code, exceptionTable := #[], attributes := #[] }
def k11m1 : Method := { name := "inVocabulary", desc := "()Z", sig := { parameters := [], returnType := some .boolean }, accessFlags := 0, code := some k11c1 }
/-- com/example/weftline/weftline/XmlElement -/
def k11 : Class := { plain "com/example/weftline/weftline/XmlElement" (some 9) with
  accessFlags := 48
  interfaces := #[10]
  cf := some (fileOf pool11 8 #[.nestMembers #[163, 165, 86]] #[{ accessFlags := 0, nameIndex := 5, descriptorIndex := 138, attributes := #[] }, { accessFlags := 0, nameIndex := 48, descriptorIndex := 49, attributes := #[] }] 48 2 #[95] #[{ accessFlags := 18, nameIndex := 11, descriptorIndex := 12, attributes := #[] }, { accessFlags := 18, nameIndex := 15, descriptorIndex := 12, attributes := #[] }, { accessFlags := 18, nameIndex := 18, descriptorIndex := 12, attributes := #[] }, { accessFlags := 18, nameIndex := 21, descriptorIndex := 12, attributes := #[] }, { accessFlags := 18, nameIndex := 24, descriptorIndex := 25, attributes := #[] }, { accessFlags := 18, nameIndex := 28, descriptorIndex := 29, attributes := #[] }, { accessFlags := 18, nameIndex := 32, descriptorIndex := 33, attributes := #[] }, { accessFlags := 18, nameIndex := 36, descriptorIndex := 29, attributes := #[] }, { accessFlags := 18, nameIndex := 39, descriptorIndex := 33, attributes := #[] }])
  fields := #[{ name := "vocabulary", type := (.object "java/lang/String"), accessFlags := 18, slot := 0, constantValue := 0 }, { name := "namespace", type := (.object "java/lang/String"), accessFlags := 18, slot := 1, constantValue := 0 }, { name := "localName", type := (.object "java/lang/String"), accessFlags := 18, slot := 2, constantValue := 0 }, { name := "qName", type := (.object "java/lang/String"), accessFlags := 18, slot := 3, constantValue := 0 }, { name := "line", type := .int, accessFlags := 18, slot := 4, constantValue := 0 }, { name := "attributes", type := (.object "java/util/Map"), accessFlags := 18, slot := 5, constantValue := 0 }, { name := "qualifiedAttributes", type := (.object "java/util/List"), accessFlags := 18, slot := 6, constantValue := 0 }, { name := "prefixes", type := (.object "java/util/Map"), accessFlags := 18, slot := 7, constantValue := 0 }, { name := "content", type := (.object "java/util/List"), accessFlags := 18, slot := 8, constantValue := 0 }]
  methods := #[k11m0, k11m1]
  instanceTypes := #[(.object "java/lang/String"), (.object "java/lang/String"), (.object "java/lang/String"), (.object "java/lang/String"), .int, (.object "java/util/Map"), (.object "java/util/List"), (.object "java/util/Map"), (.object "java/util/List")]
  staticTypes := #[]
  resolved := Array.replicate 207 none
  statics := none }

def pool12 : Array CpInfo := pool [(8, .class_ 10), (1, u "java/lang/Iterable"), (24, .class_ 36), (0, u "java/lang/Object")] 25

/-- java/lang/Iterable -/
def k12 : Class := { plain "java/lang/Iterable" (some 0) with
  accessFlags := 1537
  interfaces := #[]
  cf := some (fileOf pool12 8 #[] #[] 1537 35 #[] #[])
  fields := #[]
  methods := #[]
  instanceTypes := #[]
  staticTypes := #[]
  resolved := Array.replicate 62 none
  statics := none }

def pool13 : Array CpInfo := pool [(10, .class_ 12), (1, u "java/util/Collection"), (47, .class_ 61), (0, u "java/lang/Object"), (0, .class_ 63), (0, u "java/lang/Iterable")] 51

/-- java/util/Collection -/
def k13 : Class := { plain "java/util/Collection" (some 0) with
  accessFlags := 1537
  interfaces := #[12]
  cf := some (fileOf pool13 10 #[] #[] 1537 60 #[62] #[])
  fields := #[]
  methods := #[]
  instanceTypes := #[]
  staticTypes := #[]
  resolved := Array.replicate 115 none
  statics := none }

def pool14 : Array CpInfo := pool [(1, .methodref 2 3), (0, .class_ 4), (0, .nameAndType 5 6), (0, u "java/lang/Object"), (0, u "<init>"), (0, u "()V"), (1, .class_ 10), (1, u "java/util/AbstractCollection"), (66, .class_ 78), (0, u "java/util/Collection")] 81

def k14c0 : Code := { maxStack := 1, maxLocals := 1, code := jdk_22_method_1_code, exceptionTable := #[], attributes := #[] }
def k14m0 : Method := { name := "<init>", desc := "()V", sig := { parameters := [], returnType := none }, accessFlags := 4, code := some k14c0 }
/-- java/util/AbstractCollection -/
def k14 : Class := { plain "java/util/AbstractCollection" (some 0) with
  accessFlags := 1057
  interfaces := #[13]
  cf := some (fileOf pool14 8 #[] #[{ accessFlags := 4, nameIndex := 5, descriptorIndex := 6, attributes := #[] }] 1057 2 #[77] #[])
  fields := #[]
  methods := #[k14m0]
  instanceTypes := #[]
  staticTypes := #[]
  resolved := Array.replicate 160 none
  statics := none }

def pool15 : Array CpInfo := pool [(8, .class_ 10), (1, u "java/util/SequencedCollection"), (15, .class_ 27), (0, u "java/lang/Object"), (0, .class_ 29), (0, u "java/util/Collection")] 27

/-- java/util/SequencedCollection -/
def k15 : Class := { plain "java/util/SequencedCollection" (some 0) with
  accessFlags := 1537
  interfaces := #[13]
  cf := some (fileOf pool15 8 #[] #[] 1537 26 #[28] #[])
  fields := #[]
  methods := #[]
  instanceTypes := #[]
  staticTypes := #[]
  resolved := Array.replicate 57 none
  statics := none }

def pool16 : Array CpInfo := pool [(8, .class_ 10), (1, u "java/util/List"), (92, .class_ 104), (0, u "java/lang/Object"), (15, .class_ 121), (0, u "java/util/SequencedCollection")] 129

/-- java/util/List -/
def k16 : Class := { plain "java/util/List" (some 0) with
  accessFlags := 1537
  interfaces := #[15]
  cf := some (fileOf pool16 8 #[] #[] 1537 103 #[120] #[])
  fields := #[]
  methods := #[]
  instanceTypes := #[]
  staticTypes := #[]
  resolved := Array.replicate 251 none
  statics := none }

def pool17 : Array CpInfo := pool [(1, .methodref 2 3), (0, .class_ 4), (0, .nameAndType 5 6), (0, u "java/util/AbstractCollection"), (0, u "<init>"), (0, u "()V"), (0, .fieldref 8 9), (0, .class_ 10), (0, .nameAndType 11 12), (0, u "java/util/AbstractList"), (0, u "modCount"), (0, u "I"), (64, .class_ 78), (0, u "java/util/AbstractList$Itr"), (3, .class_ 83), (0, u "java/util/AbstractList$ListItr"), (9, .class_ 94), (0, u "java/util/AbstractList$RandomAccessSubList"), (3, .class_ 99), (0, u "java/util/AbstractList$SubList"), (33, .class_ 134), (0, u "java/util/List"), (73, .class_ 209), (0, u "java/util/AbstractList$SubList$1"), (0, .class_ 211), (0, u "java/util/AbstractList$RandomAccessSpliterator")] 6

def k17c0 : Code := { maxStack := 2, maxLocals := 1, code := jdk_39_method_1_code, exceptionTable := #[], attributes := #[] }
def k17m0 : Method := { name := "<init>", desc := "()V", sig := { parameters := [], returnType := none }, accessFlags := 4, code := some k17c0 }
/-- java/util/AbstractList -/
def k17 : Class := { plain "java/util/AbstractList" (some 14) with
  accessFlags := 1057
  interfaces := #[16]
  cf := some (fileOf pool17 8 #[.nestMembers #[93, 98, 208, 210, 82, 77]] #[{ accessFlags := 4, nameIndex := 5, descriptorIndex := 6, attributes := #[] }] 1057 2 #[133] #[{ accessFlags := 132, nameIndex := 11, descriptorIndex := 12, attributes := #[] }])
  fields := #[{ name := "modCount", type := .int, accessFlags := 132, slot := 0, constantValue := 0 }]
  methods := #[k17m0]
  instanceTypes := #[.int]
  staticTypes := #[]
  resolved := Array.replicate 218 none
  statics := none }

def pool18 : Array CpInfo := pool [(1, .class_ 2), (0, u "java/util/RandomAccess"), (0, .class_ 4), (0, u "java/lang/Object")] 2

/-- java/util/RandomAccess -/
def k18 : Class := { plain "java/util/RandomAccess" (some 0) with
  accessFlags := 1537
  interfaces := #[]
  cf := some (fileOf pool18 1 #[] #[] 1537 3 #[] #[])
  fields := #[]
  methods := #[]
  instanceTypes := #[]
  staticTypes := #[]
  resolved := Array.replicate 7 none
  statics := none }

def pool19 : Array CpInfo := pool [(1, .class_ 2), (0, u "java/lang/Cloneable"), (0, .class_ 4), (0, u "java/lang/Object")] 2

/-- java/lang/Cloneable -/
def k19 : Class := { plain "java/lang/Cloneable" (some 0) with
  accessFlags := 1537
  interfaces := #[]
  cf := some (fileOf pool19 1 #[] #[] 1537 3 #[] #[])
  fields := #[]
  methods := #[]
  instanceTypes := #[]
  staticTypes := #[]
  resolved := Array.replicate 7 none
  statics := none }

def pool20 : Array CpInfo := pool [(1, .methodref 2 3), (0, .class_ 4), (0, .nameAndType 5 6), (0, u "java/util/AbstractList"), (0, u "<init>"), (0, u "()V"), (2, .fieldref 10 11), (0, .class_ 12), (0, .nameAndType 13 14), (0, u "java/util/ArrayList"), (0, u "elementData"), (0, u "[Ljava/lang/Object;"), (2, u "EMPTY_ELEMENTDATA"), (21, .fieldref 10 40), (0, .nameAndType 41 14), (0, u "DEFAULTCAPACITY_EMPTY_ELEMENTDATA"), (8, u "size"), (0, u "I"), (96, .class_ 149), (0, u "java/util/List"), (112, .class_ 263), (0, u "java/util/ArrayList$ListItr"), (3, .class_ 268), (0, u "java/util/ArrayList$Itr"), (7, .class_ 277), (0, u "java/util/ArrayList$SubList"), (12, .class_ 291), (0, u "java/util/ArrayList$ArrayListSpliterator"), (37, .class_ 330), (0, u "java/util/RandomAccess"), (0, .class_ 332), (0, u "java/lang/Cloneable"), (0, .class_ 334), (0, u "java/io/Serializable"), (0, u "serialVersionUID"), (0, u "J"), (3, u "DEFAULT_CAPACITY"), (159, .class_ 501), (0, u "java/util/ArrayList$SubList$2"), (0, .class_ 503), (0, u "java/util/ArrayList$SubList$1")] 5

def k20c0 : Code := { maxStack := 2, maxLocals := 1, code := jdk_38_method_2_code, exceptionTable := #[], attributes := #[] }
def k20m0 : Method := { name := "<init>", desc := "()V", sig := { parameters := [], returnType := none }, accessFlags := 1, code := some k20c0 }
/-- java/util/ArrayList -/
def k20 : Class := { plain "java/util/ArrayList" (some 17) with
  accessFlags := 33
  interfaces := #[16, 18, 19, 2]
  cf := some (fileOf pool20 10 #[.nestMembers #[290, 276, 500, 502, 262, 267]] #[{ accessFlags := 1, nameIndex := 5, descriptorIndex := 6, attributes := #[] }] 33 2 #[148, 329, 331, 333] #[{ accessFlags := 26, nameIndex := 335, descriptorIndex := 336, attributes := #[] }, { accessFlags := 26, nameIndex := 340, descriptorIndex := 51, attributes := #[] }, { accessFlags := 26, nameIndex := 17, descriptorIndex := 14, attributes := #[] }, { accessFlags := 26, nameIndex := 41, descriptorIndex := 14, attributes := #[] }, { accessFlags := 128, nameIndex := 13, descriptorIndex := 14, attributes := #[] }, { accessFlags := 2, nameIndex := 50, descriptorIndex := 51, attributes := #[] }])
  fields := #[{ name := "serialVersionUID", type := .long, accessFlags := 26, slot := 0, constantValue := 0 }, { name := "DEFAULT_CAPACITY", type := .int, accessFlags := 26, slot := 1, constantValue := 0 }, { name := "EMPTY_ELEMENTDATA", type := (.array (.object "java/lang/Object")), accessFlags := 26, slot := 2, constantValue := 0 }, { name := "DEFAULTCAPACITY_EMPTY_ELEMENTDATA", type := (.array (.object "java/lang/Object")), accessFlags := 26, slot := 3, constantValue := 0 }, { name := "elementData", type := (.array (.object "java/lang/Object")), accessFlags := 128, slot := 1, constantValue := 0 }, { name := "size", type := .int, accessFlags := 2, slot := 2, constantValue := 0 }]
  methods := #[k20m0]
  instanceTypes := #[.int, (.array (.object "java/lang/Object")), .int]
  staticTypes := #[.long, .int, (.array (.object "java/lang/Object")), (.array (.object "java/lang/Object"))]
  resolved := Array.replicate 509 none
  statics := some 1 }

def pool21 : Array CpInfo := pool [(4, .class_ 6), (1, u "java/lang/Object"), (0, u "<init>"), (0, u "()V"), (5, .class_ 16), (1, u "java/lang/StringLatin1"), (104, u "$assertionsDisabled"), (0, u "Z"), (98, .class_ 223), (1, u "java/lang/StringLatin1$LinesSpliterator"), (57, u "equals"), (0, u "([B[B)Z"), (107, .class_ 391), (0, u "java/lang/StringLatin1$CharsSpliterator")] 3

def k21m0 : Method := { name := "<init>", desc := "()V", sig := { parameters := [], returnType := none }, accessFlags := 0, code := none }
def k21c1 : Code := { maxStack := 3, maxLocals := 3, code := jdk_43_method_13_code, exceptionTable := #[], attributes := #[] }
def k21m1 : Method := { name := "equals", desc := "([B[B)Z", sig := { parameters := [(.array .byte), (.array .byte)], returnType := some .boolean }, accessFlags := 9, code := some k21c1 }
/-- java/lang/StringLatin1 -/
def k21 : Class := { plain "java/lang/StringLatin1" (some 0) with
  accessFlags := 48
  interfaces := #[]
  cf := some (fileOf pool21 14 #[.nestMembers #[390, 221]] #[{ accessFlags := 0, nameIndex := 7, descriptorIndex := 8, attributes := #[] }, { accessFlags := 9, nameIndex := 281, descriptorIndex := 282, attributes := #[] }] 48 4 #[] #[{ accessFlags := 4120, nameIndex := 121, descriptorIndex := 122, attributes := #[] }])
  fields := #[{ name := "$assertionsDisabled", type := .boolean, accessFlags := 4120, slot := 0, constantValue := 0 }]
  methods := #[k21m0, k21m1]
  instanceTypes := #[]
  staticTypes := #[.boolean]
  resolved := Array.replicate 395 none
  statics := none }

def pool22 : Array CpInfo := pool [(2, .class_ 4), (1, u "java/lang/Object"), (0, u "<init>"), (0, u "()V"), (17, .class_ 26), (1, u "jdk/internal/util/Preconditions"), (28, .class_ 56), (0, u "jdk/internal/util/Preconditions$4"), (57, .class_ 115), (0, u "jdk/internal/util/Preconditions$1"), (7, u "SIOOBE_FORMATTER"), (0, u "Ljava/util/function/BiFunction;"), (0, .class_ 126), (0, u "jdk/internal/util/Preconditions$2"), (3, u "AIOOBE_FORMATTER"), (0, .class_ 132), (0, u "jdk/internal/util/Preconditions$3"), (3, u "IOOBE_FORMATTER")] 57

def k22m0 : Method := { name := "<init>", desc := "()V", sig := { parameters := [], returnType := none }, accessFlags := 1, code := none }
/-- jdk/internal/util/Preconditions -/
def k22 : Class := { plain "jdk/internal/util/Preconditions" (some 0) with
  accessFlags := 33
  interfaces := #[]
  cf := some (fileOf pool22 24 #[.nestMembers #[55, 131, 125, 114]] #[{ accessFlags := 1, nameIndex := 5, descriptorIndex := 6, attributes := #[] }] 33 2 #[] #[{ accessFlags := 25, nameIndex := 123, descriptorIndex := 124, attributes := #[] }, { accessFlags := 25, nameIndex := 130, descriptorIndex := 124, attributes := #[] }, { accessFlags := 25, nameIndex := 136, descriptorIndex := 124, attributes := #[] }])
  fields := #[{ name := "SIOOBE_FORMATTER", type := (.object "java/util/function/BiFunction"), accessFlags := 25, slot := 0, constantValue := 0 }, { name := "AIOOBE_FORMATTER", type := (.object "java/util/function/BiFunction"), accessFlags := 25, slot := 1, constantValue := 0 }, { name := "IOOBE_FORMATTER", type := (.object "java/util/function/BiFunction"), accessFlags := 25, slot := 2, constantValue := 0 }]
  methods := #[k22m0]
  instanceTypes := #[]
  staticTypes := #[(.object "java/util/function/BiFunction"), (.object "java/util/function/BiFunction"), (.object "java/util/function/BiFunction")]
  resolved := Array.replicate 194 none
  statics := some 2 }

def pool23 : Array CpInfo := pool [(9, u "<init>"), (6, .class_ 18), (1, u "java/lang/Object"), (0, u "()V"), (1, .class_ 23), (1, u "jdk/internal/util/ArraysSupport"), (0, u "LOG2_ARRAY_LONG_INDEX_SCALE"), (0, u "I"), (2, u "U"), (0, u "Ljdk/internal/misc/Unsafe;"), (8, u "BIG_ENDIAN"), (0, u "Z"), (8, u "LOG2_BYTE_BIT_SIZE"), (4, u "LOG2_ARRAY_INT_INDEX_SCALE"), (54, u "JLA"), (0, u "Ljdk/internal/access/JavaLangAccess;"), (11, u "LOG2_ARRAY_BOOLEAN_INDEX_SCALE"), (9, u "LOG2_ARRAY_BYTE_INDEX_SCALE"), (5, u "LOG2_ARRAY_CHAR_INDEX_SCALE"), (5, u "LOG2_ARRAY_SHORT_INDEX_SCALE"), (18, u "LOG2_ARRAY_FLOAT_INDEX_SCALE"), (24, u "LOG2_ARRAY_DOUBLE_INDEX_SCALE"), (89, u "T_BOOLEAN"), (2, u "T_CHAR"), (1, u "T_FLOAT"), (1, u "T_DOUBLE"), (1, u "T_BYTE"), (1, u "T_SHORT"), (1, u "T_INT"), (1, u "T_LONG"), (1, u "SOFT_MAX_ARRAY_LENGTH")] 83

def k23m0 : Method := { name := "<init>", desc := "()V", sig := { parameters := [], returnType := none }, accessFlags := 2, code := none }
/-- jdk/internal/util/ArraysSupport -/
def k23 : Class := { plain "jdk/internal/util/ArraysSupport" (some 0) with
  accessFlags := 33
  interfaces := #[]
  cf := some (fileOf pool23 21 #[] #[{ accessFlags := 2, nameIndex := 9, descriptorIndex := 19, attributes := #[] }] 33 16 #[] #[{ accessFlags := 24, nameIndex := 28, descriptorIndex := 29, attributes := #[] }, { accessFlags := 26, nameIndex := 38, descriptorIndex := 39, attributes := #[] }, { accessFlags := 25, nameIndex := 121, descriptorIndex := 25, attributes := #[] }, { accessFlags := 25, nameIndex := 131, descriptorIndex := 25, attributes := #[] }, { accessFlags := 25, nameIndex := 137, descriptorIndex := 25, attributes := #[] }, { accessFlags := 25, nameIndex := 143, descriptorIndex := 25, attributes := #[] }, { accessFlags := 25, nameIndex := 53, descriptorIndex := 25, attributes := #[] }, { accessFlags := 25, nameIndex := 24, descriptorIndex := 25, attributes := #[] }, { accessFlags := 25, nameIndex := 162, descriptorIndex := 25, attributes := #[] }, { accessFlags := 25, nameIndex := 187, descriptorIndex := 25, attributes := #[] }, { accessFlags := 26, nameIndex := 48, descriptorIndex := 25, attributes := #[] }, { accessFlags := 25, nameIndex := 277, descriptorIndex := 25, attributes := #[] }, { accessFlags := 25, nameIndex := 280, descriptorIndex := 25, attributes := #[] }, { accessFlags := 25, nameIndex := 282, descriptorIndex := 25, attributes := #[] }, { accessFlags := 25, nameIndex := 284, descriptorIndex := 25, attributes := #[] }, { accessFlags := 25, nameIndex := 286, descriptorIndex := 25, attributes := #[] }, { accessFlags := 25, nameIndex := 288, descriptorIndex := 25, attributes := #[] }, { accessFlags := 25, nameIndex := 290, descriptorIndex := 25, attributes := #[] }, { accessFlags := 25, nameIndex := 292, descriptorIndex := 25, attributes := #[] }, { accessFlags := 26, nameIndex := 108, descriptorIndex := 109, attributes := #[] }, { accessFlags := 25, nameIndex := 294, descriptorIndex := 25, attributes := #[] }])
  fields := #[{ name := "U", type := (.object "jdk/internal/misc/Unsafe"), accessFlags := 24, slot := 0, constantValue := 0 }, { name := "BIG_ENDIAN", type := .boolean, accessFlags := 26, slot := 1, constantValue := 0 }, { name := "LOG2_ARRAY_BOOLEAN_INDEX_SCALE", type := .int, accessFlags := 25, slot := 2, constantValue := 0 }, { name := "LOG2_ARRAY_BYTE_INDEX_SCALE", type := .int, accessFlags := 25, slot := 3, constantValue := 0 }, { name := "LOG2_ARRAY_CHAR_INDEX_SCALE", type := .int, accessFlags := 25, slot := 4, constantValue := 0 }, { name := "LOG2_ARRAY_SHORT_INDEX_SCALE", type := .int, accessFlags := 25, slot := 5, constantValue := 0 }, { name := "LOG2_ARRAY_INT_INDEX_SCALE", type := .int, accessFlags := 25, slot := 6, constantValue := 0 }, { name := "LOG2_ARRAY_LONG_INDEX_SCALE", type := .int, accessFlags := 25, slot := 7, constantValue := 0 }, { name := "LOG2_ARRAY_FLOAT_INDEX_SCALE", type := .int, accessFlags := 25, slot := 8, constantValue := 0 }, { name := "LOG2_ARRAY_DOUBLE_INDEX_SCALE", type := .int, accessFlags := 25, slot := 9, constantValue := 0 }, { name := "LOG2_BYTE_BIT_SIZE", type := .int, accessFlags := 26, slot := 10, constantValue := 0 }, { name := "T_BOOLEAN", type := .int, accessFlags := 25, slot := 11, constantValue := 0 }, { name := "T_CHAR", type := .int, accessFlags := 25, slot := 12, constantValue := 0 }, { name := "T_FLOAT", type := .int, accessFlags := 25, slot := 13, constantValue := 0 }, { name := "T_DOUBLE", type := .int, accessFlags := 25, slot := 14, constantValue := 0 }, { name := "T_BYTE", type := .int, accessFlags := 25, slot := 15, constantValue := 0 }, { name := "T_SHORT", type := .int, accessFlags := 25, slot := 16, constantValue := 0 }, { name := "T_INT", type := .int, accessFlags := 25, slot := 17, constantValue := 0 }, { name := "T_LONG", type := .int, accessFlags := 25, slot := 18, constantValue := 0 }, { name := "JLA", type := (.object "jdk/internal/access/JavaLangAccess"), accessFlags := 26, slot := 19, constantValue := 0 }, { name := "SOFT_MAX_ARRAY_LENGTH", type := .int, accessFlags := 25, slot := 20, constantValue := 0 }]
  methods := #[k23m0]
  instanceTypes := #[]
  staticTypes := #[(.object "jdk/internal/misc/Unsafe"), .boolean, .int, .int, .int, .int, .int, .int, .int, .int, .int, .int, .int, .int, .int, .int, .int, .int, .int, (.object "jdk/internal/access/JavaLangAccess"), .int]
  resolved := Array.replicate 378 none
  statics := none }

/-- the primitive byte -/
def k24 : Class := { plain "byte" none with kind := .primitive 'B', accessFlags := 0x411 }
/-- [B -/
def k25 : Class := { plain "[B" (some 0) with kind := .array 24 .byte, interfaces := #[19, 2], accessFlags := 1041 }

/-- the primitive char -/
def k26 : Class := { plain "char" none with kind := .primitive 'C', accessFlags := 0x411 }
/-- [C -/
def k27 : Class := { plain "[C" (some 0) with kind := .array 26 .char, interfaces := #[19, 2], accessFlags := 1041 }

/-- the primitive int -/
def k28 : Class := { plain "int" none with kind := .primitive 'I', accessFlags := 0x411 }
/-- [I -/
def k29 : Class := { plain "[I" (some 0) with kind := .array 28 .int, interfaces := #[19, 2], accessFlags := 1041 }

/-- [Ljava/lang/Object; -/
def k30 : Class := { plain "[Ljava/lang/Object;" (some 0) with kind := .array 0 (.object "java/lang/Object"), interfaces := #[19, 2], accessFlags := 1041 }

def heap : Heap := #[{ cls := 7, slots := #[.long 0, .int 1, .null, .int 0, .null, .int 0, .int 0], vm := .statics 7 },
  { cls := 20, slots := #[.long 0, .int 0, .ref 3, .ref 4], vm := .statics 20 },
  { cls := 22, slots := #[.null, .null, .null], vm := .statics 22 },
  { cls := 30, slots := #[], vm := .none },
  { cls := 30, slots := #[], vm := .none }]
def classes : Array Class := #[k0, k1, k2, k3, k4, k5, k6, k7, k8, k9, k10, k11, k12, k13, k14, k15, k16, k17, k18, k19, k20, k21, k22, k23, k24, k25, k26, k27, k28, k29, k30]
def interned : List (Array UInt16 × Addr) := []
def slotsUsed : Nat := 14
def theMethod : MethodId := ⟨1, 2⟩
def args0 : Array Value := #[.int 4276545, .int 5, .int 3]
def aboutOver (below : List Frame) : State where
  vm := { classes := classes, interned := interned.toArray }
  heap := heap
  slotsUsed := slotsUsed
  threads := #[{ frames := .invoking theMethod args0 :: below }]
def below0 : List Frame := [.native { method := ⟨0, 0⟩, args := #[] }]
def about1 : State := aboutOver below0
def p0 : Program := .bare "" "" ""
def e0 : Env := launch0.env 0 0 0
theorem w_frames : about1.frames = Frame.invoking theMethod args0 :: below0 := rfl
set_option maxRecDepth 65536 in
theorem w_args : argsFit about1.vm theMethod args0 = true := by decide +kernel
set_option maxRecDepth 65536 in
theorem w_heap : heapFits about1 = true := by decide +kernel
set_option maxRecDepth 65536 in
theorem w_runnable : about1.curStatus? = some .runnable := by decide +kernel
set_option maxRecDepth 65536 in
theorem w_alone : about1.alone = true := by decide +kernel
set_option maxRecDepth 65536 in
theorem w_named : about1.methodNamed? x = some theMethod := by decide +kernel
set_option maxRecDepth 65536 in
theorem w_hears : about1.hears theMethod below0 = true := by decide +kernel
set_option maxRecDepth 65536 in
theorem w_ripe : about1.ripe theMethod args0 below0 = true := by decide +kernel
theorem w_running : about1.status = .running := rfl
set_option maxRecDepth 65536 in
theorem w_room : about1.hasRoom e0.platform room_1 = true :=
  launch0.hasRoom_least _ room_1 (by decide +kernel) (by decide +kernel) (by decide +kernel) (by decide +kernel) (by decide +kernel) (by decide +kernel)
theorem allAtoms_all (ts : List Jvm.Cond) (a : Array Jvm.Value) (st : Jvm.State) : (allAtoms ts).before a st = ts.all (fun c => c.before a st) := by
  induction ts with
  | nil => rfl
  | cons c t ih =>
    show (Jvm.Cond.and c (allAtoms t)).before a st = _
    rw [Jvm.Cond.before_and, ih, List.all_cons]
def words1 : List Jvm.Cond := Jvm.Cond.code x code maxLocals ret :: tables_1
/-- a 'code' word, met by the world's own term for the bytes: nothing is compared byte by byte -/
theorem code_word {y : MethodName} {bytes : ByteArray} {mx : Nat} {rt : Option FieldType} {a : Array Value} {s : State} {m : MethodId} {meth : Method} {c : Code} (h1 : s.methodNamed? y = some m) (h2 : s.vm.method? m = some meth) (h3 : meth.code = some c) (h4 : c.code = bytes)
    (h5 : (c.maxLocals == mx && c.exceptionTable.isEmpty && decide (c.maxStack ≤ mostOperands) && decide (meth.sig.returnType = rt) && !meth.locks && decide (parseMethodDescriptor y.desc = some meth.sig)) = true) : (Jvm.Cond.code y bytes mx rt).before a s = true := by
  simp only [Bool.and_eq_true, beq_iff_eq, Bool.not_eq_true', decide_eq_true_eq] at h5
  obtain ⟨⟨⟨⟨⟨g1, g2⟩, g3⟩, g4⟩, g5⟩, g6⟩ := h5
  simp [Cond.before, Cond.holds, Cond.value, h1, h2, h3, h4, g1, g2, g3, g4, g5, g6]
def isCode : Jvm.Cond → Bool
  | .code _ _ _ _ => true
  | _ => false
theorem all_split {L : List Jvm.Cond} {P : Jvm.Cond → Bool} (h1 : L.all (fun c => isCode c || P c) = true) (h2 : ∀ c ∈ L.filter isCode, P c = true) : L.all P = true := by
  refine List.all_eq_true.mpr fun c hc => ?_
  have h := List.all_eq_true.mp h1 c hc
  rcases Bool.eq_false_or_eq_true (isCode c) with hi | hi
  · exact h2 c (List.mem_filter.mpr ⟨hc, hi⟩)
  · simpa [hi] using h
set_option maxRecDepth 65536 in
theorem w_c0 : (Jvm.Cond.code x code maxLocals ret).before args0 about1 = true := code_word (m := ⟨1, 2⟩) (meth := k1m2) (c := k1c2) (by decide +kernel) rfl rfl rfl (by decide +kernel)
set_option maxRecDepth 65536 in
theorem w_c1 : (Jvm.Cond.code ({ cls := "com/example/weftline/weftline/XmlElementInVocabularyPinLaw", name := "str", desc := "(ICCC)Ljava/lang/String;" } : Jvm.MethodName) method_2_code (5 : Nat) (Option.some (Jvm.ClassFile.FieldType.object "java/lang/String"))).before args0 about1 = true := code_word (m := ⟨1, 1⟩) (meth := k1m1) (c := k1c1) (by decide +kernel) rfl rfl rfl (by decide +kernel)
set_option maxRecDepth 65536 in
theorem w_c2 : (Jvm.Cond.code ({ cls := "java/lang/String", name := "<init>", desc := "([C)V" } : Jvm.MethodName) jdk_42_method_3_code (2 : Nat) (Option.none : Option Jvm.ClassFile.FieldType)).before args0 about1 = true := code_word (m := ⟨7, 1⟩) (meth := k7m1) (c := k7c1) (by decide +kernel) rfl rfl rfl (by decide +kernel)
set_option maxRecDepth 65536 in
theorem w_c3 : (Jvm.Cond.code ({ cls := "java/lang/String", name := "<init>", desc := "([CIILjava/lang/Void;)V" } : Jvm.MethodName) jdk_42_method_149_code (6 : Nat) (Option.none : Option Jvm.ClassFile.FieldType)).before args0 about1 = true := code_word (m := ⟨7, 3⟩) (meth := k7m3) (c := k7c3) (by decide +kernel) rfl rfl rfl (by decide +kernel)
set_option maxRecDepth 65536 in
theorem w_c4 : (Jvm.Cond.code ({ cls := "java/lang/Object", name := "<init>", desc := "()V" } : Jvm.MethodName) object_method_1_code (1 : Nat) (Option.none : Option Jvm.ClassFile.FieldType)).before args0 about1 = true := code_word (m := ⟨0, 0⟩) (meth := k0m0) (c := k0c0) (by decide +kernel) rfl rfl rfl (by decide +kernel)
set_option maxRecDepth 65536 in
theorem w_c5 : (Jvm.Cond.code ({ cls := "java/lang/StringUTF16", name := "compress", desc := "([CII)[B" } : Jvm.MethodName) jdk_52_method_16_code (6 : Nat) (Option.some (Jvm.ClassFile.FieldType.array Jvm.ClassFile.FieldType.byte))).before args0 about1 = true := code_word (m := ⟨8, 2⟩) (meth := k8m2) (c := k8c2) (by decide +kernel) rfl rfl rfl (by decide +kernel)
set_option maxRecDepth 65536 in
theorem w_c6 : (Jvm.Cond.code ({ cls := "java/lang/StringUTF16", name := "compress", desc := "([CI[BII)I" } : Jvm.MethodName) jdk_52_method_21_code (7 : Nat) (Option.some Jvm.ClassFile.FieldType.int)).before args0 about1 = true := code_word (m := ⟨8, 3⟩) (meth := k8m3) (c := k8c3) (by decide +kernel) rfl rfl rfl (by decide +kernel)
set_option maxRecDepth 65536 in
theorem w_c7 : (Jvm.Cond.code ({ cls := "java/lang/StringUTF16", name := "coderFromArrayLen", desc := "([BI)B" } : Jvm.MethodName) jdk_52_method_15_code (2 : Nat) (Option.some Jvm.ClassFile.FieldType.byte)).before args0 about1 = true := code_word (m := ⟨8, 1⟩) (meth := k8m1) (c := k8c1) (by decide +kernel) rfl rfl rfl (by decide +kernel)
set_option maxRecDepth 65536 in
theorem w_c8 : (Jvm.Cond.code ({ cls := "java/util/ArrayList", name := "<init>", desc := "()V" } : Jvm.MethodName) jdk_38_method_2_code (1 : Nat) (Option.none : Option Jvm.ClassFile.FieldType)).before args0 about1 = true := code_word (m := ⟨20, 0⟩) (meth := k20m0) (c := k20c0) (by decide +kernel) rfl rfl rfl (by decide +kernel)
set_option maxRecDepth 65536 in
theorem w_c9 : (Jvm.Cond.code ({ cls := "java/util/AbstractList", name := "<init>", desc := "()V" } : Jvm.MethodName) jdk_39_method_1_code (1 : Nat) (Option.none : Option Jvm.ClassFile.FieldType)).before args0 about1 = true := code_word (m := ⟨17, 0⟩) (meth := k17m0) (c := k17c0) (by decide +kernel) rfl rfl rfl (by decide +kernel)
set_option maxRecDepth 65536 in
theorem w_c10 : (Jvm.Cond.code ({ cls := "java/util/AbstractCollection", name := "<init>", desc := "()V" } : Jvm.MethodName) jdk_22_method_1_code (1 : Nat) (Option.none : Option Jvm.ClassFile.FieldType)).before args0 about1 = true := code_word (m := ⟨14, 0⟩) (meth := k14m0) (c := k14c0) (by decide +kernel) rfl rfl rfl (by decide +kernel)
set_option maxRecDepth 65536 in
theorem w_c11 : (Jvm.Cond.code ({ cls := "com/example/weftline/weftline/XmlElement", name := "<init>", desc := "(Ljava/lang/String;Ljava/lang/String;Ljava/lang/String;Ljava/lang/String;ILjava/util/Map;Ljava/util/List;Ljava/util/Map;Ljava/util/List;)V" } : Jvm.MethodName) prog_112_method_1_code (10 : Nat) (Option.none : Option Jvm.ClassFile.FieldType)).before args0 about1 = true := code_word (m := ⟨11, 0⟩) (meth := k11m0) (c := k11c0) (by decide +kernel) rfl rfl rfl (by decide +kernel)
set_option maxRecDepth 65536 in
theorem w_c12 : (Jvm.Cond.code ({ cls := "java/lang/Record", name := "<init>", desc := "()V" } : Jvm.MethodName) jdk_30_method_1_code (1 : Nat) (Option.none : Option Jvm.ClassFile.FieldType)).before args0 about1 = true := code_word (m := ⟨9, 0⟩) (meth := k9m0) (c := k9c0) (by decide +kernel) rfl rfl rfl (by decide +kernel)
set_option maxRecDepth 65536 in
theorem w_c13 : (Jvm.Cond.code ({ cls := "com/example/weftline/weftline/XmlElement", name := "inVocabulary", desc := "()Z" } : Jvm.MethodName) prog_112_method_2_code (1 : Nat) (Option.some Jvm.ClassFile.FieldType.boolean)).before args0 about1 = true := code_word (m := ⟨11, 1⟩) (meth := k11m1) (c := k11c1) (by decide +kernel) rfl rfl rfl (by decide +kernel)
set_option maxRecDepth 65536 in
theorem w_c14 : (Jvm.Cond.code ({ cls := "java/lang/String", name := "equals", desc := "(Ljava/lang/Object;)Z" } : Jvm.MethodName) jdk_42_method_66_code (3 : Nat) (Option.some Jvm.ClassFile.FieldType.boolean)).before args0 about1 = true := code_word (m := ⟨7, 2⟩) (meth := k7m2) (c := k7c2) (by decide +kernel) rfl rfl rfl (by decide +kernel)
set_option maxRecDepth 65536 in
theorem w_c15 : (Jvm.Cond.code ({ cls := "java/lang/StringLatin1", name := "equals", desc := "([B[B)Z" } : Jvm.MethodName) jdk_43_method_13_code (3 : Nat) (Option.some Jvm.ClassFile.FieldType.boolean)).before args0 about1 = true := code_word (m := ⟨21, 1⟩) (meth := k21m1) (c := k21c1) (by decide +kernel) rfl rfl rfl (by decide +kernel)
def codes1 : List Jvm.Cond := [Jvm.Cond.code x code maxLocals ret, Jvm.Cond.code ({ cls := "com/example/weftline/weftline/XmlElementInVocabularyPinLaw", name := "str", desc := "(ICCC)Ljava/lang/String;" } : Jvm.MethodName) method_2_code (5 : Nat) (Option.some (Jvm.ClassFile.FieldType.object "java/lang/String")), Jvm.Cond.code ({ cls := "java/lang/String", name := "<init>", desc := "([C)V" } : Jvm.MethodName) jdk_42_method_3_code (2 : Nat) (Option.none : Option Jvm.ClassFile.FieldType), Jvm.Cond.code ({ cls := "java/lang/String", name := "<init>", desc := "([CIILjava/lang/Void;)V" } : Jvm.MethodName) jdk_42_method_149_code (6 : Nat) (Option.none : Option Jvm.ClassFile.FieldType), Jvm.Cond.code ({ cls := "java/lang/Object", name := "<init>", desc := "()V" } : Jvm.MethodName) object_method_1_code (1 : Nat) (Option.none : Option Jvm.ClassFile.FieldType), Jvm.Cond.code ({ cls := "java/lang/StringUTF16", name := "compress", desc := "([CII)[B" } : Jvm.MethodName) jdk_52_method_16_code (6 : Nat) (Option.some (Jvm.ClassFile.FieldType.array Jvm.ClassFile.FieldType.byte)), Jvm.Cond.code ({ cls := "java/lang/StringUTF16", name := "compress", desc := "([CI[BII)I" } : Jvm.MethodName) jdk_52_method_21_code (7 : Nat) (Option.some Jvm.ClassFile.FieldType.int), Jvm.Cond.code ({ cls := "java/lang/StringUTF16", name := "coderFromArrayLen", desc := "([BI)B" } : Jvm.MethodName) jdk_52_method_15_code (2 : Nat) (Option.some Jvm.ClassFile.FieldType.byte), Jvm.Cond.code ({ cls := "java/util/ArrayList", name := "<init>", desc := "()V" } : Jvm.MethodName) jdk_38_method_2_code (1 : Nat) (Option.none : Option Jvm.ClassFile.FieldType), Jvm.Cond.code ({ cls := "java/util/AbstractList", name := "<init>", desc := "()V" } : Jvm.MethodName) jdk_39_method_1_code (1 : Nat) (Option.none : Option Jvm.ClassFile.FieldType), Jvm.Cond.code ({ cls := "java/util/AbstractCollection", name := "<init>", desc := "()V" } : Jvm.MethodName) jdk_22_method_1_code (1 : Nat) (Option.none : Option Jvm.ClassFile.FieldType), Jvm.Cond.code ({ cls := "com/example/weftline/weftline/XmlElement", name := "<init>", desc := "(Ljava/lang/String;Ljava/lang/String;Ljava/lang/String;Ljava/lang/String;ILjava/util/Map;Ljava/util/List;Ljava/util/Map;Ljava/util/List;)V" } : Jvm.MethodName) prog_112_method_1_code (10 : Nat) (Option.none : Option Jvm.ClassFile.FieldType), Jvm.Cond.code ({ cls := "java/lang/Record", name := "<init>", desc := "()V" } : Jvm.MethodName) jdk_30_method_1_code (1 : Nat) (Option.none : Option Jvm.ClassFile.FieldType), Jvm.Cond.code ({ cls := "com/example/weftline/weftline/XmlElement", name := "inVocabulary", desc := "()Z" } : Jvm.MethodName) prog_112_method_2_code (1 : Nat) (Option.some Jvm.ClassFile.FieldType.boolean), Jvm.Cond.code ({ cls := "java/lang/String", name := "equals", desc := "(Ljava/lang/Object;)Z" } : Jvm.MethodName) jdk_42_method_66_code (3 : Nat) (Option.some Jvm.ClassFile.FieldType.boolean), Jvm.Cond.code ({ cls := "java/lang/StringLatin1", name := "equals", desc := "([B[B)Z" } : Jvm.MethodName) jdk_43_method_13_code (3 : Nat) (Option.some Jvm.ClassFile.FieldType.boolean)]
set_option maxRecDepth 65536 in
theorem codes_eq : words1.filter isCode = codes1 := rfl
theorem w_codes : ∀ c ∈ words1.filter isCode, c.before args0 about1 = true := by
  rw [codes_eq]
  intro c hc
  simp only [codes1, List.mem_cons, List.not_mem_nil, or_false] at hc
  rcases hc with rfl | rfl | rfl | rfl | rfl | rfl | rfl | rfl | rfl | rfl | rfl | rfl | rfl | rfl | rfl | rfl
  · exact w_c0
  · exact w_c1
  · exact w_c2
  · exact w_c3
  · exact w_c4
  · exact w_c5
  · exact w_c6
  · exact w_c7
  · exact w_c8
  · exact w_c9
  · exact w_c10
  · exact w_c11
  · exact w_c12
  · exact w_c13
  · exact w_c14
  · exact w_c15
set_option maxRecDepth 65536 in
theorem w_t1 : (words1.take 24).all (fun c => isCode c || c.before args0 about1) = true := by decide +kernel
set_option maxRecDepth 65536 in
theorem w_t2 : ((words1.drop 24).take 24).all (fun c => isCode c || c.before args0 about1) = true := by decide +kernel
set_option maxRecDepth 65536 in
theorem w_t3 : (((words1.drop 24).drop 24).take 24).all (fun c => isCode c || c.before args0 about1) = true := by decide +kernel
set_option maxRecDepth 65536 in
theorem w_t4 : ((((words1.drop 24).drop 24).drop 24).take 24).all (fun c => isCode c || c.before args0 about1) = true := by decide +kernel
set_option maxRecDepth 65536 in
theorem w_t5 : ((((words1.drop 24).drop 24).drop 24).drop 24).all (fun c => isCode c || c.before args0 about1) = true := by decide +kernel
theorem w_tables : (allAtoms (Jvm.Cond.code x code maxLocals ret :: tables_1)).before args0 about1 = true := by
  rw [allAtoms_all]
  show words1.all (fun c => c.before args0 about1) = true
  refine all_split ?_ w_codes
  rw [← List.take_append_drop 24 words1, List.all_append, w_t1, ← List.take_append_drop 24 (words1.drop 24), List.all_append, w_t2, ← List.take_append_drop 24 ((words1.drop 24).drop 24), List.all_append, w_t3, ← List.take_append_drop 24 (((words1.drop 24).drop 24).drop 24), List.all_append, w_t4, w_t5]
  rfl
set_option maxRecDepth 65536 in
theorem w_rest : rest_1_c.before args0 about1 = true := by decide +kernel
set_option maxRecDepth 65536 in
theorem w_case : (Jvm.Cond.and given_1 narrow_1).before args0 about1 = true := by decide +kernel
set_option maxRecDepth 65536 in
theorem w_consts : constsHeld consts_1 about1 := Jvm.Lit.constsHeldB_iff.mp (by decide +kernel)
theorem w_applies : (headSpec (Jvm.Cond.code x code maxLocals ret :: tables_1) room_1).applies x e0.platform about1 = true :=
  (Spec.applies_iff w_frames).mpr ⟨w_running, w_runnable, w_alone, w_named, w_hears, w_ripe, w_room, w_tables⟩
theorem atStart : AtStart classFile x code maxLocals ret World_1 tables_1 room_1 Calls_1 rest_1 Pre_1 launch0 p0 e0 about1 theMethod args0 below0 :=
  ⟨lists_1, trivial, launch0.admits_env _ _ _, launch0.least_env, fairChoices_fair.cas, fairChoices_fair.clock, w_frames, w_args, w_heap, w_applies, ⟨w_consts, trivial⟩, w_rest, w_case⟩
end start1
theorem witness_1 : WitnessClaimed_1 := ⟨start1.p0, start1.e0, start1.about1, start1.theMethod, start1.args0, start1.below0, start1.atStart⟩
end Jvm.Pilot.@@N@@
