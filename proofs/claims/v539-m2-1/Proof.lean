import JvmDerived
import JvmDerived.Pilot.@@N@@Statement
import JvmDerived.Pilot.@@N@@Code
set_option linter.unusedVariables false
set_option linter.unusedSimpArgs false
namespace Jvm.Own
open Sem ClassFile Op Lib Jvm.Stand Jvm.Free Jvm.LawKit Jvm.RoadKit
/-! THE OWN LAYER, WIDE: as the narrow one, for walks that load String constants: the base's tables may have moved (Since), what is booked of EL's constants says its text (CHr), and 'os' lists the cells made meanwhile that aren't booked: those may be written. -/
abbrev Wk := Heap → List Addr → Nat → Nat → Nat → Array Slot → List Value → Prop
def Ows (Z : State) (EL : List (String × Nat)) (vm : Vm) (h : Heap) (os : List Addr) : Prop := ∀ x ∈ os, Z.heap.size ≤ x ∧ Safe Z EL vm h x ∧ x < h.size
def Ends (Z : State) (EL : List (String × Nat)) (s : State) (R : Room) (Q : Option Value → Heap → Prop) (ou : Option Value → List Addr) (o : Outcome) (u : State) : Prop :=
  ∃ v L, o = .returned v ∧ (Q v u.heap ∧ Ext Z.heap u.heap ∧ Fr Z.heap.size L) ∧ Ows Z EL u.vm u.heap (ou v) ∧ CHr Z EL s.vm s.heap u.vm u.heap ∧ ReturnedEndW s o u L R.cells R.slots
def Run (p : Program) (l : Launch) (e : Env) (R : Room) (s : State) (m : MethodId) (args : Array Value) (below : List Frame) (meth : Method) (c : Code) (Z : State) (EL : List (String × Nat)) (Q : Option Value → Heap → Prop) (ou : Option Value → List Addr) : Wk := fun h os k n pc Ls st =>
  Ext Z.heap h → ∀ vm0 k0 T locs, s.Since vm0 k0 → k0 ≤ h.size → CHr Z EL s.vm s.heap vm0 h → Ows Z EL vm0 h os → Stand p l e R (s.setVm vm0) m args below meth c T locs k n → T.heap = h → Fr Z.heap.size locs →
    ∃ u o, Steps p.tables e below (T.setTop (mkF m pc Ls st)) u ∧ u.status = .running ∧ Ended u below o ∧ Ends Z EL s R Q ou o u
def Ok (p : Program) (s : State) (m : MethodId) (meth : Method) (c : Code) (Z : State) (a0 : Array Value) (tb : List Jvm.Cond) (EL : List (String × Nat)) (own : String) (code : ByteArray) (ml : Nat) (rt : Option FieldType) (nm : String) : Prop :=
  p.tables.exec = Jvm.exec ∧ c.code = code ∧ c.maxLocals = ml ∧ s.vm.findClass own = some m.cls ∧ meth.sig.returnType = rt ∧ meth.locks = false ∧ Z.Warmed39 s.vm ∧ meth.name = nm ∧ (∀ d ∈ tb, d.before a0 Z = true) ∧ EW Z a0 EL
def Walk (W : Wk) (l : Launch) (Z : State) (a0 : Array Value) (tb : List Jvm.Cond) (EL : List (String × Nat)) (own : String) (code : ByteArray) (ml : Nat) (rt : Option FieldType) (nm : String) (R : Room) (Q : Option Value → Heap → Prop) (ou : Option Value → List Addr) : Prop :=
  ∃ p e s m args below meth c, W = Run p l e R s m args below meth c Z EL Q ou ∧ Ok p s m meth c Z a0 tb EL own code ml rt nm
def Con (l : Launch) (Z : State) (EL : List (String × Nat)) (y : MethodName) (code : ByteArray) (ml : Nat) (rt : Option FieldType) (rm : Room) (as : Array Value) (h : Heap) (os : List Addr) (Q : Option Value → Heap → Prop) (ou : Option Value → List Addr) : Prop :=
  Ext Z.heap h → ∀ ws, MetFree l y (head1 (Jvm.Cond.code y code ml rt :: ws) rm) (fun a U => a = as ∧ Z.Warmed39 U.vm ∧ U.heap = h ∧ CHv Z EL U.vm h ∧ Ows Z EL U.vm h os) (fun _ _ _ _ _ => True) (fun _ U o U' => Ends Z EL U rm Q ou o U')
def Same (v : Option Value) (h : Heap) : Option Value → Heap → Prop := fun v' h' => v' = v ∧ h' = h
theorem same_intro {v : Option Value} {h : Heap} {P : Option Value → Heap → Prop} (K : P v h) : ∀ v' h', Same v h v' h' → P v' h' := by
  rintro _ _ ⟨rfl, rfl⟩; exact K
theorem Con.of {l : Launch} {Z : State} {EL : List (String × Nat)} {a0 : Array Value} {tb : List Jvm.Cond} {y : MethodName} {code : ByteArray} {ml : Nat} {rt : Option FieldType} {rm : Room} {as : Array Value} {h : Heap} {os : List Addr} {Q : Option Value → Heap → Prop} {ou : Option Value → List Addr} {Ls : Array Slot}
    (hw : ∀ d ∈ tb, d.before a0 Z = true) (hEL : EW Z a0 EL) (hpn : plainFor y = true) (hef : ∀ m, entryFrame m as ml = mkF m 0 Ls []) (H : ∀ W : Wk, Walk W l Z a0 tb EL y.cls code ml rt y.name rm Q ou → W h os 0 0 0 Ls []) : Con l Z EL y code ml rt rm as h os Q ou := by
  intro hE ws
  refine MetFree.of_bodySF hpn hisR ?_
  intro p e s m args below meth c s₁ Bd hml0 hP hK
  obtain ⟨rfl, hZ, hh, hC, hO⟩ := hP
  have X0 : Stand p l e rm s m args below meth c s₁ [] 0 0 := Stand.of_body Bd
  have e0 : s₁.heap = h := by rw [← hh, Bd.state]; rfl
  obtain ⟨u, o, h1, h2, h3, h4⟩ := H _ ⟨p, e, s, m, args, below, meth, c, rfl, Bd.exec, Bd.bytes, hml0, findClass_of_methodNamed Bd.named, Bd.returns, BodyLoose.notSynchronized Bd, hZ, (name_of_methodNamed Bd.named Bd.method).1, hw, hEL⟩ hE s.vm 0 s₁ [] ((State.WarmedH.refl s).since 0) (Nat.zero_le _) (by rw [hh]; exact CHr.refl hC) hO X0 e0 (Fr.nil _)
  exact ⟨u, o, castTop (hef m) h1, h2, h3, h4⟩
section Rules
variable {W : Wk} {l : Launch} {Z : State} {EL : List (String × Nat)} {a0 : Array Value} {tb : List Jvm.Cond} {own : String} {code : ByteArray} {ml : Nat} {rt : Option FieldType} {nm : String} {R : Room} {Q : Option Value → Heap → Prop} {ou : Option Value → List Addr} {h : Heap} {os : List Addr} {k n pc : Nat} {Ls : Array Slot} {st : List Value}
theorem Ows.sub {vm : Vm} {os' : List Addr} (O : Ows Z EL vm h os) (q : ∀ x ∈ os', x ∈ os) : Ows Z EL vm h os' := fun x hx => O x (q x hx)
theorem Ows.wr {vm : Vm} {h' : Heap} {a : Addr} {sl : Nat} {v : Value} (O : Ows Z EL vm h os) (Wr' : Wr h h' a sl v) (S : Safe Z EL vm h a) (H : CHv Z EL vm h) : Ows Z EL vm h' os := fun x hx => ⟨(O x hx).1, Safe.wr Wr' S H (O x hx).2.1, by rw [Wr'.size]; exact (O x hx).2.2⟩
theorem Ows.on {vm vm1 : Vm} {h' : Heap} (O : Ows Z EL vm h os) (C : CHr Z EL vm h vm1 h') : Ows Z EL vm1 h' os := fun x hx => ⟨(O x hx).1, C.safe (O x hx).2.2 (O x hx).2.1, Nat.lt_of_lt_of_le (O x hx).2.2 C.2.1⟩
theorem Ows.app {vm : Vm} {os' : List Addr} (O' : Ows Z EL vm h os') (O : Ows Z EL vm h os) : Ows Z EL vm h (os' ++ os) := fun x hx => (List.mem_append.mp hx).elim (O' x) (O x)
theorem Ows.made {vm : Vm} {h' : Heap} (O : Ows Z EL vm h os) (E : Ext h h') (H : CHv Z EL vm h) (hz : Z.heap.size ≤ h.size) (hl : h.size < h'.size) : Ows Z EL vm h' (h.size :: os) := fun x hx => by
  rcases List.mem_cons.mp hx with rfl | hx
  · exact ⟨hz, Safe.ext E H (Safe.new (Nat.le_refl _)), hl⟩
  · exact (O.on (CHr.ext E H)) x hx
/-- a call's payment: the callee's own contract -/
theorem paid {p : Program} {e : Env} {below : List Frame} {s : State} {args : Array Value} {vm0 : Vm} {y : MethodName} {yc : ByteArray} {ym : Nat} {yr : Option FieldType} {rm : Room} {len wd : Nat} {as : Array Value} {os' : List Addr} {yQ : Option Value → Heap → Prop} {you : Option Value → List Addr}
    (con : Con l Z EL y yc ym yr rm as h os' yQ you) (hE : Ext Z.heap h) (hZ : Z.Warmed39 vm0) (wc : (Jvm.Cond.code y yc ym yr).before a0 Z = true) (wz : (Jvm.Cond.initialized y.cls).before a0 Z = true) (hf : rm.frames + 1 ≤ R.frames) (hl : wd + (ym + 11) + rm.locals ≤ R.locals) (hEL : EW Z a0 EL) (H : CHv Z EL vm0 h) (O : Ows Z EL vm0 h os') :
    BackS l R p e below (s.setVm vm0) args y len wd (fun A a => a = as ∧ A.U.heap = h ∧ A.cells + rm.cells ≤ R.cells ∧ A.slots + rm.slots ≤ R.slots)
      (fun A _ v B => ∃ L, (yQ v B.U.heap ∧ Ext Z.heap B.U.heap ∧ Fr Z.heap.size L) ∧ B.locs = A.locs ++ L ∧ B.cells = A.cells + rm.cells ∧ B.slots = A.slots + rm.slots ∧ CHr Z EL vm0 h B.U.vm B.U.heap ∧ Ows Z EL B.U.vm B.U.heap (you v)) := by
  refine BackS.of_freeW (bytes := yc) (maxL := ym) (ret := yr) (E := fun _ u o t L k n => k = rm.cells ∧ n = rm.slots ∧ CHr Z EL u.vm u.heap t.vm t.heap ∧ ∃ v, o = .returned v ∧ (yQ v t.heap ∧ Ext Z.heap t.heap ∧ Fr Z.heap.size L) ∧ Ows Z EL t.vm t.heap (you v)) (con hE []) hf hl ?_ ?_ (fun _ _ _ _ _ _ _ _ _ => trivial) ?_ ?_
  · intro m meth c A a Y hp
    have hU : Z.Warmed39 A.U.vm := wtrans (s := s.setVm vm0) hZ Y.warmed
    exact ⟨by show (Jvm.Cond.and _ .tt).before a A.U = true; rw [Cond.before_and, mv hU wc]; rfl, mv hU wc, mv hU wz, hp.2.2.1, hp.2.2.2⟩
  · intro m meth c A a g mk Y hp
    have B := CHv.at Y hZ hEL H
    exact ⟨hp.1, wtrans (s := s.setVm vm0) hZ Y.warmed, hp.2.1, B.1, O.on B⟩
  · rintro a u o t ⟨v, L, q1, q2, q0, q3, q4⟩
    exact ⟨L, _, _, q4, rfl, rfl, q3, v, q1, q2, q0⟩
  · rintro m meth c A a g mk v t L k n Y hp - - ⟨e1, e2, e3, v', e4, e5, e6⟩
    cases e4; subst e1 e2
    have e3' : CHr Z EL A.U.vm h t.vm t.heap := by rw [← hp.2.1]; exact e3
    exact ⟨L, e5, rfl, rfl, rfl, (CHv.at Y hZ hEL H).trans e3', e6⟩
theorem Walk.word (C : Walk W l Z a0 tb EL own code ml rt nm R Q ou) {d : Jvm.Cond} (q : d ∈ tb) : d.before a0 Z = true := by
  obtain ⟨p, e, s, m, args, below, meth, c, rfl, ok⟩ := C
  exact ok.2.2.2.2.2.2.2.2.1 d q
theorem Walk.more (C : Walk W l Z a0 tb EL own code ml rt nm R Q ou) {k' n' : Nat} (hk : k ≤ k') (hn : n ≤ n') (K : W h os k' n' pc Ls st) : W h os k n pc Ls st := by
  obtain ⟨p, e, s, m, args, below, meth, c, rfl, ok⟩ := C
  exact fun hE vm0 k0 T locs hS hk0 H hos X eT N => K hE vm0 k0 T locs hS hk0 H hos (X.more hk hn) eT N
theorem Walk.less (C : Walk W l Z a0 tb EL own code ml rt nm R Q ou) (os' : List Addr) (q : ∀ x ∈ os', x ∈ os) (K : W h os' k n pc Ls st) : W h os k n pc Ls st := by
  obtain ⟨p, e, s, m, args, below, meth, c, rfl, ok⟩ := C
  exact fun hE vm0 k0 T locs hS hk0 H hos X eT N => K hE vm0 k0 T locs hS hk0 H (hos.sub q) X eT N
theorem Walk.kept (C : Walk W l Z a0 tb EL own code ml rt nm R Q ou) (K : Ext Z.heap h → W h os k n pc Ls st) : W h os k n pc Ls st := by
  obtain ⟨p, e, s, m, args, below, meth, c, rfl, ok⟩ := C
  exact fun hE => K hE hE
theorem Walk.plain (C : Walk W l Z a0 tb EL own code ml rt nm R Q ou) {pc' : Nat} {Ls' : Array Slot} {st' : List Value}
    (S : ∀ {tb' : Tables} [Ours tb'] {e : Env} {below : List Frame} {T target : State} {m : MethodId} {c : Code}, At T m c below → tb'.exec = Jvm.exec → c.code = code → Steps tb' e below (T.setTop (mkF m pc' Ls' st')) target → Steps tb' e below (T.setTop (mkF m pc Ls st)) target)
    (K : W h os k n pc' Ls' st') : W h os k n pc Ls st := by
  obtain ⟨p, e, s, m, args, below, meth, c, rfl, ok⟩ := C
  intro hE vm0 k0 T locs hS hk0 H hos X eT N
  obtain ⟨u, o, h1, h2⟩ := K hE vm0 k0 T locs hS hk0 H hos X eT N
  exact ⟨u, o, S X.here ok.1 ok.2.1 h1, h2⟩
theorem Walk.iloadN (C : Walk W l Z a0 tb EL own code ml rt nm R Q ou) (pc' : Nat) {i : Fin 4} {v : Int32} (hd : decode code pc = .ok (.iload_n i, 1)) (hp : pc' = pc + 1) (hl : Ls[i.val]? = some (.val (.int v))) (K : W h os k n pc' Ls (.int v :: st)) : W h os k n pc Ls st := by
  subst hp; exact C.plain (fun hA hx hb' hr => XS.iloadN hA hx rfl (hb hb' hd) hl hr) K
theorem Walk.iload (C : Walk W l Z a0 tb EL own code ml rt nm R Q ou) (pc' : Nat) {i : Nat} {v : Int32} (hd : decode code pc = .ok (.iload i, 2)) (hp : pc' = pc + 2) (hl : Ls[i]? = some (.val (.int v))) (K : W h os k n pc' Ls (.int v :: st)) : W h os k n pc Ls st := by
  subst hp; exact C.plain (fun hA hx hb' hr => XS.iload hA hx rfl (hb hb' hd) hl hr) K
theorem Walk.lloadN (C : Walk W l Z a0 tb EL own code ml rt nm R Q ou) (pc' : Nat) {i : Fin 4} {v : Int64} (hd : decode code pc = .ok (.lload_n i, 1)) (hp : pc' = pc + 1) (hl : Ls[i.val]? = some (.val (.long v))) (K : W h os k n pc' Ls (.long v :: st)) : W h os k n pc Ls st := by
  subst hp; exact C.plain (fun hA hx hb' hr => XT.lloadN hA hx rfl (hb hb' hd) hl hr) K
theorem Walk.lload (C : Walk W l Z a0 tb EL own code ml rt nm R Q ou) (pc' : Nat) {i : Nat} {v : Int64} (hd : decode code pc = .ok (.lload i, 2)) (hp : pc' = pc + 2) (hl : Ls[i]? = some (.val (.long v))) (K : W h os k n pc' Ls (.long v :: st)) : W h os k n pc Ls st := by
  subst hp; exact C.plain (fun hA hx hb' hr => XT.lload hA hx rfl (hb hb' hd) hl hr) K
theorem Walk.aloadN (C : Walk W l Z a0 tb EL own code ml rt nm R Q ou) (pc' : Nat) {i : Fin 4} {v : Value} (hd : decode code pc = .ok (.aload_n i, 1)) (hp : pc' = pc + 1) (hl : Ls[i.val]? = some (.val v)) (hv : v.isRef = true) (K : W h os k n pc' Ls (v :: st)) : W h os k n pc Ls st := by
  subst hp; exact C.plain (fun hA hx hb' hr => XS.aloadN hA hx rfl (hb hb' hd) hl hv hr) K
theorem Walk.aload (C : Walk W l Z a0 tb EL own code ml rt nm R Q ou) (pc' : Nat) {i : Nat} {v : Value} (hd : decode code pc = .ok (.aload i, 2)) (hp : pc' = pc + 2) (hl : Ls[i]? = some (.val v)) (hv : v.isRef = true) (K : W h os k n pc' Ls (v :: st)) : W h os k n pc Ls st := by
  subst hp; exact C.plain (fun hA hx hb' hr => XS.aload hA hx rfl (hb hb' hd) hl hv hr) K
theorem Walk.istoreN (C : Walk W l Z a0 tb EL own code ml rt nm R Q ou) (pc' : Nat) (Ls' : Array Slot) {i : Fin 4} {x : Int32} (hd : decode code pc = .ok (.istore_n i, 1)) (hp : pc' = pc + 1) (hl : storeLocals Ls i.val (.int x) = some Ls') (K : W h os k n pc' Ls' st) : W h os k n pc Ls (.int x :: st) := by
  subst hp; exact C.plain (fun hA hx hb' hr => XS.istoreN hA hx rfl (hb hb' hd) rfl hl hr) K
theorem Walk.istore (C : Walk W l Z a0 tb EL own code ml rt nm R Q ou) (pc' : Nat) (Ls' : Array Slot) {i : Nat} {x : Int32} (hd : decode code pc = .ok (.istore i, 2)) (hp : pc' = pc + 2) (hl : storeLocals Ls i (.int x) = some Ls') (K : W h os k n pc' Ls' st) : W h os k n pc Ls (.int x :: st) := by
  subst hp; exact C.plain (fun hA hx hb' hr => XS.istore hA hx rfl (hb hb' hd) rfl hl hr) K
theorem Walk.lstoreN (C : Walk W l Z a0 tb EL own code ml rt nm R Q ou) (pc' : Nat) (Ls' : Array Slot) {i : Fin 4} {x : Int64} (hd : decode code pc = .ok (.lstore_n i, 1)) (hp : pc' = pc + 1) (hl : storeLocals Ls i.val (.long x) = some Ls') (K : W h os k n pc' Ls' st) : W h os k n pc Ls (.long x :: st) := by
  subst hp; exact C.plain (fun hA hx hb' hr => XT.lstoreN hA hx rfl (hb hb' hd) rfl hl hr) K
theorem Walk.lstore (C : Walk W l Z a0 tb EL own code ml rt nm R Q ou) (pc' : Nat) (Ls' : Array Slot) {i : Nat} {x : Int64} (hd : decode code pc = .ok (.lstore i, 2)) (hp : pc' = pc + 2) (hl : storeLocals Ls i (.long x) = some Ls') (K : W h os k n pc' Ls' st) : W h os k n pc Ls (.long x :: st) := by
  subst hp; exact C.plain (fun hA hx hb' hr => XT.lstore hA hx rfl (hb hb' hd) rfl hl hr) K
theorem Walk.astoreN (C : Walk W l Z a0 tb EL own code ml rt nm R Q ou) (pc' : Nat) (Ls' : Array Slot) {i : Fin 4} {x : Value} (hd : decode code pc = .ok (.astore_n i, 1)) (hp : pc' = pc + 1) (hv : x.isRef = true) (hl : storeLocals Ls i.val x = some Ls') (K : W h os k n pc' Ls' st) : W h os k n pc Ls (x :: st) := by
  subst hp; exact C.plain (fun hA hx hb' hr => XS.astoreN hA hx rfl (hb hb' hd) rfl hv hl hr) K
theorem Walk.astore (C : Walk W l Z a0 tb EL own code ml rt nm R Q ou) (pc' : Nat) (Ls' : Array Slot) {i : Nat} {x : Value} (hd : decode code pc = .ok (.astore i, 2)) (hp : pc' = pc + 2) (hv : x.isRef = true) (hl : storeLocals Ls i x = some Ls') (K : W h os k n pc' Ls' st) : W h os k n pc Ls (x :: st) := by
  subst hp; exact C.plain (fun hA hx hb' hr => XS.astore hA hx rfl (hb hb' hd) rfl hv hl hr) K
theorem Walk.iconst (C : Walk W l Z a0 tb EL own code ml rt nm R Q ou) (pc' : Nat) (v : Int32) {i : Int} (hd : decode code pc = .ok (.iconst i, 1)) (hp : pc' = pc + 1) (hv : Int32.ofInt i = v) (K : W h os k n pc' Ls (.int v :: st)) : W h os k n pc Ls st := by
  subst hp hv; exact C.plain (fun hA hx hb' hr => XS.iconst hA hx rfl (hb hb' hd) hr) K
theorem Walk.bipush (C : Walk W l Z a0 tb EL own code ml rt nm R Q ou) (pc' : Nat) (v : Int32) {i : Int} (hd : decode code pc = .ok (.bipush i, 2)) (hp : pc' = pc + 2) (hv : (Int8.ofInt i).toInt32 = v) (K : W h os k n pc' Ls (.int v :: st)) : W h os k n pc Ls st := by
  subst hp hv; exact C.plain (fun hA hx hb' hr => XS.bipush hA hx rfl (hb hb' hd) hr) K
theorem Walk.sipush (C : Walk W l Z a0 tb EL own code ml rt nm R Q ou) (pc' : Nat) (v : Int32) {i : Int} (hd : decode code pc = .ok (.sipush i, 3)) (hp : pc' = pc + 3) (hv : (Int16.ofInt i).toInt32 = v) (K : W h os k n pc' Ls (.int v :: st)) : W h os k n pc Ls st := by
  subst hp hv; exact C.plain (fun hA hx hb' hr => XS.sipush hA hx rfl (hb hb' hd) hr) K
theorem Walk.lconst (C : Walk W l Z a0 tb EL own code ml rt nm R Q ou) (pc' : Nat) (v : Int64) {i : Fin 2} (hd : decode code pc = .ok (.lconst i, 1)) (hp : pc' = pc + 1) (hv : Int64.ofNat i = v) (K : W h os k n pc' Ls (.long v :: st)) : W h os k n pc Ls st := by
  subst hp hv; exact C.plain (fun hA hx hb' hr => XT.lconst hA hx rfl (hb hb' hd) hr) K
theorem Walk.aconstNull (C : Walk W l Z a0 tb EL own code ml rt nm R Q ou) (pc' : Nat) (hd : decode code pc = .ok (.aconst_null, 1)) (hp : pc' = pc + 1) (K : W h os k n pc' Ls (.null :: st)) : W h os k n pc Ls st := by
  subst hp; exact C.plain (fun hA hx hb' hr => XS.aconstNull hA hx rfl (hb hb' hd) hr) K
theorem Walk.iadd (C : Walk W l Z a0 tb EL own code ml rt nm R Q ou) (pc' : Nat) {x y : Int32} (hd : decode code pc = .ok (.iadd, 1)) (hp : pc' = pc + 1) (K : W h os k n pc' Ls (.int (x + y) :: st)) : W h os k n pc Ls (.int y :: .int x :: st) := by
  subst hp; exact C.plain (fun hA hx hb' hr => XS.iadd hA hx rfl (hb hb' hd) rfl hr) K
theorem Walk.isub (C : Walk W l Z a0 tb EL own code ml rt nm R Q ou) (pc' : Nat) {x y : Int32} (hd : decode code pc = .ok (.isub, 1)) (hp : pc' = pc + 1) (K : W h os k n pc' Ls (.int (x - y) :: st)) : W h os k n pc Ls (.int y :: .int x :: st) := by
  subst hp; exact C.plain (fun hA hx hb' hr => XS.isub hA hx rfl (hb hb' hd) rfl hr) K
theorem Walk.iand (C : Walk W l Z a0 tb EL own code ml rt nm R Q ou) (pc' : Nat) {x y : Int32} (hd : decode code pc = .ok (.iand, 1)) (hp : pc' = pc + 1) (K : W h os k n pc' Ls (.int (x &&& y) :: st)) : W h os k n pc Ls (.int y :: .int x :: st) := by
  subst hp; exact C.plain (fun hA hx hb' hr => XS.iand hA hx rfl (hb hb' hd) rfl hr) K
theorem Walk.imul (C : Walk W l Z a0 tb EL own code ml rt nm R Q ou) (pc' : Nat) {x y : Int32} (hd : decode code pc = .ok (.imul, 1)) (hp : pc' = pc + 1) (K : W h os k n pc' Ls (.int (x * y) :: st)) : W h os k n pc Ls (.int y :: .int x :: st) := by
  subst hp; exact C.plain (fun hA hx hb' hr => XS.imul hA hx rfl (hb hb' hd) rfl hr) K
theorem Walk.ixor (C : Walk W l Z a0 tb EL own code ml rt nm R Q ou) (pc' : Nat) {x y : Int32} (hd : decode code pc = .ok (.ixor, 1)) (hp : pc' = pc + 1) (K : W h os k n pc' Ls (.int (x ^^^ y) :: st)) : W h os k n pc Ls (.int y :: .int x :: st) := by
  subst hp; exact C.plain (fun hA hx hb' hr => XT.ixor hA hx rfl (hb hb' hd) rfl hr) K
theorem Walk.ior (C : Walk W l Z a0 tb EL own code ml rt nm R Q ou) (pc' : Nat) {x y : Int32} (hd : decode code pc = .ok (.ior, 1)) (hp : pc' = pc + 1) (K : W h os k n pc' Ls (.int (x ||| y) :: st)) : W h os k n pc Ls (.int y :: .int x :: st) := by
  subst hp; exact C.plain (fun hA hx hb' hr => XT.ior hA hx rfl (hb hb' hd) rfl hr) K
theorem Walk.ishl (C : Walk W l Z a0 tb EL own code ml rt nm R Q ou) (pc' : Nat) {x y : Int32} (hd : decode code pc = .ok (.ishl, 1)) (hp : pc' = pc + 1) (K : W h os k n pc' Ls (.int (x <<< (y &&& 31)) :: st)) : W h os k n pc Ls (.int y :: .int x :: st) := by
  subst hp; exact C.plain (fun hA hx hb' hr => XT.ishl hA hx rfl (hb hb' hd) rfl hr) K
theorem Walk.ishr (C : Walk W l Z a0 tb EL own code ml rt nm R Q ou) (pc' : Nat) {x y : Int32} (hd : decode code pc = .ok (.ishr, 1)) (hp : pc' = pc + 1) (K : W h os k n pc' Ls (.int (x >>> (y &&& 31)) :: st)) : W h os k n pc Ls (.int y :: .int x :: st) := by
  subst hp; exact C.plain (fun hA hx hb' hr => XT.ishr hA hx rfl (hb hb' hd) rfl hr) K
theorem Walk.iushr (C : Walk W l Z a0 tb EL own code ml rt nm R Q ou) (pc' : Nat) {x y : Int32} (hd : decode code pc = .ok (.iushr, 1)) (hp : pc' = pc + 1) (K : W h os k n pc' Ls (.int (XT.ushr x y) :: st)) : W h os k n pc Ls (.int y :: .int x :: st) := by
  subst hp; exact C.plain (fun hA hx hb' hr => XT.iushr hA hx rfl (hb hb' hd) rfl hr) K
theorem Walk.ladd (C : Walk W l Z a0 tb EL own code ml rt nm R Q ou) (pc' : Nat) {x y : Int64} (hd : decode code pc = .ok (.ladd, 1)) (hp : pc' = pc + 1) (K : W h os k n pc' Ls (.long (x + y) :: st)) : W h os k n pc Ls (.long y :: .long x :: st) := by
  subst hp; exact C.plain (fun hA hx hb' hr => XT.ladd hA hx rfl (hb hb' hd) rfl hr) K
theorem Walk.lsub (C : Walk W l Z a0 tb EL own code ml rt nm R Q ou) (pc' : Nat) {x y : Int64} (hd : decode code pc = .ok (.lsub, 1)) (hp : pc' = pc + 1) (K : W h os k n pc' Ls (.long (x - y) :: st)) : W h os k n pc Ls (.long y :: .long x :: st) := by
  subst hp; exact C.plain (fun hA hx hb' hr => XT.lsub hA hx rfl (hb hb' hd) rfl hr) K
theorem Walk.lmul (C : Walk W l Z a0 tb EL own code ml rt nm R Q ou) (pc' : Nat) {x y : Int64} (hd : decode code pc = .ok (.lmul, 1)) (hp : pc' = pc + 1) (K : W h os k n pc' Ls (.long (x * y) :: st)) : W h os k n pc Ls (.long y :: .long x :: st) := by
  subst hp; exact C.plain (fun hA hx hb' hr => XT.lmul hA hx rfl (hb hb' hd) rfl hr) K
theorem Walk.land (C : Walk W l Z a0 tb EL own code ml rt nm R Q ou) (pc' : Nat) {x y : Int64} (hd : decode code pc = .ok (.land, 1)) (hp : pc' = pc + 1) (K : W h os k n pc' Ls (.long (x &&& y) :: st)) : W h os k n pc Ls (.long y :: .long x :: st) := by
  subst hp; exact C.plain (fun hA hx hb' hr => XT.land hA hx rfl (hb hb' hd) rfl hr) K
theorem Walk.lor (C : Walk W l Z a0 tb EL own code ml rt nm R Q ou) (pc' : Nat) {x y : Int64} (hd : decode code pc = .ok (.lor, 1)) (hp : pc' = pc + 1) (K : W h os k n pc' Ls (.long (x ||| y) :: st)) : W h os k n pc Ls (.long y :: .long x :: st) := by
  subst hp; exact C.plain (fun hA hx hb' hr => XT.lor hA hx rfl (hb hb' hd) rfl hr) K
theorem Walk.lxor (C : Walk W l Z a0 tb EL own code ml rt nm R Q ou) (pc' : Nat) {x y : Int64} (hd : decode code pc = .ok (.lxor, 1)) (hp : pc' = pc + 1) (K : W h os k n pc' Ls (.long (x ^^^ y) :: st)) : W h os k n pc Ls (.long y :: .long x :: st) := by
  subst hp; exact C.plain (fun hA hx hb' hr => XT.lxor hA hx rfl (hb hb' hd) rfl hr) K
theorem Walk.lcmp (C : Walk W l Z a0 tb EL own code ml rt nm R Q ou) (pc' : Nat) {x y : Int64} (hd : decode code pc = .ok (.lcmp, 1)) (hp : pc' = pc + 1) (K : W h os k n pc' Ls (.int (XT.cmpL x y) :: st)) : W h os k n pc Ls (.long y :: .long x :: st) := by
  subst hp; exact C.plain (fun hA hx hb' hr => XT.lcmp hA hx rfl (hb hb' hd) rfl hr) K
theorem Walk.idiv (C : Walk W l Z a0 tb EL own code ml rt nm R Q ou) (pc' : Nat) {x y : Int32} (hd : decode code pc = .ok (.idiv, 1)) (hp : pc' = pc + 1) (hy : y ≠ 0) (K : W h os k n pc' Ls (.int (x / y) :: st)) : W h os k n pc Ls (.int y :: .int x :: st) := by
  subst hp; exact C.plain (fun hA hx hb' hr => XS.idiv hA hx rfl (hb hb' hd) rfl hy hr) K
theorem Walk.irem (C : Walk W l Z a0 tb EL own code ml rt nm R Q ou) (pc' : Nat) {x y : Int32} (hd : decode code pc = .ok (.irem, 1)) (hp : pc' = pc + 1) (hy : y ≠ 0) (K : W h os k n pc' Ls (.int (x % y) :: st)) : W h os k n pc Ls (.int y :: .int x :: st) := by
  subst hp; rw [← irem_eq_mod] at K; exact C.plain (fun hA hx hb' hr => XS.irem hA hx rfl (hb hb' hd) rfl hy hr) K
theorem Walk.i2l (C : Walk W l Z a0 tb EL own code ml rt nm R Q ou) (pc' : Nat) {x : Int32} (hd : decode code pc = .ok (.i2l, 1)) (hp : pc' = pc + 1) (K : W h os k n pc' Ls (.long x.toInt64 :: st)) : W h os k n pc Ls (.int x :: st) := by
  subst hp; exact C.plain (fun hA hx hb' hr => XT.i2l hA hx rfl (hb hb' hd) rfl hr) K
theorem Walk.l2i (C : Walk W l Z a0 tb EL own code ml rt nm R Q ou) (pc' : Nat) {x : Int64} (hd : decode code pc = .ok (.l2i, 1)) (hp : pc' = pc + 1) (K : W h os k n pc' Ls (.int x.toInt32 :: st)) : W h os k n pc Ls (.long x :: st) := by
  subst hp; exact C.plain (fun hA hx hb' hr => XT.l2i hA hx rfl (hb hb' hd) rfl hr) K
theorem Walk.i2b (C : Walk W l Z a0 tb EL own code ml rt nm R Q ou) (pc' : Nat) {x : Int32} (hd : decode code pc = .ok (.i2b, 1)) (hp : pc' = pc + 1) (K : W h os k n pc' Ls (.int x.toInt8.toInt32 :: st)) : W h os k n pc Ls (.int x :: st) := by
  subst hp; exact C.plain (fun hA hx hb' hr => XT.i2b hA hx rfl (hb hb' hd) rfl hr) K
theorem Walk.i2c (C : Walk W l Z a0 tb EL own code ml rt nm R Q ou) (pc' : Nat) {x : Int32} (hd : decode code pc = .ok (.i2c, 1)) (hp : pc' = pc + 1) (K : W h os k n pc' Ls (.int x.toUInt32.toUInt16.toUInt32.toInt32 :: st)) : W h os k n pc Ls (.int x :: st) := by
  subst hp; exact C.plain (fun hA hx hb' hr => XT.i2c hA hx rfl (hb hb' hd) rfl hr) K
theorem Walk.ineg (C : Walk W l Z a0 tb EL own code ml rt nm R Q ou) (pc' : Nat) {x : Int32} (hd : decode code pc = .ok (.ineg, 1)) (hp : pc' = pc + 1) (K : W h os k n pc' Ls (.int (-x) :: st)) : W h os k n pc Ls (.int x :: st) := by
  subst hp; exact C.plain (fun hA hx hb' hr => XS.ineg hA hx rfl (hb hb' hd) rfl hr) K
theorem Walk.dup (C : Walk W l Z a0 tb EL own code ml rt nm R Q ou) (pc' : Nat) {x : Value} (hd : decode code pc = .ok (.dup, 1)) (hp : pc' = pc + 1) (hc : x.category = 1) (K : W h os k n pc' Ls (x :: x :: st)) : W h os k n pc Ls (x :: st) := by
  subst hp; exact C.plain (fun hA hx hb' hr => XS.dup hA hx rfl (hb hb' hd) rfl hc hr) K
theorem Walk.dupX1 (C : Walk W l Z a0 tb EL own code ml rt nm R Q ou) (pc' : Nat) {x y : Value} (hd : decode code pc = .ok (.dup_x1, 1)) (hp : pc' = pc + 1) (hc : x.category = 1) (hc' : y.category = 1) (K : W h os k n pc' Ls (x :: y :: x :: st)) : W h os k n pc Ls (x :: y :: st) := by
  subst hp; exact C.plain (fun hA hx hb' hr => XT.dupX1 hA hx rfl (hb hb' hd) rfl hc hc' hr) K
theorem Walk.dup2 (C : Walk W l Z a0 tb EL own code ml rt nm R Q ou) (pc' : Nat) {x y : Value} (hd : decode code pc = .ok (.dup2, 1)) (hp : pc' = pc + 1) (hc : x.category = 1) (hc' : y.category = 1) (K : W h os k n pc' Ls (x :: y :: x :: y :: st)) : W h os k n pc Ls (x :: y :: st) := by
  subst hp; exact C.plain (fun hA hx hb' hr => XT.dup2 hA hx rfl (hb hb' hd) rfl hc hc' hr) K
theorem Walk.pop (C : Walk W l Z a0 tb EL own code ml rt nm R Q ou) (pc' : Nat) {x : Value} (hd : decode code pc = .ok (.pop, 1)) (hp : pc' = pc + 1) (hc : x.category = 1) (K : W h os k n pc' Ls st) : W h os k n pc Ls (x :: st) := by
  subst hp; exact C.plain (fun hA hx hb' hr => XT.pop hA hx rfl (hb hb' hd) rfl hc hr) K
theorem Walk.iinc (C : Walk W l Z a0 tb EL own code ml rt nm R Q ou) (pc' : Nat) (Ls' : Array Slot) {i : Nat} {cst : Int} {x : Int32} (hd : decode code pc = .ok (.iinc i cst, 3)) (hp : pc' = pc + 3) (hl : Ls[i]? = some (.val (.int x))) (hl' : storeLocals Ls i (.int (x + Int32.ofInt cst)) = some Ls') (K : W h os k n pc' Ls' st) : W h os k n pc Ls st := by
  subst hp; exact C.plain (fun hA hx hb' hr => XS.iinc hA hx rfl (hb hb' hd) hl hl' hr) K
theorem Walk.goto (C : Walk W l Z a0 tb EL own code ml rt nm R Q ou) (pc' : Nat) {o : Int} (hd : decode code pc = .ok (.goto o, 3)) (hp : (pc : Int) + o = (pc' : Int)) (K : W h os k n pc' Ls st) : W h os k n pc Ls st :=
  C.plain (fun hA hx hb' hr => XS.goto hA hx rfl (pc0 := pc) (pc' := pc') rfl (hb hb' hd) (by omega) (by omega) hr) K
theorem Walk.ifT (C : Walk W l Z a0 tb EL own code ml rt nm R Q ou) (pc' : Nat) {cd : ClassFile.Cond} {x : Int32} {o : Int} (hd : decode code pc = .ok (.ifCond cd o, 3)) (hp : (pc : Int) + o = (pc' : Int)) (hc : ifCond.holds cd x = true) (K : W h os k n pc' Ls st) : W h os k n pc Ls (.int x :: st) :=
  C.plain (fun hA hx hb' hr => XS.ifYes hA hx rfl (pc0 := pc) (pc' := pc') rfl (hb hb' hd) rfl hc (by omega) (by omega) hr) K
theorem Walk.ifF (C : Walk W l Z a0 tb EL own code ml rt nm R Q ou) (pc' : Nat) {cd : ClassFile.Cond} {x : Int32} {o : Int} (hd : decode code pc = .ok (.ifCond cd o, 3)) (hp : pc' = pc + 3) (hc : ifCond.holds cd x = false) (K : W h os k n pc' Ls st) : W h os k n pc Ls (.int x :: st) := by
  subst hp; exact C.plain (fun hA hx hb' hr => XS.ifNo hA hx rfl (hb hb' hd) rfl hc hr) K
theorem Walk.icmpT (C : Walk W l Z a0 tb EL own code ml rt nm R Q ou) (pc' : Nat) {cd : ClassFile.Cond} {x y : Int32} {o : Int} (hd : decode code pc = .ok (.if_icmp cd o, 3)) (hp : (pc : Int) + o = (pc' : Int)) (hc : if_icmp.holds cd x y = true) (K : W h os k n pc' Ls st) : W h os k n pc Ls (.int y :: .int x :: st) :=
  C.plain (fun hA hx hb' hr => XS.icmpYes hA hx rfl (pc0 := pc) (pc' := pc') rfl (hb hb' hd) rfl hc (by omega) (by omega) hr) K
theorem Walk.icmpF (C : Walk W l Z a0 tb EL own code ml rt nm R Q ou) (pc' : Nat) {cd : ClassFile.Cond} {x y : Int32} {o : Int} (hd : decode code pc = .ok (.if_icmp cd o, 3)) (hp : pc' = pc + 3) (hc : if_icmp.holds cd x y = false) (K : W h os k n pc' Ls st) : W h os k n pc Ls (.int y :: .int x :: st) := by
  subst hp; exact C.plain (fun hA hx hb' hr => XS.icmpNo hA hx rfl (hb hb' hd) rfl hc hr) K
theorem Walk.acmpT (C : Walk W l Z a0 tb EL own code ml rt nm R Q ou) (pc' : Nat) {cd : ClassFile.ACond} {x y : Value} {o : Int} (hd : decode code pc = .ok (.if_acmp cd o, 3)) (hp : (pc : Int) + o = (pc' : Int)) (h1 : x.isRef = true) (h2 : y.isRef = true) (hc : XT.acmp cd x y = true) (K : W h os k n pc' Ls st) : W h os k n pc Ls (y :: x :: st) :=
  C.plain (fun hA hx hb' hr => XT.acmpYes hA hx rfl (pc0 := pc) (pc' := pc') rfl (hb hb' hd) rfl h1 h2 hc (by omega) (by omega) hr) K
theorem Walk.acmpF (C : Walk W l Z a0 tb EL own code ml rt nm R Q ou) (pc' : Nat) {cd : ClassFile.ACond} {x y : Value} {o : Int} (hd : decode code pc = .ok (.if_acmp cd o, 3)) (hp : pc' = pc + 3) (h1 : x.isRef = true) (h2 : y.isRef = true) (hc : XT.acmp cd x y = false) (K : W h os k n pc' Ls st) : W h os k n pc Ls (y :: x :: st) := by
  subst hp; exact C.plain (fun hA hx hb' hr => XT.acmpNo hA hx rfl (hb hb' hd) rfl h1 h2 hc hr) K
theorem Walk.ifnullT (C : Walk W l Z a0 tb EL own code ml rt nm R Q ou) (pc' : Nat) {o : Int} (hd : decode code pc = .ok (.ifnull o, 3)) (hp : (pc : Int) + o = (pc' : Int)) (K : W h os k n pc' Ls st) : W h os k n pc Ls (.null :: st) :=
  C.plain (fun hA hx hb' hr => XS.ifnullYes hA hx rfl (pc0 := pc) (pc' := pc') rfl (hb hb' hd) rfl (by omega) (by omega) hr) K
theorem Walk.ifnullF (C : Walk W l Z a0 tb EL own code ml rt nm R Q ou) (pc' : Nat) {b : Addr} {o : Int} (hd : decode code pc = .ok (.ifnull o, 3)) (hp : pc' = pc + 3) (K : W h os k n pc' Ls st) : W h os k n pc Ls (.ref b :: st) := by
  subst hp; exact C.plain (fun hA hx hb' hr => XS.ifnullNo hA hx rfl (hb hb' hd) rfl hr) K
theorem Walk.ifnonnullT (C : Walk W l Z a0 tb EL own code ml rt nm R Q ou) (pc' : Nat) {b : Addr} {o : Int} (hd : decode code pc = .ok (.ifnonnull o, 3)) (hp : (pc : Int) + o = (pc' : Int)) (K : W h os k n pc' Ls st) : W h os k n pc Ls (.ref b :: st) :=
  C.plain (fun hA hx hb' hr => XT.ifnonnullYes hA hx rfl (pc0 := pc) (pc' := pc') rfl (hb hb' hd) rfl (by omega) (by omega) hr) K
theorem Walk.ifnonnullF (C : Walk W l Z a0 tb EL own code ml rt nm R Q ou) (pc' : Nat) {o : Int} (hd : decode code pc = .ok (.ifnonnull o, 3)) (hp : pc' = pc + 3) (K : W h os k n pc' Ls st) : W h os k n pc Ls (.null :: st) := by
  subst hp; exact C.plain (fun hA hx hb' hr => XT.ifnonnullNo hA hx rfl (hb hb' hd) rfl hr) K
theorem Walk.lshl (C : Walk W l Z a0 tb EL own code ml rt nm R Q ou) (pc' : Nat) {x : Int64} {y : Int32} (hd : decode code pc = .ok (.lshl, 1)) (hp : pc' = pc + 1) (K : W h os k n pc' Ls (.long (x <<< (y.toInt64 &&& 63)) :: st)) : W h os k n pc Ls (.int y :: .long x :: st) := by
  subst hp; exact C.plain (fun hA hx hb' hr => XT.lshl hA hx rfl (hb hb' hd) rfl hr) K
theorem Walk.lshr (C : Walk W l Z a0 tb EL own code ml rt nm R Q ou) (pc' : Nat) {x : Int64} {y : Int32} (hd : decode code pc = .ok (.lshr, 1)) (hp : pc' = pc + 1) (K : W h os k n pc' Ls (.long (x >>> (y.toInt64 &&& 63)) :: st)) : W h os k n pc Ls (.int y :: .long x :: st) := by
  subst hp; exact C.plain (fun hA hx hb' hr => XT.lshr hA hx rfl (hb hb' hd) rfl hr) K
theorem Walk.lushr (C : Walk W l Z a0 tb EL own code ml rt nm R Q ou) (pc' : Nat) {x : Int64} {y : Int32} (hd : decode code pc = .ok (.lushr, 1)) (hp : pc' = pc + 1) (K : W h os k n pc' Ls (.long (XT.ushrL x y) :: st)) : W h os k n pc Ls (.int y :: .long x :: st) := by
  subst hp; exact C.plain (fun hA hx hb' hr => XT.lushr hA hx rfl (hb hb' hd) rfl hr) K
/-! the returns -/
theorem Walk.ret (C : Walk W l Z a0 tb EL own code ml rt nm R Q ou) {v : Value} {t : FieldType} {i : Instr} (hd : decode code pc = .ok (i, 1)) (hrt : rt = some t) (hn : narrow t v = v)
    (hi : (i = .ireturn ∧ (t = .int ∨ t = .boolean ∨ t = .byte ∨ t = .char ∨ t = .short) ∧ ∃ z, v = .int z) ∨ (i = .lreturn ∧ t = .long ∧ ∃ z, v = .long z) ∨ (i = .dreturn ∧ t = .double ∧ ∃ z, v = .double z) ∨ (i = .freturn ∧ t = .float ∧ ∃ z, v = .float z) ∨ (i = .areturn ∧ t.isReference = true ∧ v.isRef = true))
    (hq : Q (some v) h) (hk : k ≤ R.cells) (hs : n ≤ R.slots) (ho : ∀ x ∈ ou (some v), x ∈ os) : W h os k n pc Ls (v :: st) := by
  obtain ⟨p, e, s, m, args, below, meth, c, rfl, hx, hby, hml, hown0, hrt', hlk, hZ0, hnm, hw, hEL⟩ := C
  intro hE vm0 k0 T locs hS hk0 H hos X eT N
  have hZ : Z.Warmed39 (s.setVm vm0).vm := State.Warmed39.trans hZ0 hS.1
  have hown : (s.setVm vm0).vm.findClass own = some m.cls := by show vm0.findClass own = _; rw [hS.1.alike.findClass]; exact hown0
  subst eT hrt
  obtain ⟨fs, hr, hrun, hended, hA, hB, hD, hsame⟩ := X.leaveW hS hk0 (v := some v) (fun h => by rw [hrt'] at h; cases h)
  have hCA : CHr Z EL vm0 T.heap T.vm T.heap := CHv.at X hZ hEL H.1
  exact ⟨_, _, retOut X hx hrt' hn hi (hb hby hd) hr, hrun, hended, _, _, rfl, ⟨hq, hE, N⟩, (hos.on hCA).sub ho, H.trans hCA, hA, hB, hD, hsame.mono hk hs⟩
theorem Walk.ret0 (C : Walk W l Z a0 tb EL own code ml rt nm R Q ou) (hd : decode code pc = .ok (.return_, 1)) (hrt : rt = none) (hk : k ≤ R.cells) (hs : n ≤ R.slots) (hq : Q none h) (ho : ∀ x ∈ ou none, x ∈ os) : W h os k n pc Ls [] := by
  obtain ⟨p, e, s, m, args, below, meth, c, rfl, hx, hby, hml, hown0, hrt', hlk, hZ0, hnm, hw, hEL⟩ := C
  intro hE vm0 k0 T locs hS hk0 H hos X eT N
  have hZ : Z.Warmed39 (s.setVm vm0).vm := State.Warmed39.trans hZ0 hS.1
  have hown : (s.setVm vm0).vm.findClass own = some m.cls := by show vm0.findClass own = _; rw [hS.1.alike.findClass]; exact hown0
  subst eT hrt
  obtain ⟨fs, hr, hrun, hended, hA, hB, hD, hsame⟩ := X.leaveW hS hk0 (v := none) (fun _ => rfl)
  have hCA : CHr Z EL vm0 T.heap T.vm T.heap := CHv.at X hZ hEL H.1
  exact ⟨_, _, X.returnOut hx hrt' (hb hby hd) hr, hrun, hended, _, _, rfl, ⟨hq, hE, N⟩, (hos.on hCA).sub ho, H.trans hCA, hA, hB, hD, hsame.mono hk hs⟩
theorem Walk.retI (C : Walk W l Z a0 tb EL own code ml rt nm R Q ou) {x : Int32} (t : FieldType) (hd : decode code pc = .ok (.ireturn, 1)) (hrt : rt = some t) (ht : t = .int ∨ t = .boolean ∨ t = .byte ∨ t = .char ∨ t = .short) (hn : nar t x = x)
    (hk : k ≤ R.cells) (hs : n ≤ R.slots) (hq : Q (some (.int x)) h) (ho : ∀ y ∈ ou (some (.int x)), y ∈ os) : W h os k n pc Ls (.int x :: st) :=
  C.ret hd hrt (by have e : narrow t (.int x) = .int (nar t x) := by rcases ht with rfl | rfl | rfl | rfl | rfl <;> rfl
                   rw [e, hn]) (Or.inl ⟨rfl, ht, _, rfl⟩) hq hk hs ho
theorem Walk.retA (C : Walk W l Z a0 tb EL own code ml rt nm R Q ou) {v : Value} (t : FieldType) (hd : decode code pc = .ok (.areturn, 1)) (hrt : rt = some t) (ht : t.isReference = true) (hv : v.isRef = true)
    (hk : k ≤ R.cells) (hs : n ≤ R.slots) (hq : Q (some v) h) (ho : ∀ y ∈ ou (some v), y ∈ os) : W h os k n pc Ls (v :: st) :=
  C.ret hd hrt (by cases t <;> first | (cases ht; done) | (cases v <;> first | (cases hv; done) | rfl)) (Or.inr (Or.inr (Or.inr (Or.inr ⟨rfl, ht, hv⟩)))) hq hk hs ho
/-! constants of the pool, static fields, fields -/
theorem Walk.ldc (C : Walk W l Z a0 tb EL own code ml rt nm R Q ou) (pc' : Nat) (v : Int32) {idx : Nat} (hd : decode code pc = .ok (.ldc idx, 2)) (hp : pc' = pc + 2) (w : Jvm.Cond.constant own idx v ∈ tb) (K : W h os k n pc' Ls (.int v :: st)) : W h os k n pc Ls st := by
  obtain ⟨p, e, s, m, args, below, meth, c, rfl, hx, hby, hml, hown0, hrt', hlk, hZ0, hnm, hw, hEL⟩ := C
  intro hE vm0 k0 T locs hS hk0 H hos X eT N
  have hZ : Z.Warmed39 (s.setVm vm0).vm := State.Warmed39.trans hZ0 hS.1
  have hown : (s.setVm vm0).vm.findClass own = some m.cls := by show vm0.findClass own = _; rw [hS.1.alike.findClass]; exact hown0
  subst hp
  obtain ⟨u, o, h1, h2⟩ := K hE vm0 k0 T locs hS hk0 H hos X eT N
  exact ⟨u, o, X.ldcI hx hown (mv hZ (hw _ w)) rfl (hb hby hd) h1, h2⟩
theorem Walk.ldcW (C : Walk W l Z a0 tb EL own code ml rt nm R Q ou) (pc' : Nat) (v : Int32) {idx : Nat} (hd : decode code pc = .ok (.ldc_w idx, 3)) (hp : pc' = pc + 3) (w : Jvm.Cond.constant own idx v ∈ tb) (K : W h os k n pc' Ls (.int v :: st)) : W h os k n pc Ls st := by
  obtain ⟨p, e, s, m, args, below, meth, c, rfl, hx, hby, hml, hown0, hrt', hlk, hZ0, hnm, hw, hEL⟩ := C
  intro hE vm0 k0 T locs hS hk0 H hos X eT N
  have hZ : Z.Warmed39 (s.setVm vm0).vm := State.Warmed39.trans hZ0 hS.1
  have hown : (s.setVm vm0).vm.findClass own = some m.cls := by show vm0.findClass own = _; rw [hS.1.alike.findClass]; exact hown0
  subst hp
  obtain ⟨u, o, h1, h2⟩ := K hE vm0 k0 T locs hS hk0 H hos X eT N
  exact ⟨u, o, X.ldcWI hx hown (mv hZ (hw _ w)) rfl (hb hby hd) h1, h2⟩
theorem Walk.ldc2 (C : Walk W l Z a0 tb EL own code ml rt nm R Q ou) (pc' : Nat) (v : Int64) {idx : Nat} (hd : decode code pc = .ok (.ldc2_w idx, 3)) (hp : pc' = pc + 3) (w : Jvm.Cond.constantLong own idx v ∈ tb) (K : W h os k n pc' Ls (.long v :: st)) : W h os k n pc Ls st := by
  obtain ⟨p, e, s, m, args, below, meth, c, rfl, hx, hby, hml, hown0, hrt', hlk, hZ0, hnm, hw, hEL⟩ := C
  intro hE vm0 k0 T locs hS hk0 H hos X eT N
  have hZ : Z.Warmed39 (s.setVm vm0).vm := State.Warmed39.trans hZ0 hS.1
  have hown : (s.setVm vm0).vm.findClass own = some m.cls := by show vm0.findClass own = _; rw [hS.1.alike.findClass]; exact hown0
  subst hp
  obtain ⟨u, o, h1, h2⟩ := K hE vm0 k0 T locs hS hk0 H hos X eT N
  exact ⟨u, o, X.ldc2J hx hown (mv hZ (hw _ w)) rfl (hb hby hd) h1, h2⟩
theorem Walk.getstatic (C : Walk W l Z a0 tb EL own code ml rt nm R Q ou) (pc' : Nat) {idx : Nat} {O f d : String} {v : Value} (hd : decode code pc = .ok (.getstatic idx, 3)) (hp : pc' = pc + 3) (w : Jvm.Cond.fieldLink own idx O f d ∈ tb) (F : Sta Z Z.heap O f d v) (K : W h os k n pc' Ls (v :: st)) : W h os k n pc Ls st := by
  obtain ⟨p, e, s, m, args, below, meth, c, rfl, hx, hby, hml, hown0, hrt', hlk, hZ0, hnm, hw, hEL⟩ := C
  intro hE vm0 k0 T locs hS hk0 H hos X eT N
  have hZ : Z.Warmed39 (s.setVm vm0).vm := State.Warmed39.trans hZ0 hS.1
  have hown : (s.setVm vm0).vm.findClass own = some m.cls := by show vm0.findClass own = _; rw [hS.1.alike.findClass]; exact hown0
  subst hp
  obtain ⟨T', X', e', S⟩ := getS X hx hZ hown (host := "") (hw _ w) Via.refl eT (F.ext hE) (g := mkF m pc Ls st) rfl (hb hby hd)
  obtain ⟨u, o, h1, h2⟩ := K hE vm0 k0 T' locs hS hk0 H hos X' e' N
  exact ⟨u, o, S _ h1, h2⟩
theorem Walk.getfield (C : Walk W l Z a0 tb EL own code ml rt nm R Q ou) (pc' : Nat) {idx : Nat} {R0 O f d : String} {a : Addr} {v : Value} (hd : decode code pc = .ok (.getfield idx, 3)) (hp : pc' = pc + 3) (w : Jvm.Cond.fieldLink own idx R0 f d ∈ tb) (via : Via Z R0 O f d) (F : Fld Z h a O f d v) (K : W h os k n pc' Ls (v :: st)) : W h os k n pc Ls (.ref a :: st) := by
  obtain ⟨p, e, s, m, args, below, meth, c, rfl, hx, hby, hml, hown0, hrt', hlk, hZ0, hnm, hw, hEL⟩ := C
  intro hE vm0 k0 T locs hS hk0 H hos X eT N
  have hZ : Z.Warmed39 (s.setVm vm0).vm := State.Warmed39.trans hZ0 hS.1
  have hown : (s.setVm vm0).vm.findClass own = some m.cls := by show vm0.findClass own = _; rw [hS.1.alike.findClass]; exact hown0
  subst hp
  obtain ⟨T', X', e', S⟩ := getF X hx hZ hown (host := "") (Or.inl (hw _ w)) via eT F (g := mkF m pc Ls (.ref a :: st)) rfl rfl (hb hby hd)
  obtain ⟨u, o, h1, h2⟩ := K hE vm0 k0 T' locs hS hk0 H hos X' e' N
  exact ⟨u, o, S _ h1, h2⟩
theorem Walk.getfieldOld (C : Walk W l Z a0 tb EL own code ml rt nm R Q ou) (pc' : Nat) {idx : Nat} {R0 O f d : String} {a : Addr} {v : Value} (hd : decode code pc = .ok (.getfield idx, 3)) (hp : pc' = pc + 3) (w : Jvm.Cond.fieldLink own idx R0 f d ∈ tb) (via : Via Z R0 O f d) (F : Fld Z Z.heap a O f d v) (K : W h os k n pc' Ls (v :: st)) : W h os k n pc Ls (.ref a :: st) :=
  C.kept fun hE => C.getfield pc' hd hp w via (F.ext hE) K
theorem Walk.putfield (C : Walk W l Z a0 tb EL own code ml rt nm R Q ou) (pc' : Nat) {idx kk : Nat} {R0 O f d D : String} {a : Addr} {v v' old : Value} (ty : FieldType) (hd : decode code pc = .ok (.putfield idx, 3)) (hp : pc' = pc + 3) (w : Jvm.Cond.fieldLink own idx R0 f d ∈ tb) (via : Via Z R0 O f d) (F : Fld Z h a O f d old) (E : Exa Z h a D)
    (L : Jvm.Cond.lays D O f d ∈ tb ∨ (Jvm.Cond.laysFinal D O f d ∈ tb ∧ own = O ∧ nm = "<init>")) (wi : Jvm.Cond.instantiable D kk ∈ tb) (hty : parseFieldDescriptor d = some ty) (hn : narrow ty v = v') (hf : fits ty v' = true) (ha : a ∈ os)
    (K : ∀ h', Wr h h' a (Jvm.RoadKit.slotOf Z O f d) v' → W h' os k n pc' Ls st) : W h os k n pc Ls (v :: .ref a :: st) := by
  obtain ⟨p, e, s, m, args, below, meth, c, rfl, hx, hby, hml, hown0, hrt', hlk, hZ0, hnm, hw, hEL⟩ := C
  intro hE vm0 k0 T locs hS hk0 H hos X eT N
  have hZ : Z.Warmed39 (s.setVm vm0).vm := State.Warmed39.trans hZ0 hS.1
  have hown : (s.setVm vm0).vm.findClass own = some m.cls := by show vm0.findClass own = _; rw [hS.1.alike.findClass]; exact hown0
  subst hp
  obtain ⟨T', h', X', e', Wr', S⟩ := putFN X hx hZ hown (hw _ w) via eT F E (L.imp (hw _) fun q => ⟨hw _ q.1, q.2.1, hnm.trans q.2.2⟩) (hw _ wi) hty hn hf (g := mkF m pc Ls (v :: .ref a :: st)) rfl rfl (hb hby hd)
  obtain ⟨u, o, h1, h2⟩ := K h' Wr' (Old.wr (n0 := Z.heap.size) ⟨rfl, hE⟩ Wr' (hos a ha).1).2 vm0 k0 T' _ hS (by rw [Wr'.size]; exact hk0) (H.trans (CHr.wr Wr' (hos a ha).2.1 H.1)) (hos.wr Wr' (hos a ha).2.1 H.1) X' e' (Fr.snoc X' N (hos a ha).1)
  exact ⟨u, o, S _ h1, h2⟩
/-! arrays: the places' values as a list -/
def Al (Z : State) (h : Heap) (a : Addr) (ty : FieldType) (vs : List Value) : Prop := ∃ c : Cell, Arr Z h a c ty ∧ c.slots.toList = vs
theorem Al.lt {a : Addr} {ty : FieldType} {vs : List Value} (A : Al Z h a ty vs) : a < h.size := by obtain ⟨c, A, -⟩ := A; exact A.lt
theorem Al.ext {h' : Heap} {a : Addr} {ty : FieldType} {vs : List Value} (A : Al Z h a ty vs) (E : Ext h h') : Al Z h' a ty vs := by obtain ⟨c, A, q⟩ := A; exact ⟨c, A.ext E, q⟩
theorem Al.keep {h' : Heap} {a : Addr} {ty : FieldType} {vs : List Value} {ws : List Addr} (A : Al Z h a ty vs) (K : Keep h h' ws) (q : a ∉ ws) : Al Z h' a ty vs := by obtain ⟨c, A, r⟩ := A; exact ⟨c, ⟨K.2.1 a c A.1 q, A.2⟩, r⟩
theorem Al.set {h' : Heap} {a : Addr} {ty : FieldType} {vs : List Value} {i : Nat} {v : Value} (A : Al Z h a ty vs) (Wr' : Wr h h' a i v) : Al Z h' a ty (vs.set i v) := by
  obtain ⟨c, A, rfl⟩ := A
  exact ⟨_, A.same Wr', by simp [Cell.setSlot]⟩
theorem list_at {c : Cell} {vs : List Value} (q : c.slots.toList = vs) (i : Nat) : c.slots[i]? = vs[i]? := by subst q; simp
theorem list_sz {c : Cell} {vs : List Value} (q : c.slots.toList = vs) : c.slots.size = vs.length := by subst q; simp
theorem Walk.newarray (C : Walk W l Z a0 tb EL own code ml rt nm R Q ou) (pc' : Nat) {aty : ArrayType} {z : Int32} (cap : Nat) (hd : decode code pc = .ok (.newarray aty, 2)) (hp : pc' = pc + 2) (w : Jvm.Cond.arrayClass (newarray.typeOf aty) ∈ tb) (hz : ¬ z < 0) (hcap : z.toNatClampNeg ≤ cap) (hb' : cap * 8 ≤ 536870912) (hc : k + 1 ≤ R.cells) (hl : n + cap ≤ R.slots)
    (K : ∀ h', Ext h h' → Al Z h' h.size (newarray.typeOf aty) (List.replicate z.toNatClampNeg (defaultValue (newarray.typeOf aty))) → W h' (h.size :: os) (k + 1) (n + cap) pc' Ls (.ref h.size :: st)) : W h os k n pc Ls (.int z :: st) := by
  obtain ⟨p, e, s, m, args, below, meth, c, rfl, hx, hby, hml, hown0, hrt', hlk, hZ0, hnm, hw, hEL⟩ := C
  intro hE vm0 k0 T locs hS hk0 H hos X eT N
  have hZ : Z.Warmed39 (s.setVm vm0).vm := State.Warmed39.trans hZ0 hS.1
  have hown : (s.setVm vm0).vm.findClass own = some m.cls := by show vm0.findClass own = _; rw [hS.1.alike.findClass]; exact hown0
  subst hp
  obtain ⟨T', h', cA, X', e', E', A', S⟩ := newP X hx hZ (hw _ w) eT (g := mkF m pc Ls (.int z :: st)) rfl (hb hby hd) rfl hz hcap hb' hc hl
  obtain ⟨u, o, h1, h2⟩ := K h' E' ⟨_, A', by simp [newA]⟩ (Old.ext (n0 := Z.heap.size) ⟨rfl, hE⟩ E').2 vm0 k0 T' _ hS (Nat.le_trans hk0 E'.1) (H.trans (CHr.ext E' H.1)) (hos.made E' H.1 hE.1 A'.lt) X' e' N
  exact ⟨u, o, S _ h1, h2⟩
theorem Walk.anewarray (C : Walk W l Z a0 tb EL own code ml rt nm R Q ou) (pc' : Nat) {idx : Nat} {D : String} {z : Int32} (cap : Nat) (hd : decode code pc = .ok (.anewarray idx, 3)) (hp : pc' = pc + 3) (w : Jvm.Cond.classLink own idx D ∈ tb) (w2 : Jvm.Cond.arrayOver (.object D) ∈ tb) (hz : ¬ z < 0) (hcap : z.toNatClampNeg ≤ cap) (hb' : cap * 8 ≤ 536870912) (hc : k + 1 ≤ R.cells) (hl : n + cap ≤ R.slots)
    (K : ∀ h' cA, Ext h h' → (∃ c : Cell, Arr Z h' h.size c (.object D) ∧ c.cls = cA ∧ c.slots.toList = List.replicate z.toNatClampNeg .null) → Ovr Z cA D → W h' (h.size :: os) (k + 1) (n + cap) pc' Ls (.ref h.size :: st)) : W h os k n pc Ls (.int z :: st) := by
  obtain ⟨p, e, s, m, args, below, meth, c, rfl, hx, hby, hml, hown0, hrt', hlk, hZ0, hnm, hw, hEL⟩ := C
  intro hE vm0 k0 T locs hS hk0 H hos X eT N
  have hZ : Z.Warmed39 (s.setVm vm0).vm := State.Warmed39.trans hZ0 hS.1
  have hown : (s.setVm vm0).vm.findClass own = some m.cls := by show vm0.findClass own = _; rw [hS.1.alike.findClass]; exact hown0
  subst hp
  obtain ⟨T', h', cA, X', e', E', A', O', S⟩ := newR X hx hZ hown (hw _ w) (hw _ w2) eT (g := mkF m pc Ls (.int z :: st)) rfl (hb hby hd) rfl hz hcap hb' hc hl
  obtain ⟨u, o, h1, h2⟩ := K h' cA E' ⟨_, A', rfl, by simp [newA, defaultValue]⟩ O' (Old.ext (n0 := Z.heap.size) ⟨rfl, hE⟩ E').2 vm0 k0 T' _ hS (Nat.le_trans hk0 E'.1) (H.trans (CHr.ext E' H.1)) (hos.made E' H.1 hE.1 A'.lt) X' e' N
  exact ⟨u, o, S _ h1, h2⟩
/-- an array over the class D: its class, its places -/
def Ro (Z : State) (h : Heap) (a : Addr) (D : String) (cA : ClassId) (vs : List Value) : Prop := ∃ c : Cell, Arr Z h a c (.object D) ∧ c.cls = cA ∧ c.slots.toList = vs
theorem Ro.lt {a : Addr} {D : String} {cA : ClassId} {vs : List Value} (A : Ro Z h a D cA vs) : a < h.size := by obtain ⟨c, A, -⟩ := A; exact A.lt
theorem Ro.ext {h' : Heap} {a : Addr} {D : String} {cA : ClassId} {vs : List Value} (A : Ro Z h a D cA vs) (E : Ext h h') : Ro Z h' a D cA vs := by obtain ⟨c, A, q⟩ := A; exact ⟨c, A.ext E, q⟩
theorem Ro.keep {h' : Heap} {a : Addr} {D : String} {cA : ClassId} {vs : List Value} {ws : List Addr} (A : Ro Z h a D cA vs) (K : Keep h h' ws) (q : a ∉ ws) : Ro Z h' a D cA vs := by obtain ⟨c, A, r⟩ := A; exact ⟨c, ⟨K.2.1 a c A.1 q, A.2⟩, r⟩
theorem Walk.aastore (C : Walk W l Z a0 tb EL own code ml rt nm R Q ou) (pc' : Nat) {a b : Addr} {D : String} {cA : ClassId} {vs : List Value} {j : Int32} (i : Nat) (hd : decode code pc = .ok (.aastore, 1)) (hp : pc' = pc + 1) (A : Ro Z h a D cA vs) (O : Ovr Z cA D) (I : Ins Z h b D true) (ha : a ∈ os) (hn : ¬ j < 0) (hi : j.toNatClampNeg = i) (hl : i < vs.length)
    (K : ∀ h', Wr h h' a i (.ref b) → Ro Z h' a D cA (vs.set i (.ref b)) → W h' os k n pc' Ls st) : W h os k n pc Ls (.ref b :: .int j :: .ref a :: st) := by
  obtain ⟨p, e, s, m, args, below, meth, c, rfl, hx, hby, hml, hown0, hrt', hlk, hZ0, hnm, hw, hEL⟩ := C
  intro hE vm0 k0 T locs hS hk0 H hos X eT N
  have hZ : Z.Warmed39 (s.setVm vm0).vm := State.Warmed39.trans hZ0 hS.1
  have hown : (s.setVm vm0).vm.findClass own = some m.cls := by show vm0.findClass own = _; rw [hS.1.alike.findClass]; exact hown0
  subst hp
  obtain ⟨cl, A1, A2, A3⟩ := A
  have hj : ¬ (j < 0 ∨ cl.slots.size ≤ j.toNatClampNeg) := by rw [list_sz A3, hi]; exact fun q => q.elim hn (fun q => absurd hl (Nat.not_lt.mpr q))
  obtain ⟨T', h', X', e', Wr', S⟩ := stR X hx hZ eT A1 hj rfl (Sto.ofV A1 A2 O I) (g := mkF m pc Ls (.ref b :: .int j :: .ref a :: st)) rfl rfl (hb hby hd)
  rw [hi] at Wr'
  have R' : Ro Z h' a D cA (vs.set i (.ref b)) := ⟨_, A1.same Wr', by simpa [Cell.setSlot] using A2, by subst A3; simp [Cell.setSlot]⟩
  obtain ⟨u, o, h1, h2⟩ := K h' Wr' R' (Old.wr (n0 := Z.heap.size) ⟨rfl, hE⟩ Wr' (hos a ha).1).2 vm0 k0 T' _ hS (by rw [Wr'.size]; exact hk0) (H.trans (CHr.wr Wr' (hos a ha).2.1 H.1)) (hos.wr Wr' (hos a ha).2.1 H.1) X' e' (Fr.snoc X' N (hos a ha).1)
  exact ⟨u, o, S _ h1, h2⟩
theorem Walk.castore (C : Walk W l Z a0 tb EL own code ml rt nm R Q ou) (pc' : Nat) {a : Addr} {vs : List Value} {j x : Int32} (i : Nat) (x' : Int32) (hd : decode code pc = .ok (.castore, 1)) (hp : pc' = pc + 1) (A : Al Z h a .char vs) (ha : a ∈ os) (hn : ¬ j < 0) (hi : j.toNatClampNeg = i) (hl : i < vs.length) (hx' : nar .char x = x')
    (K : ∀ h', Wr h h' a i (.int x') → Al Z h' a .char (vs.set i (.int x')) → W h' os k n pc' Ls st) : W h os k n pc Ls (.int x :: .int j :: .ref a :: st) := by
  obtain ⟨p, e, s, m, args, below, meth, c, rfl, hx, hby, hml, hown0, hrt', hlk, hZ0, hnm, hw, hEL⟩ := C
  intro hE vm0 k0 T locs hS hk0 H hos X eT N
  have hZ : Z.Warmed39 (s.setVm vm0).vm := State.Warmed39.trans hZ0 hS.1
  have hown : (s.setVm vm0).vm.findClass own = some m.cls := by show vm0.findClass own = _; rw [hS.1.alike.findClass]; exact hown0
  subst hp
  have A' := A
  obtain ⟨cl, A1, A3⟩ := A
  have hj : ¬ (j < 0 ∨ cl.slots.size ≤ j.toNatClampNeg) := by rw [list_sz A3, hi]; exact fun q => q.elim hn (fun q => absurd hl (Nat.not_lt.mpr q))
  obtain ⟨T', h', X', e', Wr', S⟩ := stC X hx hZ eT A1 hj (g := mkF m pc Ls (.int x :: .int j :: .ref a :: st)) rfl rfl (hb hby hd)
  rw [hi, hx'] at Wr'
  obtain ⟨u, o, h1, h2⟩ := K h' Wr' (A'.set Wr') (Old.wr (n0 := Z.heap.size) ⟨rfl, hE⟩ Wr' (hos a ha).1).2 vm0 k0 T' _ hS (by rw [Wr'.size]; exact hk0) (H.trans (CHr.wr Wr' (hos a ha).2.1 H.1)) (hos.wr Wr' (hos a ha).2.1 H.1) X' e' (Fr.snoc X' N (hos a ha).1)
  exact ⟨u, o, S _ h1, h2⟩
theorem Walk.bastoreB (C : Walk W l Z a0 tb EL own code ml rt nm R Q ou) (pc' : Nat) {a : Addr} {vs : List Value} {j x : Int32} (i : Nat) (x' : Int32) (hd : decode code pc = .ok (.bastore, 1)) (hp : pc' = pc + 1) (A : Al Z h a .byte vs) (ha : a ∈ os) (hn : ¬ j < 0) (hi : j.toNatClampNeg = i) (hl : i < vs.length) (hx' : nar .byte x = x')
    (K : ∀ h', Wr h h' a i (.int x') → Al Z h' a .byte (vs.set i (.int x')) → W h' os k n pc' Ls st) : W h os k n pc Ls (.int x :: .int j :: .ref a :: st) := by
  obtain ⟨p, e, s, m, args, below, meth, c, rfl, hx, hby, hml, hown0, hrt', hlk, hZ0, hnm, hw, hEL⟩ := C
  intro hE vm0 k0 T locs hS hk0 H hos X eT N
  have hZ : Z.Warmed39 (s.setVm vm0).vm := State.Warmed39.trans hZ0 hS.1
  have hown : (s.setVm vm0).vm.findClass own = some m.cls := by show vm0.findClass own = _; rw [hS.1.alike.findClass]; exact hown0
  subst hp
  have A' := A
  obtain ⟨cl, A1, A3⟩ := A
  have hj : ¬ (j < 0 ∨ cl.slots.size ≤ j.toNatClampNeg) := by rw [list_sz A3, hi]; exact fun q => q.elim hn (fun q => absurd hl (Nat.not_lt.mpr q))
  obtain ⟨T', h', X', e', Wr', S⟩ := stB X hx hZ eT A1 hj (g := mkF m pc Ls (.int x :: .int j :: .ref a :: st)) rfl rfl (hb hby hd)
  rw [hi, hx'] at Wr'
  obtain ⟨u, o, h1, h2⟩ := K h' Wr' (A'.set Wr') (Old.wr (n0 := Z.heap.size) ⟨rfl, hE⟩ Wr' (hos a ha).1).2 vm0 k0 T' _ hS (by rw [Wr'.size]; exact hk0) (H.trans (CHr.wr Wr' (hos a ha).2.1 H.1)) (hos.wr Wr' (hos a ha).2.1 H.1) X' e' (Fr.snoc X' N (hos a ha).1)
  exact ⟨u, o, S _ h1, h2⟩
theorem Walk.bastoreZ (C : Walk W l Z a0 tb EL own code ml rt nm R Q ou) (pc' : Nat) {a : Addr} {vs : List Value} {j x : Int32} (i : Nat) (x' : Int32) (hd : decode code pc = .ok (.bastore, 1)) (hp : pc' = pc + 1) (A : Al Z h a .boolean vs) (ha : a ∈ os) (hn : ¬ j < 0) (hi : j.toNatClampNeg = i) (hl : i < vs.length) (hx' : nar .boolean x = x')
    (K : ∀ h', Wr h h' a i (.int x') → Al Z h' a .boolean (vs.set i (.int x')) → W h' os k n pc' Ls st) : W h os k n pc Ls (.int x :: .int j :: .ref a :: st) := by
  obtain ⟨p, e, s, m, args, below, meth, c, rfl, hx, hby, hml, hown0, hrt', hlk, hZ0, hnm, hw, hEL⟩ := C
  intro hE vm0 k0 T locs hS hk0 H hos X eT N
  have hZ : Z.Warmed39 (s.setVm vm0).vm := State.Warmed39.trans hZ0 hS.1
  have hown : (s.setVm vm0).vm.findClass own = some m.cls := by show vm0.findClass own = _; rw [hS.1.alike.findClass]; exact hown0
  subst hp
  have A' := A
  obtain ⟨cl, A1, A3⟩ := A
  have hj : ¬ (j < 0 ∨ cl.slots.size ≤ j.toNatClampNeg) := by rw [list_sz A3, hi]; exact fun q => q.elim hn (fun q => absurd hl (Nat.not_lt.mpr q))
  obtain ⟨T', h', X', e', Wr', S⟩ := stZ X hx hZ eT A1 hj (g := mkF m pc Ls (.int x :: .int j :: .ref a :: st)) rfl rfl (hb hby hd)
  rw [hi, hx'] at Wr'
  obtain ⟨u, o, h1, h2⟩ := K h' Wr' (A'.set Wr') (Old.wr (n0 := Z.heap.size) ⟨rfl, hE⟩ Wr' (hos a ha).1).2 vm0 k0 T' _ hS (by rw [Wr'.size]; exact hk0) (H.trans (CHr.wr Wr' (hos a ha).2.1 H.1)) (hos.wr Wr' (hos a ha).2.1 H.1) X' e' (Fr.snoc X' N (hos a ha).1)
  exact ⟨u, o, S _ h1, h2⟩
theorem Walk.iastore (C : Walk W l Z a0 tb EL own code ml rt nm R Q ou) (pc' : Nat) {a : Addr} {vs : List Value} {j x : Int32} (i : Nat) (hd : decode code pc = .ok (.iastore, 1)) (hp : pc' = pc + 1) (A : Al Z h a .int vs) (ha : a ∈ os) (hn : ¬ j < 0) (hi : j.toNatClampNeg = i) (hl : i < vs.length)
    (K : ∀ h', Wr h h' a i (.int x) → Al Z h' a .int (vs.set i (.int x)) → W h' os k n pc' Ls st) : W h os k n pc Ls (.int x :: .int j :: .ref a :: st) := by
  obtain ⟨p, e, s, m, args, below, meth, c, rfl, hx, hby, hml, hown0, hrt', hlk, hZ0, hnm, hw, hEL⟩ := C
  intro hE vm0 k0 T locs hS hk0 H hos X eT N
  have hZ : Z.Warmed39 (s.setVm vm0).vm := State.Warmed39.trans hZ0 hS.1
  have hown : (s.setVm vm0).vm.findClass own = some m.cls := by show vm0.findClass own = _; rw [hS.1.alike.findClass]; exact hown0
  subst hp
  have A' := A
  obtain ⟨cl, A1, A3⟩ := A
  have hj : ¬ (j < 0 ∨ cl.slots.size ≤ j.toNatClampNeg) := by rw [list_sz A3, hi]; exact fun q => q.elim hn (fun q => absurd hl (Nat.not_lt.mpr q))
  obtain ⟨T', h', X', e', Wr', S⟩ := stI X hx hZ eT A1 hj (g := mkF m pc Ls (.int x :: .int j :: .ref a :: st)) rfl rfl (hb hby hd)
  rw [hi] at Wr'
  obtain ⟨u, o, h1, h2⟩ := K h' Wr' (A'.set Wr') (Old.wr (n0 := Z.heap.size) ⟨rfl, hE⟩ Wr' (hos a ha).1).2 vm0 k0 T' _ hS (by rw [Wr'.size]; exact hk0) (H.trans (CHr.wr Wr' (hos a ha).2.1 H.1)) (hos.wr Wr' (hos a ha).2.1 H.1) X' e' (Fr.snoc X' N (hos a ha).1)
  exact ⟨u, o, S _ h1, h2⟩
theorem Walk.iaload (C : Walk W l Z a0 tb EL own code ml rt nm R Q ou) (pc' : Nat) {a : Addr} {vs : List Value} {j : Int32} (i : Nat) (v : Value) (hd : decode code pc = .ok (.iaload, 1)) (hp : pc' = pc + 1) (A : Al Z h a .int vs) (hn : ¬ j < 0) (hi : j.toNatClampNeg = i) (hv : vs[i]? = some v)
    (K : W h os k n pc' Ls (v :: st)) : W h os k n pc Ls (.int j :: .ref a :: st) := by
  obtain ⟨p, e, s, m, args, below, meth, c, rfl, hx, hby, hml, hown0, hrt', hlk, hZ0, hnm, hw, hEL⟩ := C
  intro hE vm0 k0 T locs hS hk0 H hos X eT N
  have hZ : Z.Warmed39 (s.setVm vm0).vm := State.Warmed39.trans hZ0 hS.1
  have hown : (s.setVm vm0).vm.findClass own = some m.cls := by show vm0.findClass own = _; rw [hS.1.alike.findClass]; exact hown0
  subst hp
  obtain ⟨cl, A1, A3⟩ := A
  have hl : i < vs.length := (List.getElem?_eq_some_iff.mp hv).1
  have hj : ¬ (j < 0 ∨ cl.slots.size ≤ j.toNatClampNeg) := by rw [list_sz A3, hi]; exact fun q => q.elim hn (fun q => absurd hl (Nat.not_lt.mpr q))
  obtain ⟨u, o, h1, h2⟩ := K hE vm0 k0 T _ hS hk0 H hos X eT N
  exact ⟨u, o, X.iaload hx (by rw [eT]; exact A1.1) (State.isArrayOf_alike hZ.alike A1.2.1) A1.2.2 hj (by rw [hi, list_at A3]; exact hv) (g := mkF m pc Ls (.int j :: .ref a :: st)) rfl rfl (hb hby hd) _ h1, h2⟩
theorem Walk.caload (C : Walk W l Z a0 tb EL own code ml rt nm R Q ou) (pc' : Nat) {a : Addr} {vs : List Value} {j : Int32} (i : Nat) (v : Value) (hd : decode code pc = .ok (.caload, 1)) (hp : pc' = pc + 1) (A : Al Z h a .char vs) (hn : ¬ j < 0) (hi : j.toNatClampNeg = i) (hv : vs[i]? = some v)
    (K : W h os k n pc' Ls (v :: st)) : W h os k n pc Ls (.int j :: .ref a :: st) := by
  obtain ⟨p, e, s, m, args, below, meth, c, rfl, hx, hby, hml, hown0, hrt', hlk, hZ0, hnm, hw, hEL⟩ := C
  intro hE vm0 k0 T locs hS hk0 H hos X eT N
  have hZ : Z.Warmed39 (s.setVm vm0).vm := State.Warmed39.trans hZ0 hS.1
  have hown : (s.setVm vm0).vm.findClass own = some m.cls := by show vm0.findClass own = _; rw [hS.1.alike.findClass]; exact hown0
  subst hp
  obtain ⟨cl, A1, A3⟩ := A
  have hl : i < vs.length := (List.getElem?_eq_some_iff.mp hv).1
  have hj : ¬ (j < 0 ∨ cl.slots.size ≤ j.toNatClampNeg) := by rw [list_sz A3, hi]; exact fun q => q.elim hn (fun q => absurd hl (Nat.not_lt.mpr q))
  obtain ⟨u, o, h1, h2⟩ := K hE vm0 k0 T _ hS hk0 H hos X eT N
  exact ⟨u, o, X.caload hx (by rw [eT]; exact A1.1) (State.isArrayOf_alike hZ.alike A1.2.1) A1.2.2 hj (by rw [hi, list_at A3]; exact hv) (g := mkF m pc Ls (.int j :: .ref a :: st)) rfl rfl (hb hby hd) _ h1, h2⟩
theorem Walk.baloadB (C : Walk W l Z a0 tb EL own code ml rt nm R Q ou) (pc' : Nat) {a : Addr} {vs : List Value} {j : Int32} (i : Nat) (v : Value) (hd : decode code pc = .ok (.baload, 1)) (hp : pc' = pc + 1) (A : Al Z h a .byte vs) (hn : ¬ j < 0) (hi : j.toNatClampNeg = i) (hv : vs[i]? = some v)
    (K : W h os k n pc' Ls (v :: st)) : W h os k n pc Ls (.int j :: .ref a :: st) := by
  obtain ⟨p, e, s, m, args, below, meth, c, rfl, hx, hby, hml, hown0, hrt', hlk, hZ0, hnm, hw, hEL⟩ := C
  intro hE vm0 k0 T locs hS hk0 H hos X eT N
  have hZ : Z.Warmed39 (s.setVm vm0).vm := State.Warmed39.trans hZ0 hS.1
  have hown : (s.setVm vm0).vm.findClass own = some m.cls := by show vm0.findClass own = _; rw [hS.1.alike.findClass]; exact hown0
  subst hp
  obtain ⟨cl, A1, A3⟩ := A
  have hl : i < vs.length := (List.getElem?_eq_some_iff.mp hv).1
  have hj : ¬ (j < 0 ∨ cl.slots.size ≤ j.toNatClampNeg) := by rw [list_sz A3, hi]; exact fun q => q.elim hn (fun q => absurd hl (Nat.not_lt.mpr q))
  obtain ⟨u, o, h1, h2⟩ := K hE vm0 k0 T _ hS hk0 H hos X eT N
  exact ⟨u, o, X.baloadBytes hx (by rw [eT]; exact A1.1) (State.isArrayOf_alike hZ.alike A1.2.1) A1.2.2 hj (by rw [hi, list_at A3]; exact hv) (g := mkF m pc Ls (.int j :: .ref a :: st)) rfl rfl (hb hby hd) _ h1, h2⟩
theorem Walk.baloadZ (C : Walk W l Z a0 tb EL own code ml rt nm R Q ou) (pc' : Nat) {a : Addr} {vs : List Value} {j : Int32} (i : Nat) (v : Value) (hd : decode code pc = .ok (.baload, 1)) (hp : pc' = pc + 1) (A : Al Z h a .boolean vs) (hn : ¬ j < 0) (hi : j.toNatClampNeg = i) (hv : vs[i]? = some v)
    (K : W h os k n pc' Ls (v :: st)) : W h os k n pc Ls (.int j :: .ref a :: st) := by
  obtain ⟨p, e, s, m, args, below, meth, c, rfl, hx, hby, hml, hown0, hrt', hlk, hZ0, hnm, hw, hEL⟩ := C
  intro hE vm0 k0 T locs hS hk0 H hos X eT N
  have hZ : Z.Warmed39 (s.setVm vm0).vm := State.Warmed39.trans hZ0 hS.1
  have hown : (s.setVm vm0).vm.findClass own = some m.cls := by show vm0.findClass own = _; rw [hS.1.alike.findClass]; exact hown0
  subst hp
  obtain ⟨cl, A1, A3⟩ := A
  have hl : i < vs.length := (List.getElem?_eq_some_iff.mp hv).1
  have hj : ¬ (j < 0 ∨ cl.slots.size ≤ j.toNatClampNeg) := by rw [list_sz A3, hi]; exact fun q => q.elim hn (fun q => absurd hl (Nat.not_lt.mpr q))
  obtain ⟨u, o, h1, h2⟩ := K hE vm0 k0 T _ hS hk0 H hos X eT N
  exact ⟨u, o, X.baloadBooleans hx (by rw [eT]; exact A1.1) (State.isArrayOf_alike hZ.alike A1.2.1) A1.2.2 hj (by rw [hi, list_at A3]; exact hv) (g := mkF m pc Ls (.int j :: .ref a :: st)) rfl rfl (hb hby hd) _ h1, h2⟩
theorem Walk.aaload (C : Walk W l Z a0 tb EL own code ml rt nm R Q ou) (pc' : Nat) {a : Addr} {D : String} {cA : ClassId} {vs : List Value} {j : Int32} (i : Nat) (v : Value) (hd : decode code pc = .ok (.aaload, 1)) (hp : pc' = pc + 1) (A : Ro Z h a D cA vs) (hn : ¬ j < 0) (hi : j.toNatClampNeg = i) (hv : vs[i]? = some v)
    (K : W h os k n pc' Ls (v :: st)) : W h os k n pc Ls (.int j :: .ref a :: st) := by
  obtain ⟨p, e, s, m, args, below, meth, c, rfl, hx, hby, hml, hown0, hrt', hlk, hZ0, hnm, hw, hEL⟩ := C
  intro hE vm0 k0 T locs hS hk0 H hos X eT N
  have hZ : Z.Warmed39 (s.setVm vm0).vm := State.Warmed39.trans hZ0 hS.1
  have hown : (s.setVm vm0).vm.findClass own = some m.cls := by show vm0.findClass own = _; rw [hS.1.alike.findClass]; exact hown0
  subst hp
  obtain ⟨cl, A1, A2, A3⟩ := A
  have hl : i < vs.length := (List.getElem?_eq_some_iff.mp hv).1
  have hj : ¬ (j < 0 ∨ cl.slots.size ≤ j.toNatClampNeg) := by rw [list_sz A3, hi]; exact fun q => q.elim hn (fun q => absurd hl (Nat.not_lt.mpr q))
  obtain ⟨u, o, h1, h2⟩ := K hE vm0 k0 T _ hS hk0 H hos X eT N
  exact ⟨u, o, X.aaload hx (by rw [eT]; exact A1.1) (State.isArrayOf_alike hZ.alike A1.2.1) rfl A1.2.2 hj (by rw [hi, list_at A3]; exact hv) (g := mkF m pc Ls (.int j :: .ref a :: st)) rfl rfl (hb hby hd) _ h1, h2⟩
theorem Walk.arraylength (C : Walk W l Z a0 tb EL own code ml rt nm R Q ou) (pc' : Nat) {a : Addr} {ty : FieldType} {vs : List Value} (z : Int32) (hd : decode code pc = .ok (.arraylength, 1)) (hp : pc' = pc + 1) (A : Al Z h a ty vs) (hz : vs.length.toInt32 = z)
    (K : W h os k n pc' Ls (.int z :: st)) : W h os k n pc Ls (.ref a :: st) := by
  obtain ⟨p, e, s, m, args, below, meth, c, rfl, hx, hby, hml, hown0, hrt', hlk, hZ0, hnm, hw, hEL⟩ := C
  intro hE vm0 k0 T locs hS hk0 H hos X eT N
  have hZ : Z.Warmed39 (s.setVm vm0).vm := State.Warmed39.trans hZ0 hS.1
  have hown : (s.setVm vm0).vm.findClass own = some m.cls := by show vm0.findClass own = _; rw [hS.1.alike.findClass]; exact hown0
  subst hp
  obtain ⟨cl, A1, A3⟩ := A
  obtain ⟨u, o, h1, h2⟩ := K hE vm0 k0 T _ hS hk0 H hos X eT N
  rw [← hz, ← list_sz A3] at h1
  exact ⟨u, o, X.arraylength hx (by rw [eT]; exact A1.1) (State.isArrayOf_alike hZ.alike A1.2.1) (g := mkF m pc Ls (.ref a :: st)) rfl rfl (hb hby hd) _ h1, h2⟩
/-! objects, calls -/
theorem Walk.new (C : Walk W l Z a0 tb EL own code ml rt nm R Q ou) (pc' : Nat) {idx sz : Nat} {D : String} (hd : decode code pc = .ok (.new idx, 3)) (hp : pc' = pc + 3) (w : Jvm.Cond.classLink own idx D ∈ tb) (wi : Jvm.Cond.instantiable D sz ∈ tb) (wz : Jvm.Cond.initialized D ∈ tb) (hc : k + 1 ≤ R.cells) (hl : n + sz ≤ R.slots)
    (K : ∀ h', Ext h h' → Exa Z h' h.size D → (∀ {O f d : String} {ty : FieldType}, Laid Z a0 D O f d → parseFieldDescriptor d = some ty → Fld Z h' h.size O f d (defaultValue ty)) → W h' (h.size :: os) (k + 1) (n + sz) pc' Ls (.ref h.size :: st)) : W h os k n pc Ls st := by
  obtain ⟨p, e, s, m, args, below, meth, c, rfl, hx, hby, hml, hown0, hrt', hlk, hZ0, hnm, hw, hEL⟩ := C
  intro hE vm0 k0 T locs hS hk0 H hos X eT N
  have hZ : Z.Warmed39 (s.setVm vm0).vm := State.Warmed39.trans hZ0 hS.1
  have hown : (s.setVm vm0).vm.findClass own = some m.cls := by show vm0.findClass own = _; rw [hS.1.alike.findClass]; exact hown0
  subst hp
  obtain ⟨T', h', X', e', E', A', D', -, S⟩ := newO X hx hZ hown (hw _ w) (hw _ wi) (hw _ wz) eT (g := mkF m pc Ls st) rfl (hb hby hd) hc hl
  obtain ⟨u, o, h1, h2⟩ := K h' E' A' D' (Old.ext (n0 := Z.heap.size) ⟨rfl, hE⟩ E').2 vm0 k0 T' _ hS (Nat.le_trans hk0 E'.1) (H.trans (CHr.ext E' H.1)) (hos.made E' H.1 hE.1 A'.lt) X' e' N
  exact ⟨u, o, S _ h1, h2⟩
theorem Walk.initObj (C : Walk W l Z a0 tb EL own code ml rt nm R Q ou) (pc' : Nat) {idx : Nat} {a : Addr} (wd : Nat) (hd : decode code pc = .ok (.invokespecial idx, 3)) (hp : pc' = pc + 3) (w1 : Jvm.Cond.methodLink own idx Lib.objectInit ∈ tb) (w2 : Jvm.Cond.instanceMethod Lib.objectInit ∈ tb) (w3 : Jvm.Cond.code Lib.objectInit ⟨#[0xb1]⟩ 1 none ∈ tb) (hls : Ls.size = ml) (hf : 1 ≤ R.frames) (hwd : (st.map fun v => v.category).sum ≤ wd) (hl : wd + 12 ≤ R.locals)
    (K : W h os k n pc' Ls st) : W h os k n pc Ls (.ref a :: st) := by
  obtain ⟨p, e, s, m, args, below, meth, c, rfl, hx, hby, hml, hown0, hrt', hlk, hZ0, hnm, hw, hEL⟩ := C
  intro hE vm0 k0 T locs hS hk0 H hos X eT N
  have hZ : Z.Warmed39 (s.setVm vm0).vm := State.Warmed39.trans hZ0 hS.1
  have hown : (s.setVm vm0).vm.findClass own = some m.cls := by show vm0.findClass own = _; rw [hS.1.alike.findClass]; exact hown0
  subst hp
  obtain ⟨T', X', e', S⟩ := initO X hx hZ hown (hw _ w1) (hw _ w2) (hw _ w3) eT (g := mkF m pc Ls (.ref a :: st)) rfl (by show Ls.size = _; rw [hls, hml]) rfl (hb hby hd) hf (W := wd) (by show 2 * 0 + _ ≤ _; omega) hl
  obtain ⟨u, o, h1, h2⟩ := K hE vm0 k0 T' _ hS hk0 H hos X' e' N
  exact ⟨u, o, S _ h1, h2⟩
theorem Walk.checkcast (C : Walk W l Z a0 tb EL own code ml rt nm R Q ou) (pc' : Nat) {idx : Nat} {D : String} {a : Addr} (hd : decode code pc = .ok (.checkcast idx, 3)) (hp : pc' = pc + 3) (w : Jvm.Cond.classLink own idx D ∈ tb) (I : Ins Z h a D true) (K : W h os k n pc' Ls (.ref a :: st)) : W h os k n pc Ls (.ref a :: st) := by
  obtain ⟨p, e, s, m, args, below, meth, c, rfl, hx, hby, hml, hown0, hrt', hlk, hZ0, hnm, hw, hEL⟩ := C
  intro hE vm0 k0 T locs hS hk0 H hos X eT N
  have hZ : Z.Warmed39 (s.setVm vm0).vm := State.Warmed39.trans hZ0 hS.1
  have hown : (s.setVm vm0).vm.findClass own = some m.cls := by show vm0.findClass own = _; rw [hS.1.alike.findClass]; exact hown0
  subst hp
  obtain ⟨T', X', e', S⟩ := castY X hx hZ hown (hw _ w) eT I (g := mkF m pc Ls (.ref a :: st)) rfl rfl (hb hby hd)
  obtain ⟨u, o, h1, h2⟩ := K hE vm0 k0 T' _ hS hk0 H hos X' e' N
  exact ⟨u, o, S _ h1, h2⟩
theorem Walk.callS (C : Walk W l Z a0 tb EL own code ml rt nm R Q ou) (pc' : Nat) {idx : Nat} {y : MethodName} {yc : ByteArray} {ym : Nat} {yr : Option FieldType} {rm : Room} {as : List Value} {rest : List Value} {yQ : Option Value → Heap → Prop} {you : Option Value → List Addr} {os' : List Addr} {ps : List FieldType} {r : Option FieldType} (wd : Nat) (hd : decode code pc = .ok (.invokestatic idx, 3)) (hp : pc' = pc + 3) (w1 : Jvm.Cond.methodLink own idx y ∈ tb) (w2 : Jvm.Cond.static y ∈ tb) (w3 : Jvm.Cond.initialized y.cls ∈ tb) (w4 : Jvm.Cond.code y yc ym yr ∈ tb) (hy : y.cls ≠ "java/lang/invoke/MethodHandle" ∧ y.cls ≠ "java/lang/invoke/VarHandle") (con : Con l Z EL y yc ym yr rm as.toArray h os' yQ you) (hos' : ∀ x ∈ os', x ∈ os) (pd : parseMethodDescriptor y.desc = some ⟨ps, r⟩) (hlen : as.length = ps.length) (hls : Ls.size = ml) (hwd : (rest.map fun v => v.category).sum ≤ wd) (hf : rm.frames + 1 ≤ R.frames) (hl : wd + (ym + 11) + rm.locals ≤ R.locals) (hc : k + rm.cells ≤ R.cells) (hs : n + rm.slots ≤ R.slots) (hst : st = as.reverse ++ rest)
    (K : ∀ v h', yQ v h' → W h' (you v ++ os) (k + rm.cells) (n + rm.slots) pc' Ls (v.toList ++ rest)) : W h os k n pc Ls st := by
  obtain ⟨p, e, s, m, args, below, meth, c, rfl, hx, hby, hml, hown0, hrt', hlk, hZ0, hnm, hw, hEL⟩ := C
  intro hE vm0 k0 T locs hS hk0 H hos X eT N
  have hZ : Z.Warmed39 (s.setVm vm0).vm := State.Warmed39.trans hZ0 hS.1
  have hown : (s.setVm vm0).vm.findClass own = some m.cls := by show vm0.findClass own = _; rw [hS.1.alike.findClass]; exact hown0
  subst hp
  obtain ⟨v, vm₁, ⟨T', L', k', n'⟩, -, X', hS', hgr, P, S⟩ := callSS X hx (y := y) hown (mvT hZ (hw _ w1)) (mvT hZ (hw _ w2)) (mvT hZ (hw _ w3)) (mvT hZ (hw _ w4)) hy (paid (vm0 := vm0) (wd := wd) con hE hZ (hw _ w4) (hw _ w3) hf hl hEL H.1 (hos.sub hos')) (g := mkF m pc Ls st) rfl (by show Ls.size = _; rw [hls, hml]) (argsL := as) (rest := rest) (lenOf pd hlen) hst (by show 2 * 0 + _ ≤ _; omega) (hb hby hd) (fun _ _ => ⟨rfl, eT, hc, hs⟩)
  obtain ⟨Lc, ⟨hq, hE', hN⟩, l', y', z', hC, hO⟩ := P
  dsimp only [Pt.U, Pt.locs, Pt.cells, Pt.slots] at X' l' y' z' S hq hE' hS' hgr hC hO
  subst l' y' z'
  obtain ⟨u, o, h1, h2⟩ := K v T'.heap hq hE' T'.vm T'.heap.size T' _ (hS.trans hS' (Nat.le_trans hk0 (eT ▸ hgr))) (Nat.le_refl _) (H.trans hC) (hO.app (hos.on hC)) X' rfl (Fr.app N hN)
  exact ⟨u, o, S.trans h1, h2⟩
theorem Walk.callV (C : Walk W l Z a0 tb EL own code ml rt nm R Q ou) (pc' : Nat) {idx : Nat} {a : Addr} {D : String} {x : MethodName} {y : MethodName} {yc : ByteArray} {ym : Nat} {yr : Option FieldType} {rm : Room} {as : List Value} {rest : List Value} {yQ : Option Value → Heap → Prop} {you : Option Value → List Addr} {os' : List Addr} {ps : List FieldType} {r : Option FieldType} (wd : Nat) (hd : decode code pc = .ok (.invokevirtual idx, 3)) (hp : pc' = pc + 3) (w1 : Jvm.Cond.methodLink own idx x ∈ tb) (w2 : Jvm.Cond.declares x ∈ tb) (w5 : Jvm.Cond.selects D x y ∈ tb) (nf : ∀ args s, (∀ d ∈ tb, d.before a0 Z = true) → Z.Warmed39 s.vm → (Jvm.Cond.selects D x y).before args s = true → NotFace s x) (w6 : Jvm.Cond.instanceMethod y ∈ tb) (w3 : Jvm.Cond.initialized y.cls ∈ tb) (w4 : Jvm.Cond.code y yc ym yr ∈ tb) (hy : x.cls ≠ "java/lang/invoke/MethodHandle" ∧ x.cls ≠ "java/lang/invoke/VarHandle") (E : Exa Z h a D) (con : Con l Z EL y yc ym yr rm (.ref a :: as).toArray h os' yQ you) (hos' : ∀ x ∈ os', x ∈ os) (pd : parseMethodDescriptor x.desc = some ⟨ps, r⟩) (hlen : as.length = ps.length) (hls : Ls.size = ml) (hwd : (rest.map fun v => v.category).sum ≤ wd) (hf : rm.frames + 1 ≤ R.frames) (hl : wd + (ym + 11) + rm.locals ≤ R.locals) (hc : k + rm.cells ≤ R.cells) (hs : n + rm.slots ≤ R.slots) (hst : st = as.reverse ++ .ref a :: rest)
    (K : ∀ v h', yQ v h' → W h' (you v ++ os) (k + rm.cells) (n + rm.slots) pc' Ls (v.toList ++ rest)) : W h os k n pc Ls st := by
  obtain ⟨p, e, s, m, args, below, meth, c, rfl, hx, hby, hml, hown0, hrt', hlk, hZ0, hnm, hw, hEL⟩ := C
  intro hE vm0 k0 T locs hS hk0 H hos X eT N
  have hZ : Z.Warmed39 (s.setVm vm0).vm := State.Warmed39.trans hZ0 hS.1
  have hown : (s.setVm vm0).vm.findClass own = some m.cls := by show vm0.findClass own = _; rw [hS.1.alike.findClass]; exact hown0
  subst hp
  obtain ⟨cq, kq, q1, q2, q3⟩ := isOf (T := T) hZ eT E
  obtain ⟨v, vm₁, ⟨T', L', k', n'⟩, -, X', hS', hgr, P, S⟩ := X.virtualBackS hx (y := x) (z := y) hown (mvT hZ (hw _ w1)) (mvT hZ (hw _ w2)) (nf args (s.setVm vm0) hw hZ (mvT hZ (hw _ w5))) (mvT hZ (hw _ w5)) (mvT hZ (hw _ w6)) hy (paid (vm0 := vm0) (wd := wd) con hE hZ (hw _ w4) (hw _ w3) hf hl hEL H.1 (hos.sub hos')) q1 q3 (g := mkF m pc Ls st) rfl (by show Ls.size = _; rw [hls, hml]) (Steps.refl _) (argsL := as) (rest := rest) (lenOf pd hlen) hst (by show 2 * 0 + _ ≤ _; omega) (hb hby hd) (fun _ _ => ⟨rfl, eT, hc, hs⟩)
  obtain ⟨Lc, ⟨hq, hE', hN⟩, l', y', z', hC, hO⟩ := P
  dsimp only [Pt.U, Pt.locs, Pt.cells, Pt.slots] at X' l' y' z' S hq hE' hS' hgr hC hO
  subst l' y' z'
  obtain ⟨u, o, h1, h2⟩ := K v T'.heap hq hE' T'.vm T'.heap.size T' _ (hS.trans hS' (Nat.le_trans hk0 (eT ▸ hgr))) (Nat.le_refl _) (H.trans hC) (hO.app (hos.on hC)) X' rfl (Fr.app N hN)
  exact ⟨u, o, S.trans h1, h2⟩
theorem nfSelf {x : MethodName} {D : String} : ∀ args s, (∀ d ∈ tb, d.before a0 Z = true) → Z.Warmed39 s.vm → (Jvm.Cond.selects D x x).before args s = true → NotFace s x := fun _ _ _ _ q => notFace_of_selects q
theorem Walk.callI (C : Walk W l Z a0 tb EL own code ml rt nm R Q ou) (pc' : Nat) {idx : Nat} {a : Addr} {y : MethodName} {yc : ByteArray} {ym : Nat} {yr : Option FieldType} {rm : Room} {as : List Value} {rest : List Value} {yQ : Option Value → Heap → Prop} {you : Option Value → List Addr} {os' : List Addr} {ps : List FieldType} {r : Option FieldType} (wd : Nat) (hd : decode code pc = .ok (.invokespecial idx, 3)) (hp : pc' = pc + 3) (hy1 : y.name = "<init>") (hyr : yr = none) (w1 : Jvm.Cond.methodLink own idx y ∈ tb) (w6 : Jvm.Cond.instanceMethod y ∈ tb) (w3 : Jvm.Cond.initialized y.cls ∈ tb) (w4 : Jvm.Cond.code y yc ym yr ∈ tb) (hy : y.cls ≠ "java/lang/invoke/MethodHandle" ∧ y.cls ≠ "java/lang/invoke/VarHandle") (con : Con l Z EL y yc ym yr rm (.ref a :: as).toArray h os' yQ you) (hos' : ∀ x ∈ os', x ∈ os) (pd : parseMethodDescriptor y.desc = some ⟨ps, r⟩) (hlen : as.length = ps.length) (hls : Ls.size = ml) (hwd : (rest.map fun v => v.category).sum ≤ wd) (hf : rm.frames + 1 ≤ R.frames) (hl : wd + (ym + 11) + rm.locals ≤ R.locals) (hc : k + rm.cells ≤ R.cells) (hs : n + rm.slots ≤ R.slots) (hst : st = as.reverse ++ .ref a :: rest)
    (K : ∀ v h', yQ v h' → W h' (you v ++ os) (k + rm.cells) (n + rm.slots) pc' Ls (v.toList ++ rest)) : W h os k n pc Ls st := by
  obtain ⟨p, e, s, m, args, below, meth, c, rfl, hx, hby, hml, hown0, hrt', hlk, hZ0, hnm, hw, hEL⟩ := C
  intro hE vm0 k0 T locs hS hk0 H hos X eT N
  have hZ : Z.Warmed39 (s.setVm vm0).vm := State.Warmed39.trans hZ0 hS.1
  have hown : (s.setVm vm0).vm.findClass own = some m.cls := by show vm0.findClass own = _; rw [hS.1.alike.findClass]; exact hown0
  subst hp
  subst hyr
  obtain ⟨v, vm₁, ⟨T', L', k', n'⟩, -, X', hS', hgr, P, S⟩ := X.specialBackS hx (y := y) hy1 hown (mvT hZ (hw _ w1)) (mvT hZ (hw _ w6)) (mvT hZ (hw _ w4)) hy (paid (vm0 := vm0) (wd := wd) con hE hZ (hw _ w4) (hw _ w3) hf hl hEL H.1 (hos.sub hos')) (g := mkF m pc Ls st) rfl (by show Ls.size = _; rw [hls, hml]) (Steps.refl _) (a := a) (argsL := as) (rest := rest) (lenOf pd hlen) hst (by show 2 * 0 + _ ≤ _; omega) (hb hby hd) (fun _ _ => ⟨rfl, eT, hc, hs⟩)
  obtain ⟨Lc, ⟨hq, hE', hN⟩, l', y', z', hC, hO⟩ := P
  dsimp only [Pt.U, Pt.locs, Pt.cells, Pt.slots] at X' l' y' z' S hq hE' hS' hgr hC hO
  subst l' y' z'
  obtain ⟨u, o, h1, h2⟩ := K v T'.heap hq hE' T'.vm T'.heap.size T' _ (hS.trans hS' (Nat.le_trans hk0 (eT ▸ hgr))) (Nat.le_refl _) (H.trans hC) (hO.app (hos.on hC)) X' rfl (Fr.app N hN)
  exact ⟨u, o, S.trans h1, h2⟩
theorem Walk.callP (C : Walk W l Z a0 tb EL own code ml rt nm R Q ou) (pc' : Nat) {idx : Nat} {a : Addr} {D : String} {y : MethodName} {yc : ByteArray} {ym : Nat} {yr : Option FieldType} {rm : Room} {as : List Value} {rest : List Value} {yQ : Option Value → Heap → Prop} {you : Option Value → List Addr} {os' : List Addr} {ps : List FieldType} {r : Option FieldType} (wd : Nat) (hd : decode code pc = .ok (.invokevirtual idx, 3)) (hp : pc' = pc + 3) (w1 : Jvm.Cond.methodLink own idx y ∈ tb) (w5 : Jvm.Cond.selects y.cls y y ∈ tb) (w7 : Jvm.Cond.privateMethod y ∈ tb) (w6 : Jvm.Cond.instanceMethod y ∈ tb) (w3 : Jvm.Cond.initialized y.cls ∈ tb) (w4 : Jvm.Cond.code y yc ym yr ∈ tb) (hy : y.cls ≠ "java/lang/invoke/MethodHandle" ∧ y.cls ≠ "java/lang/invoke/VarHandle") (E : Exa Z h a D) (con : Con l Z EL y yc ym yr rm (.ref a :: as).toArray h os' yQ you) (hos' : ∀ x ∈ os', x ∈ os) (pd : parseMethodDescriptor y.desc = some ⟨ps, r⟩) (hlen : as.length = ps.length) (hls : Ls.size = ml) (hwd : (rest.map fun v => v.category).sum ≤ wd) (hf : rm.frames + 1 ≤ R.frames) (hl : wd + (ym + 11) + rm.locals ≤ R.locals) (hc : k + rm.cells ≤ R.cells) (hs : n + rm.slots ≤ R.slots) (hst : st = as.reverse ++ .ref a :: rest)
    (K : ∀ v h', yQ v h' → W h' (you v ++ os) (k + rm.cells) (n + rm.slots) pc' Ls (v.toList ++ rest)) : W h os k n pc Ls st := by
  obtain ⟨p, e, s, m, args, below, meth, c, rfl, hx, hby, hml, hown0, hrt', hlk, hZ0, hnm, hw, hEL⟩ := C
  intro hE vm0 k0 T locs hS hk0 H hos X eT N
  have hZ : Z.Warmed39 (s.setVm vm0).vm := State.Warmed39.trans hZ0 hS.1
  have hown : (s.setVm vm0).vm.findClass own = some m.cls := by show vm0.findClass own = _; rw [hS.1.alike.findClass]; exact hown0
  subst hp
  obtain ⟨cell, hcl, hob⟩ := E.cell
  obtain ⟨v, vm₁, ⟨T', L', k', n'⟩, -, X', hS', hgr, P, S⟩ := X.privateBackS hx (y := y) hown (mvT hZ (hw _ w1)) (mvT hZ (hw _ w6)) (mvT hZ (hw _ w5)) (Cond.privateMethod_at (mvP (s := s.setVm vm0) (args := args) hZ (hw _ w7))) (mvT hZ (hw _ w4)) hy (paid (vm0 := vm0) (wd := wd) con hE hZ (hw _ w4) (hw _ w3) hf hl hEL H.1 (hos.sub hos')) (g := mkF m pc Ls st) rfl (by show Ls.size = _; rw [hls, hml]) (Steps.refl _) (a := a) (by rw [eT]; exact hcl) hob (argsL := as) (rest := rest) (lenOf pd hlen) hst (by show 2 * 0 + _ ≤ _; omega) (hb hby hd) (fun _ _ => ⟨rfl, eT, hc, hs⟩)
  obtain ⟨Lc, ⟨hq, hE', hN⟩, l', y', z', hC, hO⟩ := P
  dsimp only [Pt.U, Pt.locs, Pt.cells, Pt.slots] at X' l' y' z' S hq hE' hS' hgr hC hO
  subst l' y' z'
  obtain ⟨u, o, h1, h2⟩ := K v T'.heap hq hE' T'.vm T'.heap.size T' _ (hS.trans hS' (Nat.le_trans hk0 (eT ▸ hgr))) (Nat.le_refl _) (H.trans hC) (hO.app (hos.on hC)) X' rfl (Fr.app N hN)
  exact ⟨u, o, S.trans h1, h2⟩
theorem Walk.callF (C : Walk W l Z a0 tb EL own code ml rt nm R Q ou) (pc' : Nat) {idx cnt : Nat} {a : Addr} {D : String} {x : MethodName} {y : MethodName} {yc : ByteArray} {ym : Nat} {yr : Option FieldType} {rm : Room} {as : List Value} {rest : List Value} {yQ : Option Value → Heap → Prop} {you : Option Value → List Addr} {os' : List Addr} {ps : List FieldType} {r : Option FieldType} (wd : Nat) (hd : decode code pc = .ok (.invokeinterface idx cnt, 5)) (hp : pc' = pc + 5) (w1 : Jvm.Cond.methodLink own idx x ∈ tb) (w2 : Jvm.Cond.declares x ∈ tb) (w7 : Jvm.Cond.interfaceMethod x.cls x.cls x.name x.desc ∈ tb) (w5 : Jvm.Cond.selects D x y ∈ tb) (w6 : Jvm.Cond.instanceMethod y ∈ tb) (w8 : Jvm.Cond.publicMethod y ∈ tb) (w9 : Jvm.Cond.unhidden D x.name x.desc ∈ tb) (w10 : Jvm.Cond.castable D x.cls ∈ tb) (hI : ((Jvm.Cond.interfaceMethod x.cls x.cls x.name x.desc).onTables && (Jvm.Cond.interfaceMethod x.cls x.cls x.name x.desc).keepsFace) = true) (w3 : Jvm.Cond.initialized y.cls ∈ tb) (w4 : Jvm.Cond.code y yc ym yr ∈ tb) (hy : x.cls ≠ "java/lang/invoke/MethodHandle" ∧ x.cls ≠ "java/lang/invoke/VarHandle") (E : Exa Z h a D) (con : Con l Z EL y yc ym yr rm (.ref a :: as).toArray h os' yQ you) (hos' : ∀ x ∈ os', x ∈ os) (pd : parseMethodDescriptor x.desc = some ⟨ps, r⟩) (hlen : as.length = ps.length) (hls : Ls.size = ml) (hwd : (rest.map fun v => v.category).sum ≤ wd) (hf : rm.frames + 1 ≤ R.frames) (hl : wd + (ym + 11) + rm.locals ≤ R.locals) (hc : k + rm.cells ≤ R.cells) (hs : n + rm.slots ≤ R.slots) (hst : st = as.reverse ++ .ref a :: rest)
    (K : ∀ v h', yQ v h' → W h' (you v ++ os) (k + rm.cells) (n + rm.slots) pc' Ls (v.toList ++ rest)) : W h os k n pc Ls st := by
  obtain ⟨p, e, s, m, args, below, meth, c, rfl, hx, hby, hml, hown0, hrt', hlk, hZ0, hnm, hw, hEL⟩ := C
  intro hE vm0 k0 T locs hS hk0 H hos X eT N
  have hZ : Z.Warmed39 (s.setVm vm0).vm := State.Warmed39.trans hZ0 hS.1
  have hown : (s.setVm vm0).vm.findClass own = some m.cls := by show vm0.findClass own = _; rw [hS.1.alike.findClass]; exact hown0
  subst hp
  obtain ⟨cq, kq, q1, q2, q3⟩ := isOf (T := T) hZ eT E
  obtain ⟨v, vm₁, ⟨T', L', k', n'⟩, -, X', hS', hgr, P, S⟩ := X.interfaceBackS hx (xi := x) (y := y) hown (mvT hZ (hw _ w1)) (mvT hZ (hw _ w2)) (mvT hZ (hw _ w7) hI) (mvT hZ (hw _ w5)) (mvT hZ (hw _ w6)) (mvT hZ (hw _ w8)) (mvT hZ (hw _ w9)) (mvT hZ (hw _ w10)) hy (paid (vm0 := vm0) (wd := wd) con hE hZ (hw _ w4) (hw _ w3) hf hl hEL H.1 (hos.sub hos')) q1 q2 q3 (g := mkF m pc Ls st) rfl (by show Ls.size = _; rw [hls, hml]) (Steps.refl _) (argsL := as) (rest := rest) (lenOf pd hlen) hst (by show 2 * 0 + _ ≤ _; omega) (hb hby hd) (fun _ _ => ⟨rfl, eT, hc, hs⟩)
  obtain ⟨Lc, ⟨hq, hE', hN⟩, l', y', z', hC, hO⟩ := P
  dsimp only [Pt.U, Pt.locs, Pt.cells, Pt.slots] at X' l' y' z' S hq hE' hS' hgr hC hO
  subst l' y' z'
  obtain ⟨u, o, h1, h2⟩ := K v T'.heap hq hE' T'.vm T'.heap.size T' _ (hS.trans hS' (Nat.le_trans hk0 (eT ▸ hgr))) (Nat.le_refl _) (H.trans hC) (hO.app (hos.on hC)) X' rfl (Fr.app N hN)
  exact ⟨u, o, S.trans h1, h2⟩
theorem Walk.instanceofT (C : Walk W l Z a0 tb EL own code ml rt nm R Q ou) (pc' : Nat) {idx : Nat} {D : String} {a : Addr} (hd : decode code pc = .ok (.instanceof idx, 3)) (hp : pc' = pc + 3) (w : Jvm.Cond.classLink own idx D ∈ tb) (I : Ins Z h a D true) (K : W h os k n pc' Ls (.int 1 :: st)) : W h os k n pc Ls (.ref a :: st) := by
  obtain ⟨p, e, s, m, args, below, meth, c, rfl, hx, hby, hml, hown0, hrt', hlk, hZ0, hnm, hw, hEL⟩ := C
  intro hE vm0 k0 T locs hS hk0 H hos X eT N
  have hZ : Z.Warmed39 (s.setVm vm0).vm := State.Warmed39.trans hZ0 hS.1
  have hown : (s.setVm vm0).vm.findClass own = some m.cls := by show vm0.findClass own = _; rw [hS.1.alike.findClass]; exact hown0
  subst hp
  obtain ⟨T', X', e', S⟩ := instY X hx hZ hown (hw _ w) eT I (g := mkF m pc Ls (.ref a :: st)) rfl rfl (hb hby hd)
  obtain ⟨u, o, h1, h2⟩ := K hE vm0 k0 T' _ hS hk0 H hos X' e' N
  exact ⟨u, o, S _ h1, h2⟩
theorem Ro.al {a : Addr} {D : String} {cA : ClassId} {vs : List Value} (A : Ro Z h a D cA vs) : Al Z h a (.object D) vs := by obtain ⟨c, A1, -, A3⟩ := A; exact ⟨c, A1, A3⟩
theorem Walk.aaloadA (C : Walk W l Z a0 tb EL own code ml rt nm R Q ou) (pc' : Nat) {a : Addr} {ty : FieldType} {vs : List Value} {j : Int32} (i : Nat) (v : Value) (hd : decode code pc = .ok (.aaload, 1)) (hp : pc' = pc + 1) (hty : ty.isReference = true) (A : Al Z h a ty vs) (hn : ¬ j < 0) (hi : j.toNatClampNeg = i) (hv : vs[i]? = some v)
    (K : W h os k n pc' Ls (v :: st)) : W h os k n pc Ls (.int j :: .ref a :: st) := by
  obtain ⟨p, e, s, m, args, below, meth, c, rfl, hx, hby, hml, hown0, hrt', hlk, hZ0, hnm, hw, hEL⟩ := C
  intro hE vm0 k0 T locs hS hk0 H hos X eT N
  have hZ : Z.Warmed39 (s.setVm vm0).vm := State.Warmed39.trans hZ0 hS.1
  have hown : (s.setVm vm0).vm.findClass own = some m.cls := by show vm0.findClass own = _; rw [hS.1.alike.findClass]; exact hown0
  subst hp
  obtain ⟨cl, A1, A3⟩ := A
  have hl : i < vs.length := (List.getElem?_eq_some_iff.mp hv).1
  have hj : ¬ (j < 0 ∨ cl.slots.size ≤ j.toNatClampNeg) := by rw [list_sz A3, hi]; exact fun q => q.elim hn (fun q => absurd hl (Nat.not_lt.mpr q))
  obtain ⟨u, o, h1, h2⟩ := K hE vm0 k0 T _ hS hk0 H hos X eT N
  exact ⟨u, o, X.aaload hx (by rw [eT]; exact A1.1) (State.isArrayOf_alike hZ.alike A1.2.1) hty A1.2.2 hj (by rw [hi, list_at A3]; exact hv) (g := mkF m pc Ls (.int j :: .ref a :: st)) rfl rfl (hb hby hd) _ h1, h2⟩
theorem Walk.clone (C : Walk W l Z a0 tb EL own code ml rt nm R Q ou) (pc' : Nat) {idx : Nat} {a : Addr} {ad : String} {cl : Cell} {ty : FieldType} (cap wd : Nat) (hd : decode code pc = .ok (.invokevirtual idx, 3)) (hp : pc' = pc + 3) (w1 : Jvm.Cond.methodLink own idx ⟨ad, "clone", "()Ljava/lang/Object;"⟩ ∈ tb) (w2 : Jvm.Cond.sameMethod ad "java/lang/Object" "clone" "()Ljava/lang/Object;" ∈ tb) (w3 : Jvm.Cond.native ⟨"java/lang/Object", "clone", "()Ljava/lang/Object;"⟩ ∈ tb) (w4 : Jvm.Cond.instanceMethod ⟨"java/lang/Object", "clone", "()Ljava/lang/Object;"⟩ ∈ tb) (w5 : Jvm.Cond.selects ad ⟨ad, "clone", "()Ljava/lang/Object;"⟩ ⟨"java/lang/Object", "clone", "()Ljava/lang/Object;"⟩ ∈ tb) (w6 : Jvm.Cond.castable ad "java/lang/Cloneable" ∈ tb)
    (A : Arr Z h a cl ty) (E : Exa Z h a ad) (F : FitC Z cl) (hls : Ls.size = ml) (hf : 1 ≤ R.frames) (hwd : (st.map fun v => v.category).sum ≤ wd) (hl : wd + 14 ≤ R.locals) (hcap : cl.slots.size ≤ cap) (hc : k + 1 ≤ R.cells) (hs : n + cap ≤ R.slots)
    (K : ∀ h', Ext h h' → Al Z h' h.size ty cl.slots.toList → Exa Z h' h.size ad → W h' (h.size :: os) (k + 1) (n + cap) pc' Ls (.ref h.size :: st)) : W h os k n pc Ls (.ref a :: st) := by
  obtain ⟨p, e, s, m, args, below, meth, c, rfl, hx, hby, hml, hown0, hrt', hlk, hZ0, hnm, hw, hEL⟩ := C
  intro hE vm0 k0 T locs hS hk0 H hos X eT N
  have hZ : Z.Warmed39 (s.setVm vm0).vm := State.Warmed39.trans hZ0 hS.1
  have hown : (s.setVm vm0).vm.findClass own = some m.cls := by show vm0.findClass own = _; rw [hS.1.alike.findClass]; exact hown0
  subst hp
  obtain ⟨T', h', X', e', E', A', X2, S⟩ := cloneA X hx hZ hown (hw _ w1) (hw _ w2) (hw _ w3) (hw _ w4) (hw _ w5) (hw _ w6) eT A E F (g := mkF m pc Ls (.ref a :: st)) rfl (by show Ls.size = _; rw [hls, hml]) rfl (hb hby hd) hf (W := wd) (cap := cap) (by show 2 * 0 + _ ≤ _; omega) hl hcap hc hs
  obtain ⟨u, o, h1, h2⟩ := K h' E' ⟨_, A', rfl⟩ X2 (Old.ext (n0 := Z.heap.size) ⟨rfl, hE⟩ E').2 vm0 k0 T' _ hS (Nat.le_trans hk0 E'.1) (H.trans (CHr.ext E' H.1)) (hos.made E' H.1 hE.1 A'.lt) X' e' N
  exact ⟨u, o, S _ h1, h2⟩
theorem al_of_arv {b : Addr} {kc : ClassId} {ty : FieldType} {z : Int32} {vs : List Value} {d : Value} (F : Arv Z h b kc ty z vs d) (hl : z.toNatClampNeg = vs.length) : Jvm.Own.Al Z h b ty vs := by
  obtain ⟨c, A, -, s1, -, hh, -⟩ := F
  refine ⟨c, A, ?_⟩
  apply List.ext_getElem?
  intro i
  rw [← Jvm.Own.list_at rfl i]
  by_cases hi : i < vs.length
  · rw [hh i (by omega)]; simp [List.getD, hi]
  · rw [Array.getElem?_eq_none (by omega), List.getElem?_eq_none (by omega)]
theorem Walk.ldcC (C : Walk W l Z a0 tb EL own code ml rt nm R Q ou) (pc' : Nat) {idx : Nat} {text : String} {vs : List Value} (z : Int32) (cap : Nat) (hd : decode code pc = .ok (.ldc idx, 2)) (hp : pc' = pc + 2) (w : Jvm.Cond.stringLink own idx text ∈ tb) (wS : ∀ a ∈ Bundle.stringAtoms, a.before a0 Z = true) (hm : (own, idx) ∈ EL)
    (ht : (∀ c ∈ text.toList, c.toNat < 256) ∧ text.toList.map (fun c => Value.int (Jvm.Lit.byteI c.toNat.toUInt16)) = vs) (hz : ¬ z < 0) (hl : z.toNatClampNeg = vs.length) (hn : 4 * text.toList.length ≤ cap) (hb' : cap ≤ 536870912) (hc : k + 2 ≤ R.cells) (hl' : n + (cap + 4) ≤ R.slots)
    (K : ∀ h' a b, Ext h h' → Exa Z h' a "java/lang/String" → Fld Z h' a "java/lang/String" "value" "[B" (.ref b) → Fld Z h' a "java/lang/String" "coder" "B" (.int 0) → Al Z h' b .byte vs → (∀ x ∈ os, x ≠ a ∧ x ≠ b) → W h' os (k + 2) (n + (cap + 4)) pc' Ls (.ref a :: st)) : W h os k n pc Ls st := by
  obtain ⟨p, e, s, m, args, below, meth, c, rfl, hx, hby, hml, hown0, hrt', hlk, hZ0, hnm, hw, hEL⟩ := C
  intro hE vm0 k0 T locs hS hk0 H hos X eT N
  have hZ : Z.Warmed39 (s.setVm vm0).vm := State.Warmed39.trans hZ0 hS.1
  have hown : (s.setVm vm0).vm.findClass own = some m.cls := by show vm0.findClass own = _; rw [hS.1.alike.findClass]; exact hown0
  subst hp
  obtain ⟨a, T', h', k1, b, kc, X', e', E', hS2, hk2, hZ2, hown2, q1, q2, q3, q4, q5, q6, hC, hL, hne, S⟩ := ldcCH X hx hZ hown (hw _ w) wS eT hS hk0 hEL hm H.1 ht hz hl (g := mkF m pc Ls st) rfl (hb hby hd) hn hb' hc hl'
  obtain ⟨u, o, h1, h2⟩ := K h' a b E' q1 q3 q2 (al_of_arv q4 hl) (fun x hx => hne x ((hos.on hC) x hx).2.1) (Old.ext (n0 := Z.heap.size) ⟨rfl, hE⟩ E').2 T'.vm k1 T' _ hS2 hk2 (H.trans hC) (hos.on hC) X' e' N
  exact ⟨u, o, S _ h1, h2⟩
theorem Walk.ldcO (C : Walk W l Z a0 tb EL own code ml rt nm R Q ou) (pc' : Nat) {idx : Nat} {text : String} (cap : Nat) (hd : decode code pc = .ok (.ldc idx, 2)) (hp : pc' = pc + 2) (w : Jvm.Cond.stringLink own idx text ∈ tb) (wS : ∀ a ∈ Bundle.stringAtoms, a.before a0 Z = true)
    (hn : 4 * text.toList.length ≤ cap) (hb' : cap ≤ 536870912) (hc : k + 2 ≤ R.cells) (hl' : n + (cap + 4) ≤ R.slots)
    (K : ∀ h' a, Ext h h' → W h' os (k + 2) (n + (cap + 4)) pc' Ls (.ref a :: st)) : W h os k n pc Ls st := by
  obtain ⟨p, e, s, m, args, below, meth, c, rfl, hx, hby, hml, hown0, hrt', hlk, hZ0, hnm, hw, hEL⟩ := C
  intro hE vm0 k0 T locs hS hk0 H hos X eT N
  have hZ : Z.Warmed39 (s.setVm vm0).vm := State.Warmed39.trans hZ0 hS.1
  have hown : (s.setVm vm0).vm.findClass own = some m.cls := by show vm0.findClass own = _; rw [hS.1.alike.findClass]; exact hown0
  subst hp
  obtain ⟨a, T', h', k1, X', e', E', hS2, hk2, hZ2, hown2, hC, hL, S⟩ := ldcOH X hx hZ hown (hw _ w) wS eT hS hk0 hEL H.1 (g := mkF m pc Ls st) rfl (hb hby hd) hn hb' hc hl'
  obtain ⟨u, o, h1, h2⟩ := K h' a E' (Old.ext (n0 := Z.heap.size) ⟨rfl, hE⟩ E').2 T'.vm k1 T' _ hS2 hk2 (H.trans hC) (hos.on hC) X' e' N
  exact ⟨u, o, S _ h1, h2⟩
end Rules
end Jvm.Own
namespace Jvm.Own
open Sem ClassFile Op Lib Bundle Jvm.Stand Jvm.Free Jvm.LawKit Jvm.RoadKit Jvm.Free.SB Jvm.Free.SBG
/-! THE WIDE LAYER's TWO LATE RULES: 'ldc_w' of the empty constant, and System.arraycopy on byte arrays. -/
section LdcW
variable {p : Program} {l : Launch} {e : Env} {R : Room} {s : State} {m : MethodId} {args : Array Value} {below : List Frame} {meth : Method} {c : Code} {T : State} {locs : List Loc} {cells slots : Nat}
/-- a load has booked the String a: the tables, the heap, and, where the String is new, her text -/
def Loads (s T T2 : State) (cls : ClassId) (ix : Nat) (a : Addr) : Prop :=
  s.Since T2.vm T2.heap.size ∧ (∃ k, T2.vm.classes[cls]? = some k ∧ k.resolved[ix]? = some (some (.string a))) ∧ Ext T.heap T2.heap ∧ T.Warmed39 T2.vm ∧
    (T2.vm.interned = T.vm.interned ∨ ∃ us : Array UInt16, T2.vm.interned = T.vm.interned.push (us, a) ∧ T.vm.interned.find? (fun p => p.1 == us) = none ∧ (us.all (· < 256) = true → SlIn 0 T.heap.size T2 a us))
theorem push2 {h : Heap} {x y : Cell} : Ext h ((h.push x).push y) ∧ ((h.push x).push y)[h.size]? = some x ∧ ((h.push x).push y)[h.size + 1]? = some y ∧ ((h.push x).push y).size = h.size + 2 := by
  refine ⟨⟨by simp only [Array.size_push]; omega, fun a c q => ?_⟩, ?_, ?_, by simp⟩
  · have := (Array.getElem?_eq_some_iff.mp q).1
    rw [Array.getElem?_push_lt (by rw [Array.size_push]; omega), Array.getElem_push_lt this]
    exact congrArg some (Array.getElem?_eq_some_iff.mp q).2
  · simp [Array.getElem?_push]
  · rw [Array.getElem?_push, if_pos (by rw [Array.size_push])]
theorem ldcW0 (X : Stand p l e R s m args below meth c T locs cells slots) (hx : p.tables.exec = Jvm.exec) {own text : String} {ix : Nat} (hown : s.vm.findClass own = some m.cls) (w : (Cond.stringLink own ix text).before args s = true) (wS : ∀ a ∈ stringAtoms, a.before args s = true)
    {g : JFrame} (hg : g.method = m) (hd : decode c.code g.pc = .ok (.ldc_w ix, 3)) {n : Nat} (hn : 4 * text.toList.length ≤ n) (hb : n ≤ 536870912) (h1 : cells + 2 ≤ R.cells) (h2 : slots + (n + 4) ≤ R.slots) :
    ∃ (a : Addr) (T2 : State), Stand p l e R (s.setVm T2.vm) m args below meth c T2 locs (cells + 2) (slots + (n + 4)) ∧ Loads s T T2 m.cls ix a ∧
      ∀ t, Steps p.tables e below (T2.setTop { g with pc := g.pc + 3, stack := .ref a :: g.stack }) t → Steps p.tables e below (T.setTop g) t := by
  subst hg
  obtain ⟨k, cf, i, us, hk, hcf, hci, hui, hnm, htx, hst⟩ := Cond.stringLink_spec hown w
  obtain ⟨kT, hkT, heq⟩ := X.warmed.alike.2.2 _ _ hk
  have hcfT : kT.cf = some cf := by rw [heq]; exact hcf
  have small : (stringBytes us).size ≤ n := Nat.le_trans (text_bytes_le htx) hn
  have names : ∀ kk : Class, kk.cf = some cf → kk.cf.bind (namesOf? ·.constantPool ix) = some (.string text) ∧ kk.cf.bind (·.constantPool[ix]?) = some (.string i) ∧ kk.cf.bind (·.constantPool.utf8? i) = some us := fun kk q => by
    rw [q]; exact ⟨hnm, hci, by simp [ConstantPool.utf8?, hui]⟩
  obtain ⟨a1, a2, a3⟩ := names k hcf
  obtain ⟨b1, b2, b3⟩ := names kT hcfT
  have X' : Stand p l e R s g.method args below meth c T locs (cells + 2) (slots + (n + 4)) := X.mono (by omega) (by omega)
  have cases3 : (∃ a, kT.resolved[ix]? = some (some (.string a))) ∨ (kT.resolved[ix]? = some none ∧ k.resolved[ix]? = some none) := by
    rcases X.warmed.wide.entry hk hkT ix with q | ⟨-, r, q, z | ⟨a, t, rfl, -⟩⟩
    · rcases hst with z | ⟨a, z⟩
      · exact Or.inr ⟨q.trans z, z⟩
      · exact Or.inl ⟨a, q.trans z⟩
    · cases r <;> simp [State.rightAt, hk, hcf, hnm] at z
    · exact Or.inl ⟨a, q⟩
  rcases cases3 with ⟨a, q⟩ | ⟨oT, os⟩
  · refine ⟨a, T, X'.retabled X.warmed.wide, ⟨X.warmed.since _, ⟨kT, hkT, q⟩, ⟨Nat.le_refl _, fun _ _ z => z⟩, State.Warmed39.refl T, Or.inl rfl⟩, fun t ht => ?_⟩
    jvm_step X.here [hx, hd, ldc_w.wp_string (e := e) (s := T) (f := g) X.here.top hkT hcfT hci q]
    exact ht
  · cases hf : T.vm.interned.find? (fun p => p.1 == us) with
    | some pr =>
      obtain ⟨u0, a⟩ := pr
      obtain rfl : u0 = us := by simpa using Array.find?_some hf
      have hW := X.warmed.wide.notedString hk (Or.inl os) a1 a2 a3 hf
      refine ⟨a, T.setVm (T.vm.noted g.method.cls ix (.string a)), X'.retabled hW, ⟨⟨hW, State.Booked.step (T₂ := T.setVm (T.vm.noted g.method.cls ix (.string a))) (X.warmed.no_new_pair _) X.same.2.1 ⟨Nat.le_refl _, Or.inl rfl⟩⟩, ⟨_, Vm.classes_note_self ix (.string a) hkT, Class.resolved_note_self (.string a) oT⟩, ⟨Nat.le_refl _, fun _ _ z => z⟩, (State.Warmed39.refl T).notedString hkT (Or.inl oT) b1 b2 b3 hf, Or.inl rfl⟩, fun t ht => ?_⟩
      jvm_step X.here [hx, hd, ldc_w.wp_string_found (e := e) (s := T) (f := g) X.here.top hkT hcfT hci hui oT hf]
      exact ht
    | none =>
      obtain ⟨G, LG, g4, gv, gc⟩ := StringT.of_atoms (args := args) wS
      obtain ⟨kS, kB, LT, tyS⟩ := LG.warmer X.warmed.alike
      have fitT : T.fitsSlot = s.fitsSlot := (show T.fitsSlot = (s.setVm T.vm).fitsSlot from rfl).trans (State.fitsSlot_setVm X.warmed.alike)
      obtain ⟨V, eV⟩ : ∃ V : Vm, V = { T.vm with interned := T.vm.interned.push (us, T.heap.size + 1) } := ⟨_, rfl⟩
      have hfV : V.interned.find? (fun p => p.1 == us) = some (us, T.heap.size + 1) := by
        rw [eV]; show (T.vm.interned.push (us, T.heap.size + 1)).find? _ = _
        rw [Array.find?_push, hf]; simp
      have clV : V.classes[g.method.cls]? = some kT := by rw [eV]; exact hkT
      obtain ⟨U, eU⟩ : ∃ U : State, U = (withString T G.cB G.cS kS G.fv G.fc us).setVm (V.noted g.method.cls ix (.string (T.heap.size + 1))) := ⟨_, rfl⟩
      have eH : U.heap = (T.heap.push (bytesOf G.cB us)).push (stringAt G.cS kS G.fv G.fc us T.heap.size) := by
        rw [eU]; show (withString T G.cB G.cS kS G.fv G.fc us).heap = _
        rw [withString_eq]; rfl
      have eW : U.vm = V.noted g.method.cls ix (.string (T.heap.size + 1)) := by rw [eU]; rfl
      obtain ⟨p1, p2, p3, p4⟩ := push2 (h := T.heap) (x := bytesOf G.cB us) (y := stringAt G.cS kS G.fv G.fc us T.heap.size)
      rw [← eH] at p1 p2 p3 p4
      have hW : s.Warmed39 U.vm := by rw [eW, eV]; exact (X.warmed.wide.interns us (T.heap.size + 1)).notedString hk (Or.inl os) a1 a2 a3 (eV ▸ hfV)
      have hT : T.Warmed39 U.vm := by rw [eW, eV]; exact ((State.Warmed39.refl T).interns us (T.heap.size + 1)).notedString hkT (Or.inl oT) b1 b2 b3 (eV ▸ hfV)
      have ei : U.vm.interned = T.vm.interned.push (us, T.heap.size + 1) := by rw [eW, eV]; rfl
      have one : T.Interned1 U := ⟨p1.1, Or.inr ⟨us, T.heap.size + 1, ei, Nat.le_succ _, by rw [p4]; exact Nat.lt_succ_self _⟩⟩
      have sz1 : (bytesOf G.cB us).slots.size = (stringBytes us).size := by rw [(Cell.writeAll_facts _ _).2.2]; simp [bytes0]
      have sz2 : (stringAt G.cS kS G.fv G.fc us T.heap.size).slots.size = 4 := by simp [string0, Cell.setSlot, tyS, g4]
      have X2 := (X.pushed (bytesOf G.cB us)).pushed (stringAt G.cS kS G.fv G.fc us T.heap.size)
      rw [← withString_eq] at X2
      have X3 : Stand p l e R s g.method args below meth c (withString T G.cB G.cS kS G.fv G.fc us) locs (cells + 2) (slots + (n + 4)) := X2.mono (by omega) (by rw [sz1, sz2]; omega)
      replace X3 := X3.retabled (eW ▸ hW)
      rw [← eU, ← eW] at X3
      refine ⟨T.heap.size + 1, U, X3, ⟨⟨hW, State.Booked.step (X.warmed.no_new_pair _) X.same.2.1 one⟩, ?_, p1, hT, Or.inr ⟨us, ei, hf, fun hl => made_sl wS LG g4 tyS hW.alike p2 p3 hl (by omega) 0⟩⟩, fun t ht => ?_⟩
      · rw [eW]; exact ⟨_, Vm.classes_note_self ix (.string (T.heap.size + 1)) clV, Class.resolved_note_self (.string (T.heap.size + 1)) oT⟩
      · refine Steps.instr (c := _) (by simpa using X.here) ?_
        simp [jvm, wpRun, exec, X.here.top, hx, hd]
        refine ldc_w.wp_string_new (e := e) (s := T) (f := g) X.here.top hkT hcfT hci hui oT hf LT.found LT.cls LT.initialized LT.ordinary LT.foundB LT.clsB LT.kindB LT.value LT.coder ?_ ?_ (X.cellsAbove h1) ?_
          (stringBytes_fit LT.clsB LT.kindB us) LT.valueSlot LT.coderSlot (by rw [fitT]; exact gv _) (by rw [fitT]; exact gc _) (fun d' acts' => ?_)
        · rw [Launch.admits_arrayLengthLimit X.admits]; omega
        · rw [Launch.admits_maxHeapBytes X.admits]; simp only [componentBytes]; omega
        · have := X.slotsAbove h2
          show T.slotsUsed + (stringBytes us).size + kS.instanceTypes.size ≤ _
          rw [tyS, g4]; omega
        · intro acts2
          rw [eU, eV] at ht
          have top1 : (withString T G.cB G.cS kS G.fv G.fc us).topJava?.isSome := by simpa [withString] using X.here.top
          have top2 : ((withString T G.cB G.cS kS G.fv G.fc us).setVm (({ T.vm with interned := T.vm.interned.push (us, T.heap.size + 1) } : Vm).noted g.method.cls ix (.string (T.heap.size + 1)))).topJava?.isSome := by simpa using top1
          simp [jvm, afterInstr, top1, top2]
          rw [State.modifyTopJava_setTop]
          exact ht
end LdcW
section Rules2
variable {W : Wk} {l : Launch} {Z : State} {EL : List (String × Nat)} {a0 : Array Value} {tb : List Jvm.Cond} {own : String} {code : ByteArray} {ml : Nat} {rt : Option FieldType} {nm : String} {R : Room} {Q : Option Value → Heap → Prop} {ou : Option Value → List Addr} {h : Heap} {os : List Addr} {k n pc : Nat} {Ls : Array Slot} {st : List Value}
/-- the empty text, as the carried word tells it -/
theorem slb_empty {vm : Vm} (hal : Z.vm.Alike vm) {q : SQ} {us : Array UInt16} (F : SlB (Wst Z vm h) q us) (h0 : us = #[]) :
    Exa Z h q.sa "java/lang/String" ∧ Fld Z h q.sa "java/lang/String" "value" "[B" (.ref q.sd) ∧ Fld Z h q.sa "java/lang/String" "coder" "B" (.int 0) ∧ Al Z h q.sd .byte [] := by
  obtain ⟨cS, ⟨⟨s1, s2, s3, ⟨cv, kv, iv, f1, f2⟩, ⟨cc, kc, ic, f3, f4⟩, s6, s7, s8, s9, s10, s11, s12, -⟩, hfS, hcS⟩, ⟨kS, k1, k2, k3⟩, hB, hby⟩ := F
  obtain ⟨kv', z4⟩ := ff_back (U := Wst Z vm h) hal f1
  obtain ⟨kc', z5⟩ := ff_back (U := Wst Z vm h) hal f3
  have hfZ : Z.vm.findClass "java/lang/String" = some q.sC.cls := by rw [← hal.findClass, hcS]; exact hfS
  obtain ⟨kz, hkz, -⟩ := Vm.findClass_spec hfZ
  obtain ⟨kz', hkz', ekz⟩ := hal.2.2 _ _ hkz
  have k1 : vm.classes[cS]? = some kS := k1
  have ekS : kz' = kS := Option.some.inj (hkz'.symm.trans (hcS ▸ k1))
  obtain ⟨hst, k9, hk9, comp, hkind9⟩ := s11
  have hB : vm.findClass "[B" = some q.SA.cls := hB
  obtain ⟨kb, hkb, -⟩ := Vm.findClass_spec (vm := Z.vm) (by rw [← hal.findClass]; exact hB)
  obtain ⟨kb', hkb', ek⟩ := hal.2.2 _ _ hkb
  have hk9 : vm.classes[q.SA.cls]? = some k9 := hk9
  have ekb : kb.kind = k9.kind := by rw [Option.some.inj (hk9.symm.trans hkb'), ek]
  refine ⟨⟨q.sC, kz, s1, hfZ, hkz, s3, fun _ => by rw [k3, ← ekS, ekz]⟩, ⟨q.sC, cv, kv', iv, q.fSV, s1, z4, s6, s2, s3, by rw [← hal.assignable]; exact f2, s8⟩, ⟨q.sC, cc, kc', ic, q.fSC, s1, z5, s7, s2, s3, by rw [← hal.assignable]; exact f4, s9⟩, ⟨q.SA, ⟨s10, ⟨hst, kb, hkb, comp, by rw [ekb]; exact hkind9⟩, s12⟩, ?_⟩⟩
  rw [hby, h0, SBG.stringBytes_lat (by simp)]; simp
theorem Walk.ldcWE (C : Walk W l Z a0 tb EL own code ml rt nm R Q ou) (pc' : Nat) {idx : Nat} (hd : decode code pc = .ok (.ldc_w idx, 3)) (hp : pc' = pc + 3) (w : Jvm.Cond.stringLink own idx "" ∈ tb) (wS : ∀ a ∈ Bundle.stringAtoms, a.before a0 Z = true) (hm : (own, idx) ∈ EL)
    (hc : k + 2 ≤ R.cells) (hl' : n + 4 ≤ R.slots)
    (K : ∀ h' a b, Ext h h' → Exa Z h' a "java/lang/String" → Fld Z h' a "java/lang/String" "value" "[B" (.ref b) → Fld Z h' a "java/lang/String" "coder" "B" (.int 0) → Al Z h' b .byte [] → W h' os (k + 2) (n + 4) pc' Ls (.ref a :: st)) : W h os k n pc Ls st := by
  obtain ⟨p, e, s, m, args, below, meth, c, rfl, hx, hby, hml, hown0, hrt', hlk, hZ0, hnm, hw, hEL⟩ := C
  intro hE vm0 k0 T locs hS hk0 H hos X eT N
  have hZ : Z.Warmed39 (s.setVm vm0).vm := State.Warmed39.trans hZ0 hS.1
  have hown : (s.setVm vm0).vm.findClass own = some m.cls := by show vm0.findClass own = _; rw [hS.1.alike.findClass]; exact hown0
  subst hp
  obtain ⟨a, T', X', ⟨hS', ⟨kk, hkk, hrr⟩, E, hTW, hint⟩, S⟩ := ldcW0 X hx hown (mvS hZ (hw _ w)) (fun d hd => by
    have q := wS d hd
    simp only [Bundle.stringAtoms, List.mem_cons, List.not_mem_nil, or_false] at hd
    rcases hd with rfl | rfl | rfl | rfl | rfl | rfl | rfl
    · exact mv (s := s.setVm vm0) hZ q
    · exact mv (s := s.setVm vm0) hZ q
    · exact mvA (s := s.setVm vm0) hZ q
    · exact mv (s := s.setVm vm0) hZ q
    · exact mv (s := s.setVm vm0) hZ q
    · exact mv (s := s.setVm vm0) hZ q
    · exact mv (s := s.setVm vm0) hZ q) (g := mkF m pc Ls st) (n := 0) rfl (hb hby hd) (by decide) (by decide) hc (by omega)
  subst eT
  have hW : Z.Warmed39 T'.vm := State.Warmed39.trans (t := s.setVm vm0) hZ hS'.1
  have A := CHv.at X hZ hEL H.1
  have hZT : Z.Warmed39 T.vm := wtrans (s := s.setVm vm0) hZ X.warmed
  have B := CHv.later (vm := T.vm) (vm1 := T'.vm) hZT (show (Wst Z T.vm T.heap).Warmed39 T'.vm from hTW) hEL E (hint.imp id fun ⟨us, e1, e2, e3⟩ => ⟨us, a, e1, e2, fun hl => by
    obtain ⟨q, cS, hq, r1, r2, r3, r4, r5⟩ := e3 hl
    have F : SlB T' q us := ⟨cS, r1, r2, r3, r4⟩
    exact ⟨q, hq, F.carry (V := Wst Z T'.vm T'.heap) (Vm.Alike.refl _) F.ha F.hd, r5.resolve_left fun z => Nat.not_lt_zero _ z.1⟩⟩) A.1
  have hf : T'.vm.findClass own = some m.cls := by rw [hS'.1.alike.findClass]; exact hown
  have w2 : (Cond.stringLink own idx "").before a0 (Wst Z T'.vm T'.heap) = true := mvS (s := { Z with heap := T'.heap }) hW (hw _ w)
  obtain ⟨kx, cf, i, us, hkx, hcf, hp1, hu1, -, htext, -⟩ := Cond.stringLink_spec (s := Wst Z T'.vm T'.heap) hf w2
  have hkx : T'.vm.classes[m.cls]? = some kx := hkx
  cases hkk.symm.trans hkx
  obtain ⟨q, hqa, F⟩ := SlB.of (B.1 _ hm us a ⟨m.cls, _, cf, i, hf, hkk, hcf, hp1, hu1, Or.inl hrr⟩)
  have h0 : us = #[] := by
    have z := Jvm.ClassFile.units_of_text htext (by decide)
    exact Array.toList_inj.mp (by rw [z]; rfl)
  obtain ⟨g1, g2, g3, g4⟩ := slb_empty hW.alike F h0
  subst hqa
  have hC : CHr Z EL vm0 T.heap T'.vm T'.heap := A.trans ⟨B.1, E.1, B.2⟩
  obtain ⟨u, o, j1, j2⟩ := K T'.heap _ _ E g1 g2 g3 g4 (Old.ext (n0 := Z.heap.size) ⟨rfl, hE⟩ E).2 T'.vm _ T' _ (hS.trans hS' (Nat.le_trans hk0 E.1)) (Nat.le_refl _) (H.trans hC) (hos.on hC) X' rfl N
  exact ⟨u, o, S _ j1, j2⟩
theorem Ows.keep {vm : Vm} {h' : Heap} {ws : List Addr} (O : Ows Z EL vm h os) (K : Keep h h' ws) (S : ∀ x ∈ ws, Safe Z EL vm h x) (H : CHv Z EL vm h) : Ows Z EL vm h' os := fun x hx => ⟨(O x hx).1, Safe.keep K S H (O x hx).2.1, Nat.lt_of_lt_of_le (O x hx).2.2 K.1⟩
theorem arv_of_al {a : Addr} {vs : List Value} (A : Al Z h a .byte vs) (hl : vs.length < 2 ^ 31) (hf : ∀ v ∈ vs, fits .byte v = true) : ∃ kc, Arv Z h a kc .byte (Int32.ofNat vs.length) vs (.int 0) := by
  obtain ⟨c, A, rfl⟩ := A
  have e : (Int32.ofNat c.slots.toList.length).toNatClampNeg = c.slots.toList.length := by
    simp only [Int32.toNatClampNeg, Int32.toInt_ofNat_of_lt hl]; rfl
  refine ⟨c.cls, c, A, rfl, by rw [e, Array.length_toList], ?_, fun j hj => ?_, fun j hj => ?_⟩
  · rw [Int32.lt_iff_toInt_lt, Int32.toInt_ofNat_of_lt hl]; show ¬ (_ : Int) < 0; omega
  · simp [List.getD, hj]
  · have hj' : j < c.slots.toList.length := by rw [Array.length_toList]; exact hj
    have q : c.slots.toList.getD j (.int 0) = c.slots.toList[j] := by simp [List.getD, hj]
    rw [q]; exact hf _ (List.getElem_mem _)
/-- System.arraycopy of the first nn bytes into the whole of a new array -/
theorem Walk.acopy (C : Walk W l Z a0 tb EL own code ml rt nm R Q ou) (pc' : Nat) {idx : Nat} {src dst : Addr} {vs : List Value} (nn : Nat) (wd : Nat) (hd : decode code pc = .ok (.invokestatic idx, 3)) (hp : pc' = pc + 3)
    (w1 : Jvm.Cond.methodLink own idx ⟨"java/lang/System", "arraycopy", "(Ljava/lang/Object;ILjava/lang/Object;II)V"⟩ ∈ tb) (w2 : Jvm.Cond.native ⟨"java/lang/System", "arraycopy", "(Ljava/lang/Object;ILjava/lang/Object;II)V"⟩ ∈ tb) (w3 : Jvm.Cond.static ⟨"java/lang/System", "arraycopy", "(Ljava/lang/Object;ILjava/lang/Object;II)V"⟩ ∈ tb) (w4 : Jvm.Cond.initialized "java/lang/System" ∈ tb)
    (A : Al Z h src .byte vs) (B : Al Z h dst .byte (List.replicate nn (.int 0))) (hb' : dst ∈ os) (hl : vs.length < 2 ^ 31) (hf : ∀ v ∈ vs, fits .byte v = true) (hn : nn ≤ vs.length) (hls : Ls.size = ml) (hwd : (st.map fun v => v.category).sum ≤ wd) (hfr : 1 ≤ R.frames) (hlo : wd + 18 ≤ R.locals)
    (K : ∀ h', Keep h h' [dst] → Al Z h' dst .byte (vs.take nn) → W h' os k n pc' Ls st) : W h os k n pc Ls (.int (Int32.ofNat nn) :: .int 0 :: .ref dst :: .int 0 :: .ref src :: st) := by
  obtain ⟨p, e, s, m, args, below, meth, c, rfl, hx, hby, hml, hown0, hrt', hlk, hZ0, hnm, hw, hEL⟩ := C
  intro hE vm0 k0 T locs hS hk0 H hos X eT N
  have hZ : Z.Warmed39 (s.setVm vm0).vm := State.Warmed39.trans hZ0 hS.1
  have hown : (s.setVm vm0).vm.findClass own = some m.cls := by show vm0.findClass own = _; rw [hS.1.alike.findClass]; exact hown0
  subst hp
  obtain ⟨ka, A1⟩ := arv_of_al A hl hf
  have fr : ∀ v ∈ List.replicate nn (Value.int 0), fits .byte v = true := fun v hv => by rw [(List.mem_replicate.mp hv).2]; rfl
  obtain ⟨kb, B1⟩ := arv_of_al B (by rw [List.length_replicate]; omega) fr
  have cl : ∀ x : Nat, x < 2 ^ 31 → (Int32.ofNat x).toNatClampNeg = x := fun x hx => by simp only [Int32.toNatClampNeg, Int32.toInt_ofNat_of_lt hx]; rfl
  have nn0 : ¬ Int32.ofNat nn < 0 := by rw [Int32.lt_iff_toInt_lt, Int32.toInt_ofNat_of_lt (by omega)]; show ¬ (_ : Int) < 0; omega
  have z0 : (0 : Int32).toNatClampNeg = 0 := rfl
  have S1 : ∀ x ∈ [dst], Safe Z EL vm0 h x := fun x hx => by rw [List.mem_singleton.mp hx]; exact (hos dst hb').2.1
  obtain ⟨T', h', L, X', e', N', K', B', S⟩ := cpA (us := vs.take nn) X hx hZ hown (hw _ w1) (hw _ w2) (hw _ w3) (hw _ w4) eT A1 B1 (Or.inl ⟨rfl, rfl⟩) (by decide) (by decide) nn0 (by rw [cl _ hl, cl _ (by omega), z0]; omega) (by rw [List.length_replicate, cl _ (by omega), z0]; omega)
    (by
      rw [cl _ (by omega)]
      apply List.ext_getElem?
      intro i
      by_cases hi : i < nn
      · have hv : i < vs.length := by omega
        simp [List.getElem?_take, hi, List.getD, hv, z0]
      · rw [List.getElem?_eq_none (by rw [List.length_take]; omega), List.getElem?_eq_none (by simp; omega)])
    (by rw [List.length_replicate, cl _ (by omega), z0]; omega) N (hos dst hb').1 (g := mkF m pc Ls (.int (Int32.ofNat nn) :: .int 0 :: .ref dst :: .int 0 :: .ref src :: st)) rfl (by show Ls.size = _; rw [hls, hml]) (rest := st) rfl (hb hby hd) hfr (W := wd) (by show 2 * 0 + _ ≤ _; omega) (by show wd + (7 + 11) ≤ _; omega)
  have B2 : Al Z h' dst .byte (vs.take nn) := by
    rw [cl _ (by omega), z0] at B'
    simp only [List.take_zero, List.nil_append, Nat.zero_add] at B'
    rw [List.drop_eq_nil_of_le (by rw [List.length_replicate]; omega), List.append_nil] at B'
    exact al_of_arv B' (by rw [cl _ (by rw [List.length_replicate]; omega), List.length_replicate, List.length_take]; omega)
  obtain ⟨u, o, h1, h2⟩ := K h' K' B2 (Old.keep (n0 := Z.heap.size) ⟨rfl, hE⟩ K' (fun x hx => by rw [List.mem_singleton.mp hx]; exact (hos dst hb').1)).2 vm0 k0 T' _ hS (Nat.le_trans hk0 K'.1) (H.trans (CHr.keep K' S1 H.1)) (hos.keep K' S1 H.1) X' e' N'
  exact ⟨u, o, S _ h1, h2⟩
end Rules2
end Jvm.Own

namespace Jvm.Pilot.@@N@@
open Jvm Jvm.ClassFile Sem Op Lib Jvm.Free Jvm.Stand Jvm.LawKit Jvm.RoadKit Bundle Jvm.Own Jvm.Pilot.@@N@@.Jvm.D
theorem tw (i : Nat) {d : Jvm.Cond} (h : tables_1[i]? = some d := by rfl) : d ∈ tables_1 := List.mem_of_getElem? h
def EL0 : List (String × Nat) := [("java/lang/String", 7), ("java/lang/StringLatin1", 151), ("java/lang/StringUTF16", 295)]
theorem oI {x : Nat} (h : x < 2 ^ 31) : (Int32.ofNat x).toInt = x := Int32.toInt_ofNat_of_lt h
theorem o_lt {x y : Nat} (hx : x < 2 ^ 31) (hy : y < 2 ^ 31) : Int32.ofNat x < Int32.ofNat y ↔ x < y := by rw [Int32.lt_iff_toInt_lt, oI hx, oI hy]; omega
theorem o_add (x y : Nat) : Int32.ofNat x + Int32.ofNat y = Int32.ofNat (x + y) := (Int32.ofNat_add x y).symm
theorem o_nn {x : Nat} (h : x < 2 ^ 31) : ¬ Int32.ofNat x < 0 := by
  have e : (0 : Int32).toInt = 0 := rfl
  rw [Int32.lt_iff_toInt_lt, oI h, e]; omega
theorem o_cl {x : Nat} (h : x < 2 ^ 31) : (Int32.ofNat x).toNatClampNeg = x := clamp_of rfl h
theorem o_ne {x : Nat} (h : x < 2 ^ 31) (h0 : x ≠ 0) : ¬ Int32.ofNat x = 0 := fun q => by
  have r := congrArg Int32.toInt q
  have e : (0 : Int32).toInt = 0 := rfl
  rw [oI h, e] at r; omega
theorem o_inj {x y : Nat} (hx : x < 2 ^ 31) (hy : y < 2 ^ 31) (h : Int32.ofNat x = Int32.ofNat y) : x = y := by
  have r := congrArg Int32.toInt h
  rw [oI hx, oI hy] at r; omega
def by8 (c : Int32) : Int32 := c.toInt8.toInt32
theorem by8_nar (x : Int32) : nar .byte (by8 x) = by8 x := by
  show x.toInt8.toInt32.toInt8.toInt32 = x.toInt8.toInt32
  simp
abbrev iv' (xs : List Int32) : List Value := xs.map Value.int
def b0 (c : Int32) : Int32 := (c >>> ((0 : Int32) &&& 31)).toInt8.toInt32
def b1 (c : Int32) : Int32 := (c >>> ((8 : Int32) &&& 31)).toInt8.toInt32
theorem b0_nar (c : Int32) : nar .byte (b0 c) = b0 c := by8_nar (c >>> ((0 : Int32) &&& 31))
theorem b1_nar (c : Int32) : nar .byte (b1 c) = b1 c := by8_nar (c >>> ((8 : Int32) &&& 31))
def u16 : List Int32 → List Int32
  | [] => []
  | c :: cs => b0 c :: b1 c :: u16 cs
theorem u16_len : ∀ cs : List Int32, (u16 cs).length = 2 * cs.length
  | [] => rfl
  | c :: cs => by show (u16 cs).length + 1 + 1 = 2 * (cs.length + 1); rw [u16_len cs]; omega
theorem u16_app : ∀ (as bs : List Int32), u16 (as ++ bs) = u16 as ++ u16 bs
  | [], _ => rfl
  | c :: as, bs => by show b0 c :: b1 c :: u16 (as ++ bs) = _; rw [u16_app as bs]; rfl
theorem u16_0 : ∀ (cs : List Int32) (i : Nat) (c : Int32), cs[i]? = some c → (u16 cs)[2 * i]? = some (b0 c) ∧ (u16 cs)[2 * i + 1]? = some (b1 c)
  | [], i, c, h => by simp at h
  | d :: cs, 0, c, h => by
    have e : d = c := by simpa using h
    subst e; exact ⟨rfl, rfl⟩
  | d :: cs, i + 1, c, h => by
    have q := u16_0 cs i c (by simpa using h)
    rw [show 2 * (i + 1) = 2 * i + 1 + 1 by omega, show 2 * i + 1 + 1 + 1 = (2 * i + 1) + 1 + 1 by omega]
    simpa [u16] using q
/-- a char's range -/
def Ch (c : Int32) : Prop := 0 ≤ c.toInt ∧ c.toInt < 65536
def lat (cs : List Int32) : Prop := ∀ c ∈ cs, ¬ (255 : Int32) < c
instance (cs : List Int32) : Decidable (lat cs) := by unfold lat; exact inferInstance
theorem i255 : (255 : Int32).toInt = 255 := rfl
theorem gl8 {c : Int32} (h : Ch c) (hc : ¬ (255 : Int32) < c) : (by8 c &&& (255 : Int32)).toUInt32.toUInt16.toUInt32.toInt32 = c := by
  apply Int32.toInt_inj.mp
  rw [Int32.lt_iff_toInt_lt, i255] at hc
  have h1 := c_i2b c
  have h2 := c_mask (by8 c) (255 : Int32) 8 (by decide) (by decide)
  have h3 := c_i2c (by8 c &&& (255 : Int32))
  have e : (by8 c).toInt = c.toInt8.toInt32.toInt := rfl
  obtain ⟨q1, q2⟩ := h
  omega
theorem gl16 {c : Int32} (h : Ch c) : (((b0 c &&& (255 : Int32)) <<< ((0 : Int32) &&& 31)) ||| ((b1 c &&& (255 : Int32)) <<< ((8 : Int32) &&& 31))).toUInt32.toUInt16.toUInt32.toInt32 = c := by
  apply Int32.toInt_inj.mp
  obtain ⟨q1, q2⟩ := h
  have a1 := c_ishr c (0 : Int32) 0 (by decide)
  have a2 := c_ishr c (8 : Int32) 8 (by decide)
  have a3 := c_i2b (c >>> ((0 : Int32) &&& 31))
  have a4 := c_i2b (c >>> ((8 : Int32) &&& 31))
  have e0 : (b0 c).toInt = (c >>> ((0 : Int32) &&& 31)).toInt8.toInt32.toInt := rfl
  have e1 : (b1 c).toInt = (c >>> ((8 : Int32) &&& 31)).toInt8.toInt32.toInt := rfl
  have m0 := c_mask (b0 c) (255 : Int32) 8 (by decide) (by decide)
  have m1 := c_mask (b1 c) (255 : Int32) 8 (by decide) (by decide)
  have s0 := c_ishl (b0 c &&& (255 : Int32)) (0 : Int32) 0 (by decide)
  have s1 := c_ishl (b1 c &&& (255 : Int32)) (8 : Int32) 8 (by decide)
  have r0 := rng32 ((b0 c &&& (255 : Int32)) <<< ((0 : Int32) &&& 31))
  have r1 := rng32 ((b1 c &&& (255 : Int32)) <<< ((8 : Int32) &&& 31))
  have f0 : ((b0 c &&& (255 : Int32)) <<< ((0 : Int32) &&& 31)).toInt = c.toInt % 256 := by omega
  have f1 : ((b1 c &&& (255 : Int32)) <<< ((8 : Int32) &&& 31)).toInt = c.toInt / 256 * 256 := by omega
  have o1 := c_or' ((b0 c &&& (255 : Int32)) <<< ((0 : Int32) &&& 31)) ((b1 c &&& (255 : Int32)) <<< ((8 : Int32) &&& 31)) 8 (by decide) 256 rfl (by omega) (by omega) (by omega)
  have o2 := c_i2c (((b0 c &&& (255 : Int32)) <<< ((0 : Int32) &&& 31)) ||| ((b1 c &&& (255 : Int32)) <<< ((8 : Int32) &&& 31)))
  omega
theorem set2 {α : Type} (A B : List α) (x y z w : α) : ((A ++ x :: y :: B).set A.length z).set (A.length + 1) w = A ++ z :: w :: B := by
  induction A with
  | nil => rfl
  | cons a A ih => simpa using ih
def outR : Option Value → List Addr
  | some (.ref b) => [b]
  | _ => []
theorem ch_nar {c : Int32} (h : Ch c) : nar .char c = c := by
  apply Int32.toInt_inj.mp
  have q := c_i2c c
  obtain ⟨q1, q2⟩ := h
  show c.toUInt32.toUInt16.toUInt32.toInt32.toInt = _
  omega
def cod (cs : List Int32) : Int32 := if lat cs then 0 else 1
def enc (cs : List Int32) : List Int32 := if lat cs then cs.map by8 else u16 cs
/-- a String whose chars are cs, its bytes in the byte[] at b -/
def Str (Z : State) (h : Heap) (a b : Addr) (cs : List Int32) : Prop :=
  Exa Z h a "java/lang/String" ∧ Fld Z h a "java/lang/String" "value" "[B" (.ref b) ∧ Fld Z h a "java/lang/String" "coder" "B" (.int (cod cs)) ∧ Al Z h b .byte (iv' (enc cs))
theorem Str.keep {Z : State} {h h' : Heap} {a b : Addr} {cs : List Int32} {ws : List Addr} (S : Str Z h a b cs) (K : Keep h h' ws) (qa : a ∉ ws) (qb : b ∉ ws) : Str Z h' a b cs := ⟨S.1.keep K, S.2.1.keep K qa, S.2.2.1.keep K qa, S.2.2.2.keep K qb⟩
theorem Str.ext {Z : State} {h h' : Heap} {a b : Addr} {cs : List Int32} (S : Str Z h a b cs) (E : Ext h h') : Str Z h' a b cs := ⟨S.1.ext E, S.2.1.ext E, S.2.2.1.ext E, S.2.2.2.ext E⟩
theorem cod_nar (cs : List Int32) : nar .byte (cod cs) = cod cs := by unfold cod; split <;> rfl
theorem cod_l {cs : List Int32} (h : lat cs) : cod cs = 0 := if_pos h
theorem cod_u {cs : List Int32} (h : ¬ lat cs) : cod cs = 1 := if_neg h
theorem enc_l {cs : List Int32} (h : lat cs) : enc cs = cs.map by8 := if_pos h
theorem enc_u {cs : List Int32} (h : ¬ lat cs) : enc cs = u16 cs := if_neg h
theorem o_dbl {x : Nat} (h : x < 2 ^ 30) : Int32.ofNat x <<< ((1 : Int32) &&& 31) = Int32.ofNat (2 * x) := by
  apply Int32.toInt_inj.mp
  have s := c_ishl (Int32.ofNat x) (1 : Int32) 1 (by decide)
  have r := rng32 (Int32.ofNat x <<< ((1 : Int32) &&& 31))
  rw [oI (show x < 2 ^ 31 by omega)] at s
  rw [oI (show 2 * x < 2 ^ 31 by omega)]; omega
theorem o_half {x : Nat} (h : x < 2 ^ 30) : Int32.ofNat (2 * x) >>> ((1 : Int32) &&& 31) = Int32.ofNat x := by
  apply Int32.toInt_inj.mp
  have s := c_ishr (Int32.ofNat (2 * x)) (1 : Int32) 1 (by decide)
  rw [oI (show 2 * x < 2 ^ 31 by omega)] at s
  rw [s, oI (show x < 2 ^ 31 by omega)]; omega
theorem o_shr0 {x : Nat} (h : x < 2 ^ 30) : Int32.ofNat x >>> ((0 : Int32) &&& 31) = Int32.ofNat x := by
  apply Int32.toInt_inj.mp
  have s := c_ishr (Int32.ofNat x) (0 : Int32) 0 (by decide)
  rw [s]; omega
theorem o_cfu {x : Nat} (h : x < 2 ^ 30) (h0 : x ≠ 0) : (XT.ushr (Int32.ofNat x - Int32.ofNat (2 * x)) (31 : Int32)).toInt8.toInt32 = 1 := by
  have e : XT.ushr (Int32.ofNat x - Int32.ofNat (2 * x)) (31 : Int32) = 1 := by
    apply Int32.toInt_inj.mp
    have s := c_iushr (Int32.ofNat x - Int32.ofNat (2 * x)) (31 : Int32) 31 (by decide) (by decide)
    have d := c_isub (Int32.ofNat x) (Int32.ofNat (2 * x))
    rw [oI (show x < 2 ^ 31 by omega), oI (show 2 * x < 2 ^ 31 by omega)] at d
    have r := rng32 (Int32.ofNat x - Int32.ofNat (2 * x))
    have e1 : (1 : Int32).toInt = 1 := rfl
    show ((Int32.ofNat x - Int32.ofNat (2 * x)).toUInt32 >>> ((31 : Int32) &&& 31).toUInt32).toInt32.toInt = _
    rw [s, e1]; omega
  rw [e]; rfl
theorem pn0 : plainFor x = true := plainFor_of_name (by first | (simp [x, plainName, overriddenIn]; done) | decide +kernel)
theorem d15_0 : decode jdk_52_method_21_code 0 = .ok (.iconst 0, 1) := by decide +kernel
theorem d15_1 : decode jdk_52_method_21_code 1 = .ok (.istore 5, 2) := by decide +kernel
theorem d15_3 : decode jdk_52_method_21_code 3 = .ok (.iload 5, 2) := by decide +kernel
theorem d15_5 : decode jdk_52_method_21_code 5 = .ok (.iload 4, 2) := by decide +kernel
theorem d15_7 : decode jdk_52_method_21_code 7 = .ok (.if_icmp .ge 37, 3) := by decide +kernel
theorem d15_10 : decode jdk_52_method_21_code 10 = .ok (.aload_n 0, 1) := by decide +kernel
theorem d15_11 : decode jdk_52_method_21_code 11 = .ok (.iload_n 1, 1) := by decide +kernel
theorem d15_12 : decode jdk_52_method_21_code 12 = .ok (.caload, 1) := by decide +kernel
theorem d15_13 : decode jdk_52_method_21_code 13 = .ok (.istore 6, 2) := by decide +kernel
theorem d15_15 : decode jdk_52_method_21_code 15 = .ok (.iload 6, 2) := by decide +kernel
theorem d15_17 : decode jdk_52_method_21_code 17 = .ok (.sipush 255, 3) := by decide +kernel
theorem d15_20 : decode jdk_52_method_21_code 20 = .ok (.if_icmp .le 6, 3) := by decide +kernel
theorem d15_23 : decode jdk_52_method_21_code 23 = .ok (.iload 5, 2) := by decide +kernel
theorem d15_25 : decode jdk_52_method_21_code 25 = .ok (.ireturn, 1) := by decide +kernel
theorem d15_26 : decode jdk_52_method_21_code 26 = .ok (.aload_n 2, 1) := by decide +kernel
theorem d15_27 : decode jdk_52_method_21_code 27 = .ok (.iload_n 3, 1) := by decide +kernel
theorem d15_28 : decode jdk_52_method_21_code 28 = .ok (.iload 6, 2) := by decide +kernel
theorem d15_30 : decode jdk_52_method_21_code 30 = .ok (.i2b, 1) := by decide +kernel
theorem d15_31 : decode jdk_52_method_21_code 31 = .ok (.bastore, 1) := by decide +kernel
theorem d15_32 : decode jdk_52_method_21_code 32 = .ok (.iinc 1 1, 3) := by decide +kernel
theorem d15_35 : decode jdk_52_method_21_code 35 = .ok (.iinc 3 1, 3) := by decide +kernel
theorem d15_38 : decode jdk_52_method_21_code 38 = .ok (.iinc 5 1, 3) := by decide +kernel
theorem d15_41 : decode jdk_52_method_21_code 41 = .ok (.goto (-38), 3) := by decide +kernel
theorem d15_44 : decode jdk_52_method_21_code 44 = .ok (.iload 4, 2) := by decide +kernel
theorem d15_46 : decode jdk_52_method_21_code 46 = .ok (.ireturn, 1) := by decide +kernel
theorem pn15 : plainFor (⟨"java/lang/StringUTF16", "compress", "([CI[BII)I"⟩ : MethodName) = true := by first | exact plainFor_of_name (by first | (simp [plainName, overriddenIn]; done) | decide +kernel) | decide +kernel
theorem pd15 : parseMethodDescriptor "([CI[BII)I" = some ⟨[(.array .char), .int, (.array .byte), .int, .int], some .int⟩ := by decide +kernel
set_option maxRecDepth 65536 in
set_option maxHeartbeats 40000000 in
theorem c5_loop {W : Wk} {l : Launch} {Z : State} {a0' : Array Value} {R : Room} {Q : Option Value → Heap → Prop} (C : Walk W l Z a0' tables_1 EL0 "java/lang/StringUTF16" jdk_52_method_21_code 7 (some .int) "compress" R Q (fun _ => [])) {ck cs' : Nat} (hck : ck ≤ R.cells) (hcs : cs' ≤ R.slots) (os : List Addr) (src dst : Addr) (zd : dst ∈ os) (ne : src ≠ dst) (cs : List Int32) (hn : cs.length < 2 ^ 29) :
    ∀ (rest pre : List Int32) (h : Heap) (s6 : Slot), cs = pre ++ rest → lat pre → Al Z h src .char (iv' cs) → Al Z h dst .byte (iv' (pre.map by8) ++ List.replicate rest.length (.int 0)) → (s6 = .unset ∨ ∃ w : Value, s6 = .val w ∧ w.category = 1) →
      (∀ h' : Heap, Keep h h' [dst] → lat cs → Al Z h' dst .byte (iv' (cs.map by8)) → Q (some (.int (Int32.ofNat cs.length))) h') →
      (∀ (h' : Heap) (r : Nat) (c : Int32), Keep h h' [dst] → cs[r]? = some c → (255 : Int32) < c → Q (some (.int (Int32.ofNat r))) h') → W h os ck cs' 3 #[.val (.ref src), .val (.int (Int32.ofNat pre.length)), .val (.ref dst), .val (.int (Int32.ofNat pre.length)), .val (.int (Int32.ofNat cs.length)), .val (.int (Int32.ofNat pre.length)), s6] []
  | [], pre, h, s6, e, hp, A, B, h6, K, KU => by
    have e' : pre = cs := by rw [e, List.append_nil]
    subst e'
    show W h os ck cs' 3 #[.val (.ref src), .val (.int (Int32.ofNat pre.length)), .val (.ref dst), .val (.int (Int32.ofNat pre.length)), .val (.int (Int32.ofNat pre.length)), .val (.int (Int32.ofNat pre.length)), s6] []
    have q : ¬ Int32.ofNat pre.length < Int32.ofNat pre.length := Int32.lt_irrefl
    refine C.iload 5 d15_3 rfl rfl ?_
    refine C.iload 7 d15_5 rfl rfl ?_
    refine C.icmpT 44 d15_7 rfl (flt q).2.1 ?_
    refine C.iload 46 d15_44 rfl rfl ?_
    exact C.retI .int d15_46 rfl (by simp) rfl hck hcs (K h (Keep.refl _ _) hp (by simpa using B)) (fun _ q => nomatch q)
  | c :: rest, pre, h, s6, e, hp, A, B, h6, K, KU => by
    have hlen : pre.length < cs.length := by rw [e, List.length_append, List.length_cons]; omega
    have q : Int32.ofNat pre.length < Int32.ofNat cs.length := (o_lt (by omega) (by omega)).mpr hlen
    have hg : cs[pre.length]? = some c := by rw [e]; simp
    refine C.iload 5 d15_3 rfl rfl ?_
    refine C.iload 7 d15_5 rfl rfl ?_
    refine C.icmpF 10 d15_7 rfl (tlt q).2.1 ?_
    refine C.aloadN 11 d15_10 rfl rfl rfl ?_
    refine C.iloadN 12 d15_11 rfl rfl ?_
    refine C.caload 13 pre.length (.int c) d15_12 rfl A (o_nn (by omega)) (o_cl (by omega)) (by rw [e]; simp) ?_
    refine C.istore 15 #[.val (.ref src), .val (.int (Int32.ofNat pre.length)), .val (.ref dst), .val (.int (Int32.ofNat pre.length)), .val (.int (Int32.ofNat cs.length)), .val (.int (Int32.ofNat pre.length)), .val (.int c)] d15_13 rfl (XS.store1 rfl h6 rfl) ?_
    refine C.iload 17 d15_15 rfl rfl ?_
    refine C.sipush 20 (255 : Int32) d15_17 rfl rfl ?_
    by_cases hc : (255 : Int32) < c
    · refine C.icmpF 23 d15_20 rfl (tlt hc).2.2.2 ?_
      refine C.iload 25 d15_23 rfl rfl ?_
      exact C.retI .int d15_25 rfl (by simp) rfl hck hcs (KU h pre.length c (Keep.refl _ _) hg hc) (fun _ q => nomatch q)
    · refine C.icmpT 26 d15_20 rfl (flt hc).2.2.2 ?_
      refine C.aloadN 27 d15_26 rfl rfl rfl ?_
      refine C.iloadN 28 d15_27 rfl rfl ?_
      refine C.iload 30 d15_28 rfl rfl ?_
      refine C.i2b 31 d15_30 rfl ?_
      refine C.bastoreB 32 pre.length (by8 c) d15_31 rfl B zd (o_nn (by omega)) (o_cl (by omega)) (by simp) (by8_nar c) ?_
      intro h1 W1 B1
      refine C.iinc 35 #[.val (.ref src), .val (.int ((Int32.ofNat pre.length) + (1 : Int32))), .val (.ref dst), .val (.int (Int32.ofNat pre.length)), .val (.int (Int32.ofNat cs.length)), .val (.int (Int32.ofNat pre.length)), .val (.int c)] d15_32 rfl rfl rfl ?_
      refine C.iinc 38 #[.val (.ref src), .val (.int ((Int32.ofNat pre.length) + (1 : Int32))), .val (.ref dst), .val (.int ((Int32.ofNat pre.length) + (1 : Int32))), .val (.int (Int32.ofNat cs.length)), .val (.int (Int32.ofNat pre.length)), .val (.int c)] d15_35 rfl rfl rfl ?_
      refine C.iinc 41 #[.val (.ref src), .val (.int ((Int32.ofNat pre.length) + (1 : Int32))), .val (.ref dst), .val (.int ((Int32.ofNat pre.length) + (1 : Int32))), .val (.int (Int32.ofNat cs.length)), .val (.int ((Int32.ofNat pre.length) + (1 : Int32))), .val (.int c)] d15_38 rfl rfl rfl ?_
      have e1 : Int32.ofNat pre.length + (1 : Int32) = Int32.ofNat (pre ++ [c]).length := by rw [List.length_append]; exact o_add pre.length 1
      show W h1 os ck cs' 41 #[.val (.ref src), .val (.int ((Int32.ofNat pre.length) + (1 : Int32))), .val (.ref dst), .val (.int ((Int32.ofNat pre.length) + (1 : Int32))), .val (.int (Int32.ofNat cs.length)), .val (.int ((Int32.ofNat pre.length) + (1 : Int32))), .val (.int c)] []
      rw [e1]
      refine C.goto 3 d15_41 rfl ?_
      refine c5_loop C hck hcs os src dst zd ne cs hn rest (pre ++ [c]) h1 _ (by rw [e]; simp) (fun x hx => by rcases List.mem_append.mp hx with hx | hx; exact hp x hx; rw [List.mem_singleton.mp hx]; exact hc) (A.keep (Keep.of_wr W1) (ninS ne nin0)) ?_ (Or.inr ⟨_, rfl, rfl⟩) (fun h' K' l' B' => K h' ((Keep.of_wr W1).trans K' (fun x hx => Or.inl hx)) l' B') (fun h' r c' K' g' b' => KU h' r c' ((Keep.of_wr W1).trans K' (fun x hx => Or.inl hx)) g' b')
      have e2 : (iv' (pre.map by8) ++ List.replicate (c :: rest).length (Value.int 0)).set pre.length (.int (by8 c)) = iv' ((pre ++ [c]).map by8) ++ List.replicate rest.length (.int 0) := by simp [List.replicate_succ]
      rw [e2] at B1
      exact B1
set_option maxRecDepth 65536 in
set_option maxHeartbeats 40000000 in
theorem c5 (l : Launch) (Z : State) (a0' : Array Value) (hw : ∀ d ∈ tables_1, d.before a0' Z = true) (hEL : EW Z a0' EL0) (hSA : ∀ a ∈ Bundle.stringAtoms, a.before a0' Z = true) (h : Heap) (src dst : Addr) (ne : src ≠ dst) (cs : List Int32) (hn : cs.length < 2 ^ 29) (A : Al Z h src .char (iv' cs)) (B : Al Z h dst .byte (List.replicate cs.length (.int 0))) :
    Con l Z EL0 (⟨"java/lang/StringUTF16", "compress", "([CI[BII)I"⟩ : MethodName) jdk_52_method_21_code 7 (some .int) ⟨0, 0, 0, 0⟩ #[.ref src, .int 0, .ref dst, .int 0, .int (Int32.ofNat cs.length)] h [dst] (fun v h' => Keep h h' [dst] ∧ ((v = some (.int (Int32.ofNat cs.length)) ∧ lat cs ∧ Al Z h' dst .byte (iv' (cs.map by8))) ∨ ∃ (r : Nat) (c : Int32), v = some (.int (Int32.ofNat r)) ∧ cs[r]? = some c ∧ (255 : Int32) < c)) (fun _ => []) := by
  refine Con.of (Ls := #[.val (.ref src), .val (.int (0 : Int32)), .val (.ref dst), .val (.int (0 : Int32)), .val (.int (Int32.ofNat cs.length)), .unset, .unset]) hw hEL pn15 (fun m => by first | (simp [entryFrame, mkF, argsToLocals, Value.category, maxLocals]; done) | rfl) fun W C => ?_
  refine C.kept fun hE => ?_
  have z0 : Z.heap.size ≤ h.size := hE.1
  refine C.iconst 1 (0 : Int32) d15_0 rfl rfl ?_
  refine C.istore 3 #[.val (.ref src), .val (.int (0 : Int32)), .val (.ref dst), .val (.int (0 : Int32)), .val (.int (Int32.ofNat cs.length)), .val (.int (0 : Int32)), .unset] d15_1 rfl rfl ?_
  exact c5_loop C (by decide) (by decide) [dst] src dst (by simp) ne cs hn cs [] h _ rfl (fun x hx => nomatch hx) A B (Or.inl rfl) (fun h' K' l' B' => ⟨K', Or.inl ⟨rfl, l', B'⟩⟩) (fun h' r c K' g' b' => ⟨K', Or.inr ⟨r, c, rfl, g', b'⟩⟩)
theorem d18_0 : decode jdk_52_method_3_code 0 = .ok (.iload_n 0, 1) := by decide +kernel
theorem d18_1 : decode jdk_52_method_3_code 1 = .ok (.ifCond .ge 11, 3) := by decide +kernel
theorem d18_4 : decode jdk_52_method_3_code 4 = .ok (.new 17, 3) := by decide +kernel
theorem d18_7 : decode jdk_52_method_3_code 7 = .ok (.dup, 1) := by decide +kernel
theorem d18_8 : decode jdk_52_method_3_code 8 = .ok (.invokespecial 19, 3) := by decide +kernel
theorem d18_11 : decode jdk_52_method_3_code 11 = .ok (.athrow, 1) := by decide +kernel
theorem d18_12 : decode jdk_52_method_3_code 12 = .ok (.iload_n 0, 1) := by decide +kernel
theorem d18_13 : decode jdk_52_method_3_code 13 = .ok (.ldc 20, 2) := by decide +kernel
theorem d18_15 : decode jdk_52_method_3_code 15 = .ok (.if_icmp .lt 40, 3) := by decide +kernel
theorem d18_18 : decode jdk_52_method_3_code 18 = .ok (.new 21, 3) := by decide +kernel
theorem d18_21 : decode jdk_52_method_3_code 21 = .ok (.dup, 1) := by decide +kernel
theorem d18_22 : decode jdk_52_method_3_code 22 = .ok (.new 23, 3) := by decide +kernel
theorem d18_25 : decode jdk_52_method_3_code 25 = .ok (.dup, 1) := by decide +kernel
theorem d18_26 : decode jdk_52_method_3_code 26 = .ok (.invokespecial 25, 3) := by decide +kernel
theorem d18_29 : decode jdk_52_method_3_code 29 = .ok (.ldc 26, 2) := by decide +kernel
theorem d18_31 : decode jdk_52_method_3_code 31 = .ok (.invokevirtual 28, 3) := by decide +kernel
theorem d18_34 : decode jdk_52_method_3_code 34 = .ok (.iload_n 0, 1) := by decide +kernel
theorem d18_35 : decode jdk_52_method_3_code 35 = .ok (.invokevirtual 32, 3) := by decide +kernel
theorem d18_38 : decode jdk_52_method_3_code 38 = .ok (.ldc 35, 2) := by decide +kernel
theorem d18_40 : decode jdk_52_method_3_code 40 = .ok (.invokevirtual 28, 3) := by decide +kernel
theorem d18_43 : decode jdk_52_method_3_code 43 = .ok (.ldc 20, 2) := by decide +kernel
theorem d18_45 : decode jdk_52_method_3_code 45 = .ok (.invokevirtual 32, 3) := by decide +kernel
theorem d18_48 : decode jdk_52_method_3_code 48 = .ok (.invokevirtual 37, 3) := by decide +kernel
theorem d18_51 : decode jdk_52_method_3_code 51 = .ok (.invokespecial 41, 3) := by decide +kernel
theorem d18_54 : decode jdk_52_method_3_code 54 = .ok (.athrow, 1) := by decide +kernel
theorem d18_55 : decode jdk_52_method_3_code 55 = .ok (.iload_n 0, 1) := by decide +kernel
theorem d18_56 : decode jdk_52_method_3_code 56 = .ok (.iconst 1, 1) := by decide +kernel
theorem d18_57 : decode jdk_52_method_3_code 57 = .ok (.ishl, 1) := by decide +kernel
theorem d18_58 : decode jdk_52_method_3_code 58 = .ok (.ireturn, 1) := by decide +kernel
theorem pn18 : plainFor (⟨"java/lang/StringUTF16", "newBytesLength", "(I)I"⟩ : MethodName) = true := by first | exact plainFor_of_name (by first | (simp [plainName, overriddenIn]; done) | decide +kernel) | decide +kernel
theorem pd18 : parseMethodDescriptor "(I)I" = some ⟨[.int], some .int⟩ := by decide +kernel
set_option maxRecDepth 65536 in
set_option maxHeartbeats 40000000 in
theorem nbl (l : Launch) (Z : State) (a0' : Array Value) (hw : ∀ d ∈ tables_1, d.before a0' Z = true) (hEL : EW Z a0' EL0) (hSA : ∀ a ∈ Bundle.stringAtoms, a.before a0' Z = true) (h : Heap) (x : Nat) (hx : x < 2 ^ 29) :
    Con l Z EL0 (⟨"java/lang/StringUTF16", "newBytesLength", "(I)I"⟩ : MethodName) jdk_52_method_3_code 1 (some .int) ⟨0, 0, 0, 0⟩ #[.int (Int32.ofNat x)] h [] (Same (some (.int (Int32.ofNat (2 * x)))) h) (fun _ => []) := by
  refine Con.of (Ls := #[.val (.int (Int32.ofNat x))]) hw hEL pn18 (fun m => by first | (simp [entryFrame, mkF, argsToLocals, Value.category, maxLocals]; done) | rfl) fun W C => ?_
  refine C.kept fun hE => ?_
  have z0 : Z.heap.size ≤ h.size := hE.1
  refine C.iloadN 1 d18_0 rfl rfl ?_
  refine C.ifT 12 d18_1 rfl ((if0 _ _).trans (flt (o_nn (x := x) (by omega))).2.1) ?_
  refine C.iloadN 13 d18_12 rfl rfl ?_
  refine C.ldc 15 (1073741823 : Int32) d18_13 rfl (tw 86) ?_
  have q : Int32.ofNat x < (1073741823 : Int32) := (o_lt (y := 1073741823) (by omega) (by omega)).mpr (by omega)
  refine C.icmpT 55 d18_15 rfl (tlt q).1 ?_
  refine C.iloadN 56 d18_55 rfl rfl ?_
  refine C.iconst 57 (1 : Int32) d18_56 rfl rfl ?_
  refine C.ishl 58 d18_57 rfl ?_
  rw [o_dbl (by omega)]
  exact C.retI .int d18_58 rfl (by simp) rfl (by decide) (by decide) ⟨rfl, rfl⟩ (fun _ q => nomatch q)
theorem d17_0 : decode jdk_52_method_2_code 0 = .ok (.iload_n 0, 1) := by decide +kernel
theorem d17_1 : decode jdk_52_method_2_code 1 = .ok (.invokestatic 11, 3) := by decide +kernel
theorem d17_4 : decode jdk_52_method_2_code 4 = .ok (.newarray .byte, 2) := by decide +kernel
theorem d17_6 : decode jdk_52_method_2_code 6 = .ok (.areturn, 1) := by decide +kernel
theorem pn17 : plainFor (⟨"java/lang/StringUTF16", "newBytesFor", "(I)[B"⟩ : MethodName) = true := by first | exact plainFor_of_name (by first | (simp [plainName, overriddenIn]; done) | decide +kernel) | decide +kernel
theorem pd17 : parseMethodDescriptor "(I)[B" = some ⟨[.int], some (.array .byte)⟩ := by decide +kernel
set_option maxRecDepth 65536 in
set_option maxHeartbeats 40000000 in
theorem nbf (l : Launch) (Z : State) (a0' : Array Value) (hw : ∀ d ∈ tables_1, d.before a0' Z = true) (hEL : EW Z a0' EL0) (hSA : ∀ a ∈ Bundle.stringAtoms, a.before a0' Z = true) (h : Heap) (x : Nat) (hx : x ≤ 8) :
    Con l Z EL0 (⟨"java/lang/StringUTF16", "newBytesFor", "(I)[B"⟩ : MethodName) jdk_52_method_2_code 1 (some (.array .byte)) ⟨1, 1, 16, 12⟩ #[.int (Int32.ofNat x)] h [] (fun v h' => ∃ b, v = some (.ref b) ∧ b = h.size ∧ Ext h h' ∧ Al Z h' b .byte (List.replicate (2 * x) (.int 0))) outR := by
  refine Con.of (Ls := #[.val (.int (Int32.ofNat x))]) hw hEL pn17 (fun m => by first | (simp [entryFrame, mkF, argsToLocals, Value.category, maxLocals]; done) | rfl) fun W C => ?_
  refine C.kept fun hE => ?_
  have z0 : Z.heap.size ≤ h.size := hE.1
  refine C.iloadN 1 d17_0 rfl rfl ?_
  refine C.callS 4 (as := [.int (Int32.ofNat x)]) (rest := []) (rm := ⟨0, 0, 0, 0⟩) 0 d17_1 rfl (tw 83) (tw 84) (tw 72) (tw 85) (by decide) (nbl l Z a0' hw hEL hSA h x (by omega)) (by simp) pd18 rfl rfl (Nat.le_of_eq rfl) (by decide) (by decide) (by decide) (by decide) rfl ?_
  refine same_intro ?_
  show W h [] 0 0 4 #[.val (.int (Int32.ofNat x))] [.int (Int32.ofNat (2 * x))]
  refine C.newarray 6 16 d17_4 rfl (tw 16) (o_nn (by omega)) (by rw [o_cl (by omega)]; omega) (by decide) (by decide) (by decide) ?_
  intro h1 E1 B1
  rw [o_cl (by omega)] at B1
  show W h1 [h.size] 1 16 6 #[.val (.int (Int32.ofNat x))] [.ref h.size]
  exact C.retA (.array .byte) d17_6 rfl rfl rfl (by decide) (by decide) ⟨_, rfl, rfl, E1, B1⟩ (by simp [outR])
theorem d19_0 : decode jdk_52_method_4_code 0 = .ok (.getstatic 44, 3) := by decide +kernel
theorem d19_3 : decode jdk_52_method_4_code 3 = .ok (.ifCond .ne 25, 3) := by decide +kernel
theorem d19_6 : decode jdk_52_method_4_code 6 = .ok (.iload_n 1, 1) := by decide +kernel
theorem d19_7 : decode jdk_52_method_4_code 7 = .ok (.ifCond .lt 11, 3) := by decide +kernel
theorem d19_10 : decode jdk_52_method_4_code 10 = .ok (.iload_n 1, 1) := by decide +kernel
theorem d19_11 : decode jdk_52_method_4_code 11 = .ok (.aload_n 0, 1) := by decide +kernel
theorem d19_12 : decode jdk_52_method_4_code 12 = .ok (.invokestatic 48, 3) := by decide +kernel
theorem d19_15 : decode jdk_52_method_4_code 15 = .ok (.if_icmp .lt 13, 3) := by decide +kernel
theorem d19_18 : decode jdk_52_method_4_code 18 = .ok (.new 52, 3) := by decide +kernel
theorem d19_21 : decode jdk_52_method_4_code 21 = .ok (.dup, 1) := by decide +kernel
theorem d19_22 : decode jdk_52_method_4_code 22 = .ok (.ldc 54, 2) := by decide +kernel
theorem d19_24 : decode jdk_52_method_4_code 24 = .ok (.invokespecial 56, 3) := by decide +kernel
theorem d19_27 : decode jdk_52_method_4_code 27 = .ok (.athrow, 1) := by decide +kernel
theorem d19_28 : decode jdk_52_method_4_code 28 = .ok (.iload_n 1, 1) := by decide +kernel
theorem d19_29 : decode jdk_52_method_4_code 29 = .ok (.iconst 1, 1) := by decide +kernel
theorem d19_30 : decode jdk_52_method_4_code 30 = .ok (.ishl, 1) := by decide +kernel
theorem d19_31 : decode jdk_52_method_4_code 31 = .ok (.istore_n 1, 1) := by decide +kernel
theorem d19_32 : decode jdk_52_method_4_code 32 = .ok (.aload_n 0, 1) := by decide +kernel
theorem d19_33 : decode jdk_52_method_4_code 33 = .ok (.iload_n 1, 1) := by decide +kernel
theorem d19_34 : decode jdk_52_method_4_code 34 = .ok (.iinc 1 1, 3) := by decide +kernel
theorem d19_37 : decode jdk_52_method_4_code 37 = .ok (.iload_n 2, 1) := by decide +kernel
theorem d19_38 : decode jdk_52_method_4_code 38 = .ok (.getstatic 59, 3) := by decide +kernel
theorem d19_41 : decode jdk_52_method_4_code 41 = .ok (.ishr, 1) := by decide +kernel
theorem d19_42 : decode jdk_52_method_4_code 42 = .ok (.i2b, 1) := by decide +kernel
theorem d19_43 : decode jdk_52_method_4_code 43 = .ok (.bastore, 1) := by decide +kernel
theorem d19_44 : decode jdk_52_method_4_code 44 = .ok (.aload_n 0, 1) := by decide +kernel
theorem d19_45 : decode jdk_52_method_4_code 45 = .ok (.iload_n 1, 1) := by decide +kernel
theorem d19_46 : decode jdk_52_method_4_code 46 = .ok (.iload_n 2, 1) := by decide +kernel
theorem d19_47 : decode jdk_52_method_4_code 47 = .ok (.getstatic 63, 3) := by decide +kernel
theorem d19_50 : decode jdk_52_method_4_code 50 = .ok (.ishr, 1) := by decide +kernel
theorem d19_51 : decode jdk_52_method_4_code 51 = .ok (.i2b, 1) := by decide +kernel
theorem d19_52 : decode jdk_52_method_4_code 52 = .ok (.bastore, 1) := by decide +kernel
theorem d19_53 : decode jdk_52_method_4_code 53 = .ok (.return_, 1) := by decide +kernel
theorem pn19 : plainFor (⟨"java/lang/StringUTF16", "putChar", "([BII)V"⟩ : MethodName) = true := by first | exact plainFor_of_name (by first | (simp [plainName, overriddenIn]; done) | decide +kernel) | decide +kernel
theorem pd19 : parseMethodDescriptor "([BII)V" = some ⟨[(.array .byte), .int, .int], none⟩ := by decide +kernel
set_option maxRecDepth 65536 in
set_option maxHeartbeats 40000000 in
theorem puc (l : Launch) (Z : State) (a0' : Array Value) (hw : ∀ d ∈ tables_1, d.before a0' Z = true) (hEL : EW Z a0' EL0) (hSA : ∀ a ∈ Bundle.stringAtoms, a.before a0' Z = true) (h : Heap) (cpt : Int32) (SCP : Sta Z Z.heap "java/lang/String" "COMPACT_STRINGS" "Z" (.int cpt)) (hcp : ¬ cpt = 0) (SAD : Sta Z Z.heap "java/lang/StringUTF16" "$assertionsDisabled" "Z" (.int (1 : Int32))) (SHI : Sta Z Z.heap "java/lang/StringUTF16" "HI_BYTE_SHIFT" "I" (.int (0 : Int32))) (SLO : Sta Z Z.heap "java/lang/StringUTF16" "LO_BYTE_SHIFT" "I" (.int (8 : Int32))) (b : Addr) (i : Nat) (c : Int32) (vs : List Value) (hv : vs.length < 2 ^ 30) (hi : 2 * i + 1 < vs.length) (B : Al Z h b .byte vs) :
    Con l Z EL0 (⟨"java/lang/StringUTF16", "putChar", "([BII)V"⟩ : MethodName) jdk_52_method_4_code 3 none ⟨0, 0, 0, 0⟩ #[.ref b, .int (Int32.ofNat i), .int c] h [b] (fun v h' => v = none ∧ Keep h h' [b] ∧ Al Z h' b .byte ((vs.set (2 * i) (.int (b0 c))).set (2 * i + 1) (.int (b1 c)))) (fun _ => []) := by
  refine Con.of (Ls := #[.val (.ref b), .val (.int (Int32.ofNat i)), .val (.int c)]) hw hEL pn19 (fun m => by first | (simp [entryFrame, mkF, argsToLocals, Value.category, maxLocals]; done) | rfl) fun W C => ?_
  refine C.kept fun hE => ?_
  have z0 : Z.heap.size ≤ h.size := hE.1
  refine C.getstatic 3 d19_0 rfl (tw 90) SAD ?_
  refine C.ifT 28 d19_3 rfl (by decide) ?_
  refine C.iloadN 29 d19_28 rfl rfl ?_
  refine C.iconst 30 (1 : Int32) d19_29 rfl rfl ?_
  refine C.ishl 31 d19_30 rfl ?_
  rw [o_dbl (by omega)]
  refine C.istoreN 32 #[.val (.ref b), .val (.int (Int32.ofNat (2 * i))), .val (.int c)] d19_31 rfl rfl ?_
  refine C.aloadN 33 d19_32 rfl rfl rfl ?_
  refine C.iloadN 34 d19_33 rfl rfl ?_
  have e1 : Int32.ofNat (2 * i) + (1 : Int32) = Int32.ofNat (2 * i + 1) := o_add (2 * i) 1
  refine C.iinc 37 #[.val (.ref b), .val (.int ((Int32.ofNat (2 * i)) + (1 : Int32))), .val (.int c)] d19_34 rfl rfl rfl ?_
  show W h [b] 0 0 37 #[.val (.ref b), .val (.int (Int32.ofNat (2 * i) + (1 : Int32))), .val (.int c)] [.int (Int32.ofNat (2 * i)), .ref b]
  rw [e1]
  refine C.iloadN 38 d19_37 rfl rfl ?_
  refine C.getstatic 41 d19_38 rfl (tw 91) SHI ?_
  refine C.ishr 42 d19_41 rfl ?_
  refine C.i2b 43 d19_42 rfl ?_
  show W h [b] 0 0 43 #[.val (.ref b), .val (.int (Int32.ofNat (2 * i + 1))), .val (.int c)] [.int (b0 c), .int (Int32.ofNat (2 * i)), .ref b]
  refine C.bastoreB 44 (2 * i) (b0 c) d19_43 rfl B (by simp) (o_nn (by omega)) (o_cl (by omega)) (by omega) (b0_nar c) ?_
  intro h1 W1 B1
  refine C.aloadN 45 d19_44 rfl rfl rfl ?_
  refine C.iloadN 46 d19_45 rfl rfl ?_
  refine C.iloadN 47 d19_46 rfl rfl ?_
  refine C.getstatic 50 d19_47 rfl (tw 92) SLO ?_
  refine C.ishr 51 d19_50 rfl ?_
  refine C.i2b 52 d19_51 rfl ?_
  show W h1 [b] 0 0 52 #[.val (.ref b), .val (.int (Int32.ofNat (2 * i + 1))), .val (.int c)] [.int (b1 c), .int (Int32.ofNat (2 * i + 1)), .ref b]
  refine C.bastoreB 53 (2 * i + 1) (b1 c) d19_52 rfl B1 (by simp) (o_nn (by omega)) (o_cl (by omega)) (by rw [List.length_set]; omega) (b1_nar c) ?_
  intro h2 W2 B2
  exact C.ret0 d19_53 rfl (by decide) (by decide) ⟨rfl, (Keep.of_wr W1).wr W2 (Or.inl (List.mem_of_getElem? (i := 0) rfl)), B2⟩ (fun _ q => nomatch q)
theorem d16_0 : decode jdk_52_method_14_code 0 = .ok (.iload_n 2, 1) := by decide +kernel
theorem d16_1 : decode jdk_52_method_14_code 1 = .ok (.invokestatic 107, 3) := by decide +kernel
theorem d16_4 : decode jdk_52_method_14_code 4 = .ok (.astore_n 3, 1) := by decide +kernel
theorem d16_5 : decode jdk_52_method_14_code 5 = .ok (.iconst 0, 1) := by decide +kernel
theorem d16_6 : decode jdk_52_method_14_code 6 = .ok (.istore 4, 2) := by decide +kernel
theorem d16_8 : decode jdk_52_method_14_code 8 = .ok (.iload 4, 2) := by decide +kernel
theorem d16_10 : decode jdk_52_method_14_code 10 = .ok (.iload_n 2, 1) := by decide +kernel
theorem d16_11 : decode jdk_52_method_14_code 11 = .ok (.if_icmp .ge 21, 3) := by decide +kernel
theorem d16_14 : decode jdk_52_method_14_code 14 = .ok (.aload_n 3, 1) := by decide +kernel
theorem d16_15 : decode jdk_52_method_14_code 15 = .ok (.iload 4, 2) := by decide +kernel
theorem d16_17 : decode jdk_52_method_14_code 17 = .ok (.aload_n 0, 1) := by decide +kernel
theorem d16_18 : decode jdk_52_method_14_code 18 = .ok (.iload_n 1, 1) := by decide +kernel
theorem d16_19 : decode jdk_52_method_14_code 19 = .ok (.caload, 1) := by decide +kernel
theorem d16_20 : decode jdk_52_method_14_code 20 = .ok (.invokestatic 111, 3) := by decide +kernel
theorem d16_23 : decode jdk_52_method_14_code 23 = .ok (.iinc 1 1, 3) := by decide +kernel
theorem d16_26 : decode jdk_52_method_14_code 26 = .ok (.iinc 4 1, 3) := by decide +kernel
theorem d16_29 : decode jdk_52_method_14_code 29 = .ok (.goto (-21), 3) := by decide +kernel
theorem d16_32 : decode jdk_52_method_14_code 32 = .ok (.aload_n 3, 1) := by decide +kernel
theorem d16_33 : decode jdk_52_method_14_code 33 = .ok (.areturn, 1) := by decide +kernel
theorem pn16 : plainFor (⟨"java/lang/StringUTF16", "toBytes", "([CII)[B"⟩ : MethodName) = true := by first | exact plainFor_of_name (by first | (simp [plainName, overriddenIn]; done) | decide +kernel) | decide +kernel
theorem pd16 : parseMethodDescriptor "([CII)[B" = some ⟨[(.array .char), .int, .int], some (.array .byte)⟩ := by decide +kernel
set_option maxRecDepth 65536 in
set_option maxHeartbeats 40000000 in
theorem tb_loop {W : Wk} {l : Launch} {Z : State} {a0' : Array Value} {R : Room} {Q : Option Value → Heap → Prop} (C : Walk W l Z a0' tables_1 EL0 "java/lang/StringUTF16" jdk_52_method_14_code 5 (some (.array .byte)) "toBytes" R Q (fun _ => [])) {ck cs' : Nat} (hck : ck ≤ R.cells) (hcs : cs' ≤ R.slots) (hw : ∀ d ∈ tables_1, d.before a0' Z = true) (hEL : EW Z a0' EL0) (hSA : ∀ a ∈ Bundle.stringAtoms, a.before a0' Z = true) (hfr : 1 ≤ R.frames) (hlo : 14 ≤ R.locals) (cpt : Int32) (SCP : Sta Z Z.heap "java/lang/String" "COMPACT_STRINGS" "Z" (.int cpt)) (hcp : ¬ cpt = 0) (SAD : Sta Z Z.heap "java/lang/StringUTF16" "$assertionsDisabled" "Z" (.int (1 : Int32))) (SHI : Sta Z Z.heap "java/lang/StringUTF16" "HI_BYTE_SHIFT" "I" (.int (0 : Int32))) (SLO : Sta Z Z.heap "java/lang/StringUTF16" "LO_BYTE_SHIFT" "I" (.int (8 : Int32))) (os : List Addr) (src dst : Addr) (zd : dst ∈ os) (ne : src ≠ dst) (cs : List Int32) (hn : cs.length < 2 ^ 28) :
    ∀ (rest pre : List Int32) (h : Heap), cs = pre ++ rest → Al Z h src .char (iv' cs) → Al Z h dst .byte (iv' (u16 pre) ++ List.replicate (2 * rest.length) (.int 0)) →
      (∀ h' : Heap, Keep h h' [dst] → Al Z h' dst .byte (iv' (u16 cs)) → Q (some (.ref dst)) h') → W h os ck cs' 8 #[.val (.ref src), .val (.int (Int32.ofNat pre.length)), .val (.int (Int32.ofNat cs.length)), .val (.ref dst), .val (.int (Int32.ofNat pre.length))] []
  | [], pre, h, e, A, B, K => by
    have e' : pre = cs := by rw [e, List.append_nil]
    subst e'
    show W h os ck cs' 8 #[.val (.ref src), .val (.int (Int32.ofNat pre.length)), .val (.int (Int32.ofNat pre.length)), .val (.ref dst), .val (.int (Int32.ofNat pre.length))] []
    have q : ¬ Int32.ofNat pre.length < Int32.ofNat pre.length := Int32.lt_irrefl
    refine C.iload 10 d16_8 rfl rfl ?_
    refine C.iloadN 11 d16_10 rfl rfl ?_
    refine C.icmpT 32 d16_11 rfl (flt q).2.1 ?_
    refine C.aloadN 33 d16_32 rfl rfl rfl ?_
    exact C.retA (.array .byte) d16_33 rfl rfl rfl hck hcs (K h (Keep.refl _ _) (by simpa using B)) (fun _ q => nomatch q)
  | c :: rest, pre, h, e, A, B, K => by
    have hlen : pre.length < cs.length := by rw [e, List.length_append, List.length_cons]; omega
    have q : Int32.ofNat pre.length < Int32.ofNat cs.length := (o_lt (by omega) (by omega)).mpr hlen
    have hl2 : (iv' (u16 pre) ++ List.replicate (2 * (c :: rest).length) (Value.int 0)).length = 2 * pre.length + 2 * (rest.length + 1) := by simp [u16_len]
    have hcl : cs.length = pre.length + (rest.length + 1) := by rw [e]; simp
    refine C.iload 10 d16_8 rfl rfl ?_
    refine C.iloadN 11 d16_10 rfl rfl ?_
    refine C.icmpF 14 d16_11 rfl (tlt q).2.1 ?_
    refine C.aloadN 15 d16_14 rfl rfl rfl ?_
    refine C.iload 17 d16_15 rfl rfl ?_
    refine C.aloadN 18 d16_17 rfl rfl rfl ?_
    refine C.iloadN 19 d16_18 rfl rfl ?_
    refine C.caload 20 pre.length (.int c) d16_19 rfl A (o_nn (by omega)) (o_cl (by omega)) (by rw [e]; simp) ?_
    refine C.callS 23 (as := [.ref dst, .int (Int32.ofNat pre.length), .int c]) (rest := []) (rm := ⟨0, 0, 0, 0⟩) 0 d16_20 rfl (tw 87) (tw 88) (tw 72) (tw 89) (by decide) (puc l Z a0' hw hEL hSA h cpt SCP hcp SAD SHI SLO dst pre.length c _ (by rw [hl2]; omega) (by rw [hl2]; omega) B) (fun x hx => by rw [List.mem_singleton.mp hx]; exact zd) pd19 rfl rfl (Nat.le_of_eq rfl) hfr (by show 0 + (3 + 11) + 0 ≤ _; omega) hck hcs rfl ?_
    rintro v h1 ⟨rfl, K1, B1⟩
    show W h1 os ck cs' 23 #[.val (.ref src), .val (.int (Int32.ofNat pre.length)), .val (.int (Int32.ofNat cs.length)), .val (.ref dst), .val (.int (Int32.ofNat pre.length))] []
    refine C.iinc 26 #[.val (.ref src), .val (.int ((Int32.ofNat pre.length) + (1 : Int32))), .val (.int (Int32.ofNat cs.length)), .val (.ref dst), .val (.int (Int32.ofNat pre.length))] d16_23 rfl rfl rfl ?_
    refine C.iinc 29 #[.val (.ref src), .val (.int ((Int32.ofNat pre.length) + (1 : Int32))), .val (.int (Int32.ofNat cs.length)), .val (.ref dst), .val (.int ((Int32.ofNat pre.length) + (1 : Int32)))] d16_26 rfl rfl rfl ?_
    have e1 : Int32.ofNat pre.length + (1 : Int32) = Int32.ofNat (pre ++ [c]).length := by rw [List.length_append]; exact o_add pre.length 1
    show W h1 os ck cs' 29 #[.val (.ref src), .val (.int ((Int32.ofNat pre.length) + (1 : Int32))), .val (.int (Int32.ofNat cs.length)), .val (.ref dst), .val (.int ((Int32.ofNat pre.length) + (1 : Int32)))] []
    rw [e1]
    refine C.goto 8 d16_29 rfl ?_
    refine tb_loop C hck hcs hw hEL hSA hfr hlo cpt SCP hcp SAD SHI SLO os src dst zd ne cs hn rest (pre ++ [c]) h1 (by rw [e]; simp) (A.keep K1 (ninS ne nin0)) ?_ (fun h' K' B' => K h' (K1.trans K' (fun x hx => Or.inl hx)) B')
    have e2 : ((iv' (u16 pre) ++ List.replicate (2 * (c :: rest).length) (Value.int 0)).set (2 * pre.length) (.int (b0 c))).set (2 * pre.length + 1) (.int (b1 c)) = iv' (u16 (pre ++ [c])) ++ List.replicate (2 * rest.length) (.int 0) := by
      have hu : (iv' (u16 pre)).length = 2 * pre.length := by simp [u16_len]
      rw [show 2 * (c :: rest).length = 2 * rest.length + 1 + 1 by simp only [List.length_cons]; omega, List.replicate_succ, List.replicate_succ, ← hu, set2, u16_app]
      simp [u16, iv']
    rw [e2] at B1
    exact B1
set_option maxRecDepth 65536 in
set_option maxHeartbeats 40000000 in
theorem tby (l : Launch) (Z : State) (a0' : Array Value) (hw : ∀ d ∈ tables_1, d.before a0' Z = true) (hEL : EW Z a0' EL0) (hSA : ∀ a ∈ Bundle.stringAtoms, a.before a0' Z = true) (h : Heap) (cpt : Int32) (SCP : Sta Z Z.heap "java/lang/String" "COMPACT_STRINGS" "Z" (.int cpt)) (hcp : ¬ cpt = 0) (SAD : Sta Z Z.heap "java/lang/StringUTF16" "$assertionsDisabled" "Z" (.int (1 : Int32))) (SHI : Sta Z Z.heap "java/lang/StringUTF16" "HI_BYTE_SHIFT" "I" (.int (0 : Int32))) (SLO : Sta Z Z.heap "java/lang/StringUTF16" "LO_BYTE_SHIFT" "I" (.int (8 : Int32))) (src : Addr) (cs : List Int32) (hn : cs.length ≤ 8) (A : Al Z h src .char (iv' cs)) :
    Con l Z EL0 (⟨"java/lang/StringUTF16", "toBytes", "([CII)[B"⟩ : MethodName) jdk_52_method_14_code 5 (some (.array .byte)) ⟨2, 1, 16, 24⟩ #[.ref src, .int 0, .int (Int32.ofNat cs.length)] h [] (fun v h' => ∃ b, v = some (.ref b) ∧ h.size ≤ b ∧ Ext h h' ∧ Al Z h' b .byte (iv' (u16 cs))) (fun _ => []) := by
  refine Con.of (Ls := #[.val (.ref src), .val (.int (0 : Int32)), .val (.int (Int32.ofNat cs.length)), .unset, .unset]) hw hEL pn16 (fun m => by first | (simp [entryFrame, mkF, argsToLocals, Value.category, maxLocals]; done) | rfl) fun W C => ?_
  refine C.kept fun hE => ?_
  have z0 : Z.heap.size ≤ h.size := hE.1
  refine C.iloadN 1 d16_0 rfl rfl ?_
  refine C.callS 4 (as := [.int (Int32.ofNat cs.length)]) (rest := []) (rm := ⟨1, 1, 16, 12⟩) 0 d16_1 rfl (tw 80) (tw 81) (tw 72) (tw 82) (by decide) (nbf l Z a0' hw hEL hSA h cs.length hn) (by simp) pd17 rfl rfl (Nat.le_of_eq rfl) (by decide) (by decide) (by decide) (by decide) rfl ?_
  rintro v h1 ⟨b, rfl, gb, E1, B1⟩
  have ne : src ≠ b := by rw [gb]; exact Nat.ne_of_lt A.lt
  show W h1 [b] 1 16 4 #[.val (.ref src), .val (.int (0 : Int32)), .val (.int (Int32.ofNat cs.length)), .unset, .unset] [.ref b]
  refine C.astoreN 5 #[.val (.ref src), .val (.int (0 : Int32)), .val (.int (Int32.ofNat cs.length)), .val (.ref b), .unset] d16_4 rfl rfl rfl ?_
  refine C.iconst 6 (0 : Int32) d16_5 rfl rfl ?_
  refine C.istore 8 #[.val (.ref src), .val (.int (0 : Int32)), .val (.int (Int32.ofNat cs.length)), .val (.ref b), .val (.int (0 : Int32))] d16_6 rfl rfl ?_
  refine tb_loop C (by decide) (by decide) hw hEL hSA (by decide) (by decide) cpt SCP hcp SAD SHI SLO [b] src b (by simp) ne cs (by omega) cs [] h1 rfl (A.ext E1) B1 (fun h' K' B' => ?_)
  have K : Keep h h' [] := ((Keep.refl h []).ext E1).trans K' (fun x hx => Or.inr (by cases List.mem_singleton.mp hx; exact Nat.le_of_eq gb.symm))
  exact ⟨b, rfl, Nat.le_of_eq gb.symm, ⟨K.1, fun x c q => K.2.1 x c q nin0⟩, B'⟩
theorem d20_0 : decode jdk_52_method_5_code 0 = .ok (.getstatic 44, 3) := by decide +kernel
theorem d20_3 : decode jdk_52_method_5_code 3 = .ok (.ifCond .ne 25, 3) := by decide +kernel
theorem d20_6 : decode jdk_52_method_5_code 6 = .ok (.iload_n 1, 1) := by decide +kernel
theorem d20_7 : decode jdk_52_method_5_code 7 = .ok (.ifCond .lt 11, 3) := by decide +kernel
theorem d20_10 : decode jdk_52_method_5_code 10 = .ok (.iload_n 1, 1) := by decide +kernel
theorem d20_11 : decode jdk_52_method_5_code 11 = .ok (.aload_n 0, 1) := by decide +kernel
theorem d20_12 : decode jdk_52_method_5_code 12 = .ok (.invokestatic 48, 3) := by decide +kernel
theorem d20_15 : decode jdk_52_method_5_code 15 = .ok (.if_icmp .lt 13, 3) := by decide +kernel
theorem d20_18 : decode jdk_52_method_5_code 18 = .ok (.new 52, 3) := by decide +kernel
theorem d20_21 : decode jdk_52_method_5_code 21 = .ok (.dup, 1) := by decide +kernel
theorem d20_22 : decode jdk_52_method_5_code 22 = .ok (.ldc 54, 2) := by decide +kernel
theorem d20_24 : decode jdk_52_method_5_code 24 = .ok (.invokespecial 56, 3) := by decide +kernel
theorem d20_27 : decode jdk_52_method_5_code 27 = .ok (.athrow, 1) := by decide +kernel
theorem d20_28 : decode jdk_52_method_5_code 28 = .ok (.iload_n 1, 1) := by decide +kernel
theorem d20_29 : decode jdk_52_method_5_code 29 = .ok (.iconst 1, 1) := by decide +kernel
theorem d20_30 : decode jdk_52_method_5_code 30 = .ok (.ishl, 1) := by decide +kernel
theorem d20_31 : decode jdk_52_method_5_code 31 = .ok (.istore_n 1, 1) := by decide +kernel
theorem d20_32 : decode jdk_52_method_5_code 32 = .ok (.aload_n 0, 1) := by decide +kernel
theorem d20_33 : decode jdk_52_method_5_code 33 = .ok (.iload_n 1, 1) := by decide +kernel
theorem d20_34 : decode jdk_52_method_5_code 34 = .ok (.iinc 1 1, 3) := by decide +kernel
theorem d20_37 : decode jdk_52_method_5_code 37 = .ok (.baload, 1) := by decide +kernel
theorem d20_38 : decode jdk_52_method_5_code 38 = .ok (.sipush 255, 3) := by decide +kernel
theorem d20_41 : decode jdk_52_method_5_code 41 = .ok (.iand, 1) := by decide +kernel
theorem d20_42 : decode jdk_52_method_5_code 42 = .ok (.getstatic 59, 3) := by decide +kernel
theorem d20_45 : decode jdk_52_method_5_code 45 = .ok (.ishl, 1) := by decide +kernel
theorem d20_46 : decode jdk_52_method_5_code 46 = .ok (.aload_n 0, 1) := by decide +kernel
theorem d20_47 : decode jdk_52_method_5_code 47 = .ok (.iload_n 1, 1) := by decide +kernel
theorem d20_48 : decode jdk_52_method_5_code 48 = .ok (.baload, 1) := by decide +kernel
theorem d20_49 : decode jdk_52_method_5_code 49 = .ok (.sipush 255, 3) := by decide +kernel
theorem d20_52 : decode jdk_52_method_5_code 52 = .ok (.iand, 1) := by decide +kernel
theorem d20_53 : decode jdk_52_method_5_code 53 = .ok (.getstatic 63, 3) := by decide +kernel
theorem d20_56 : decode jdk_52_method_5_code 56 = .ok (.ishl, 1) := by decide +kernel
theorem d20_57 : decode jdk_52_method_5_code 57 = .ok (.ior, 1) := by decide +kernel
theorem d20_58 : decode jdk_52_method_5_code 58 = .ok (.i2c, 1) := by decide +kernel
theorem d20_59 : decode jdk_52_method_5_code 59 = .ok (.ireturn, 1) := by decide +kernel
theorem pn20 : plainFor (⟨"java/lang/StringUTF16", "getChar", "([BI)C"⟩ : MethodName) = true := by first | exact plainFor_of_name (by first | (simp [plainName, overriddenIn]; done) | decide +kernel) | decide +kernel
theorem pd20 : parseMethodDescriptor "([BI)C" = some ⟨[(.array .byte), .int], some .char⟩ := by decide +kernel
set_option maxRecDepth 65536 in
set_option maxHeartbeats 40000000 in
theorem gch (l : Launch) (Z : State) (a0' : Array Value) (hw : ∀ d ∈ tables_1, d.before a0' Z = true) (hEL : EW Z a0' EL0) (hSA : ∀ a ∈ Bundle.stringAtoms, a.before a0' Z = true) (h : Heap) (cpt : Int32) (SCP : Sta Z Z.heap "java/lang/String" "COMPACT_STRINGS" "Z" (.int cpt)) (hcp : ¬ cpt = 0) (SAD : Sta Z Z.heap "java/lang/StringUTF16" "$assertionsDisabled" "Z" (.int (1 : Int32))) (SHI : Sta Z Z.heap "java/lang/StringUTF16" "HI_BYTE_SHIFT" "I" (.int (0 : Int32))) (SLO : Sta Z Z.heap "java/lang/StringUTF16" "LO_BYTE_SHIFT" "I" (.int (8 : Int32))) (b : Addr) (cs : List Int32) (i : Nat) (c : Int32) (hn : cs.length < 2 ^ 28) (hi : cs[i]? = some c) (hc : Ch c) (B : Al Z h b .byte (iv' (u16 cs))) :
    Con l Z EL0 (⟨"java/lang/StringUTF16", "getChar", "([BI)C"⟩ : MethodName) jdk_52_method_5_code 2 (some .char) ⟨0, 0, 0, 0⟩ #[.ref b, .int (Int32.ofNat i)] h [] (Same (some (.int c)) h) (fun _ => []) := by
  refine Con.of (Ls := #[.val (.ref b), .val (.int (Int32.ofNat i))]) hw hEL pn20 (fun m => by first | (simp [entryFrame, mkF, argsToLocals, Value.category, maxLocals]; done) | rfl) fun W C => ?_
  refine C.kept fun hE => ?_
  have z0 : Z.heap.size ≤ h.size := hE.1
  have hl : i < cs.length := (List.getElem?_eq_some_iff.mp hi).1
  obtain ⟨g0, g1⟩ := u16_0 cs i c hi
  refine C.getstatic 3 d20_0 rfl (tw 90) SAD ?_
  refine C.ifT 28 d20_3 rfl (by decide) ?_
  refine C.iloadN 29 d20_28 rfl rfl ?_
  refine C.iconst 30 (1 : Int32) d20_29 rfl rfl ?_
  refine C.ishl 31 d20_30 rfl ?_
  rw [o_dbl (by omega)]
  refine C.istoreN 32 #[.val (.ref b), .val (.int (Int32.ofNat (2 * i)))] d20_31 rfl rfl ?_
  refine C.aloadN 33 d20_32 rfl rfl rfl ?_
  refine C.iloadN 34 d20_33 rfl rfl ?_
  have e1 : Int32.ofNat (2 * i) + (1 : Int32) = Int32.ofNat (2 * i + 1) := o_add (2 * i) 1
  refine C.iinc 37 #[.val (.ref b), .val (.int ((Int32.ofNat (2 * i)) + (1 : Int32)))] d20_34 rfl rfl rfl ?_
  show W h [] 0 0 37 #[.val (.ref b), .val (.int ((Int32.ofNat (2 * i)) + (1 : Int32)))] [.int (Int32.ofNat (2 * i)), .ref b]
  rw [e1]
  refine C.baloadB 38 (2 * i) (.int (b0 c)) d20_37 rfl B (o_nn (by omega)) (o_cl (by omega)) (by rw [List.getElem?_map, g0]; rfl) ?_
  refine C.sipush 41 (255 : Int32) d20_38 rfl rfl ?_
  refine C.iand 42 d20_41 rfl ?_
  refine C.getstatic 45 d20_42 rfl (tw 91) SHI ?_
  refine C.ishl 46 d20_45 rfl ?_
  refine C.aloadN 47 d20_46 rfl rfl rfl ?_
  refine C.iloadN 48 d20_47 rfl rfl ?_
  refine C.baloadB 49 (2 * i + 1) (.int (b1 c)) d20_48 rfl B (o_nn (by omega)) (o_cl (by omega)) (by rw [List.getElem?_map, g1]; rfl) ?_
  refine C.sipush 52 (255 : Int32) d20_49 rfl rfl ?_
  refine C.iand 53 d20_52 rfl ?_
  refine C.getstatic 56 d20_53 rfl (tw 92) SLO ?_
  refine C.ishl 57 d20_56 rfl ?_
  refine C.ior 58 d20_57 rfl ?_
  refine C.i2c 59 d20_58 rfl ?_
  rw [gl16 hc]
  exact C.retI .char d20_59 rfl (by simp) (ch_nar hc) (by decide) (by decide) ⟨rfl, rfl⟩ (fun _ q => nomatch q)
theorem d14_0 : decode jdk_52_method_16_code 0 = .ok (.iload_n 2, 1) := by decide +kernel
theorem d14_1 : decode jdk_52_method_16_code 1 = .ok (.newarray .byte, 2) := by decide +kernel
theorem d14_3 : decode jdk_52_method_16_code 3 = .ok (.astore_n 3, 1) := by decide +kernel
theorem d14_4 : decode jdk_52_method_16_code 4 = .ok (.aload_n 0, 1) := by decide +kernel
theorem d14_5 : decode jdk_52_method_16_code 5 = .ok (.iload_n 1, 1) := by decide +kernel
theorem d14_6 : decode jdk_52_method_16_code 6 = .ok (.aload_n 3, 1) := by decide +kernel
theorem d14_7 : decode jdk_52_method_16_code 7 = .ok (.iconst 0, 1) := by decide +kernel
theorem d14_8 : decode jdk_52_method_16_code 8 = .ok (.iload_n 2, 1) := by decide +kernel
theorem d14_9 : decode jdk_52_method_16_code 9 = .ok (.invokestatic 115, 3) := by decide +kernel
theorem d14_12 : decode jdk_52_method_16_code 12 = .ok (.istore 4, 2) := by decide +kernel
theorem d14_14 : decode jdk_52_method_16_code 14 = .ok (.iload 4, 2) := by decide +kernel
theorem d14_16 : decode jdk_52_method_16_code 16 = .ok (.iload_n 2, 1) := by decide +kernel
theorem d14_17 : decode jdk_52_method_16_code 17 = .ok (.if_icmp .eq 40, 3) := by decide +kernel
theorem d14_20 : decode jdk_52_method_16_code 20 = .ok (.aload_n 0, 1) := by decide +kernel
theorem d14_21 : decode jdk_52_method_16_code 21 = .ok (.iload_n 1, 1) := by decide +kernel
theorem d14_22 : decode jdk_52_method_16_code 22 = .ok (.iload_n 2, 1) := by decide +kernel
theorem d14_23 : decode jdk_52_method_16_code 23 = .ok (.invokestatic 119, 3) := by decide +kernel
theorem d14_26 : decode jdk_52_method_16_code 26 = .ok (.astore 5, 2) := by decide +kernel
theorem d14_28 : decode jdk_52_method_16_code 28 = .ok (.aload 5, 2) := by decide +kernel
theorem d14_30 : decode jdk_52_method_16_code 30 = .ok (.iload 4, 2) := by decide +kernel
theorem d14_32 : decode jdk_52_method_16_code 32 = .ok (.invokestatic 71, 3) := by decide +kernel
theorem d14_35 : decode jdk_52_method_16_code 35 = .ok (.sipush 255, 3) := by decide +kernel
theorem d14_38 : decode jdk_52_method_16_code 38 = .ok (.if_icmp .gt 16, 3) := by decide +kernel
theorem d14_41 : decode jdk_52_method_16_code 41 = .ok (.aload 5, 2) := by decide +kernel
theorem d14_43 : decode jdk_52_method_16_code 43 = .ok (.iconst 0, 1) := by decide +kernel
theorem d14_44 : decode jdk_52_method_16_code 44 = .ok (.aload_n 3, 1) := by decide +kernel
theorem d14_45 : decode jdk_52_method_16_code 45 = .ok (.iconst 0, 1) := by decide +kernel
theorem d14_46 : decode jdk_52_method_16_code 46 = .ok (.iload_n 2, 1) := by decide +kernel
theorem d14_47 : decode jdk_52_method_16_code 47 = .ok (.invokestatic 123, 3) := by decide +kernel
theorem d14_50 : decode jdk_52_method_16_code 50 = .ok (.iload_n 2, 1) := by decide +kernel
theorem d14_51 : decode jdk_52_method_16_code 51 = .ok (.if_icmp .eq 6, 3) := by decide +kernel
theorem d14_54 : decode jdk_52_method_16_code 54 = .ok (.aload 5, 2) := by decide +kernel
theorem d14_56 : decode jdk_52_method_16_code 56 = .ok (.areturn, 1) := by decide +kernel
theorem d14_57 : decode jdk_52_method_16_code 57 = .ok (.aload_n 3, 1) := by decide +kernel
theorem d14_58 : decode jdk_52_method_16_code 58 = .ok (.areturn, 1) := by decide +kernel
theorem pn14 : plainFor (⟨"java/lang/StringUTF16", "compress", "([CII)[B"⟩ : MethodName) = true := by first | exact plainFor_of_name (by first | (simp [plainName, overriddenIn]; done) | decide +kernel) | decide +kernel
theorem pd14 : parseMethodDescriptor "([CII)[B" = some ⟨[(.array .char), .int, .int], some (.array .byte)⟩ := by decide +kernel
set_option maxRecDepth 65536 in
set_option maxHeartbeats 40000000 in
theorem c3 (l : Launch) (Z : State) (a0' : Array Value) (hw : ∀ d ∈ tables_1, d.before a0' Z = true) (hEL : EW Z a0' EL0) (hSA : ∀ a ∈ Bundle.stringAtoms, a.before a0' Z = true) (h : Heap) (cpt : Int32) (SCP : Sta Z Z.heap "java/lang/String" "COMPACT_STRINGS" "Z" (.int cpt)) (hcp : ¬ cpt = 0) (SAD : Sta Z Z.heap "java/lang/StringUTF16" "$assertionsDisabled" "Z" (.int (1 : Int32))) (SHI : Sta Z Z.heap "java/lang/StringUTF16" "HI_BYTE_SHIFT" "I" (.int (0 : Int32))) (SLO : Sta Z Z.heap "java/lang/StringUTF16" "LO_BYTE_SHIFT" "I" (.int (8 : Int32))) (src : Addr) (cs : List Int32) (hn : cs.length ≤ 8) (hch : ∀ c ∈ cs, Ch c) (A : Al Z h src .char (iv' cs)) :
    Con l Z EL0 (⟨"java/lang/StringUTF16", "compress", "([CII)[B"⟩ : MethodName) jdk_52_method_16_code 6 (some (.array .byte)) ⟨3, 2, 24, 60⟩ #[.ref src, .int 0, .int (Int32.ofNat cs.length)] h [] (fun v h' => ∃ b, v = some (.ref b) ∧ h.size ≤ b ∧ Ext h h' ∧ Al Z h' b .byte (iv' (enc cs))) (fun _ => []) := by
  refine Con.of (Ls := #[.val (.ref src), .val (.int (0 : Int32)), .val (.int (Int32.ofNat cs.length)), .unset, .unset, .unset]) hw hEL pn14 (fun m => by first | (simp [entryFrame, mkF, argsToLocals, Value.category, maxLocals]; done) | rfl) fun W C => ?_
  refine C.kept fun hE => ?_
  have z0 : Z.heap.size ≤ h.size := hE.1
  refine C.iloadN 1 d14_0 rfl rfl ?_
  refine C.newarray 3 8 d14_1 rfl (tw 16) (o_nn (by omega)) (by rw [o_cl (by omega)]; exact hn) (by decide) (by decide) (by decide) ?_
  intro h1 E1 B1
  rw [o_cl (by omega)] at B1
  obtain ⟨b, gb⟩ : ∃ z, z = h.size := ⟨_, rfl⟩
  rw [← gb] at B1 ⊢
  have ne : src ≠ b := by rw [gb]; exact Nat.ne_of_lt A.lt
  show W h1 [b] 1 8 3 #[.val (.ref src), .val (.int (0 : Int32)), .val (.int (Int32.ofNat cs.length)), .unset, .unset, .unset] [.ref b]
  refine C.astoreN 4 #[.val (.ref src), .val (.int (0 : Int32)), .val (.int (Int32.ofNat cs.length)), .val (.ref b), .unset, .unset] d14_3 rfl rfl rfl ?_
  refine C.aloadN 5 d14_4 rfl rfl rfl ?_
  refine C.iloadN 6 d14_5 rfl rfl ?_
  refine C.aloadN 7 d14_6 rfl rfl rfl ?_
  refine C.iconst 8 (0 : Int32) d14_7 rfl rfl ?_
  refine C.iloadN 9 d14_8 rfl rfl ?_
  refine C.callS 12 (as := [.ref src, .int (0 : Int32), .ref b, .int (0 : Int32), .int (Int32.ofNat cs.length)]) (rest := []) (rm := ⟨0, 0, 0, 0⟩) 0 d14_9 rfl (tw 74) (tw 75) (tw 72) (tw 76) (by decide) (c5 l Z a0' hw hEL hSA h1 src b ne cs (by omega) (A.ext E1) B1) (by simp) pd15 rfl rfl (Nat.le_of_eq rfl) (by decide) (by decide) (by decide) (by decide) rfl ?_
  rintro v h2 ⟨K2, ⟨rfl, hl, B2⟩ | ⟨r, c, rfl, hg, hc⟩⟩
  all_goals have K : Keep h h2 [] := ((Keep.refl h []).ext E1).trans K2 (fun x hx => Or.inr (by cases List.mem_singleton.mp hx; exact Nat.le_of_eq gb.symm))
  all_goals have E : Ext h h2 := ⟨K.1, fun x c q => K.2.1 x c q nin0⟩
  · show W h2 [b] 1 8 12 #[.val (.ref src), .val (.int (0 : Int32)), .val (.int (Int32.ofNat cs.length)), .val (.ref b), .unset, .unset] [.int (Int32.ofNat cs.length)]
    refine C.istore 14 #[.val (.ref src), .val (.int (0 : Int32)), .val (.int (Int32.ofNat cs.length)), .val (.ref b), .val (.int (Int32.ofNat cs.length)), .unset] d14_12 rfl rfl ?_
    refine C.iload 16 d14_14 rfl rfl ?_
    refine C.iloadN 17 d14_16 rfl rfl ?_
    refine C.icmpT 57 d14_17 rfl (teq rfl).1 ?_
    refine C.aloadN 58 d14_57 rfl rfl rfl ?_
    exact C.retA (.array .byte) d14_58 rfl rfl rfl (by decide) (by decide) ⟨b, rfl, Nat.le_of_eq gb.symm, E, by rw [enc_l hl]; exact B2⟩ (fun _ q => nomatch q)
  · have hl : ¬ lat cs := fun z => z c (List.mem_of_getElem? hg) hc
    have hr : r < cs.length := (List.getElem?_eq_some_iff.mp hg).1
    show W h2 [b] 1 8 12 #[.val (.ref src), .val (.int (0 : Int32)), .val (.int (Int32.ofNat cs.length)), .val (.ref b), .unset, .unset] [.int (Int32.ofNat r)]
    refine C.istore 14 #[.val (.ref src), .val (.int (0 : Int32)), .val (.int (Int32.ofNat cs.length)), .val (.ref b), .val (.int (Int32.ofNat r)), .unset] d14_12 rfl rfl ?_
    refine C.iload 16 d14_14 rfl rfl ?_
    refine C.iloadN 17 d14_16 rfl rfl ?_
    have q : ¬ Int32.ofNat r = Int32.ofNat cs.length := fun z => absurd (o_inj (by omega) (by omega) z) (by omega)
    refine C.icmpF 20 d14_17 rfl (feq q).1 ?_
    refine C.aloadN 21 d14_20 rfl rfl rfl ?_
    refine C.iloadN 22 d14_21 rfl rfl ?_
    refine C.iloadN 23 d14_22 rfl rfl ?_
    refine C.callS 26 (as := [.ref src, .int (0 : Int32), .int (Int32.ofNat cs.length)]) (rest := []) (rm := ⟨2, 1, 16, 24⟩) 0 d14_23 rfl (tw 77) (tw 78) (tw 72) (tw 79) (by decide) (tby l Z a0' hw hEL hSA h2 cpt SCP hcp SAD SHI SLO src cs hn (A.ext E)) (by simp) pd16 rfl rfl (Nat.le_of_eq rfl) (by decide) (by decide) (by decide) (by decide) rfl ?_
    rintro v h3 ⟨b2, rfl, g3, E3, B3⟩
    show W h3 [b] 2 24 26 #[.val (.ref src), .val (.int (0 : Int32)), .val (.int (Int32.ofNat cs.length)), .val (.ref b), .val (.int (Int32.ofNat r)), .unset] [.ref b2]
    refine C.astore 28 #[.val (.ref src), .val (.int (0 : Int32)), .val (.int (Int32.ofNat cs.length)), .val (.ref b), .val (.int (Int32.ofNat r)), .val (.ref b2)] d14_26 rfl rfl rfl ?_
    refine C.aload 30 d14_28 rfl rfl rfl ?_
    refine C.iload 32 d14_30 rfl rfl ?_
    refine C.callS 35 (as := [.ref b2, .int (Int32.ofNat r)]) (rest := []) (rm := ⟨0, 0, 0, 0⟩) 0 d14_32 rfl (tw 93) (tw 94) (tw 72) (tw 95) (by decide) (gch l Z a0' hw hEL hSA h3 cpt SCP hcp SAD SHI SLO b2 cs r c (by omega) hg (hch c (List.mem_of_getElem? hg)) B3) (by simp) pd20 rfl rfl (Nat.le_of_eq rfl) (by decide) (by decide) (by decide) (by decide) rfl ?_
    refine same_intro ?_
    show W h3 [b] 2 24 35 #[.val (.ref src), .val (.int (0 : Int32)), .val (.int (Int32.ofNat cs.length)), .val (.ref b), .val (.int (Int32.ofNat r)), .val (.ref b2)] [.int c]
    refine C.sipush 38 (255 : Int32) d14_35 rfl rfl ?_
    refine C.icmpT 54 d14_38 rfl (tlt hc).2.2.1 ?_
    refine C.aload 56 d14_54 rfl rfl rfl ?_
    exact C.retA (.array .byte) d14_56 rfl rfl rfl (by decide) (by decide) ⟨b2, rfl, Nat.le_trans E.1 g3, ⟨Nat.le_trans E.1 E3.1, fun x c q => E3.2 x c (E.2 x c q)⟩, by rw [enc_u hl]; exact B3⟩ (fun _ q => nomatch q)
theorem d21_0 : decode jdk_52_method_15_code 0 = .ok (.iload_n 1, 1) := by decide +kernel
theorem d21_1 : decode jdk_52_method_15_code 1 = .ok (.aload_n 0, 1) := by decide +kernel
theorem d21_2 : decode jdk_52_method_15_code 2 = .ok (.arraylength, 1) := by decide +kernel
theorem d21_3 : decode jdk_52_method_15_code 3 = .ok (.isub, 1) := by decide +kernel
theorem d21_4 : decode jdk_52_method_15_code 4 = .ok (.bipush 31, 2) := by decide +kernel
theorem d21_6 : decode jdk_52_method_15_code 6 = .ok (.iushr, 1) := by decide +kernel
theorem d21_7 : decode jdk_52_method_15_code 7 = .ok (.i2b, 1) := by decide +kernel
theorem d21_8 : decode jdk_52_method_15_code 8 = .ok (.ireturn, 1) := by decide +kernel
theorem pn21 : plainFor (⟨"java/lang/StringUTF16", "coderFromArrayLen", "([BI)B"⟩ : MethodName) = true := by first | exact plainFor_of_name (by first | (simp [plainName, overriddenIn]; done) | decide +kernel) | decide +kernel
theorem pd21 : parseMethodDescriptor "([BI)B" = some ⟨[(.array .byte), .int], some .byte⟩ := by decide +kernel
set_option maxRecDepth 65536 in
set_option maxHeartbeats 40000000 in
theorem cfa (l : Launch) (Z : State) (a0' : Array Value) (hw : ∀ d ∈ tables_1, d.before a0' Z = true) (hEL : EW Z a0' EL0) (hSA : ∀ a ∈ Bundle.stringAtoms, a.before a0' Z = true) (h : Heap) (b : Addr) (cs : List Int32) (hn : cs.length < 2 ^ 28) (h0 : cs.length ≠ 0) (B : Al Z h b .byte (iv' (enc cs))) :
    Con l Z EL0 (⟨"java/lang/StringUTF16", "coderFromArrayLen", "([BI)B"⟩ : MethodName) jdk_52_method_15_code 2 (some .byte) ⟨0, 0, 0, 0⟩ #[.ref b, .int (Int32.ofNat cs.length)] h [] (Same (some (.int (cod cs))) h) (fun _ => []) := by
  refine Con.of (Ls := #[.val (.ref b), .val (.int (Int32.ofNat cs.length))]) hw hEL pn21 (fun m => by first | (simp [entryFrame, mkF, argsToLocals, Value.category, maxLocals]; done) | rfl) fun W C => ?_
  refine C.kept fun hE => ?_
  have z0 : Z.heap.size ≤ h.size := hE.1
  refine C.iloadN 1 d21_0 rfl rfl ?_
  refine C.aloadN 2 d21_1 rfl rfl rfl ?_
  by_cases hl : lat cs
  · rw [enc_l hl] at B
    refine C.arraylength 3 (Int32.ofNat cs.length) d21_2 rfl B (by simp) ?_
    refine C.isub 4 d21_3 rfl ?_
    rw [Int32.sub_self]
    refine C.bipush 6 (31 : Int32) d21_4 rfl rfl ?_
    refine C.iushr 7 d21_6 rfl ?_
    refine C.i2b 8 d21_7 rfl ?_
    show W h [] 0 0 8 #[.val (.ref b), .val (.int (Int32.ofNat cs.length))] [.int (0 : Int32)]
    exact C.retI .byte d21_8 rfl (by simp) rfl (by decide) (by decide) ⟨by rw [cod_l hl], rfl⟩ (fun _ q => nomatch q)
  · rw [enc_u hl] at B
    refine C.arraylength 3 (Int32.ofNat (2 * cs.length)) d21_2 rfl B (by simp [u16_len]) ?_
    refine C.isub 4 d21_3 rfl ?_
    refine C.bipush 6 (31 : Int32) d21_4 rfl rfl ?_
    refine C.iushr 7 d21_6 rfl ?_
    refine C.i2b 8 d21_7 rfl ?_
    rw [o_cfu (by omega) h0]
    exact C.retI .byte d21_8 rfl (by simp) rfl (by decide) (by decide) ⟨by rw [cod_u hl], rfl⟩ (fun _ q => nomatch q)
theorem d2_0 : decode jdk_42_method_149_code 0 = .ok (.aload_n 0, 1) := by decide +kernel
theorem d2_1 : decode jdk_42_method_149_code 1 = .ok (.invokespecial 1, 3) := by decide +kernel
theorem d2_4 : decode jdk_42_method_149_code 4 = .ok (.iload_n 3, 1) := by decide +kernel
theorem d2_5 : decode jdk_42_method_149_code 5 = .ok (.ifCond .ne 22, 3) := by decide +kernel
theorem d2_8 : decode jdk_42_method_149_code 8 = .ok (.aload_n 0, 1) := by decide +kernel
theorem d2_9 : decode jdk_42_method_149_code 9 = .ok (.ldc 7, 2) := by decide +kernel
theorem d2_11 : decode jdk_42_method_149_code 11 = .ok (.getfield 9, 3) := by decide +kernel
theorem d2_14 : decode jdk_42_method_149_code 14 = .ok (.putfield 9, 3) := by decide +kernel
theorem d2_17 : decode jdk_42_method_149_code 17 = .ok (.aload_n 0, 1) := by decide +kernel
theorem d2_18 : decode jdk_42_method_149_code 18 = .ok (.ldc 7, 2) := by decide +kernel
theorem d2_20 : decode jdk_42_method_149_code 20 = .ok (.getfield 15, 3) := by decide +kernel
theorem d2_23 : decode jdk_42_method_149_code 23 = .ok (.putfield 15, 3) := by decide +kernel
theorem d2_26 : decode jdk_42_method_149_code 26 = .ok (.return_, 1) := by decide +kernel
theorem d2_27 : decode jdk_42_method_149_code 27 = .ok (.getstatic 38, 3) := by decide +kernel
theorem d2_30 : decode jdk_42_method_149_code 30 = .ok (.ifCond .eq 28, 3) := by decide +kernel
theorem d2_33 : decode jdk_42_method_149_code 33 = .ok (.aload_n 1, 1) := by decide +kernel
theorem d2_34 : decode jdk_42_method_149_code 34 = .ok (.iload_n 2, 1) := by decide +kernel
theorem d2_35 : decode jdk_42_method_149_code 35 = .ok (.iload_n 3, 1) := by decide +kernel
theorem d2_36 : decode jdk_42_method_149_code 36 = .ok (.invokestatic 177, 3) := by decide +kernel
theorem d2_39 : decode jdk_42_method_149_code 39 = .ok (.astore 5, 2) := by decide +kernel
theorem d2_41 : decode jdk_42_method_149_code 41 = .ok (.aload_n 0, 1) := by decide +kernel
theorem d2_42 : decode jdk_42_method_149_code 42 = .ok (.aload 5, 2) := by decide +kernel
theorem d2_44 : decode jdk_42_method_149_code 44 = .ok (.iload_n 3, 1) := by decide +kernel
theorem d2_45 : decode jdk_42_method_149_code 45 = .ok (.invokestatic 47, 3) := by decide +kernel
theorem d2_48 : decode jdk_42_method_149_code 48 = .ok (.putfield 15, 3) := by decide +kernel
theorem d2_51 : decode jdk_42_method_149_code 51 = .ok (.aload_n 0, 1) := by decide +kernel
theorem d2_52 : decode jdk_42_method_149_code 52 = .ok (.aload 5, 2) := by decide +kernel
theorem d2_54 : decode jdk_42_method_149_code 54 = .ok (.putfield 9, 3) := by decide +kernel
theorem d2_57 : decode jdk_42_method_149_code 57 = .ok (.return_, 1) := by decide +kernel
theorem d2_58 : decode jdk_42_method_149_code 58 = .ok (.aload_n 0, 1) := by decide +kernel
theorem d2_59 : decode jdk_42_method_149_code 59 = .ok (.iconst 1, 1) := by decide +kernel
theorem d2_60 : decode jdk_42_method_149_code 60 = .ok (.putfield 15, 3) := by decide +kernel
theorem d2_63 : decode jdk_42_method_149_code 63 = .ok (.aload_n 0, 1) := by decide +kernel
theorem d2_64 : decode jdk_42_method_149_code 64 = .ok (.aload_n 1, 1) := by decide +kernel
theorem d2_65 : decode jdk_42_method_149_code 65 = .ok (.iload_n 2, 1) := by decide +kernel
theorem d2_66 : decode jdk_42_method_149_code 66 = .ok (.iload_n 3, 1) := by decide +kernel
theorem d2_67 : decode jdk_42_method_149_code 67 = .ok (.invokestatic 180, 3) := by decide +kernel
theorem d2_70 : decode jdk_42_method_149_code 70 = .ok (.putfield 9, 3) := by decide +kernel
theorem d2_73 : decode jdk_42_method_149_code 73 = .ok (.return_, 1) := by decide +kernel
theorem pn2 : plainFor (⟨"java/lang/String", "<init>", "([CIILjava/lang/Void;)V"⟩ : MethodName) = true := by first | exact plainFor_of_name (by first | (simp [plainName, overriddenIn]; done) | decide +kernel) | decide +kernel
theorem pd2 : parseMethodDescriptor "([CIILjava/lang/Void;)V" = some ⟨[(.array .char), .int, .int, (.object "java/lang/Void")], none⟩ := by decide +kernel
set_option maxRecDepth 65536 in
set_option maxHeartbeats 40000000 in
theorem si4 (l : Launch) (Z : State) (a0' : Array Value) (hw : ∀ d ∈ tables_1, d.before a0' Z = true) (hEL : EW Z a0' EL0) (hSA : ∀ a ∈ Bundle.stringAtoms, a.before a0' Z = true) (h : Heap) (a src : Addr) (cpt : Int32) (SCP : Sta Z Z.heap "java/lang/String" "COMPACT_STRINGS" "Z" (.int cpt)) (hcp : ¬ cpt = 0) (SAD : Sta Z Z.heap "java/lang/StringUTF16" "$assertionsDisabled" "Z" (.int (1 : Int32))) (SHI : Sta Z Z.heap "java/lang/StringUTF16" "HI_BYTE_SHIFT" "I" (.int (0 : Int32))) (SLO : Sta Z Z.heap "java/lang/StringUTF16" "LO_BYTE_SHIFT" "I" (.int (8 : Int32))) (cs : List Int32) (hn : cs.length ≤ 8) (h0 : cs.length ≠ 0) (hch : ∀ c ∈ cs, Ch c) (E : Exa Z h a "java/lang/String") (FV : Fld Z h a "java/lang/String" "value" "[B" .null) (FC : Fld Z h a "java/lang/String" "coder" "B" (.int 0)) (A : Al Z h src .char (iv' cs)) :
    Con l Z EL0 (⟨"java/lang/String", "<init>", "([CIILjava/lang/Void;)V"⟩ : MethodName) jdk_42_method_149_code 6 none ⟨4, 4, 24, 77⟩ #[.ref a, .ref src, .int 0, .int (Int32.ofNat cs.length), .null] h [a] (fun v h' => ∃ b, v = none ∧ b ≠ a ∧ Keep h h' [a] ∧ Str Z h' a b cs) (fun _ => []) := by
  refine Con.of (Ls := #[.val (.ref a), .val (.ref src), .val (.int (0 : Int32)), .val (.int (Int32.ofNat cs.length)), .val (.null), .unset]) hw hEL pn2 (fun m => by first | (simp [entryFrame, mkF, argsToLocals, Value.category, maxLocals]; done) | rfl) fun W C => ?_
  refine C.kept fun hE => ?_
  have z0 : Z.heap.size ≤ h.size := hE.1
  refine C.aloadN 1 d2_0 rfl rfl rfl ?_
  refine C.initObj 4 0 d2_1 rfl (tw 12) (tw 13) (tw 14) rfl (by decide) (Nat.le_of_eq rfl) (by decide) ?_
  refine C.iloadN 5 d2_4 rfl rfl ?_
  refine C.ifT 27 d2_5 rfl ((if0 _ _).trans (feq (o_ne (by omega) h0)).2) ?_
  refine C.getstatic 30 d2_27 rfl (tw 41) SCP ?_
  refine C.ifF 33 d2_30 rfl ((if0 _ _).trans (feq hcp).1) ?_
  refine C.aloadN 34 d2_33 rfl rfl rfl ?_
  refine C.iloadN 35 d2_34 rfl rfl ?_
  refine C.iloadN 36 d2_35 rfl rfl ?_
  refine C.callS 39 (as := [.ref src, .int (0 : Int32), .int (Int32.ofNat cs.length)]) (rest := []) (rm := ⟨3, 2, 24, 60⟩) 0 d2_36 rfl (tw 70) (tw 71) (tw 72) (tw 73) (by decide) (c3 l Z a0' hw hEL hSA h cpt SCP hcp SAD SHI SLO src cs hn hch A) (by simp) pd14 rfl rfl (Nat.le_of_eq rfl) (by decide) (by decide) (by decide) (by decide) rfl ?_
  rintro v h1 ⟨b, rfl, gb, E1, B1⟩
  have z1 : Z.heap.size ≤ h1.size := Nat.le_trans z0 E1.1
  have nab : a ≠ b := Nat.ne_of_lt (Nat.lt_of_lt_of_le E.lt gb)
  show W h1 [a] 2 24 39 #[.val (.ref a), .val (.ref src), .val (.int (0 : Int32)), .val (.int (Int32.ofNat cs.length)), .val (.null), .unset] [.ref b]
  refine C.astore 41 #[.val (.ref a), .val (.ref src), .val (.int (0 : Int32)), .val (.int (Int32.ofNat cs.length)), .val (.null), .val (.ref b)] d2_39 rfl rfl rfl ?_
  refine C.aloadN 42 d2_41 rfl rfl rfl ?_
  refine C.aload 44 d2_42 rfl rfl rfl ?_
  refine C.iloadN 45 d2_44 rfl rfl ?_
  refine C.callS 48 (as := [.ref b, .int (Int32.ofNat cs.length)]) (rest := [.ref a]) (rm := ⟨0, 0, 0, 0⟩) 1 d2_45 rfl (tw 96) (tw 97) (tw 72) (tw 98) (by decide) (cfa l Z a0' hw hEL hSA h1 b cs (by omega) h0 B1) (by simp) pd21 rfl rfl (Nat.le_of_eq rfl) (by decide) (by decide) (by decide) (by decide) rfl ?_
  refine same_intro ?_
  show W h1 [a] 2 24 48 #[.val (.ref a), .val (.ref src), .val (.int (0 : Int32)), .val (.int (Int32.ofNat cs.length)), .val (.null), .val (.ref b)] [.int (cod cs), .ref a]
  have FC1 := FC.ext E1
  have FV1 := FV.ext E1
  have X1 := E.ext E1
  have cod01 : cod cs = 0 ∨ cod cs = 1 := by unfold cod; split <;> simp
  have nb : narrow .byte (.int (cod cs)) = .int (cod cs) := by rcases cod01 with q | q <;> rw [q] <;> rfl
  have fb : fits .byte (.int (cod cs)) = true := by rcases cod01 with q | q <;> rw [q] <;> rfl
  refine C.putfield 51 (v' := .int (cod cs)) .byte d2_48 rfl (tw 22) Via.refl FC1 X1 (Or.inr ⟨(tw 18), rfl, rfl⟩) (tw 3) (by decide) nb fb (by simp) ?_
  intro h2 W2
  have z2 : Z.heap.size ≤ h2.size := by rw [W2.size]; exact z1
  refine C.aloadN 52 d2_51 rfl rfl rfl ?_
  refine C.aload 54 d2_52 rfl rfl rfl ?_
  have FV2 := FV1.other W2 (Or.inr (slot_ne (Or.inr (hw _ (tw 17))) (Or.inr (hw _ (tw 18))) (by decide) (t := (.array .byte)) (t' := .byte) (by decide) (by decide)))
  refine C.putfield 57 (v' := .ref b) (.array .byte) d2_54 rfl (tw 21) Via.refl FV2 (X1.wr W2) (Or.inr ⟨(tw 17), rfl, rfl⟩) (tw 3) (by decide) rfl rfl (by simp) ?_
  intro h3 W3
  have z3 : Z.heap.size ≤ h3.size := by rw [W3.size]; exact z2
  have FC3 := (FC1.same W2).other W3 (Or.inr (slot_ne (Or.inr (hw _ (tw 18))) (Or.inr (hw _ (tw 17))) (by decide) (t := .byte) (t' := (.array .byte)) (by decide) (by decide)))
  have B3 := (B1.keep (Keep.of_wr W2) (ninS nab.symm nin0)).keep (Keep.of_wr W3) (ninS nab.symm nin0)
  exact C.ret0 d2_57 rfl (by decide) (by decide) ⟨b, rfl, nab.symm, (((Keep.refl h [a]).ext E1).wr W2 (Or.inl (List.mem_of_getElem? (i := 0) rfl))).wr W3 (Or.inl (List.mem_of_getElem? (i := 0) rfl)), (X1.wr W2).wr W3, FV2.same W3, FC3, B3⟩ (fun _ q => nomatch q)
set_option maxRecDepth 65536 in
set_option maxHeartbeats 40000000 in
theorem si4e (l : Launch) (Z : State) (a0' : Array Value) (hw : ∀ d ∈ tables_1, d.before a0' Z = true) (hEL : EW Z a0' EL0) (hSA : ∀ a ∈ Bundle.stringAtoms, a.before a0' Z = true) (h : Heap) (a src : Addr) (cpt : Int32) (SCP : Sta Z Z.heap "java/lang/String" "COMPACT_STRINGS" "Z" (.int cpt)) (hcp : ¬ cpt = 0) (SAD : Sta Z Z.heap "java/lang/StringUTF16" "$assertionsDisabled" "Z" (.int (1 : Int32))) (SHI : Sta Z Z.heap "java/lang/StringUTF16" "HI_BYTE_SHIFT" "I" (.int (0 : Int32))) (SLO : Sta Z Z.heap "java/lang/StringUTF16" "LO_BYTE_SHIFT" "I" (.int (8 : Int32))) (cs : List Int32) (hn : cs.length ≤ 8) (h0 : cs = []) (hch : ∀ c ∈ cs, Ch c) (E : Exa Z h a "java/lang/String") (FV : Fld Z h a "java/lang/String" "value" "[B" .null) (FC : Fld Z h a "java/lang/String" "coder" "B" (.int 0)) (A : Al Z h src .char (iv' cs)) :
    Con l Z EL0 (⟨"java/lang/String", "<init>", "([CIILjava/lang/Void;)V"⟩ : MethodName) jdk_42_method_149_code 6 none ⟨4, 4, 24, 77⟩ #[.ref a, .ref src, .int 0, .int (Int32.ofNat cs.length), .null] h [a] (fun v h' => ∃ b, v = none ∧ b ≠ a ∧ Keep h h' [a] ∧ Str Z h' a b cs) (fun _ => []) := by
  refine Con.of (Ls := #[.val (.ref a), .val (.ref src), .val (.int (0 : Int32)), .val (.int (Int32.ofNat cs.length)), .val (.null), .unset]) hw hEL pn2 (fun m => by first | (simp [entryFrame, mkF, argsToLocals, Value.category, maxLocals]; done) | rfl) fun W C => ?_
  refine C.kept fun hE => ?_
  have z0 : Z.heap.size ≤ h.size := hE.1
  subst h0
  refine C.aloadN 1 d2_0 rfl rfl rfl ?_
  refine C.initObj 4 0 d2_1 rfl (tw 12) (tw 13) (tw 14) rfl (by decide) (Nat.le_of_eq rfl) (by decide) ?_
  refine C.iloadN 5 d2_4 rfl rfl ?_
  show W h [a] 0 0 5 #[.val (.ref a), .val (.ref src), .val (.int (0 : Int32)), .val (.int (0 : Int32)), .val (.null), .unset] [.int (0 : Int32)]
  refine C.ifF 8 d2_5 rfl (by decide) ?_
  refine C.aloadN 9 d2_8 rfl rfl rfl ?_
  refine C.ldcC 11 (vs := []) 0 0 d2_9 rfl (tw 15) hSA (by simp [EL0]) ⟨by simp, rfl⟩ (by decide) rfl (by decide) (by decide) (by decide) (by decide) ?_
  intro h1 u1 v1 E1 Y1 V1 D1 A1 ne1
  have z1 : Z.heap.size ≤ h1.size := Nat.le_trans z0 E1.1
  show W h1 [a] 2 4 11 #[.val (.ref a), .val (.ref src), .val (.int (0 : Int32)), .val (.int (0 : Int32)), .val (.null), .unset] [.ref u1, .ref a]
  refine C.getfield 14 d2_11 rfl (tw 21) Via.refl V1 ?_
  have FV1 := FV.ext E1
  have FC1 := FC.ext E1
  have X1 := E.ext E1
  have na := ne1 a (by simp)
  refine C.putfield 17 (v' := .ref v1) (.array .byte) d2_14 rfl (tw 21) Via.refl FV1 X1 (Or.inr ⟨(tw 17), rfl, rfl⟩) (tw 3) (by decide) rfl rfl (by simp) ?_
  intro h2 W2
  have z2 : Z.heap.size ≤ h2.size := by rw [W2.size]; exact z1
  have FV2 := FV1.same W2
  have FC2 := FC1.other W2 (Or.inr (slot_ne (Or.inr (hw _ (tw 18))) (Or.inr (hw _ (tw 17))) (by decide) (t := .byte) (t' := (.array .byte)) (by decide) (by decide)))
  have X2 := X1.wr W2
  have A2 := A1.keep (Keep.of_wr W2) (ninS na.2.symm nin0)
  refine C.aloadN 18 d2_17 rfl rfl rfl ?_
  refine C.ldcC 20 (vs := []) 0 0 d2_18 rfl (tw 15) hSA (by simp [EL0]) ⟨by simp, rfl⟩ (by decide) rfl (by decide) (by decide) (by decide) (by decide) ?_
  intro h3 u3 v3 E3 Y3 V3 D3 A3 ne3
  have z3 : Z.heap.size ≤ h3.size := Nat.le_trans z2 E3.1
  show W h3 [a] 4 8 20 #[.val (.ref a), .val (.ref src), .val (.int (0 : Int32)), .val (.int (0 : Int32)), .val (.null), .unset] [.ref u3, .ref a]
  refine C.getfield 23 d2_20 rfl (tw 22) Via.refl D3 ?_
  have FV3 := FV2.ext E3
  have FC3 := FC2.ext E3
  have X3 := X2.ext E3
  have A4 := A2.ext E3
  refine C.putfield 26 (v' := .int (0 : Int32)) .byte d2_23 rfl (tw 22) Via.refl FC3 X3 (Or.inr ⟨(tw 18), rfl, rfl⟩) (tw 3) (by decide) rfl rfl (by simp) ?_
  intro h4 W4
  have z4 : Z.heap.size ≤ h4.size := by rw [W4.size]; exact z3
  exact C.ret0 d2_26 rfl (by decide) (by decide) ⟨v1, rfl, na.2.symm, ((((Keep.refl h [a]).ext E1).wr W2 (Or.inl (List.mem_of_getElem? (i := 0) rfl))).ext E3).wr W4 (Or.inl (List.mem_of_getElem? (i := 0) rfl)), X3.wr W4, FV3.other W4 (Or.inr (slot_ne (Or.inr (hw _ (tw 17))) (Or.inr (hw _ (tw 18))) (by decide) (t := (.array .byte)) (t' := .byte) (by decide) (by decide))), FC3.same W4, A4.keep (Keep.of_wr W4) (ninS na.2.symm nin0)⟩ (fun _ q => nomatch q)
theorem d1_0 : decode jdk_42_method_3_code 0 = .ok (.aload_n 0, 1) := by decide +kernel
theorem d1_1 : decode jdk_42_method_3_code 1 = .ok (.aload_n 1, 1) := by decide +kernel
theorem d1_2 : decode jdk_42_method_3_code 2 = .ok (.iconst 0, 1) := by decide +kernel
theorem d1_3 : decode jdk_42_method_3_code 3 = .ok (.aload_n 1, 1) := by decide +kernel
theorem d1_4 : decode jdk_42_method_3_code 4 = .ok (.arraylength, 1) := by decide +kernel
theorem d1_5 : decode jdk_42_method_3_code 5 = .ok (.aconst_null, 1) := by decide +kernel
theorem d1_6 : decode jdk_42_method_3_code 6 = .ok (.invokespecial 27, 3) := by decide +kernel
theorem d1_9 : decode jdk_42_method_3_code 9 = .ok (.return_, 1) := by decide +kernel
theorem pn1 : plainFor (⟨"java/lang/String", "<init>", "([C)V"⟩ : MethodName) = true := by first | exact plainFor_of_name (by first | (simp [plainName, overriddenIn]; done) | decide +kernel) | decide +kernel
theorem pd1 : parseMethodDescriptor "([C)V" = some ⟨[(.array .char)], none⟩ := by decide +kernel
set_option maxRecDepth 65536 in
set_option maxHeartbeats 40000000 in
theorem si1 (l : Launch) (Z : State) (a0' : Array Value) (hw : ∀ d ∈ tables_1, d.before a0' Z = true) (hEL : EW Z a0' EL0) (hSA : ∀ a ∈ Bundle.stringAtoms, a.before a0' Z = true) (h : Heap) (a src : Addr) (cpt : Int32) (SCP : Sta Z Z.heap "java/lang/String" "COMPACT_STRINGS" "Z" (.int cpt)) (hcp : ¬ cpt = 0) (SAD : Sta Z Z.heap "java/lang/StringUTF16" "$assertionsDisabled" "Z" (.int (1 : Int32))) (SHI : Sta Z Z.heap "java/lang/StringUTF16" "HI_BYTE_SHIFT" "I" (.int (0 : Int32))) (SLO : Sta Z Z.heap "java/lang/StringUTF16" "LO_BYTE_SHIFT" "I" (.int (8 : Int32))) (cs : List Int32) (hn : cs.length ≤ 8) (h0 : cs.length ≠ 0) (hch : ∀ c ∈ cs, Ch c) (E : Exa Z h a "java/lang/String") (FV : Fld Z h a "java/lang/String" "value" "[B" .null) (FC : Fld Z h a "java/lang/String" "coder" "B" (.int 0)) (A : Al Z h src .char (iv' cs)) :
    Con l Z EL0 (⟨"java/lang/String", "<init>", "([C)V"⟩ : MethodName) jdk_42_method_3_code 2 none ⟨5, 4, 24, 94⟩ #[.ref a, .ref src] h [a] (fun v h' => ∃ b, v = none ∧ b ≠ a ∧ Keep h h' [a] ∧ Str Z h' a b cs) (fun _ => []) := by
  refine Con.of (Ls := #[.val (.ref a), .val (.ref src)]) hw hEL pn1 (fun m => by first | (simp [entryFrame, mkF, argsToLocals, Value.category, maxLocals]; done) | rfl) fun W C => ?_
  refine C.kept fun hE => ?_
  have z0 : Z.heap.size ≤ h.size := hE.1
  refine C.aloadN 1 d1_0 rfl rfl rfl ?_
  refine C.aloadN 2 d1_1 rfl rfl rfl ?_
  refine C.iconst 3 (0 : Int32) d1_2 rfl rfl ?_
  refine C.aloadN 4 d1_3 rfl rfl rfl ?_
  refine C.arraylength 5 (Int32.ofNat cs.length) d1_4 rfl A (by simp) ?_
  refine C.aconstNull 6 d1_5 rfl ?_
  refine C.callI 9 (a := a) (as := [.ref src, .int (0 : Int32), .int (Int32.ofNat cs.length), .null]) (rest := []) (rm := ⟨4, 4, 24, 77⟩) 0 d1_6 rfl rfl rfl (tw 8) (tw 9) (tw 4) (tw 11) (by decide) (si4 l Z a0' hw hEL hSA h a src cpt SCP hcp SAD SHI SLO cs hn h0 hch E FV FC A) (by simp) pd2 rfl rfl (Nat.le_of_eq rfl) (by decide) (by decide) (by decide) (by decide) rfl ?_
  rintro v h1 ⟨b, rfl, gb, K1, S1⟩
  show W h1 [a] 4 24 9 #[.val (.ref a), .val (.ref src)] []
  exact C.ret0 d1_9 rfl (by decide) (by decide) ⟨b, rfl, gb, K1, S1⟩ (fun _ q => nomatch q)
set_option maxRecDepth 65536 in
set_option maxHeartbeats 40000000 in
theorem si1e (l : Launch) (Z : State) (a0' : Array Value) (hw : ∀ d ∈ tables_1, d.before a0' Z = true) (hEL : EW Z a0' EL0) (hSA : ∀ a ∈ Bundle.stringAtoms, a.before a0' Z = true) (h : Heap) (a src : Addr) (cpt : Int32) (SCP : Sta Z Z.heap "java/lang/String" "COMPACT_STRINGS" "Z" (.int cpt)) (hcp : ¬ cpt = 0) (SAD : Sta Z Z.heap "java/lang/StringUTF16" "$assertionsDisabled" "Z" (.int (1 : Int32))) (SHI : Sta Z Z.heap "java/lang/StringUTF16" "HI_BYTE_SHIFT" "I" (.int (0 : Int32))) (SLO : Sta Z Z.heap "java/lang/StringUTF16" "LO_BYTE_SHIFT" "I" (.int (8 : Int32))) (cs : List Int32) (hn : cs.length ≤ 8) (h0 : cs = []) (hch : ∀ c ∈ cs, Ch c) (E : Exa Z h a "java/lang/String") (FV : Fld Z h a "java/lang/String" "value" "[B" .null) (FC : Fld Z h a "java/lang/String" "coder" "B" (.int 0)) (A : Al Z h src .char (iv' cs)) :
    Con l Z EL0 (⟨"java/lang/String", "<init>", "([C)V"⟩ : MethodName) jdk_42_method_3_code 2 none ⟨5, 4, 24, 94⟩ #[.ref a, .ref src] h [a] (fun v h' => ∃ b, v = none ∧ b ≠ a ∧ Keep h h' [a] ∧ Str Z h' a b cs) (fun _ => []) := by
  refine Con.of (Ls := #[.val (.ref a), .val (.ref src)]) hw hEL pn1 (fun m => by first | (simp [entryFrame, mkF, argsToLocals, Value.category, maxLocals]; done) | rfl) fun W C => ?_
  refine C.kept fun hE => ?_
  have z0 : Z.heap.size ≤ h.size := hE.1
  refine C.aloadN 1 d1_0 rfl rfl rfl ?_
  refine C.aloadN 2 d1_1 rfl rfl rfl ?_
  refine C.iconst 3 (0 : Int32) d1_2 rfl rfl ?_
  refine C.aloadN 4 d1_3 rfl rfl rfl ?_
  refine C.arraylength 5 (Int32.ofNat cs.length) d1_4 rfl A (by simp) ?_
  refine C.aconstNull 6 d1_5 rfl ?_
  refine C.callI 9 (a := a) (as := [.ref src, .int (0 : Int32), .int (Int32.ofNat cs.length), .null]) (rest := []) (rm := ⟨4, 4, 24, 77⟩) 0 d1_6 rfl rfl rfl (tw 8) (tw 9) (tw 4) (tw 11) (by decide) (si4e l Z a0' hw hEL hSA h a src cpt SCP hcp SAD SHI SLO cs hn h0 hch E FV FC A) (by simp) pd2 rfl rfl (Nat.le_of_eq rfl) (by decide) (by decide) (by decide) (by decide) rfl ?_
  rintro v h1 ⟨b, rfl, gb, K1, S1⟩
  show W h1 [a] 4 24 9 #[.val (.ref a), .val (.ref src)] []
  exact C.ret0 d1_9 rfl (by decide) (by decide) ⟨b, rfl, gb, K1, S1⟩ (fun _ q => nomatch q)
theorem d7_0 : decode jdk_42_method_152_code 0 = .ok (.getstatic 38, 3) := by decide +kernel
theorem d7_3 : decode jdk_42_method_152_code 3 = .ok (.ifCond .eq 10, 3) := by decide +kernel
theorem d7_6 : decode jdk_42_method_152_code 6 = .ok (.aload_n 0, 1) := by decide +kernel
theorem d7_7 : decode jdk_42_method_152_code 7 = .ok (.getfield 15, 3) := by decide +kernel
theorem d7_10 : decode jdk_42_method_152_code 10 = .ok (.goto 4, 3) := by decide +kernel
theorem d7_13 : decode jdk_42_method_152_code 13 = .ok (.iconst 1, 1) := by decide +kernel
theorem d7_14 : decode jdk_42_method_152_code 14 = .ok (.ireturn, 1) := by decide +kernel
theorem pn7 : plainFor (⟨"java/lang/String", "coder", "()B"⟩ : MethodName) = true := by first | exact plainFor_of_name (by first | (simp [plainName, overriddenIn]; done) | decide +kernel) | decide +kernel
theorem pd7 : parseMethodDescriptor "()B" = some ⟨[], some .byte⟩ := by decide +kernel
set_option maxRecDepth 65536 in
set_option maxHeartbeats 40000000 in
theorem sco (l : Launch) (Z : State) (a0' : Array Value) (hw : ∀ d ∈ tables_1, d.before a0' Z = true) (hEL : EW Z a0' EL0) (hSA : ∀ a ∈ Bundle.stringAtoms, a.before a0' Z = true) (h : Heap) (cpt : Int32) (SCP : Sta Z Z.heap "java/lang/String" "COMPACT_STRINGS" "Z" (.int cpt)) (hcp : ¬ cpt = 0) (SAD : Sta Z Z.heap "java/lang/StringUTF16" "$assertionsDisabled" "Z" (.int (1 : Int32))) (SHI : Sta Z Z.heap "java/lang/StringUTF16" "HI_BYTE_SHIFT" "I" (.int (0 : Int32))) (SLO : Sta Z Z.heap "java/lang/StringUTF16" "LO_BYTE_SHIFT" "I" (.int (8 : Int32))) (a b : Addr) (cs : List Int32) (T : Str Z h a b cs) :
    Con l Z EL0 (⟨"java/lang/String", "coder", "()B"⟩ : MethodName) jdk_42_method_152_code 1 (some .byte) ⟨0, 0, 0, 0⟩ #[.ref a] h [] (Same (some (.int (cod cs))) h) (fun _ => []) := by
  refine Con.of (Ls := #[.val (.ref a)]) hw hEL pn7 (fun m => by first | (simp [entryFrame, mkF, argsToLocals, Value.category, maxLocals]; done) | rfl) fun W C => ?_
  refine C.kept fun hE => ?_
  have z0 : Z.heap.size ≤ h.size := hE.1
  refine C.getstatic 3 d7_0 rfl (tw 41) SCP ?_
  refine C.ifF 6 d7_3 rfl ((if0 _ _).trans (feq hcp).1) ?_
  refine C.aloadN 7 d7_6 rfl rfl rfl ?_
  refine C.getfield 10 d7_7 rfl (tw 22) Via.refl T.2.2.1 ?_
  refine C.goto 14 d7_10 rfl ?_
  have nb := cod_nar cs
  exact C.retI .byte d7_14 rfl (by simp) nb (by decide) (by decide) ⟨rfl, rfl⟩ (fun _ q => nomatch q)
theorem d6_0 : decode jdk_42_method_54_code 0 = .ok (.aload_n 0, 1) := by decide +kernel
theorem d6_1 : decode jdk_42_method_54_code 1 = .ok (.getfield 9, 3) := by decide +kernel
theorem d6_4 : decode jdk_42_method_54_code 4 = .ok (.arraylength, 1) := by decide +kernel
theorem d6_5 : decode jdk_42_method_54_code 5 = .ok (.aload_n 0, 1) := by decide +kernel
theorem d6_6 : decode jdk_42_method_54_code 6 = .ok (.invokevirtual 335, 3) := by decide +kernel
theorem d6_9 : decode jdk_42_method_54_code 9 = .ok (.ishr, 1) := by decide +kernel
theorem d6_10 : decode jdk_42_method_54_code 10 = .ok (.ireturn, 1) := by decide +kernel
theorem pn6 : plainFor (⟨"java/lang/String", "length", "()I"⟩ : MethodName) = true := by first | exact plainFor_of_name (by first | (simp [plainName, overriddenIn]; done) | decide +kernel) | decide +kernel
theorem pd6 : parseMethodDescriptor "()I" = some ⟨[], some .int⟩ := by decide +kernel
set_option maxRecDepth 65536 in
set_option maxHeartbeats 40000000 in
theorem sle (l : Launch) (Z : State) (a0' : Array Value) (hw : ∀ d ∈ tables_1, d.before a0' Z = true) (hEL : EW Z a0' EL0) (hSA : ∀ a ∈ Bundle.stringAtoms, a.before a0' Z = true) (h : Heap) (cpt : Int32) (SCP : Sta Z Z.heap "java/lang/String" "COMPACT_STRINGS" "Z" (.int cpt)) (hcp : ¬ cpt = 0) (SAD : Sta Z Z.heap "java/lang/StringUTF16" "$assertionsDisabled" "Z" (.int (1 : Int32))) (SHI : Sta Z Z.heap "java/lang/StringUTF16" "HI_BYTE_SHIFT" "I" (.int (0 : Int32))) (SLO : Sta Z Z.heap "java/lang/StringUTF16" "LO_BYTE_SHIFT" "I" (.int (8 : Int32))) (a b : Addr) (cs : List Int32) (hn : cs.length < 2 ^ 28) (T : Str Z h a b cs) :
    Con l Z EL0 (⟨"java/lang/String", "length", "()I"⟩ : MethodName) jdk_42_method_54_code 1 (some .int) ⟨1, 0, 0, 13⟩ #[.ref a] h [] (Same (some (.int (Int32.ofNat cs.length))) h) (fun _ => []) := by
  refine Con.of (Ls := #[.val (.ref a)]) hw hEL pn6 (fun m => by first | (simp [entryFrame, mkF, argsToLocals, Value.category, maxLocals]; done) | rfl) fun W C => ?_
  refine C.kept fun hE => ?_
  have z0 : Z.heap.size ≤ h.size := hE.1
  refine C.aloadN 1 d6_0 rfl rfl rfl ?_
  refine C.getfield 4 d6_1 rfl (tw 21) Via.refl T.2.1 ?_
  obtain ⟨T1, T2, T3, B⟩ := T
  have T := (⟨T1, T2, T3, B⟩ : Str Z h a b cs)
  by_cases hl : lat cs
  · rw [enc_l hl] at B
    refine C.arraylength 5 (Int32.ofNat cs.length) d6_4 rfl B (by simp) ?_
    refine C.aloadN 6 d6_5 rfl rfl rfl ?_
    refine C.callV 9 (as := []) (rest := [.int (Int32.ofNat cs.length)]) (rm := ⟨0, 0, 0, 0⟩) 1 d6_6 rfl (tw 36) (tw 37) (tw 39) nfSelf (tw 38) (tw 4) (tw 40) (by decide) T1 (sco l Z a0' hw hEL hSA h cpt SCP hcp SAD SHI SLO a b cs T) (by simp) pd7 rfl rfl (Nat.le_of_eq rfl) (by decide) (by decide) (by decide) (by decide) rfl ?_
    refine same_intro ?_
    show W h [] 0 0 9 #[.val (.ref a)] [.int (cod cs), .int (Int32.ofNat cs.length)]
    rw [cod_l hl]
    refine C.ishr 10 d6_9 rfl ?_
    rw [o_shr0 (by omega)]
    exact C.retI .int d6_10 rfl (by simp) rfl (by decide) (by decide) ⟨rfl, rfl⟩ (fun _ q => nomatch q)
  · rw [enc_u hl] at B
    refine C.arraylength 5 (Int32.ofNat (2 * cs.length)) d6_4 rfl B (by simp [u16_len]) ?_
    refine C.aloadN 6 d6_5 rfl rfl rfl ?_
    refine C.callV 9 (as := []) (rest := [.int (Int32.ofNat (2 * cs.length))]) (rm := ⟨0, 0, 0, 0⟩) 1 d6_6 rfl (tw 36) (tw 37) (tw 39) nfSelf (tw 38) (tw 4) (tw 40) (by decide) T1 (sco l Z a0' hw hEL hSA h cpt SCP hcp SAD SHI SLO a b cs T) (by simp) pd7 rfl rfl (Nat.le_of_eq rfl) (by decide) (by decide) (by decide) (by decide) rfl ?_
    refine same_intro ?_
    show W h [] 0 0 9 #[.val (.ref a)] [.int (cod cs), .int (Int32.ofNat (2 * cs.length))]
    rw [cod_u hl]
    refine C.ishr 10 d6_9 rfl ?_
    rw [o_half (by omega)]
    exact C.retI .int d6_10 rfl (by simp) rfl (by decide) (by decide) ⟨rfl, rfl⟩ (fun _ q => nomatch q)
theorem d23_0 : decode jdk_42_method_154_code 0 = .ok (.getstatic 38, 3) := by decide +kernel
theorem d23_3 : decode jdk_42_method_154_code 3 = .ok (.ifCond .eq 14, 3) := by decide +kernel
theorem d23_6 : decode jdk_42_method_154_code 6 = .ok (.aload_n 0, 1) := by decide +kernel
theorem d23_7 : decode jdk_42_method_154_code 7 = .ok (.getfield 15, 3) := by decide +kernel
theorem d23_10 : decode jdk_42_method_154_code 10 = .ok (.ifCond .ne 7, 3) := by decide +kernel
theorem d23_13 : decode jdk_42_method_154_code 13 = .ok (.iconst 1, 1) := by decide +kernel
theorem d23_14 : decode jdk_42_method_154_code 14 = .ok (.goto 4, 3) := by decide +kernel
theorem d23_17 : decode jdk_42_method_154_code 17 = .ok (.iconst 0, 1) := by decide +kernel
theorem d23_18 : decode jdk_42_method_154_code 18 = .ok (.ireturn, 1) := by decide +kernel
theorem pn23 : plainFor (⟨"java/lang/String", "isLatin1", "()Z"⟩ : MethodName) = true := by first | exact plainFor_of_name (by first | (simp [plainName, overriddenIn]; done) | decide +kernel) | decide +kernel
theorem pd23 : parseMethodDescriptor "()Z" = some ⟨[], some .boolean⟩ := by decide +kernel
set_option maxRecDepth 65536 in
set_option maxHeartbeats 40000000 in
theorem sil (l : Launch) (Z : State) (a0' : Array Value) (hw : ∀ d ∈ tables_1, d.before a0' Z = true) (hEL : EW Z a0' EL0) (hSA : ∀ a ∈ Bundle.stringAtoms, a.before a0' Z = true) (h : Heap) (cpt : Int32) (SCP : Sta Z Z.heap "java/lang/String" "COMPACT_STRINGS" "Z" (.int cpt)) (hcp : ¬ cpt = 0) (SAD : Sta Z Z.heap "java/lang/StringUTF16" "$assertionsDisabled" "Z" (.int (1 : Int32))) (SHI : Sta Z Z.heap "java/lang/StringUTF16" "HI_BYTE_SHIFT" "I" (.int (0 : Int32))) (SLO : Sta Z Z.heap "java/lang/StringUTF16" "LO_BYTE_SHIFT" "I" (.int (8 : Int32))) (a b : Addr) (cs : List Int32) (T : Str Z h a b cs) :
    Con l Z EL0 (⟨"java/lang/String", "isLatin1", "()Z"⟩ : MethodName) jdk_42_method_154_code 1 (some .boolean) ⟨0, 0, 0, 0⟩ #[.ref a] h [] (Same (some (.int (if lat cs then 1 else 0))) h) (fun _ => []) := by
  refine Con.of (Ls := #[.val (.ref a)]) hw hEL pn23 (fun m => by first | (simp [entryFrame, mkF, argsToLocals, Value.category, maxLocals]; done) | rfl) fun W C => ?_
  refine C.kept fun hE => ?_
  have z0 : Z.heap.size ≤ h.size := hE.1
  refine C.getstatic 3 d23_0 rfl (tw 41) SCP ?_
  refine C.ifF 6 d23_3 rfl ((if0 _ _).trans (feq hcp).1) ?_
  refine C.aloadN 7 d23_6 rfl rfl rfl ?_
  refine C.getfield 10 d23_7 rfl (tw 22) Via.refl T.2.2.1 ?_
  by_cases hl : lat cs
  · rw [cod_l hl]
    refine C.ifF 13 d23_10 rfl (by decide) ?_
    refine C.iconst 14 (1 : Int32) d23_13 rfl rfl ?_
    refine C.goto 18 d23_14 rfl ?_
    exact C.retI .boolean d23_18 rfl (by simp) rfl (by decide) (by decide) ⟨by rw [if_pos hl], rfl⟩ (fun _ q => nomatch q)
  · rw [cod_u hl]
    refine C.ifT 17 d23_10 rfl (by decide) ?_
    refine C.iconst 18 (0 : Int32) d23_17 rfl rfl ?_
    exact C.retI .boolean d23_18 rfl (by simp) rfl (by decide) (by decide) ⟨by rw [if_neg hl], rfl⟩ (fun _ q => nomatch q)
theorem d25_0 : decode jdk_41_method_11_code 0 = .ok (.iload_n 0, 1) := by decide +kernel
theorem d25_1 : decode jdk_41_method_11_code 1 = .ok (.ifCond .lt 8, 3) := by decide +kernel
theorem d25_4 : decode jdk_41_method_11_code 4 = .ok (.iload_n 0, 1) := by decide +kernel
theorem d25_5 : decode jdk_41_method_11_code 5 = .ok (.iload_n 1, 1) := by decide +kernel
theorem d25_6 : decode jdk_41_method_11_code 6 = .ok (.if_icmp .lt 10, 3) := by decide +kernel
theorem d25_9 : decode jdk_41_method_11_code 9 = .ok (.aload_n 2, 1) := by decide +kernel
theorem d25_10 : decode jdk_41_method_11_code 10 = .ok (.iload_n 0, 1) := by decide +kernel
theorem d25_11 : decode jdk_41_method_11_code 11 = .ok (.iload_n 1, 1) := by decide +kernel
theorem d25_12 : decode jdk_41_method_11_code 12 = .ok (.invokestatic 95, 3) := by decide +kernel
theorem d25_15 : decode jdk_41_method_11_code 15 = .ok (.athrow, 1) := by decide +kernel
theorem d25_16 : decode jdk_41_method_11_code 16 = .ok (.iload_n 0, 1) := by decide +kernel
theorem d25_17 : decode jdk_41_method_11_code 17 = .ok (.ireturn, 1) := by decide +kernel
theorem pn25 : plainFor (⟨"jdk/internal/util/Preconditions", "checkIndex", "(IILjava/util/function/BiFunction;)I"⟩ : MethodName) = true := by first | exact plainFor_of_name (by first | (simp [plainName, overriddenIn]; done) | decide +kernel) | decide +kernel
theorem pd25 : parseMethodDescriptor "(IILjava/util/function/BiFunction;)I" = some ⟨[.int, .int, (.object "java/util/function/BiFunction")], some .int⟩ := by decide +kernel
set_option maxRecDepth 65536 in
set_option maxHeartbeats 40000000 in
theorem pci (l : Launch) (Z : State) (a0' : Array Value) (hw : ∀ d ∈ tables_1, d.before a0' Z = true) (hEL : EW Z a0' EL0) (hSA : ∀ a ∈ Bundle.stringAtoms, a.before a0' Z = true) (h : Heap) (i z : Nat) (sf : Value) (hsf : sf.isRef = true) (hi : i < z) (hz : z < 2 ^ 31) :
    Con l Z EL0 (⟨"jdk/internal/util/Preconditions", "checkIndex", "(IILjava/util/function/BiFunction;)I"⟩ : MethodName) jdk_41_method_11_code 3 (some .int) ⟨0, 0, 0, 0⟩ #[.int (Int32.ofNat i), .int (Int32.ofNat z), sf] h [] (Same (some (.int (Int32.ofNat i))) h) (fun _ => []) := by
  refine Con.of (Ls := #[.val (.int (Int32.ofNat i)), .val (.int (Int32.ofNat z)), .val (sf)]) hw hEL pn25 (fun m => by rcases ref_cases hsf with rfl | ⟨y, rfl⟩ <;> first | (simp [entryFrame, mkF, argsToLocals, Value.category]; done) | rfl) fun W C => ?_
  refine C.kept fun hE => ?_
  have z0 : Z.heap.size ≤ h.size := hE.1
  refine C.iloadN 1 d25_0 rfl rfl ?_
  refine C.ifF 4 d25_1 rfl ((if0 _ _).trans (flt (o_nn (x := i) (by omega))).1) ?_
  refine C.iloadN 5 d25_4 rfl rfl ?_
  refine C.iloadN 6 d25_5 rfl rfl ?_
  have q : Int32.ofNat i < Int32.ofNat z := (o_lt (by omega) (by omega)).mpr hi
  refine C.icmpT 16 d25_6 rfl (tlt q).1 ?_
  refine C.iloadN 17 d25_16 rfl rfl ?_
  exact C.retI .int d25_17 rfl (by simp) rfl (by decide) (by decide) ⟨rfl, rfl⟩ (fun _ q => nomatch q)
theorem d24_0 : decode jdk_42_method_155_code 0 = .ok (.iload_n 0, 1) := by decide +kernel
theorem d24_1 : decode jdk_42_method_155_code 1 = .ok (.iload_n 1, 1) := by decide +kernel
theorem d24_2 : decode jdk_42_method_155_code 2 = .ok (.getstatic 1053, 3) := by decide +kernel
theorem d24_5 : decode jdk_42_method_155_code 5 = .ok (.invokestatic 1059, 3) := by decide +kernel
theorem d24_8 : decode jdk_42_method_155_code 8 = .ok (.pop, 1) := by decide +kernel
theorem d24_9 : decode jdk_42_method_155_code 9 = .ok (.return_, 1) := by decide +kernel
theorem pn24 : plainFor (⟨"java/lang/String", "checkIndex", "(II)V"⟩ : MethodName) = true := by first | exact plainFor_of_name (by first | (simp [plainName, overriddenIn]; done) | decide +kernel) | decide +kernel
theorem pd24 : parseMethodDescriptor "(II)V" = some ⟨[.int, .int], none⟩ := by decide +kernel
set_option maxRecDepth 65536 in
set_option maxHeartbeats 40000000 in
theorem sci (l : Launch) (Z : State) (a0' : Array Value) (hw : ∀ d ∈ tables_1, d.before a0' Z = true) (hEL : EW Z a0' EL0) (hSA : ∀ a ∈ Bundle.stringAtoms, a.before a0' Z = true) (h : Heap) (i z : Nat) (sf : Value) (hsf : sf.isRef = true) (SSF : Sta Z Z.heap "jdk/internal/util/Preconditions" "SIOOBE_FORMATTER" "Ljava/util/function/BiFunction;" sf) (hi : i < z) (hz : z < 2 ^ 31) :
    Con l Z EL0 (⟨"java/lang/String", "checkIndex", "(II)V"⟩ : MethodName) jdk_42_method_155_code 2 none ⟨1, 0, 0, 14⟩ #[.int (Int32.ofNat i), .int (Int32.ofNat z)] h [] (Same none h) (fun _ => []) := by
  refine Con.of (Ls := #[.val (.int (Int32.ofNat i)), .val (.int (Int32.ofNat z))]) hw hEL pn24 (fun m => by first | (simp [entryFrame, mkF, argsToLocals, Value.category, maxLocals]; done) | rfl) fun W C => ?_
  refine C.kept fun hE => ?_
  have z0 : Z.heap.size ≤ h.size := hE.1
  refine C.iloadN 1 d24_0 rfl rfl ?_
  refine C.iloadN 2 d24_1 rfl rfl ?_
  refine C.getstatic 5 d24_2 rfl (tw 51) SSF ?_
  refine C.callS 8 (as := [.int (Int32.ofNat i), .int (Int32.ofNat z), sf]) (rest := []) (rm := ⟨0, 0, 0, 0⟩) 0 d24_5 rfl (tw 112) (tw 113) (tw 52) (tw 114) (by decide) (pci l Z a0' hw hEL hSA h i z sf hsf hi hz) (by simp) pd25 rfl rfl (Nat.le_of_eq rfl) (by decide) (by decide) (by decide) (by decide) rfl ?_
  refine same_intro ?_
  show W h [] 0 0 8 #[.val (.int (Int32.ofNat i)), .val (.int (Int32.ofNat z))] [.int (Int32.ofNat i)]
  refine C.pop 9 d24_8 rfl rfl ?_
  exact C.ret0 d24_9 rfl (by decide) (by decide) ⟨rfl, rfl⟩ (fun _ q => nomatch q)
theorem d39_0 : decode jdk_43_method_2_code 0 = .ok (.iload_n 1, 1) := by decide +kernel
theorem d39_1 : decode jdk_43_method_2_code 1 = .ok (.aload_n 0, 1) := by decide +kernel
theorem d39_2 : decode jdk_43_method_2_code 2 = .ok (.arraylength, 1) := by decide +kernel
theorem d39_3 : decode jdk_43_method_2_code 3 = .ok (.invokestatic 9, 3) := by decide +kernel
theorem d39_6 : decode jdk_43_method_2_code 6 = .ok (.aload_n 0, 1) := by decide +kernel
theorem d39_7 : decode jdk_43_method_2_code 7 = .ok (.iload_n 1, 1) := by decide +kernel
theorem d39_8 : decode jdk_43_method_2_code 8 = .ok (.baload, 1) := by decide +kernel
theorem d39_9 : decode jdk_43_method_2_code 9 = .ok (.sipush 255, 3) := by decide +kernel
theorem d39_12 : decode jdk_43_method_2_code 12 = .ok (.iand, 1) := by decide +kernel
theorem d39_13 : decode jdk_43_method_2_code 13 = .ok (.i2c, 1) := by decide +kernel
theorem d39_14 : decode jdk_43_method_2_code 14 = .ok (.ireturn, 1) := by decide +kernel
theorem pn39 : plainFor (⟨"java/lang/StringLatin1", "charAt", "([BI)C"⟩ : MethodName) = true := by first | exact plainFor_of_name (by first | (simp [plainName, overriddenIn]; done) | decide +kernel) | decide +kernel
theorem pd39 : parseMethodDescriptor "([BI)C" = some ⟨[(.array .byte), .int], some .char⟩ := by decide +kernel
set_option maxRecDepth 65536 in
set_option maxHeartbeats 40000000 in
theorem lca (l : Launch) (Z : State) (a0' : Array Value) (hw : ∀ d ∈ tables_1, d.before a0' Z = true) (hEL : EW Z a0' EL0) (hSA : ∀ a ∈ Bundle.stringAtoms, a.before a0' Z = true) (h : Heap) (b : Addr) (cs : List Int32) (i : Nat) (c : Int32) (sf : Value) (hsf : sf.isRef = true) (SSF : Sta Z Z.heap "jdk/internal/util/Preconditions" "SIOOBE_FORMATTER" "Ljava/util/function/BiFunction;" sf) (hn : cs.length < 2 ^ 28) (hi : cs[i]? = some c) (hc : Ch c) (hl : ¬ (255 : Int32) < c) (B : Al Z h b .byte (iv' (cs.map by8))) :
    Con l Z EL0 (⟨"java/lang/StringLatin1", "charAt", "([BI)C"⟩ : MethodName) jdk_43_method_2_code 2 (some .char) ⟨2, 0, 0, 27⟩ #[.ref b, .int (Int32.ofNat i)] h [] (Same (some (.int c)) h) (fun _ => []) := by
  refine Con.of (Ls := #[.val (.ref b), .val (.int (Int32.ofNat i))]) hw hEL pn39 (fun m => by first | (simp [entryFrame, mkF, argsToLocals, Value.category, maxLocals]; done) | rfl) fun W C => ?_
  refine C.kept fun hE => ?_
  have z0 : Z.heap.size ≤ h.size := hE.1
  have hlt : i < cs.length := (List.getElem?_eq_some_iff.mp hi).1
  refine C.iloadN 1 d39_0 rfl rfl ?_
  refine C.aloadN 2 d39_1 rfl rfl rfl ?_
  refine C.arraylength 3 (Int32.ofNat cs.length) d39_2 rfl B (by simp) ?_
  refine C.callS 6 (as := [.int (Int32.ofNat i), .int (Int32.ofNat cs.length)]) (rest := []) (rm := ⟨1, 0, 0, 14⟩) 0 d39_3 rfl (tw 167) (tw 110) (tw 4) (tw 111) (by decide) (sci l Z a0' hw hEL hSA h i cs.length sf hsf SSF hlt (by omega)) (by simp) pd24 rfl rfl (Nat.le_of_eq rfl) (by decide) (by decide) (by decide) (by decide) rfl ?_
  refine same_intro ?_
  show W h [] 0 0 6 #[.val (.ref b), .val (.int (Int32.ofNat i))] []
  refine C.aloadN 7 d39_6 rfl rfl rfl ?_
  refine C.iloadN 8 d39_7 rfl rfl ?_
  refine C.baloadB 9 i (.int (by8 c)) d39_8 rfl B (o_nn (by omega)) (o_cl (by omega)) (by rw [List.getElem?_map, List.getElem?_map, hi]; rfl) ?_
  refine C.sipush 12 (255 : Int32) d39_9 rfl rfl ?_
  refine C.iand 13 d39_12 rfl ?_
  refine C.i2c 14 d39_13 rfl ?_
  rw [gl8 hc hl]
  exact C.retI .char d39_14 rfl (by simp) (ch_nar hc) (by decide) (by decide) ⟨rfl, rfl⟩ (fun _ q => nomatch q)
theorem d34_0 : decode jdk_52_method_6_code 0 = .ok (.aload_n 0, 1) := by decide +kernel
theorem d34_1 : decode jdk_52_method_6_code 1 = .ok (.arraylength, 1) := by decide +kernel
theorem d34_2 : decode jdk_52_method_6_code 2 = .ok (.iconst 1, 1) := by decide +kernel
theorem d34_3 : decode jdk_52_method_6_code 3 = .ok (.ishr, 1) := by decide +kernel
theorem d34_4 : decode jdk_52_method_6_code 4 = .ok (.ireturn, 1) := by decide +kernel
theorem pn34 : plainFor (⟨"java/lang/StringUTF16", "length", "([B)I"⟩ : MethodName) = true := by first | exact plainFor_of_name (by first | (simp [plainName, overriddenIn]; done) | decide +kernel) | decide +kernel
theorem pd34 : parseMethodDescriptor "([B)I" = some ⟨[(.array .byte)], some .int⟩ := by decide +kernel
set_option maxRecDepth 65536 in
set_option maxHeartbeats 40000000 in
theorem ule (l : Launch) (Z : State) (a0' : Array Value) (hw : ∀ d ∈ tables_1, d.before a0' Z = true) (hEL : EW Z a0' EL0) (hSA : ∀ a ∈ Bundle.stringAtoms, a.before a0' Z = true) (h : Heap) (b : Addr) (cs : List Int32) (hn : cs.length < 2 ^ 28) (B : Al Z h b .byte (iv' (u16 cs))) :
    Con l Z EL0 (⟨"java/lang/StringUTF16", "length", "([B)I"⟩ : MethodName) jdk_52_method_6_code 1 (some .int) ⟨0, 0, 0, 0⟩ #[.ref b] h [] (Same (some (.int (Int32.ofNat cs.length))) h) (fun _ => []) := by
  refine Con.of (Ls := #[.val (.ref b)]) hw hEL pn34 (fun m => by first | (simp [entryFrame, mkF, argsToLocals, Value.category, maxLocals]; done) | rfl) fun W C => ?_
  refine C.kept fun hE => ?_
  have z0 : Z.heap.size ≤ h.size := hE.1
  refine C.aloadN 1 d34_0 rfl rfl rfl ?_
  refine C.arraylength 2 (Int32.ofNat (2 * cs.length)) d34_1 rfl B (by simp [u16_len]) ?_
  refine C.iconst 3 (1 : Int32) d34_2 rfl rfl ?_
  refine C.ishr 4 d34_3 rfl ?_
  rw [o_half (by omega)]
  exact C.retI .int d34_4 rfl (by simp) rfl (by decide) (by decide) ⟨rfl, rfl⟩ (fun _ q => nomatch q)
theorem d41_0 : decode jdk_52_method_91_code 0 = .ok (.iload_n 0, 1) := by decide +kernel
theorem d41_1 : decode jdk_52_method_91_code 1 = .ok (.aload_n 1, 1) := by decide +kernel
theorem d41_2 : decode jdk_52_method_91_code 2 = .ok (.invokestatic 48, 3) := by decide +kernel
theorem d41_5 : decode jdk_52_method_91_code 5 = .ok (.invokestatic 414, 3) := by decide +kernel
theorem d41_8 : decode jdk_52_method_91_code 8 = .ok (.return_, 1) := by decide +kernel
theorem pn41 : plainFor (⟨"java/lang/StringUTF16", "checkIndex", "(I[B)V"⟩ : MethodName) = true := by first | exact plainFor_of_name (by first | (simp [plainName, overriddenIn]; done) | decide +kernel) | decide +kernel
theorem pd41 : parseMethodDescriptor "(I[B)V" = some ⟨[.int, (.array .byte)], none⟩ := by decide +kernel
set_option maxRecDepth 65536 in
set_option maxHeartbeats 40000000 in
theorem uci (l : Launch) (Z : State) (a0' : Array Value) (hw : ∀ d ∈ tables_1, d.before a0' Z = true) (hEL : EW Z a0' EL0) (hSA : ∀ a ∈ Bundle.stringAtoms, a.before a0' Z = true) (h : Heap) (b : Addr) (cs : List Int32) (i : Nat) (sf : Value) (hsf : sf.isRef = true) (SSF : Sta Z Z.heap "jdk/internal/util/Preconditions" "SIOOBE_FORMATTER" "Ljava/util/function/BiFunction;" sf) (hn : cs.length < 2 ^ 28) (hi : i < cs.length) (B : Al Z h b .byte (iv' (u16 cs))) :
    Con l Z EL0 (⟨"java/lang/StringUTF16", "checkIndex", "(I[B)V"⟩ : MethodName) jdk_52_method_91_code 2 none ⟨2, 0, 0, 27⟩ #[.int (Int32.ofNat i), .ref b] h [] (Same none h) (fun _ => []) := by
  refine Con.of (Ls := #[.val (.int (Int32.ofNat i)), .val (.ref b)]) hw hEL pn41 (fun m => by first | (simp [entryFrame, mkF, argsToLocals, Value.category, maxLocals]; done) | rfl) fun W C => ?_
  refine C.kept fun hE => ?_
  have z0 : Z.heap.size ≤ h.size := hE.1
  refine C.iloadN 1 d41_0 rfl rfl ?_
  refine C.aloadN 2 d41_1 rfl rfl rfl ?_
  refine C.callS 5 (as := [.ref b]) (rest := [.int (Int32.ofNat i)]) (rm := ⟨0, 0, 0, 0⟩) 1 d41_2 rfl (tw 144) (tw 145) (tw 72) (tw 146) (by decide) (ule l Z a0' hw hEL hSA h b cs hn B) (by simp) pd34 rfl rfl (Nat.le_of_eq rfl) (by decide) (by decide) (by decide) (by decide) rfl ?_
  refine same_intro ?_
  show W h [] 0 0 5 #[.val (.int (Int32.ofNat i)), .val (.ref b)] [.int (Int32.ofNat cs.length), .int (Int32.ofNat i)]
  refine C.callS 8 (as := [.int (Int32.ofNat i), .int (Int32.ofNat cs.length)]) (rest := []) (rm := ⟨1, 0, 0, 14⟩) 0 d41_5 rfl (tw 174) (tw 110) (tw 4) (tw 111) (by decide) (sci l Z a0' hw hEL hSA h i cs.length sf hsf SSF hi (by omega)) (by simp) pd24 rfl rfl (Nat.le_of_eq rfl) (by decide) (by decide) (by decide) (by decide) rfl ?_
  refine same_intro ?_
  show W h [] 0 0 8 #[.val (.int (Int32.ofNat i)), .val (.ref b)] []
  exact C.ret0 d41_8 rfl (by decide) (by decide) ⟨rfl, rfl⟩ (fun _ q => nomatch q)
theorem d40_0 : decode jdk_52_method_83_code 0 = .ok (.iload_n 1, 1) := by decide +kernel
theorem d40_1 : decode jdk_52_method_83_code 1 = .ok (.aload_n 0, 1) := by decide +kernel
theorem d40_2 : decode jdk_52_method_83_code 2 = .ok (.invokestatic 67, 3) := by decide +kernel
theorem d40_5 : decode jdk_52_method_83_code 5 = .ok (.aload_n 0, 1) := by decide +kernel
theorem d40_6 : decode jdk_52_method_83_code 6 = .ok (.iload_n 1, 1) := by decide +kernel
theorem d40_7 : decode jdk_52_method_83_code 7 = .ok (.invokestatic 71, 3) := by decide +kernel
theorem d40_10 : decode jdk_52_method_83_code 10 = .ok (.ireturn, 1) := by decide +kernel
theorem pn40 : plainFor (⟨"java/lang/StringUTF16", "charAt", "([BI)C"⟩ : MethodName) = true := by first | exact plainFor_of_name (by first | (simp [plainName, overriddenIn]; done) | decide +kernel) | decide +kernel
theorem pd40 : parseMethodDescriptor "([BI)C" = some ⟨[(.array .byte), .int], some .char⟩ := by decide +kernel
set_option maxRecDepth 65536 in
set_option maxHeartbeats 40000000 in
theorem uca (l : Launch) (Z : State) (a0' : Array Value) (hw : ∀ d ∈ tables_1, d.before a0' Z = true) (hEL : EW Z a0' EL0) (hSA : ∀ a ∈ Bundle.stringAtoms, a.before a0' Z = true) (h : Heap) (cpt : Int32) (SCP : Sta Z Z.heap "java/lang/String" "COMPACT_STRINGS" "Z" (.int cpt)) (hcp : ¬ cpt = 0) (SAD : Sta Z Z.heap "java/lang/StringUTF16" "$assertionsDisabled" "Z" (.int (1 : Int32))) (SHI : Sta Z Z.heap "java/lang/StringUTF16" "HI_BYTE_SHIFT" "I" (.int (0 : Int32))) (SLO : Sta Z Z.heap "java/lang/StringUTF16" "LO_BYTE_SHIFT" "I" (.int (8 : Int32))) (b : Addr) (cs : List Int32) (i : Nat) (c : Int32) (sf : Value) (hsf : sf.isRef = true) (SSF : Sta Z Z.heap "jdk/internal/util/Preconditions" "SIOOBE_FORMATTER" "Ljava/util/function/BiFunction;" sf) (hn : cs.length < 2 ^ 28) (hi : cs[i]? = some c) (hc : Ch c) (B : Al Z h b .byte (iv' (u16 cs))) :
    Con l Z EL0 (⟨"java/lang/StringUTF16", "charAt", "([BI)C"⟩ : MethodName) jdk_52_method_83_code 2 (some .char) ⟨3, 0, 0, 40⟩ #[.ref b, .int (Int32.ofNat i)] h [] (Same (some (.int c)) h) (fun _ => []) := by
  refine Con.of (Ls := #[.val (.ref b), .val (.int (Int32.ofNat i))]) hw hEL pn40 (fun m => by first | (simp [entryFrame, mkF, argsToLocals, Value.category, maxLocals]; done) | rfl) fun W C => ?_
  refine C.kept fun hE => ?_
  have z0 : Z.heap.size ≤ h.size := hE.1
  have hlt : i < cs.length := (List.getElem?_eq_some_iff.mp hi).1
  refine C.iloadN 1 d40_0 rfl rfl ?_
  refine C.aloadN 2 d40_1 rfl rfl rfl ?_
  refine C.callS 5 (as := [.int (Int32.ofNat i), .ref b]) (rest := []) (rm := ⟨2, 0, 0, 27⟩) 0 d40_2 rfl (tw 171) (tw 172) (tw 72) (tw 173) (by decide) (uci l Z a0' hw hEL hSA h b cs i sf hsf SSF hn hlt B) (by simp) pd41 rfl rfl (Nat.le_of_eq rfl) (by decide) (by decide) (by decide) (by decide) rfl ?_
  refine same_intro ?_
  show W h [] 0 0 5 #[.val (.ref b), .val (.int (Int32.ofNat i))] []
  refine C.aloadN 6 d40_5 rfl rfl rfl ?_
  refine C.iloadN 7 d40_6 rfl rfl ?_
  refine C.callS 10 (as := [.ref b, .int (Int32.ofNat i)]) (rest := []) (rm := ⟨0, 0, 0, 0⟩) 0 d40_7 rfl (tw 93) (tw 94) (tw 72) (tw 95) (by decide) (gch l Z a0' hw hEL hSA h cpt SCP hcp SAD SHI SLO b cs i c hn hi hc B) (by simp) pd20 rfl rfl (Nat.le_of_eq rfl) (by decide) (by decide) (by decide) (by decide) rfl ?_
  refine same_intro ?_
  show W h [] 0 0 10 #[.val (.ref b), .val (.int (Int32.ofNat i))] [.int c]
  exact C.retI .char d40_10 rfl (by simp) (ch_nar hc) (by decide) (by decide) ⟨rfl, rfl⟩ (fun _ q => nomatch q)
theorem d38_0 : decode jdk_42_method_56_code 0 = .ok (.aload_n 0, 1) := by decide +kernel
theorem d38_1 : decode jdk_42_method_56_code 1 = .ok (.invokevirtual 492, 3) := by decide +kernel
theorem d38_4 : decode jdk_42_method_56_code 4 = .ok (.ifCond .eq 12, 3) := by decide +kernel
theorem d38_7 : decode jdk_42_method_56_code 7 = .ok (.aload_n 0, 1) := by decide +kernel
theorem d38_8 : decode jdk_42_method_56_code 8 = .ok (.getfield 9, 3) := by decide +kernel
theorem d38_11 : decode jdk_42_method_56_code 11 = .ok (.iload_n 1, 1) := by decide +kernel
theorem d38_12 : decode jdk_42_method_56_code 12 = .ok (.invokestatic 495, 3) := by decide +kernel
theorem d38_15 : decode jdk_42_method_56_code 15 = .ok (.ireturn, 1) := by decide +kernel
theorem d38_16 : decode jdk_42_method_56_code 16 = .ok (.aload_n 0, 1) := by decide +kernel
theorem d38_17 : decode jdk_42_method_56_code 17 = .ok (.getfield 9, 3) := by decide +kernel
theorem d38_20 : decode jdk_42_method_56_code 20 = .ok (.iload_n 1, 1) := by decide +kernel
theorem d38_21 : decode jdk_42_method_56_code 21 = .ok (.invokestatic 498, 3) := by decide +kernel
theorem d38_24 : decode jdk_42_method_56_code 24 = .ok (.ireturn, 1) := by decide +kernel
theorem pn38 : plainFor (⟨"java/lang/String", "charAt", "(I)C"⟩ : MethodName) = true := by first | exact plainFor_of_name (by first | (simp [plainName, overriddenIn]; done) | decide +kernel) | decide +kernel
theorem pd38 : parseMethodDescriptor "(I)C" = some ⟨[.int], some .char⟩ := by decide +kernel
set_option maxRecDepth 65536 in
set_option maxHeartbeats 40000000 in
theorem sca (l : Launch) (Z : State) (a0' : Array Value) (hw : ∀ d ∈ tables_1, d.before a0' Z = true) (hEL : EW Z a0' EL0) (hSA : ∀ a ∈ Bundle.stringAtoms, a.before a0' Z = true) (h : Heap) (cpt : Int32) (SCP : Sta Z Z.heap "java/lang/String" "COMPACT_STRINGS" "Z" (.int cpt)) (hcp : ¬ cpt = 0) (SAD : Sta Z Z.heap "java/lang/StringUTF16" "$assertionsDisabled" "Z" (.int (1 : Int32))) (SHI : Sta Z Z.heap "java/lang/StringUTF16" "HI_BYTE_SHIFT" "I" (.int (0 : Int32))) (SLO : Sta Z Z.heap "java/lang/StringUTF16" "LO_BYTE_SHIFT" "I" (.int (8 : Int32))) (sf : Value) (hsf : sf.isRef = true) (SSF : Sta Z Z.heap "jdk/internal/util/Preconditions" "SIOOBE_FORMATTER" "Ljava/util/function/BiFunction;" sf) (a b : Addr) (cs : List Int32) (i : Nat) (c : Int32) (hn : cs.length < 2 ^ 28) (hi : cs[i]? = some c) (hc : Ch c) (T : Str Z h a b cs) :
    Con l Z EL0 (⟨"java/lang/String", "charAt", "(I)C"⟩ : MethodName) jdk_42_method_56_code 2 (some .char) ⟨4, 0, 0, 53⟩ #[.ref a, .int (Int32.ofNat i)] h [] (Same (some (.int c)) h) (fun _ => []) := by
  refine Con.of (Ls := #[.val (.ref a), .val (.int (Int32.ofNat i))]) hw hEL pn38 (fun m => by first | (simp [entryFrame, mkF, argsToLocals, Value.category, maxLocals]; done) | rfl) fun W C => ?_
  refine C.kept fun hE => ?_
  have z0 : Z.heap.size ≤ h.size := hE.1
  refine C.aloadN 1 d38_0 rfl rfl rfl ?_
  refine C.callV 4 (as := []) (rest := []) (rm := ⟨0, 0, 0, 0⟩) 0 d38_1 rfl (tw 104) (tw 105) (tw 107) nfSelf (tw 106) (tw 4) (tw 108) (by decide) T.1 (sil l Z a0' hw hEL hSA h cpt SCP hcp SAD SHI SLO a b cs T) (by simp) pd23 rfl rfl (Nat.le_of_eq rfl) (by decide) (by decide) (by decide) (by decide) rfl ?_
  refine same_intro ?_
  show W h [] 0 0 4 #[.val (.ref a), .val (.int (Int32.ofNat i))] [.int (if lat cs then 1 else 0)]
  have B := T.2.2.2
  by_cases hl : lat cs
  · rw [if_pos hl]
    rw [enc_l hl] at B
    refine C.ifF 7 d38_4 rfl (by decide) ?_
    refine C.aloadN 8 d38_7 rfl rfl rfl ?_
    refine C.getfield 11 d38_8 rfl (tw 21) Via.refl T.2.1 ?_
    refine C.iloadN 12 d38_11 rfl rfl ?_
    refine C.callS 15 (as := [.ref b, .int (Int32.ofNat i)]) (rest := []) (rm := ⟨2, 0, 0, 27⟩) 0 d38_12 rfl (tw 163) (tw 164) (tw 165) (tw 166) (by decide) (lca l Z a0' hw hEL hSA h b cs i c sf hsf SSF hn hi hc (hl c (List.mem_of_getElem? hi)) B) (by simp) pd39 rfl rfl (Nat.le_of_eq rfl) (by decide) (by decide) (by decide) (by decide) rfl ?_
    refine same_intro ?_
    show W h [] 0 0 15 #[.val (.ref a), .val (.int (Int32.ofNat i))] [.int c]
    exact C.retI .char d38_15 rfl (by simp) (ch_nar hc) (by decide) (by decide) ⟨rfl, rfl⟩ (fun _ q => nomatch q)
  · rw [if_neg hl]
    rw [enc_u hl] at B
    refine C.ifT 16 d38_4 rfl (by decide) ?_
    refine C.aloadN 17 d38_16 rfl rfl rfl ?_
    refine C.getfield 20 d38_17 rfl (tw 21) Via.refl T.2.1 ?_
    refine C.iloadN 21 d38_20 rfl rfl ?_
    refine C.callS 24 (as := [.ref b, .int (Int32.ofNat i)]) (rest := []) (rm := ⟨3, 0, 0, 40⟩) 0 d38_21 rfl (tw 168) (tw 169) (tw 72) (tw 170) (by decide) (uca l Z a0' hw hEL hSA h cpt SCP hcp SAD SHI SLO b cs i c sf hsf SSF hn hi hc B) (by simp) pd40 rfl rfl (Nat.le_of_eq rfl) (by decide) (by decide) (by decide) (by decide) rfl ?_
    refine same_intro ?_
    show W h [] 0 0 24 #[.val (.ref a), .val (.int (Int32.ofNat i))] [.int c]
    exact C.retI .char d38_24 rfl (by simp) (ch_nar hc) (by decide) (by decide) ⟨rfl, rfl⟩ (fun _ q => nomatch q)
def hiS (c : Int32) : Prop := ¬ c < 55296 ∧ c < 56320
def loS (c : Int32) : Prop := ¬ c < 56320 ∧ c < 57344
instance (c : Int32) : Decidable (hiS c) := by unfold hiS; exact inferInstance
instance (c : Int32) : Decidable (loS c) := by unfold loS; exact inferInstance
def tc (c d : Int32) : Int32 := (c <<< ((10 : Int32) &&& 31)) + d + (-56613888 : Int32)
theorem gl8' {c : Int32} (h : Ch c) (hc : ¬ (255 : Int32) < c) : by8 c &&& (255 : Int32) = c := by
  apply Int32.toInt_inj.mp
  rw [Int32.lt_iff_toInt_lt, i255] at hc
  have h1 := c_i2b c
  have h2 := c_mask (by8 c) (255 : Int32) 8 (by decide) (by decide)
  have e : (by8 c).toInt = c.toInt8.toInt32.toInt := rfl
  obtain ⟨q1, q2⟩ := h
  omega
theorem or_nn : ∀ x : Nat, x < 17 → ∀ y : Nat, y < 17 → ¬ ((Int32.ofNat x ||| (0 : Int32)) ||| Int32.ofNat y) < 0 := by decide +kernel
theorem by8_fit (c : Int32) : fits .byte (.int (by8 c)) = true := by
  have q := c_i2b c
  have e : (by8 c).toInt = c.toInt8.toInt32.toInt := rfl
  have e1 : (-128 : Int32).toInt = -128 := rfl
  have e2 : (127 : Int32).toInt = 127 := rfl
  show (decide ((-128 : Int32) ≤ by8 c) && decide (by8 c ≤ (127 : Int32))) = true
  rw [Bool.and_eq_true, decide_eq_true_eq, decide_eq_true_eq, Int32.le_iff_toInt_le, Int32.le_iff_toInt_le]
  omega
theorem fit8 (cs : List Int32) : ∀ v ∈ iv' (cs.map by8), fits .byte v = true := fun v hv => by
  obtain ⟨x, hx, rfl⟩ := List.mem_map.mp hv
  obtain ⟨y, -, rfl⟩ := List.mem_map.mp hx
  exact by8_fit y
theorem fit16 : ∀ (cs : List Int32), ∀ v ∈ iv' (u16 cs), fits .byte v = true
  | [], v, hv => nomatch hv
  | c :: cs, v, hv => by
    rcases List.mem_cons.mp (show v ∈ Value.int (b0 c) :: Value.int (b1 c) :: iv' (u16 cs) from hv) with rfl | hv
    · exact by8_fit _
    · rcases List.mem_cons.mp hv with rfl | hv
      · exact by8_fit _
      · exact fit16 cs v hv
theorem u16_take : ∀ (cs : List Int32) (k : Nat), (u16 cs).take (2 * k) = u16 (cs.take k)
  | [], k => by simp [u16]
  | c :: cs, 0 => by simp [u16]
  | c :: cs, k + 1 => by
    rw [show 2 * (k + 1) = 2 * k + 1 + 1 by omega]
    show b0 c :: b1 c :: (u16 cs).take (2 * k) = b0 c :: b1 c :: u16 (cs.take k)
    rw [u16_take cs k]
theorem d28_0 : decode jdk_89_method_14_code 0 = .ok (.iload_n 0, 1) := by decide +kernel
theorem d28_1 : decode jdk_89_method_14_code 1 = .ok (.ldc 75, 2) := by decide +kernel
theorem d28_3 : decode jdk_89_method_14_code 3 = .ok (.if_icmp .lt 13, 3) := by decide +kernel
theorem d28_6 : decode jdk_89_method_14_code 6 = .ok (.iload_n 0, 1) := by decide +kernel
theorem d28_7 : decode jdk_89_method_14_code 7 = .ok (.ldc 76, 2) := by decide +kernel
theorem d28_9 : decode jdk_89_method_14_code 9 = .ok (.if_icmp .ge 7, 3) := by decide +kernel
theorem d28_12 : decode jdk_89_method_14_code 12 = .ok (.iconst 1, 1) := by decide +kernel
theorem d28_13 : decode jdk_89_method_14_code 13 = .ok (.goto 4, 3) := by decide +kernel
theorem d28_16 : decode jdk_89_method_14_code 16 = .ok (.iconst 0, 1) := by decide +kernel
theorem d28_17 : decode jdk_89_method_14_code 17 = .ok (.ireturn, 1) := by decide +kernel
theorem pn28 : plainFor (⟨"java/lang/Character", "isHighSurrogate", "(C)Z"⟩ : MethodName) = true := by first | exact plainFor_of_name (by first | (simp [plainName, overriddenIn]; done) | decide +kernel) | decide +kernel
theorem pd28 : parseMethodDescriptor "(C)Z" = some ⟨[.char], some .boolean⟩ := by decide +kernel
set_option maxRecDepth 65536 in
set_option maxHeartbeats 40000000 in
theorem ihs (l : Launch) (Z : State) (a0' : Array Value) (hw : ∀ d ∈ tables_1, d.before a0' Z = true) (hEL : EW Z a0' EL0) (hSA : ∀ a ∈ Bundle.stringAtoms, a.before a0' Z = true) (h : Heap) (c r : Int32) (hr : r = if hiS c then 1 else 0) :
    Con l Z EL0 (⟨"java/lang/Character", "isHighSurrogate", "(C)Z"⟩ : MethodName) jdk_89_method_14_code 1 (some .boolean) ⟨0, 0, 0, 0⟩ #[.int c] h [] (Same (some (.int r)) h) (fun _ => []) := by
  refine Con.of (Ls := #[.val (.int c)]) hw hEL pn28 (fun m => by first | (simp [entryFrame, mkF, argsToLocals, Value.category, maxLocals]; done) | rfl) fun W C => ?_
  refine C.kept fun hE => ?_
  have z0 : Z.heap.size ≤ h.size := hE.1
  refine C.iloadN 1 d28_0 rfl rfl ?_
  refine C.ldc 3 (55296 : Int32) d28_1 rfl (tw 125) ?_
  by_cases p : c < (55296 : Int32)
  · refine C.icmpT 16 d28_3 rfl (tlt p).1 ?_
    refine C.iconst 17 (0 : Int32) d28_16 rfl rfl ?_
    exact C.retI .boolean d28_17 rfl (by simp) rfl (by decide) (by decide) ⟨by rw [hr, if_neg (fun z => z.1 p)], rfl⟩ (fun _ q => nomatch q)
  · refine C.icmpF 6 d28_3 rfl (flt p).1 ?_
    refine C.iloadN 7 d28_6 rfl rfl ?_
    refine C.ldc 9 (56320 : Int32) d28_7 rfl (tw 175) ?_
    by_cases q : c < (56320 : Int32)
    · refine C.icmpF 12 d28_9 rfl (tlt q).2.1 ?_
      refine C.iconst 13 (1 : Int32) d28_12 rfl rfl ?_
      refine C.goto 17 d28_13 rfl ?_
      exact C.retI .boolean d28_17 rfl (by simp) rfl (by decide) (by decide) ⟨by rw [hr, if_pos ⟨p, q⟩], rfl⟩ (fun _ q => nomatch q)
    · refine C.icmpT 16 d28_9 rfl (flt q).2.1 ?_
      refine C.iconst 17 (0 : Int32) d28_16 rfl rfl ?_
      exact C.retI .boolean d28_17 rfl (by simp) rfl (by decide) (by decide) ⟨by rw [hr, if_neg (fun z => q z.2)], rfl⟩ (fun _ q => nomatch q)
theorem d42_0 : decode jdk_89_method_15_code 0 = .ok (.iload_n 0, 1) := by decide +kernel
theorem d42_1 : decode jdk_89_method_15_code 1 = .ok (.ldc 76, 2) := by decide +kernel
theorem d42_3 : decode jdk_89_method_15_code 3 = .ok (.if_icmp .lt 13, 3) := by decide +kernel
theorem d42_6 : decode jdk_89_method_15_code 6 = .ok (.iload_n 0, 1) := by decide +kernel
theorem d42_7 : decode jdk_89_method_15_code 7 = .ok (.ldc 77, 2) := by decide +kernel
theorem d42_9 : decode jdk_89_method_15_code 9 = .ok (.if_icmp .ge 7, 3) := by decide +kernel
theorem d42_12 : decode jdk_89_method_15_code 12 = .ok (.iconst 1, 1) := by decide +kernel
theorem d42_13 : decode jdk_89_method_15_code 13 = .ok (.goto 4, 3) := by decide +kernel
theorem d42_16 : decode jdk_89_method_15_code 16 = .ok (.iconst 0, 1) := by decide +kernel
theorem d42_17 : decode jdk_89_method_15_code 17 = .ok (.ireturn, 1) := by decide +kernel
theorem pn42 : plainFor (⟨"java/lang/Character", "isLowSurrogate", "(C)Z"⟩ : MethodName) = true := by first | exact plainFor_of_name (by first | (simp [plainName, overriddenIn]; done) | decide +kernel) | decide +kernel
theorem pd42 : parseMethodDescriptor "(C)Z" = some ⟨[.char], some .boolean⟩ := by decide +kernel
set_option maxRecDepth 65536 in
set_option maxHeartbeats 40000000 in
theorem ils (l : Launch) (Z : State) (a0' : Array Value) (hw : ∀ d ∈ tables_1, d.before a0' Z = true) (hEL : EW Z a0' EL0) (hSA : ∀ a ∈ Bundle.stringAtoms, a.before a0' Z = true) (h : Heap) (c r : Int32) (hr : r = if loS c then 1 else 0) :
    Con l Z EL0 (⟨"java/lang/Character", "isLowSurrogate", "(C)Z"⟩ : MethodName) jdk_89_method_15_code 1 (some .boolean) ⟨0, 0, 0, 0⟩ #[.int c] h [] (Same (some (.int r)) h) (fun _ => []) := by
  refine Con.of (Ls := #[.val (.int c)]) hw hEL pn42 (fun m => by first | (simp [entryFrame, mkF, argsToLocals, Value.category, maxLocals]; done) | rfl) fun W C => ?_
  refine C.kept fun hE => ?_
  have z0 : Z.heap.size ≤ h.size := hE.1
  refine C.iloadN 1 d42_0 rfl rfl ?_
  refine C.ldc 3 (56320 : Int32) d42_1 rfl (tw 175) ?_
  by_cases p : c < (56320 : Int32)
  · refine C.icmpT 16 d42_3 rfl (tlt p).1 ?_
    refine C.iconst 17 (0 : Int32) d42_16 rfl rfl ?_
    exact C.retI .boolean d42_17 rfl (by simp) rfl (by decide) (by decide) ⟨by rw [hr, if_neg (fun z => z.1 p)], rfl⟩ (fun _ q => nomatch q)
  · refine C.icmpF 6 d42_3 rfl (flt p).1 ?_
    refine C.iloadN 7 d42_6 rfl rfl ?_
    refine C.ldc 9 (57344 : Int32) d42_7 rfl (tw 179) ?_
    by_cases q : c < (57344 : Int32)
    · refine C.icmpF 12 d42_9 rfl (tlt q).2.1 ?_
      refine C.iconst 13 (1 : Int32) d42_12 rfl rfl ?_
      refine C.goto 17 d42_13 rfl ?_
      exact C.retI .boolean d42_17 rfl (by simp) rfl (by decide) (by decide) ⟨by rw [hr, if_pos ⟨p, q⟩], rfl⟩ (fun _ q => nomatch q)
    · refine C.icmpT 16 d42_9 rfl (flt q).2.1 ?_
      refine C.iconst 17 (0 : Int32) d42_16 rfl rfl ?_
      exact C.retI .boolean d42_17 rfl (by simp) rfl (by decide) (by decide) ⟨by rw [hr, if_neg (fun z => q z.2)], rfl⟩ (fun _ q => nomatch q)
theorem d43_0 : decode jdk_89_method_19_code 0 = .ok (.iload_n 0, 1) := by decide +kernel
theorem d43_1 : decode jdk_89_method_19_code 1 = .ok (.bipush 10, 2) := by decide +kernel
theorem d43_3 : decode jdk_89_method_19_code 3 = .ok (.ishl, 1) := by decide +kernel
theorem d43_4 : decode jdk_89_method_19_code 4 = .ok (.iload_n 1, 1) := by decide +kernel
theorem d43_5 : decode jdk_89_method_19_code 5 = .ok (.iadd, 1) := by decide +kernel
theorem d43_6 : decode jdk_89_method_19_code 6 = .ok (.ldc 85, 2) := by decide +kernel
theorem d43_8 : decode jdk_89_method_19_code 8 = .ok (.iadd, 1) := by decide +kernel
theorem d43_9 : decode jdk_89_method_19_code 9 = .ok (.ireturn, 1) := by decide +kernel
theorem pn43 : plainFor (⟨"java/lang/Character", "toCodePoint", "(CC)I"⟩ : MethodName) = true := by first | exact plainFor_of_name (by first | (simp [plainName, overriddenIn]; done) | decide +kernel) | decide +kernel
theorem pd43 : parseMethodDescriptor "(CC)I" = some ⟨[.char, .char], some .int⟩ := by decide +kernel
set_option maxRecDepth 65536 in
set_option maxHeartbeats 40000000 in
theorem tcp (l : Launch) (Z : State) (a0' : Array Value) (hw : ∀ d ∈ tables_1, d.before a0' Z = true) (hEL : EW Z a0' EL0) (hSA : ∀ a ∈ Bundle.stringAtoms, a.before a0' Z = true) (h : Heap) (c d : Int32) :
    Con l Z EL0 (⟨"java/lang/Character", "toCodePoint", "(CC)I"⟩ : MethodName) jdk_89_method_19_code 2 (some .int) ⟨0, 0, 0, 0⟩ #[.int c, .int d] h [] (Same (some (.int (tc c d))) h) (fun _ => []) := by
  refine Con.of (Ls := #[.val (.int c), .val (.int d)]) hw hEL pn43 (fun m => by first | (simp [entryFrame, mkF, argsToLocals, Value.category, maxLocals]; done) | rfl) fun W C => ?_
  refine C.kept fun hE => ?_
  have z0 : Z.heap.size ≤ h.size := hE.1
  refine C.iloadN 1 d43_0 rfl rfl ?_
  refine C.bipush 3 (10 : Int32) d43_1 rfl rfl ?_
  refine C.ishl 4 d43_3 rfl ?_
  refine C.iloadN 5 d43_4 rfl rfl ?_
  refine C.iadd 6 d43_5 rfl ?_
  refine C.ldc 8 (-56613888 : Int32) d43_6 rfl (tw 183) ?_
  refine C.iadd 9 d43_8 rfl ?_
  show W h [] 0 0 9 #[.val (.int c), .val (.int d)] [.int (tc c d)]
  exact C.retI .int d43_9 rfl (by simp) rfl (by decide) (by decide) ⟨rfl, rfl⟩ (fun _ q => nomatch q)
theorem d29_0 : decode jdk_89_method_18_code 0 = .ok (.iload_n 0, 1) := by decide +kernel
theorem d29_1 : decode jdk_89_method_18_code 1 = .ok (.ldc 73, 2) := by decide +kernel
theorem d29_3 : decode jdk_89_method_18_code 3 = .ok (.if_icmp .lt 7, 3) := by decide +kernel
theorem d29_6 : decode jdk_89_method_18_code 6 = .ok (.iconst 2, 1) := by decide +kernel
theorem d29_7 : decode jdk_89_method_18_code 7 = .ok (.goto 4, 3) := by decide +kernel
theorem d29_10 : decode jdk_89_method_18_code 10 = .ok (.iconst 1, 1) := by decide +kernel
theorem d29_11 : decode jdk_89_method_18_code 11 = .ok (.ireturn, 1) := by decide +kernel
theorem pn29 : plainFor (⟨"java/lang/Character", "charCount", "(I)I"⟩ : MethodName) = true := by first | exact plainFor_of_name (by first | (simp [plainName, overriddenIn]; done) | decide +kernel) | decide +kernel
theorem pd29 : parseMethodDescriptor "(I)I" = some ⟨[.int], some .int⟩ := by decide +kernel
set_option maxRecDepth 65536 in
set_option maxHeartbeats 40000000 in
theorem cct (l : Launch) (Z : State) (a0' : Array Value) (hw : ∀ d ∈ tables_1, d.before a0' Z = true) (hEL : EW Z a0' EL0) (hSA : ∀ a ∈ Bundle.stringAtoms, a.before a0' Z = true) (h : Heap) (c r : Int32) (hr : r = if c < 65536 then 1 else 2) :
    Con l Z EL0 (⟨"java/lang/Character", "charCount", "(I)I"⟩ : MethodName) jdk_89_method_18_code 1 (some .int) ⟨0, 0, 0, 0⟩ #[.int c] h [] (Same (some (.int r)) h) (fun _ => []) := by
  refine Con.of (Ls := #[.val (.int c)]) hw hEL pn29 (fun m => by first | (simp [entryFrame, mkF, argsToLocals, Value.category, maxLocals]; done) | rfl) fun W C => ?_
  refine C.kept fun hE => ?_
  have z0 : Z.heap.size ≤ h.size := hE.1
  refine C.iloadN 1 d29_0 rfl rfl ?_
  refine C.ldc 3 (65536 : Int32) d29_1 rfl (tw 129) ?_
  by_cases p : c < (65536 : Int32)
  · refine C.icmpT 10 d29_3 rfl (tlt p).1 ?_
    refine C.iconst 11 (1 : Int32) d29_10 rfl rfl ?_
    exact C.retI .int d29_11 rfl (by simp) rfl (by decide) (by decide) ⟨by rw [hr, if_pos p], rfl⟩ (fun _ q => nomatch q)
  · refine C.icmpF 6 d29_3 rfl (flt p).1 ?_
    refine C.iconst 7 (2 : Int32) d29_6 rfl rfl ?_
    refine C.goto 11 d29_7 rfl ?_
    exact C.retI .int d29_11 rfl (by simp) rfl (by decide) (by decide) ⟨by rw [hr, if_neg p], rfl⟩ (fun _ q => nomatch q)
theorem d27_0 : decode jdk_52_method_7_code 0 = .ok (.getstatic 44, 3) := by decide +kernel
theorem d27_3 : decode jdk_52_method_7_code 3 = .ok (.ifCond .ne 16, 3) := by decide +kernel
theorem d27_6 : decode jdk_52_method_7_code 6 = .ok (.iload_n 1, 1) := by decide +kernel
theorem d27_7 : decode jdk_52_method_7_code 7 = .ok (.iload_n 2, 1) := by decide +kernel
theorem d27_8 : decode jdk_52_method_7_code 8 = .ok (.if_icmp .lt 11, 3) := by decide +kernel
theorem d27_11 : decode jdk_52_method_7_code 11 = .ok (.new 52, 3) := by decide +kernel
theorem d27_14 : decode jdk_52_method_7_code 14 = .ok (.dup, 1) := by decide +kernel
theorem d27_15 : decode jdk_52_method_7_code 15 = .ok (.invokespecial 66, 3) := by decide +kernel
theorem d27_18 : decode jdk_52_method_7_code 18 = .ok (.athrow, 1) := by decide +kernel
theorem d27_19 : decode jdk_52_method_7_code 19 = .ok (.iload_n 3, 1) := by decide +kernel
theorem d27_20 : decode jdk_52_method_7_code 20 = .ok (.ifCond .eq 8, 3) := by decide +kernel
theorem d27_23 : decode jdk_52_method_7_code 23 = .ok (.iload_n 1, 1) := by decide +kernel
theorem d27_24 : decode jdk_52_method_7_code 24 = .ok (.aload_n 0, 1) := by decide +kernel
theorem d27_25 : decode jdk_52_method_7_code 25 = .ok (.invokestatic 67, 3) := by decide +kernel
theorem d27_28 : decode jdk_52_method_7_code 28 = .ok (.aload_n 0, 1) := by decide +kernel
theorem d27_29 : decode jdk_52_method_7_code 29 = .ok (.iload_n 1, 1) := by decide +kernel
theorem d27_30 : decode jdk_52_method_7_code 30 = .ok (.invokestatic 71, 3) := by decide +kernel
theorem d27_33 : decode jdk_52_method_7_code 33 = .ok (.istore 4, 2) := by decide +kernel
theorem d27_35 : decode jdk_52_method_7_code 35 = .ok (.iload 4, 2) := by decide +kernel
theorem d27_37 : decode jdk_52_method_7_code 37 = .ok (.invokestatic 75, 3) := by decide +kernel
theorem d27_40 : decode jdk_52_method_7_code 40 = .ok (.ifCond .eq 43, 3) := by decide +kernel
theorem d27_43 : decode jdk_52_method_7_code 43 = .ok (.iinc 1 1, 3) := by decide +kernel
theorem d27_46 : decode jdk_52_method_7_code 46 = .ok (.iload_n 1, 1) := by decide +kernel
theorem d27_47 : decode jdk_52_method_7_code 47 = .ok (.iload_n 2, 1) := by decide +kernel
theorem d27_48 : decode jdk_52_method_7_code 48 = .ok (.if_icmp .ge 35, 3) := by decide +kernel
theorem d27_51 : decode jdk_52_method_7_code 51 = .ok (.iload_n 3, 1) := by decide +kernel
theorem d27_52 : decode jdk_52_method_7_code 52 = .ok (.ifCond .eq 8, 3) := by decide +kernel
theorem d27_55 : decode jdk_52_method_7_code 55 = .ok (.iload_n 1, 1) := by decide +kernel
theorem d27_56 : decode jdk_52_method_7_code 56 = .ok (.aload_n 0, 1) := by decide +kernel
theorem d27_57 : decode jdk_52_method_7_code 57 = .ok (.invokestatic 67, 3) := by decide +kernel
theorem d27_60 : decode jdk_52_method_7_code 60 = .ok (.aload_n 0, 1) := by decide +kernel
theorem d27_61 : decode jdk_52_method_7_code 61 = .ok (.iload_n 1, 1) := by decide +kernel
theorem d27_62 : decode jdk_52_method_7_code 62 = .ok (.invokestatic 71, 3) := by decide +kernel
theorem d27_65 : decode jdk_52_method_7_code 65 = .ok (.istore 5, 2) := by decide +kernel
theorem d27_67 : decode jdk_52_method_7_code 67 = .ok (.iload 5, 2) := by decide +kernel
theorem d27_69 : decode jdk_52_method_7_code 69 = .ok (.invokestatic 81, 3) := by decide +kernel
theorem d27_72 : decode jdk_52_method_7_code 72 = .ok (.ifCond .eq 11, 3) := by decide +kernel
theorem d27_75 : decode jdk_52_method_7_code 75 = .ok (.iload 4, 2) := by decide +kernel
theorem d27_77 : decode jdk_52_method_7_code 77 = .ok (.iload 5, 2) := by decide +kernel
theorem d27_79 : decode jdk_52_method_7_code 79 = .ok (.invokestatic 84, 3) := by decide +kernel
theorem d27_82 : decode jdk_52_method_7_code 82 = .ok (.ireturn, 1) := by decide +kernel
theorem d27_83 : decode jdk_52_method_7_code 83 = .ok (.iload 4, 2) := by decide +kernel
theorem d27_85 : decode jdk_52_method_7_code 85 = .ok (.ireturn, 1) := by decide +kernel
theorem pn27 : plainFor (⟨"java/lang/StringUTF16", "codePointAt", "([BIIZ)I"⟩ : MethodName) = true := by first | exact plainFor_of_name (by first | (simp [plainName, overriddenIn]; done) | decide +kernel) | decide +kernel
theorem pd27 : parseMethodDescriptor "([BIIZ)I" = some ⟨[(.array .byte), .int, .int, .boolean], some .int⟩ := by decide +kernel
set_option maxRecDepth 65536 in
set_option maxHeartbeats 40000000 in
theorem u41 (l : Launch) (Z : State) (a0' : Array Value) (hw : ∀ d ∈ tables_1, d.before a0' Z = true) (hEL : EW Z a0' EL0) (hSA : ∀ a ∈ Bundle.stringAtoms, a.before a0' Z = true) (h : Heap) (cpt : Int32) (SCP : Sta Z Z.heap "java/lang/String" "COMPACT_STRINGS" "Z" (.int cpt)) (hcp : ¬ cpt = 0) (SAD : Sta Z Z.heap "java/lang/StringUTF16" "$assertionsDisabled" "Z" (.int (1 : Int32))) (SHI : Sta Z Z.heap "java/lang/StringUTF16" "HI_BYTE_SHIFT" "I" (.int (0 : Int32))) (SLO : Sta Z Z.heap "java/lang/StringUTF16" "LO_BYTE_SHIFT" "I" (.int (8 : Int32))) (b : Addr) (cs : List Int32) (i : Nat) (c : Int32) (hn : cs.length < 2 ^ 28) (hi : cs[i]? = some c) (hc : Ch c) (nh : ¬ hiS c) (B : Al Z h b .byte (iv' (u16 cs))) :
    Con l Z EL0 (⟨"java/lang/StringUTF16", "codePointAt", "([BIIZ)I"⟩ : MethodName) jdk_52_method_7_code 6 (some .int) ⟨1, 0, 0, 13⟩ #[.ref b, .int (Int32.ofNat i), .int (Int32.ofNat cs.length), .int 0] h [] (Same (some (.int c)) h) (fun _ => []) := by
  refine Con.of (Ls := #[.val (.ref b), .val (.int (Int32.ofNat i)), .val (.int (Int32.ofNat cs.length)), .val (.int (0 : Int32)), .unset, .unset]) hw hEL pn27 (fun m => by first | (simp [entryFrame, mkF, argsToLocals, Value.category, maxLocals]; done) | rfl) fun W C => ?_
  refine C.kept fun hE => ?_
  have z0 : Z.heap.size ≤ h.size := hE.1
  refine C.getstatic 3 d27_0 rfl (tw 90) SAD ?_
  refine C.ifT 19 d27_3 rfl (by decide) ?_
  refine C.iloadN 20 d27_19 rfl rfl ?_
  refine C.ifT 28 d27_20 rfl (by decide) ?_
  refine C.aloadN 29 d27_28 rfl rfl rfl ?_
  refine C.iloadN 30 d27_29 rfl rfl ?_
  refine C.callS 33 (as := [.ref b, .int (Int32.ofNat i)]) (rest := []) (rm := ⟨0, 0, 0, 0⟩) 0 d27_30 rfl (tw 93) (tw 94) (tw 72) (tw 95) (by decide) (gch l Z a0' hw hEL hSA h cpt SCP hcp SAD SHI SLO b cs i c hn hi hc B) (by simp) pd20 rfl rfl (Nat.le_of_eq rfl) (by decide) (by decide) (by decide) (by decide) rfl ?_
  refine same_intro ?_
  show W h [] 0 0 33 #[.val (.ref b), .val (.int (Int32.ofNat i)), .val (.int (Int32.ofNat cs.length)), .val (.int (0 : Int32)), .unset, .unset] [.int c]
  refine C.istore 35 #[.val (.ref b), .val (.int (Int32.ofNat i)), .val (.int (Int32.ofNat cs.length)), .val (.int (0 : Int32)), .val (.int c), .unset] d27_33 rfl rfl ?_
  refine C.iload 37 d27_35 rfl rfl ?_
  refine C.callS 40 (as := [.int c]) (rest := []) (rm := ⟨0, 0, 0, 0⟩) 0 d27_37 rfl (tw 121) (tw 122) (tw 123) (tw 124) (by decide) (ihs l Z a0' hw hEL hSA h c 0 (by rw [if_neg nh])) (by simp) pd28 rfl rfl (Nat.le_of_eq rfl) (by decide) (by decide) (by decide) (by decide) rfl ?_
  refine same_intro ?_
  show W h [] 0 0 40 #[.val (.ref b), .val (.int (Int32.ofNat i)), .val (.int (Int32.ofNat cs.length)), .val (.int (0 : Int32)), .val (.int c), .unset] [.int (0 : Int32)]
  refine C.ifT 83 d27_40 rfl (by decide) ?_
  refine C.iload 85 d27_83 rfl rfl ?_
  exact C.retI .int d27_85 rfl (by simp) rfl (by decide) (by decide) ⟨rfl, rfl⟩ (fun _ q => nomatch q)
theorem d26_0 : decode jdk_52_method_8_code 0 = .ok (.aload_n 0, 1) := by decide +kernel
theorem d26_1 : decode jdk_52_method_8_code 1 = .ok (.iload_n 1, 1) := by decide +kernel
theorem d26_2 : decode jdk_52_method_8_code 2 = .ok (.iload_n 2, 1) := by decide +kernel
theorem d26_3 : decode jdk_52_method_8_code 3 = .ok (.iconst 0, 1) := by decide +kernel
theorem d26_4 : decode jdk_52_method_8_code 4 = .ok (.invokestatic 88, 3) := by decide +kernel
theorem d26_7 : decode jdk_52_method_8_code 7 = .ok (.ireturn, 1) := by decide +kernel
theorem pn26 : plainFor (⟨"java/lang/StringUTF16", "codePointAt", "([BII)I"⟩ : MethodName) = true := by first | exact plainFor_of_name (by first | (simp [plainName, overriddenIn]; done) | decide +kernel) | decide +kernel
theorem pd26 : parseMethodDescriptor "([BII)I" = some ⟨[(.array .byte), .int, .int], some .int⟩ := by decide +kernel
set_option maxRecDepth 65536 in
set_option maxHeartbeats 40000000 in
theorem u31 (l : Launch) (Z : State) (a0' : Array Value) (hw : ∀ d ∈ tables_1, d.before a0' Z = true) (hEL : EW Z a0' EL0) (hSA : ∀ a ∈ Bundle.stringAtoms, a.before a0' Z = true) (h : Heap) (cpt : Int32) (SCP : Sta Z Z.heap "java/lang/String" "COMPACT_STRINGS" "Z" (.int cpt)) (hcp : ¬ cpt = 0) (SAD : Sta Z Z.heap "java/lang/StringUTF16" "$assertionsDisabled" "Z" (.int (1 : Int32))) (SHI : Sta Z Z.heap "java/lang/StringUTF16" "HI_BYTE_SHIFT" "I" (.int (0 : Int32))) (SLO : Sta Z Z.heap "java/lang/StringUTF16" "LO_BYTE_SHIFT" "I" (.int (8 : Int32))) (b : Addr) (cs : List Int32) (i : Nat) (c : Int32) (hn : cs.length < 2 ^ 28) (hi : cs[i]? = some c) (hc : Ch c) (nh : ¬ hiS c) (B : Al Z h b .byte (iv' (u16 cs))) :
    Con l Z EL0 (⟨"java/lang/StringUTF16", "codePointAt", "([BII)I"⟩ : MethodName) jdk_52_method_8_code 3 (some .int) ⟨2, 0, 0, 30⟩ #[.ref b, .int (Int32.ofNat i), .int (Int32.ofNat cs.length)] h [] (Same (some (.int c)) h) (fun _ => []) := by
  refine Con.of (Ls := #[.val (.ref b), .val (.int (Int32.ofNat i)), .val (.int (Int32.ofNat cs.length))]) hw hEL pn26 (fun m => by first | (simp [entryFrame, mkF, argsToLocals, Value.category, maxLocals]; done) | rfl) fun W C => ?_
  refine C.kept fun hE => ?_
  have z0 : Z.heap.size ≤ h.size := hE.1
  refine C.aloadN 1 d26_0 rfl rfl rfl ?_
  refine C.iloadN 2 d26_1 rfl rfl ?_
  refine C.iloadN 3 d26_2 rfl rfl ?_
  refine C.iconst 4 (0 : Int32) d26_3 rfl rfl ?_
  refine C.callS 7 (as := [.ref b, .int (Int32.ofNat i), .int (Int32.ofNat cs.length), .int (0 : Int32)]) (rest := []) (rm := ⟨1, 0, 0, 13⟩) 0 d26_4 rfl (tw 118) (tw 119) (tw 72) (tw 120) (by decide) (u41 l Z a0' hw hEL hSA h cpt SCP hcp SAD SHI SLO b cs i c hn hi hc nh B) (by simp) pd27 rfl rfl (Nat.le_of_eq rfl) (by decide) (by decide) (by decide) (by decide) rfl ?_
  refine same_intro ?_
  show W h [] 0 0 7 #[.val (.ref b), .val (.int (Int32.ofNat i)), .val (.int (Int32.ofNat cs.length))] [.int c]
  exact C.retI .int d26_7 rfl (by simp) rfl (by decide) (by decide) ⟨rfl, rfl⟩ (fun _ q => nomatch q)
theorem d22_0 : decode jdk_42_method_57_code 0 = .ok (.aload_n 0, 1) := by decide +kernel
theorem d22_1 : decode jdk_42_method_57_code 1 = .ok (.invokevirtual 492, 3) := by decide +kernel
theorem d22_4 : decode jdk_42_method_57_code 4 = .ok (.ifCond .eq 23, 3) := by decide +kernel
theorem d22_7 : decode jdk_42_method_57_code 7 = .ok (.iload_n 1, 1) := by decide +kernel
theorem d22_8 : decode jdk_42_method_57_code 8 = .ok (.aload_n 0, 1) := by decide +kernel
theorem d22_9 : decode jdk_42_method_57_code 9 = .ok (.getfield 9, 3) := by decide +kernel
theorem d22_12 : decode jdk_42_method_57_code 12 = .ok (.arraylength, 1) := by decide +kernel
theorem d22_13 : decode jdk_42_method_57_code 13 = .ok (.invokestatic 499, 3) := by decide +kernel
theorem d22_16 : decode jdk_42_method_57_code 16 = .ok (.aload_n 0, 1) := by decide +kernel
theorem d22_17 : decode jdk_42_method_57_code 17 = .ok (.getfield 9, 3) := by decide +kernel
theorem d22_20 : decode jdk_42_method_57_code 20 = .ok (.iload_n 1, 1) := by decide +kernel
theorem d22_21 : decode jdk_42_method_57_code 21 = .ok (.baload, 1) := by decide +kernel
theorem d22_22 : decode jdk_42_method_57_code 22 = .ok (.sipush 255, 3) := by decide +kernel
theorem d22_25 : decode jdk_42_method_57_code 25 = .ok (.iand, 1) := by decide +kernel
theorem d22_26 : decode jdk_42_method_57_code 26 = .ok (.ireturn, 1) := by decide +kernel
theorem d22_27 : decode jdk_42_method_57_code 27 = .ok (.aload_n 0, 1) := by decide +kernel
theorem d22_28 : decode jdk_42_method_57_code 28 = .ok (.getfield 9, 3) := by decide +kernel
theorem d22_31 : decode jdk_42_method_57_code 31 = .ok (.arraylength, 1) := by decide +kernel
theorem d22_32 : decode jdk_42_method_57_code 32 = .ok (.iconst 1, 1) := by decide +kernel
theorem d22_33 : decode jdk_42_method_57_code 33 = .ok (.ishr, 1) := by decide +kernel
theorem d22_34 : decode jdk_42_method_57_code 34 = .ok (.istore_n 2, 1) := by decide +kernel
theorem d22_35 : decode jdk_42_method_57_code 35 = .ok (.iload_n 1, 1) := by decide +kernel
theorem d22_36 : decode jdk_42_method_57_code 36 = .ok (.iload_n 2, 1) := by decide +kernel
theorem d22_37 : decode jdk_42_method_57_code 37 = .ok (.invokestatic 499, 3) := by decide +kernel
theorem d22_40 : decode jdk_42_method_57_code 40 = .ok (.aload_n 0, 1) := by decide +kernel
theorem d22_41 : decode jdk_42_method_57_code 41 = .ok (.getfield 9, 3) := by decide +kernel
theorem d22_44 : decode jdk_42_method_57_code 44 = .ok (.iload_n 1, 1) := by decide +kernel
theorem d22_45 : decode jdk_42_method_57_code 45 = .ok (.iload_n 2, 1) := by decide +kernel
theorem d22_46 : decode jdk_42_method_57_code 46 = .ok (.invokestatic 502, 3) := by decide +kernel
theorem d22_49 : decode jdk_42_method_57_code 49 = .ok (.ireturn, 1) := by decide +kernel
theorem pn22 : plainFor (⟨"java/lang/String", "codePointAt", "(I)I"⟩ : MethodName) = true := by first | exact plainFor_of_name (by first | (simp [plainName, overriddenIn]; done) | decide +kernel) | decide +kernel
theorem pd22 : parseMethodDescriptor "(I)I" = some ⟨[.int], some .int⟩ := by decide +kernel
set_option maxRecDepth 65536 in
set_option maxHeartbeats 40000000 in
theorem scp1 (l : Launch) (Z : State) (a0' : Array Value) (hw : ∀ d ∈ tables_1, d.before a0' Z = true) (hEL : EW Z a0' EL0) (hSA : ∀ a ∈ Bundle.stringAtoms, a.before a0' Z = true) (h : Heap) (cpt : Int32) (SCP : Sta Z Z.heap "java/lang/String" "COMPACT_STRINGS" "Z" (.int cpt)) (hcp : ¬ cpt = 0) (SAD : Sta Z Z.heap "java/lang/StringUTF16" "$assertionsDisabled" "Z" (.int (1 : Int32))) (SHI : Sta Z Z.heap "java/lang/StringUTF16" "HI_BYTE_SHIFT" "I" (.int (0 : Int32))) (SLO : Sta Z Z.heap "java/lang/StringUTF16" "LO_BYTE_SHIFT" "I" (.int (8 : Int32))) (sf : Value) (hsf : sf.isRef = true) (SSF : Sta Z Z.heap "jdk/internal/util/Preconditions" "SIOOBE_FORMATTER" "Ljava/util/function/BiFunction;" sf) (a : Addr) (b : Addr) (cs : List Int32) (i : Nat) (c : Int32) (hn : cs.length < 2 ^ 28) (hi : cs[i]? = some c) (hc : Ch c) (nh : ¬ hiS c) (T : Str Z h a b cs) :
    Con l Z EL0 (⟨"java/lang/String", "codePointAt", "(I)I"⟩ : MethodName) jdk_42_method_57_code 3 (some .int) ⟨3, 0, 0, 44⟩ #[.ref a, .int (Int32.ofNat i)] h [] (Same (some (.int c)) h) (fun _ => []) := by
  refine Con.of (Ls := #[.val (.ref a), .val (.int (Int32.ofNat i)), .unset]) hw hEL pn22 (fun m => by first | (simp [entryFrame, mkF, argsToLocals, Value.category, maxLocals]; done) | rfl) fun W C => ?_
  refine C.kept fun hE => ?_
  have z0 : Z.heap.size ≤ h.size := hE.1
  have hlt : i < cs.length := (List.getElem?_eq_some_iff.mp hi).1
  refine C.aloadN 1 d22_0 rfl rfl rfl ?_
  refine C.callV 4 (as := []) (rest := []) (rm := ⟨0, 0, 0, 0⟩) 0 d22_1 rfl (tw 104) (tw 105) (tw 107) nfSelf (tw 106) (tw 4) (tw 108) (by decide) T.1 (sil l Z a0' hw hEL hSA h cpt SCP hcp SAD SHI SLO a b cs T) (by simp) pd23 rfl rfl (Nat.le_of_eq rfl) (by decide) (by decide) (by decide) (by decide) rfl ?_
  refine same_intro ?_
  show W h [] 0 0 4 #[.val (.ref a), .val (.int (Int32.ofNat i)), .unset] [.int (if lat cs then 1 else 0)]
  have B := T.2.2.2
  by_cases hl : lat cs
  · rw [if_pos hl]
    rw [enc_l hl] at B
    refine C.ifF 7 d22_4 rfl (by decide) ?_
    refine C.iloadN 8 d22_7 rfl rfl ?_
    refine C.aloadN 9 d22_8 rfl rfl rfl ?_
    refine C.getfield 12 d22_9 rfl (tw 21) Via.refl T.2.1 ?_
    refine C.arraylength 13 (Int32.ofNat cs.length) d22_12 rfl B (by simp) ?_
    refine C.callS 16 (as := [.int (Int32.ofNat i), .int (Int32.ofNat cs.length)]) (rest := []) (rm := ⟨1, 0, 0, 14⟩) 0 d22_13 rfl (tw 109) (tw 110) (tw 4) (tw 111) (by decide) (sci l Z a0' hw hEL hSA h i cs.length sf hsf SSF hlt (by omega)) (by simp) pd24 rfl rfl (Nat.le_of_eq rfl) (by decide) (by decide) (by decide) (by decide) rfl ?_
    refine same_intro ?_
    show W h [] 0 0 16 #[.val (.ref a), .val (.int (Int32.ofNat i)), .unset] []
    refine C.aloadN 17 d22_16 rfl rfl rfl ?_
    refine C.getfield 20 d22_17 rfl (tw 21) Via.refl T.2.1 ?_
    refine C.iloadN 21 d22_20 rfl rfl ?_
    refine C.baloadB 22 i (.int (by8 c)) d22_21 rfl B (o_nn (by omega)) (o_cl (by omega)) (by rw [List.getElem?_map, List.getElem?_map, hi]; rfl) ?_
    refine C.sipush 25 (255 : Int32) d22_22 rfl rfl ?_
    refine C.iand 26 d22_25 rfl ?_
    rw [gl8' hc (hl c (List.mem_of_getElem? hi))]
    exact C.retI .int d22_26 rfl (by simp) rfl (by decide) (by decide) ⟨rfl, rfl⟩ (fun _ q => nomatch q)
  · rw [if_neg hl]
    rw [enc_u hl] at B
    refine C.ifT 27 d22_4 rfl (by decide) ?_
    refine C.aloadN 28 d22_27 rfl rfl rfl ?_
    refine C.getfield 31 d22_28 rfl (tw 21) Via.refl T.2.1 ?_
    refine C.arraylength 32 (Int32.ofNat (2 * cs.length)) d22_31 rfl B (by simp [u16_len]) ?_
    refine C.iconst 33 (1 : Int32) d22_32 rfl rfl ?_
    refine C.ishr 34 d22_33 rfl ?_
    rw [o_half (by omega)]
    refine C.istoreN 35 #[.val (.ref a), .val (.int (Int32.ofNat i)), .val (.int (Int32.ofNat cs.length))] d22_34 rfl rfl ?_
    refine C.iloadN 36 d22_35 rfl rfl ?_
    refine C.iloadN 37 d22_36 rfl rfl ?_
    refine C.callS 40 (as := [.int (Int32.ofNat i), .int (Int32.ofNat cs.length)]) (rest := []) (rm := ⟨1, 0, 0, 14⟩) 0 d22_37 rfl (tw 109) (tw 110) (tw 4) (tw 111) (by decide) (sci l Z a0' hw hEL hSA h i cs.length sf hsf SSF hlt (by omega)) (by simp) pd24 rfl rfl (Nat.le_of_eq rfl) (by decide) (by decide) (by decide) (by decide) rfl ?_
    refine same_intro ?_
    show W h [] 0 0 40 #[.val (.ref a), .val (.int (Int32.ofNat i)), .val (.int (Int32.ofNat cs.length))] []
    refine C.aloadN 41 d22_40 rfl rfl rfl ?_
    refine C.getfield 44 d22_41 rfl (tw 21) Via.refl T.2.1 ?_
    refine C.iloadN 45 d22_44 rfl rfl ?_
    refine C.iloadN 46 d22_45 rfl rfl ?_
    refine C.callS 49 (as := [.ref b, .int (Int32.ofNat i), .int (Int32.ofNat cs.length)]) (rest := []) (rm := ⟨2, 0, 0, 30⟩) 0 d22_46 rfl (tw 115) (tw 116) (tw 72) (tw 117) (by decide) (u31 l Z a0' hw hEL hSA h cpt SCP hcp SAD SHI SLO b cs i c hn hi hc nh B) (by simp) pd26 rfl rfl (Nat.le_of_eq rfl) (by decide) (by decide) (by decide) (by decide) rfl ?_
    refine same_intro ?_
    show W h [] 0 0 49 #[.val (.ref a), .val (.int (Int32.ofNat i)), .val (.int (Int32.ofNat cs.length))] [.int c]
    exact C.retI .int d22_49 rfl (by simp) rfl (by decide) (by decide) ⟨rfl, rfl⟩ (fun _ q => nomatch q)
set_option maxRecDepth 65536 in
set_option maxHeartbeats 40000000 in
theorem u42 (l : Launch) (Z : State) (a0' : Array Value) (hw : ∀ d ∈ tables_1, d.before a0' Z = true) (hEL : EW Z a0' EL0) (hSA : ∀ a ∈ Bundle.stringAtoms, a.before a0' Z = true) (h : Heap) (cpt : Int32) (SCP : Sta Z Z.heap "java/lang/String" "COMPACT_STRINGS" "Z" (.int cpt)) (hcp : ¬ cpt = 0) (SAD : Sta Z Z.heap "java/lang/StringUTF16" "$assertionsDisabled" "Z" (.int (1 : Int32))) (SHI : Sta Z Z.heap "java/lang/StringUTF16" "HI_BYTE_SHIFT" "I" (.int (0 : Int32))) (SLO : Sta Z Z.heap "java/lang/StringUTF16" "LO_BYTE_SHIFT" "I" (.int (8 : Int32))) (b : Addr) (cs : List Int32) (i : Nat) (c : Int32) (hn : cs.length < 2 ^ 28) (hi : cs[i]? = some c) (hc : Ch c) (d : Int32) (hj : cs[i + 1]? = some d) (hd : Ch d) (nh : hiS c) (nl : loS d) (B : Al Z h b .byte (iv' (u16 cs))) :
    Con l Z EL0 (⟨"java/lang/StringUTF16", "codePointAt", "([BIIZ)I"⟩ : MethodName) jdk_52_method_7_code 6 (some .int) ⟨1, 0, 0, 13⟩ #[.ref b, .int (Int32.ofNat i), .int (Int32.ofNat cs.length), .int 0] h [] (Same (some (.int (tc c d))) h) (fun _ => []) := by
  refine Con.of (Ls := #[.val (.ref b), .val (.int (Int32.ofNat i)), .val (.int (Int32.ofNat cs.length)), .val (.int (0 : Int32)), .unset, .unset]) hw hEL pn27 (fun m => by first | (simp [entryFrame, mkF, argsToLocals, Value.category, maxLocals]; done) | rfl) fun W C => ?_
  refine C.kept fun hE => ?_
  have z0 : Z.heap.size ≤ h.size := hE.1
  refine C.getstatic 3 d27_0 rfl (tw 90) SAD ?_
  refine C.ifT 19 d27_3 rfl (by decide) ?_
  refine C.iloadN 20 d27_19 rfl rfl ?_
  refine C.ifT 28 d27_20 rfl (by decide) ?_
  refine C.aloadN 29 d27_28 rfl rfl rfl ?_
  refine C.iloadN 30 d27_29 rfl rfl ?_
  refine C.callS 33 (as := [.ref b, .int (Int32.ofNat i)]) (rest := []) (rm := ⟨0, 0, 0, 0⟩) 0 d27_30 rfl (tw 93) (tw 94) (tw 72) (tw 95) (by decide) (gch l Z a0' hw hEL hSA h cpt SCP hcp SAD SHI SLO b cs i c hn hi hc B) (by simp) pd20 rfl rfl (Nat.le_of_eq rfl) (by decide) (by decide) (by decide) (by decide) rfl ?_
  refine same_intro ?_
  show W h [] 0 0 33 #[.val (.ref b), .val (.int (Int32.ofNat i)), .val (.int (Int32.ofNat cs.length)), .val (.int (0 : Int32)), .unset, .unset] [.int c]
  refine C.istore 35 #[.val (.ref b), .val (.int (Int32.ofNat i)), .val (.int (Int32.ofNat cs.length)), .val (.int (0 : Int32)), .val (.int c), .unset] d27_33 rfl rfl ?_
  refine C.iload 37 d27_35 rfl rfl ?_
  refine C.callS 40 (as := [.int c]) (rest := []) (rm := ⟨0, 0, 0, 0⟩) 0 d27_37 rfl (tw 121) (tw 122) (tw 123) (tw 124) (by decide) (ihs l Z a0' hw hEL hSA h c 1 (by rw [if_pos nh])) (by simp) pd28 rfl rfl (Nat.le_of_eq rfl) (by decide) (by decide) (by decide) (by decide) rfl ?_
  refine same_intro ?_
  show W h [] 0 0 40 #[.val (.ref b), .val (.int (Int32.ofNat i)), .val (.int (Int32.ofNat cs.length)), .val (.int (0 : Int32)), .val (.int c), .unset] [.int (1 : Int32)]
  refine C.ifF 43 d27_40 rfl (by decide) ?_
  have hlt : i + 1 < cs.length := (List.getElem?_eq_some_iff.mp hj).1
  refine C.iinc 46 #[.val (.ref b), .val (.int ((Int32.ofNat i) + (1 : Int32))), .val (.int (Int32.ofNat cs.length)), .val (.int (0 : Int32)), .val (.int c), .unset] d27_43 rfl rfl rfl ?_
  have e1 : Int32.ofNat i + (1 : Int32) = Int32.ofNat (i + 1) := o_add i 1
  show W h [] 0 0 46 #[.val (.ref b), .val (.int ((Int32.ofNat i) + (1 : Int32))), .val (.int (Int32.ofNat cs.length)), .val (.int (0 : Int32)), .val (.int c), .unset] []
  rw [e1]
  refine C.iloadN 47 d27_46 rfl rfl ?_
  refine C.iloadN 48 d27_47 rfl rfl ?_
  have q : Int32.ofNat (i + 1) < Int32.ofNat cs.length := (o_lt (by omega) (by omega)).mpr hlt
  refine C.icmpF 51 d27_48 rfl (tlt q).2.1 ?_
  refine C.iloadN 52 d27_51 rfl rfl ?_
  refine C.ifT 60 d27_52 rfl (by decide) ?_
  refine C.aloadN 61 d27_60 rfl rfl rfl ?_
  refine C.iloadN 62 d27_61 rfl rfl ?_
  refine C.callS 65 (as := [.ref b, .int (Int32.ofNat (i + 1))]) (rest := []) (rm := ⟨0, 0, 0, 0⟩) 0 d27_62 rfl (tw 93) (tw 94) (tw 72) (tw 95) (by decide) (gch l Z a0' hw hEL hSA h cpt SCP hcp SAD SHI SLO b cs (i + 1) d hn hj hd B) (by simp) pd20 rfl rfl (Nat.le_of_eq rfl) (by decide) (by decide) (by decide) (by decide) rfl ?_
  refine same_intro ?_
  show W h [] 0 0 65 #[.val (.ref b), .val (.int (Int32.ofNat (i + 1))), .val (.int (Int32.ofNat cs.length)), .val (.int (0 : Int32)), .val (.int c), .unset] [.int d]
  refine C.istore 67 #[.val (.ref b), .val (.int (Int32.ofNat (i + 1))), .val (.int (Int32.ofNat cs.length)), .val (.int (0 : Int32)), .val (.int c), .val (.int d)] d27_65 rfl rfl ?_
  refine C.iload 69 d27_67 rfl rfl ?_
  refine C.callS 72 (as := [.int d]) (rest := []) (rm := ⟨0, 0, 0, 0⟩) 0 d27_69 rfl (tw 176) (tw 177) (tw 123) (tw 178) (by decide) (ils l Z a0' hw hEL hSA h d 1 (by rw [if_pos nl])) (by simp) pd42 rfl rfl (Nat.le_of_eq rfl) (by decide) (by decide) (by decide) (by decide) rfl ?_
  refine same_intro ?_
  show W h [] 0 0 72 #[.val (.ref b), .val (.int (Int32.ofNat (i + 1))), .val (.int (Int32.ofNat cs.length)), .val (.int (0 : Int32)), .val (.int c), .val (.int d)] [.int (1 : Int32)]
  refine C.ifF 75 d27_72 rfl (by decide) ?_
  refine C.iload 77 d27_75 rfl rfl ?_
  refine C.iload 79 d27_77 rfl rfl ?_
  refine C.callS 82 (as := [.int c, .int d]) (rest := []) (rm := ⟨0, 0, 0, 0⟩) 0 d27_79 rfl (tw 180) (tw 181) (tw 123) (tw 182) (by decide) (tcp l Z a0' hw hEL hSA h c d) (by simp) pd43 rfl rfl (Nat.le_of_eq rfl) (by decide) (by decide) (by decide) (by decide) rfl ?_
  refine same_intro ?_
  show W h [] 0 0 82 #[.val (.ref b), .val (.int (Int32.ofNat (i + 1))), .val (.int (Int32.ofNat cs.length)), .val (.int (0 : Int32)), .val (.int c), .val (.int d)] [.int (tc c d)]
  exact C.retI .int d27_82 rfl (by simp) rfl (by decide) (by decide) ⟨rfl, rfl⟩ (fun _ q => nomatch q)
set_option maxRecDepth 65536 in
set_option maxHeartbeats 40000000 in
theorem u32 (l : Launch) (Z : State) (a0' : Array Value) (hw : ∀ d ∈ tables_1, d.before a0' Z = true) (hEL : EW Z a0' EL0) (hSA : ∀ a ∈ Bundle.stringAtoms, a.before a0' Z = true) (h : Heap) (cpt : Int32) (SCP : Sta Z Z.heap "java/lang/String" "COMPACT_STRINGS" "Z" (.int cpt)) (hcp : ¬ cpt = 0) (SAD : Sta Z Z.heap "java/lang/StringUTF16" "$assertionsDisabled" "Z" (.int (1 : Int32))) (SHI : Sta Z Z.heap "java/lang/StringUTF16" "HI_BYTE_SHIFT" "I" (.int (0 : Int32))) (SLO : Sta Z Z.heap "java/lang/StringUTF16" "LO_BYTE_SHIFT" "I" (.int (8 : Int32))) (b : Addr) (cs : List Int32) (i : Nat) (c : Int32) (hn : cs.length < 2 ^ 28) (hi : cs[i]? = some c) (hc : Ch c) (d : Int32) (hj : cs[i + 1]? = some d) (hd : Ch d) (nh : hiS c) (nl : loS d) (B : Al Z h b .byte (iv' (u16 cs))) :
    Con l Z EL0 (⟨"java/lang/StringUTF16", "codePointAt", "([BII)I"⟩ : MethodName) jdk_52_method_8_code 3 (some .int) ⟨2, 0, 0, 30⟩ #[.ref b, .int (Int32.ofNat i), .int (Int32.ofNat cs.length)] h [] (Same (some (.int (tc c d))) h) (fun _ => []) := by
  refine Con.of (Ls := #[.val (.ref b), .val (.int (Int32.ofNat i)), .val (.int (Int32.ofNat cs.length))]) hw hEL pn26 (fun m => by first | (simp [entryFrame, mkF, argsToLocals, Value.category, maxLocals]; done) | rfl) fun W C => ?_
  refine C.kept fun hE => ?_
  have z0 : Z.heap.size ≤ h.size := hE.1
  refine C.aloadN 1 d26_0 rfl rfl rfl ?_
  refine C.iloadN 2 d26_1 rfl rfl ?_
  refine C.iloadN 3 d26_2 rfl rfl ?_
  refine C.iconst 4 (0 : Int32) d26_3 rfl rfl ?_
  refine C.callS 7 (as := [.ref b, .int (Int32.ofNat i), .int (Int32.ofNat cs.length), .int (0 : Int32)]) (rest := []) (rm := ⟨1, 0, 0, 13⟩) 0 d26_4 rfl (tw 118) (tw 119) (tw 72) (tw 120) (by decide) (u42 l Z a0' hw hEL hSA h cpt SCP hcp SAD SHI SLO b cs i c hn hi hc d hj hd nh nl B) (by simp) pd27 rfl rfl (Nat.le_of_eq rfl) (by decide) (by decide) (by decide) (by decide) rfl ?_
  refine same_intro ?_
  show W h [] 0 0 7 #[.val (.ref b), .val (.int (Int32.ofNat i)), .val (.int (Int32.ofNat cs.length))] [.int (tc c d)]
  exact C.retI .int d26_7 rfl (by simp) rfl (by decide) (by decide) ⟨rfl, rfl⟩ (fun _ q => nomatch q)
set_option maxRecDepth 65536 in
set_option maxHeartbeats 40000000 in
theorem scp2 (l : Launch) (Z : State) (a0' : Array Value) (hw : ∀ d ∈ tables_1, d.before a0' Z = true) (hEL : EW Z a0' EL0) (hSA : ∀ a ∈ Bundle.stringAtoms, a.before a0' Z = true) (h : Heap) (cpt : Int32) (SCP : Sta Z Z.heap "java/lang/String" "COMPACT_STRINGS" "Z" (.int cpt)) (hcp : ¬ cpt = 0) (SAD : Sta Z Z.heap "java/lang/StringUTF16" "$assertionsDisabled" "Z" (.int (1 : Int32))) (SHI : Sta Z Z.heap "java/lang/StringUTF16" "HI_BYTE_SHIFT" "I" (.int (0 : Int32))) (SLO : Sta Z Z.heap "java/lang/StringUTF16" "LO_BYTE_SHIFT" "I" (.int (8 : Int32))) (sf : Value) (hsf : sf.isRef = true) (SSF : Sta Z Z.heap "jdk/internal/util/Preconditions" "SIOOBE_FORMATTER" "Ljava/util/function/BiFunction;" sf) (a : Addr) (b : Addr) (cs : List Int32) (i : Nat) (c : Int32) (hn : cs.length < 2 ^ 28) (hi : cs[i]? = some c) (hc : Ch c) (d : Int32) (hj : cs[i + 1]? = some d) (hd : Ch d) (nh : hiS c) (nl : loS d) (T : Str Z h a b cs) :
    Con l Z EL0 (⟨"java/lang/String", "codePointAt", "(I)I"⟩ : MethodName) jdk_42_method_57_code 3 (some .int) ⟨3, 0, 0, 44⟩ #[.ref a, .int (Int32.ofNat i)] h [] (Same (some (.int (tc c d))) h) (fun _ => []) := by
  refine Con.of (Ls := #[.val (.ref a), .val (.int (Int32.ofNat i)), .unset]) hw hEL pn22 (fun m => by first | (simp [entryFrame, mkF, argsToLocals, Value.category, maxLocals]; done) | rfl) fun W C => ?_
  refine C.kept fun hE => ?_
  have z0 : Z.heap.size ≤ h.size := hE.1
  have hlt : i < cs.length := (List.getElem?_eq_some_iff.mp hi).1
  refine C.aloadN 1 d22_0 rfl rfl rfl ?_
  refine C.callV 4 (as := []) (rest := []) (rm := ⟨0, 0, 0, 0⟩) 0 d22_1 rfl (tw 104) (tw 105) (tw 107) nfSelf (tw 106) (tw 4) (tw 108) (by decide) T.1 (sil l Z a0' hw hEL hSA h cpt SCP hcp SAD SHI SLO a b cs T) (by simp) pd23 rfl rfl (Nat.le_of_eq rfl) (by decide) (by decide) (by decide) (by decide) rfl ?_
  refine same_intro ?_
  show W h [] 0 0 4 #[.val (.ref a), .val (.int (Int32.ofNat i)), .unset] [.int (if lat cs then 1 else 0)]
  have B := T.2.2.2
  by_cases hl : lat cs
  · exfalso
    have q := hl c (List.mem_of_getElem? hi)
    have q2 := nh.1
    have e1 : (55296 : Int32).toInt = 55296 := rfl
    rw [Int32.lt_iff_toInt_lt] at q q2
    rw [i255] at q
    rw [e1] at q2
    omega
  · rw [if_neg hl]
    rw [enc_u hl] at B
    refine C.ifT 27 d22_4 rfl (by decide) ?_
    refine C.aloadN 28 d22_27 rfl rfl rfl ?_
    refine C.getfield 31 d22_28 rfl (tw 21) Via.refl T.2.1 ?_
    refine C.arraylength 32 (Int32.ofNat (2 * cs.length)) d22_31 rfl B (by simp [u16_len]) ?_
    refine C.iconst 33 (1 : Int32) d22_32 rfl rfl ?_
    refine C.ishr 34 d22_33 rfl ?_
    rw [o_half (by omega)]
    refine C.istoreN 35 #[.val (.ref a), .val (.int (Int32.ofNat i)), .val (.int (Int32.ofNat cs.length))] d22_34 rfl rfl ?_
    refine C.iloadN 36 d22_35 rfl rfl ?_
    refine C.iloadN 37 d22_36 rfl rfl ?_
    refine C.callS 40 (as := [.int (Int32.ofNat i), .int (Int32.ofNat cs.length)]) (rest := []) (rm := ⟨1, 0, 0, 14⟩) 0 d22_37 rfl (tw 109) (tw 110) (tw 4) (tw 111) (by decide) (sci l Z a0' hw hEL hSA h i cs.length sf hsf SSF hlt (by omega)) (by simp) pd24 rfl rfl (Nat.le_of_eq rfl) (by decide) (by decide) (by decide) (by decide) rfl ?_
    refine same_intro ?_
    show W h [] 0 0 40 #[.val (.ref a), .val (.int (Int32.ofNat i)), .val (.int (Int32.ofNat cs.length))] []
    refine C.aloadN 41 d22_40 rfl rfl rfl ?_
    refine C.getfield 44 d22_41 rfl (tw 21) Via.refl T.2.1 ?_
    refine C.iloadN 45 d22_44 rfl rfl ?_
    refine C.iloadN 46 d22_45 rfl rfl ?_
    refine C.callS 49 (as := [.ref b, .int (Int32.ofNat i), .int (Int32.ofNat cs.length)]) (rest := []) (rm := ⟨2, 0, 0, 30⟩) 0 d22_46 rfl (tw 115) (tw 116) (tw 72) (tw 117) (by decide) (u32 l Z a0' hw hEL hSA h cpt SCP hcp SAD SHI SLO b cs i c hn hi hc d hj hd nh nl B) (by simp) pd26 rfl rfl (Nat.le_of_eq rfl) (by decide) (by decide) (by decide) (by decide) rfl ?_
    refine same_intro ?_
    show W h [] 0 0 49 #[.val (.ref a), .val (.int (Int32.ofNat i)), .val (.int (Int32.ofNat cs.length))] [.int (tc c d)]
    exact C.retI .int d22_49 rfl (by simp) rfl (by decide) (by decide) ⟨rfl, rfl⟩ (fun _ q => nomatch q)
theorem d10_0 : decode jdk_41_method_12_code 0 = .ok (.iload_n 0, 1) := by decide +kernel
theorem d10_1 : decode jdk_41_method_12_code 1 = .ok (.ifCond .lt 13, 3) := by decide +kernel
theorem d10_4 : decode jdk_41_method_12_code 4 = .ok (.iload_n 0, 1) := by decide +kernel
theorem d10_5 : decode jdk_41_method_12_code 5 = .ok (.iload_n 1, 1) := by decide +kernel
theorem d10_6 : decode jdk_41_method_12_code 6 = .ok (.if_icmp .gt 8, 3) := by decide +kernel
theorem d10_9 : decode jdk_41_method_12_code 9 = .ok (.iload_n 1, 1) := by decide +kernel
theorem d10_10 : decode jdk_41_method_12_code 10 = .ok (.iload_n 2, 1) := by decide +kernel
theorem d10_11 : decode jdk_41_method_12_code 11 = .ok (.if_icmp .le 11, 3) := by decide +kernel
theorem d10_14 : decode jdk_41_method_12_code 14 = .ok (.aload_n 3, 1) := by decide +kernel
theorem d10_15 : decode jdk_41_method_12_code 15 = .ok (.iload_n 0, 1) := by decide +kernel
theorem d10_16 : decode jdk_41_method_12_code 16 = .ok (.iload_n 1, 1) := by decide +kernel
theorem d10_17 : decode jdk_41_method_12_code 17 = .ok (.iload_n 2, 1) := by decide +kernel
theorem d10_18 : decode jdk_41_method_12_code 18 = .ok (.invokestatic 99, 3) := by decide +kernel
theorem d10_21 : decode jdk_41_method_12_code 21 = .ok (.athrow, 1) := by decide +kernel
theorem d10_22 : decode jdk_41_method_12_code 22 = .ok (.iload_n 0, 1) := by decide +kernel
theorem d10_23 : decode jdk_41_method_12_code 23 = .ok (.ireturn, 1) := by decide +kernel
theorem pn10 : plainFor (⟨"jdk/internal/util/Preconditions", "checkFromToIndex", "(IIILjava/util/function/BiFunction;)I"⟩ : MethodName) = true := by first | exact plainFor_of_name (by first | (simp [plainName, overriddenIn]; done) | decide +kernel) | decide +kernel
theorem pd10 : parseMethodDescriptor "(IIILjava/util/function/BiFunction;)I" = some ⟨[.int, .int, .int, (.object "java/util/function/BiFunction")], some .int⟩ := by decide +kernel
set_option maxRecDepth 65536 in
set_option maxHeartbeats 40000000 in
theorem cft (l : Launch) (Z : State) (a0' : Array Value) (hw : ∀ d ∈ tables_1, d.before a0' Z = true) (hEL : EW Z a0' EL0) (hSA : ∀ a ∈ Bundle.stringAtoms, a.before a0' Z = true) (h : Heap) (k z : Nat) (sf : Value) (hsf : sf.isRef = true) (hk : k ≤ z) (hz : z < 2 ^ 31) :
    Con l Z EL0 (⟨"jdk/internal/util/Preconditions", "checkFromToIndex", "(IIILjava/util/function/BiFunction;)I"⟩ : MethodName) jdk_41_method_12_code 4 (some .int) ⟨0, 0, 0, 0⟩ #[.int 0, .int (Int32.ofNat k), .int (Int32.ofNat z), sf] h [] (Same (some (.int 0)) h) (fun _ => []) := by
  refine Con.of (Ls := #[.val (.int (0 : Int32)), .val (.int (Int32.ofNat k)), .val (.int (Int32.ofNat z)), .val (sf)]) hw hEL pn10 (fun m => by rcases ref_cases hsf with rfl | ⟨y, rfl⟩ <;> first | (simp [entryFrame, mkF, argsToLocals, Value.category]; done) | rfl) fun W C => ?_
  refine C.kept fun hE => ?_
  have z0 : Z.heap.size ≤ h.size := hE.1
  refine C.iloadN 1 d10_0 rfl rfl ?_
  refine C.ifF 4 d10_1 rfl (by decide) ?_
  refine C.iloadN 5 d10_4 rfl rfl ?_
  refine C.iloadN 6 d10_5 rfl rfl ?_
  refine C.icmpF 9 d10_6 rfl (flt (o_nn (x := k) (by omega))).2.2.1 ?_
  refine C.iloadN 10 d10_9 rfl rfl ?_
  refine C.iloadN 11 d10_10 rfl rfl ?_
  have q : ¬ Int32.ofNat z < Int32.ofNat k := fun y => absurd ((o_lt (by omega) (by omega)).mp y) (by omega)
  refine C.icmpT 22 d10_11 rfl (flt q).2.2.2 ?_
  refine C.iloadN 23 d10_22 rfl rfl ?_
  exact C.retI .int d10_23 rfl (by simp) rfl (by decide) (by decide) ⟨rfl, rfl⟩ (fun _ q => nomatch q)
theorem d9_0 : decode jdk_42_method_158_code 0 = .ok (.iload_n 0, 1) := by decide +kernel
theorem d9_1 : decode jdk_42_method_158_code 1 = .ok (.iload_n 1, 1) := by decide +kernel
theorem d9_2 : decode jdk_42_method_158_code 2 = .ok (.iload_n 2, 1) := by decide +kernel
theorem d9_3 : decode jdk_42_method_158_code 3 = .ok (.getstatic 1053, 3) := by decide +kernel
theorem d9_6 : decode jdk_42_method_158_code 6 = .ok (.invokestatic 1062, 3) := by decide +kernel
theorem d9_9 : decode jdk_42_method_158_code 9 = .ok (.pop, 1) := by decide +kernel
theorem d9_10 : decode jdk_42_method_158_code 10 = .ok (.return_, 1) := by decide +kernel
theorem pn9 : plainFor (⟨"java/lang/String", "checkBoundsBeginEnd", "(III)V"⟩ : MethodName) = true := by first | exact plainFor_of_name (by first | (simp [plainName, overriddenIn]; done) | decide +kernel) | decide +kernel
theorem pd9 : parseMethodDescriptor "(III)V" = some ⟨[.int, .int, .int], none⟩ := by decide +kernel
set_option maxRecDepth 65536 in
set_option maxHeartbeats 40000000 in
theorem cbe (l : Launch) (Z : State) (a0' : Array Value) (hw : ∀ d ∈ tables_1, d.before a0' Z = true) (hEL : EW Z a0' EL0) (hSA : ∀ a ∈ Bundle.stringAtoms, a.before a0' Z = true) (h : Heap) (k z : Nat) (sf : Value) (hsf : sf.isRef = true) (SSF : Sta Z Z.heap "jdk/internal/util/Preconditions" "SIOOBE_FORMATTER" "Ljava/util/function/BiFunction;" sf) (hk : k ≤ z) (hz : z < 2 ^ 31) :
    Con l Z EL0 (⟨"java/lang/String", "checkBoundsBeginEnd", "(III)V"⟩ : MethodName) jdk_42_method_158_code 3 none ⟨1, 0, 0, 15⟩ #[.int 0, .int (Int32.ofNat k), .int (Int32.ofNat z)] h [] (Same none h) (fun _ => []) := by
  refine Con.of (Ls := #[.val (.int (0 : Int32)), .val (.int (Int32.ofNat k)), .val (.int (Int32.ofNat z))]) hw hEL pn9 (fun m => by first | (simp [entryFrame, mkF, argsToLocals, Value.category, maxLocals]; done) | rfl) fun W C => ?_
  refine C.kept fun hE => ?_
  have z0 : Z.heap.size ≤ h.size := hE.1
  refine C.iloadN 1 d9_0 rfl rfl ?_
  refine C.iloadN 2 d9_1 rfl rfl ?_
  refine C.iloadN 3 d9_2 rfl rfl ?_
  refine C.getstatic 6 d9_3 rfl (tw 51) SSF ?_
  refine C.callS 9 (as := [.int (0 : Int32), .int (Int32.ofNat k), .int (Int32.ofNat z), sf]) (rest := []) (rm := ⟨0, 0, 0, 0⟩) 0 d9_6 rfl (tw 53) (tw 54) (tw 52) (tw 55) (by decide) (cft l Z a0' hw hEL hSA h k z sf hsf hk hz) (by simp) pd10 rfl rfl (Nat.le_of_eq rfl) (by decide) (by decide) (by decide) (by decide) rfl ?_
  refine same_intro ?_
  show W h [] 0 0 9 #[.val (.int (0 : Int32)), .val (.int (Int32.ofNat k)), .val (.int (Int32.ofNat z))] [.int (0 : Int32)]
  refine C.pop 10 d9_9 rfl rfl ?_
  exact C.ret0 d9_10 rfl (by decide) (by decide) ⟨rfl, rfl⟩ (fun _ q => nomatch q)
theorem d36_0 : decode jdk_41_method_13_code 0 = .ok (.iload_n 2, 1) := by decide +kernel
theorem d36_1 : decode jdk_41_method_13_code 1 = .ok (.iload_n 0, 1) := by decide +kernel
theorem d36_2 : decode jdk_41_method_13_code 2 = .ok (.ior, 1) := by decide +kernel
theorem d36_3 : decode jdk_41_method_13_code 3 = .ok (.iload_n 1, 1) := by decide +kernel
theorem d36_4 : decode jdk_41_method_13_code 4 = .ok (.ior, 1) := by decide +kernel
theorem d36_5 : decode jdk_41_method_13_code 5 = .ok (.ifCond .lt 10, 3) := by decide +kernel
theorem d36_8 : decode jdk_41_method_13_code 8 = .ok (.iload_n 1, 1) := by decide +kernel
theorem d36_9 : decode jdk_41_method_13_code 9 = .ok (.iload_n 2, 1) := by decide +kernel
theorem d36_10 : decode jdk_41_method_13_code 10 = .ok (.iload_n 0, 1) := by decide +kernel
theorem d36_11 : decode jdk_41_method_13_code 11 = .ok (.isub, 1) := by decide +kernel
theorem d36_12 : decode jdk_41_method_13_code 12 = .ok (.if_icmp .le 11, 3) := by decide +kernel
theorem d36_15 : decode jdk_41_method_13_code 15 = .ok (.aload_n 3, 1) := by decide +kernel
theorem d36_16 : decode jdk_41_method_13_code 16 = .ok (.iload_n 0, 1) := by decide +kernel
theorem d36_17 : decode jdk_41_method_13_code 17 = .ok (.iload_n 1, 1) := by decide +kernel
theorem d36_18 : decode jdk_41_method_13_code 18 = .ok (.iload_n 2, 1) := by decide +kernel
theorem d36_19 : decode jdk_41_method_13_code 19 = .ok (.invokestatic 103, 3) := by decide +kernel
theorem d36_22 : decode jdk_41_method_13_code 22 = .ok (.athrow, 1) := by decide +kernel
theorem d36_23 : decode jdk_41_method_13_code 23 = .ok (.iload_n 0, 1) := by decide +kernel
theorem d36_24 : decode jdk_41_method_13_code 24 = .ok (.ireturn, 1) := by decide +kernel
theorem pn36 : plainFor (⟨"jdk/internal/util/Preconditions", "checkFromIndexSize", "(IIILjava/util/function/BiFunction;)I"⟩ : MethodName) = true := by first | exact plainFor_of_name (by first | (simp [plainName, overriddenIn]; done) | decide +kernel) | decide +kernel
theorem pd36 : parseMethodDescriptor "(IIILjava/util/function/BiFunction;)I" = some ⟨[.int, .int, .int, (.object "java/util/function/BiFunction")], some .int⟩ := by decide +kernel
set_option maxRecDepth 65536 in
set_option maxHeartbeats 40000000 in
theorem cfs (l : Launch) (Z : State) (a0' : Array Value) (hw : ∀ d ∈ tables_1, d.before a0' Z = true) (hEL : EW Z a0' EL0) (hSA : ∀ a ∈ Bundle.stringAtoms, a.before a0' Z = true) (h : Heap) (k z : Nat) (sf : Value) (hsf : sf.isRef = true) (hk : k ≤ z) (hz : z < 17) :
    Con l Z EL0 (⟨"jdk/internal/util/Preconditions", "checkFromIndexSize", "(IIILjava/util/function/BiFunction;)I"⟩ : MethodName) jdk_41_method_13_code 4 (some .int) ⟨0, 0, 0, 0⟩ #[.int 0, .int (Int32.ofNat k), .int (Int32.ofNat z), sf] h [] (Same (some (.int 0)) h) (fun _ => []) := by
  refine Con.of (Ls := #[.val (.int (0 : Int32)), .val (.int (Int32.ofNat k)), .val (.int (Int32.ofNat z)), .val (sf)]) hw hEL pn36 (fun m => by rcases ref_cases hsf with rfl | ⟨y, rfl⟩ <;> first | (simp [entryFrame, mkF, argsToLocals, Value.category]; done) | rfl) fun W C => ?_
  refine C.kept fun hE => ?_
  have z0 : Z.heap.size ≤ h.size := hE.1
  refine C.iloadN 1 d36_0 rfl rfl ?_
  refine C.iloadN 2 d36_1 rfl rfl ?_
  refine C.ior 3 d36_2 rfl ?_
  refine C.iloadN 4 d36_3 rfl rfl ?_
  refine C.ior 5 d36_4 rfl ?_
  refine C.ifF 8 d36_5 rfl ((if0 _ _).trans (flt (or_nn z hz k (by omega))).1) ?_
  refine C.iloadN 9 d36_8 rfl rfl ?_
  refine C.iloadN 10 d36_9 rfl rfl ?_
  refine C.iloadN 11 d36_10 rfl rfl ?_
  refine C.isub 12 d36_11 rfl ?_
  rw [Int32.sub_zero]
  have q : ¬ Int32.ofNat z < Int32.ofNat k := fun y => absurd ((o_lt (by omega) (by omega)).mp y) (by omega)
  refine C.icmpT 23 d36_12 rfl (flt q).2.2.2 ?_
  refine C.iloadN 24 d36_23 rfl rfl ?_
  exact C.retI .int d36_24 rfl (by simp) rfl (by decide) (by decide) ⟨rfl, rfl⟩ (fun _ q => nomatch q)
theorem d35_0 : decode jdk_42_method_157_code 0 = .ok (.iload_n 0, 1) := by decide +kernel
theorem d35_1 : decode jdk_42_method_157_code 1 = .ok (.iload_n 1, 1) := by decide +kernel
theorem d35_2 : decode jdk_42_method_157_code 2 = .ok (.iload_n 2, 1) := by decide +kernel
theorem d35_3 : decode jdk_42_method_157_code 3 = .ok (.getstatic 1053, 3) := by decide +kernel
theorem d35_6 : decode jdk_42_method_157_code 6 = .ok (.invokestatic 1065, 3) := by decide +kernel
theorem d35_9 : decode jdk_42_method_157_code 9 = .ok (.ireturn, 1) := by decide +kernel
theorem pn35 : plainFor (⟨"java/lang/String", "checkBoundsOffCount", "(III)I"⟩ : MethodName) = true := by first | exact plainFor_of_name (by first | (simp [plainName, overriddenIn]; done) | decide +kernel) | decide +kernel
theorem pd35 : parseMethodDescriptor "(III)I" = some ⟨[.int, .int, .int], some .int⟩ := by decide +kernel
set_option maxRecDepth 65536 in
set_option maxHeartbeats 40000000 in
theorem cbo (l : Launch) (Z : State) (a0' : Array Value) (hw : ∀ d ∈ tables_1, d.before a0' Z = true) (hEL : EW Z a0' EL0) (hSA : ∀ a ∈ Bundle.stringAtoms, a.before a0' Z = true) (h : Heap) (k z : Nat) (sf : Value) (hsf : sf.isRef = true) (SSF : Sta Z Z.heap "jdk/internal/util/Preconditions" "SIOOBE_FORMATTER" "Ljava/util/function/BiFunction;" sf) (hk : k ≤ z) (hz : z < 17) :
    Con l Z EL0 (⟨"java/lang/String", "checkBoundsOffCount", "(III)I"⟩ : MethodName) jdk_42_method_157_code 3 (some .int) ⟨1, 0, 0, 15⟩ #[.int 0, .int (Int32.ofNat k), .int (Int32.ofNat z)] h [] (Same (some (.int 0)) h) (fun _ => []) := by
  refine Con.of (Ls := #[.val (.int (0 : Int32)), .val (.int (Int32.ofNat k)), .val (.int (Int32.ofNat z))]) hw hEL pn35 (fun m => by first | (simp [entryFrame, mkF, argsToLocals, Value.category, maxLocals]; done) | rfl) fun W C => ?_
  refine C.kept fun hE => ?_
  have z0 : Z.heap.size ≤ h.size := hE.1
  refine C.iloadN 1 d35_0 rfl rfl ?_
  refine C.iloadN 2 d35_1 rfl rfl ?_
  refine C.iloadN 3 d35_2 rfl rfl ?_
  refine C.getstatic 6 d35_3 rfl (tw 51) SSF ?_
  refine C.callS 9 (as := [.int (0 : Int32), .int (Int32.ofNat k), .int (Int32.ofNat z), sf]) (rest := []) (rm := ⟨0, 0, 0, 0⟩) 0 d35_6 rfl (tw 150) (tw 151) (tw 52) (tw 152) (by decide) (cfs l Z a0' hw hEL hSA h k z sf hsf hk hz) (by simp) pd36 rfl rfl (Nat.le_of_eq rfl) (by decide) (by decide) (by decide) (by decide) rfl ?_
  refine same_intro ?_
  show W h [] 0 0 9 #[.val (.int (0 : Int32)), .val (.int (Int32.ofNat k)), .val (.int (Int32.ofNat z))] [.int (0 : Int32)]
  exact C.retI .int d35_9 rfl (by simp) rfl (by decide) (by decide) ⟨rfl, rfl⟩ (fun _ q => nomatch q)
theorem d33_0 : decode jdk_52_method_94_code 0 = .ok (.iload_n 0, 1) := by decide +kernel
theorem d33_1 : decode jdk_52_method_94_code 1 = .ok (.iload_n 1, 1) := by decide +kernel
theorem d33_2 : decode jdk_52_method_94_code 2 = .ok (.aload_n 2, 1) := by decide +kernel
theorem d33_3 : decode jdk_52_method_94_code 3 = .ok (.invokestatic 48, 3) := by decide +kernel
theorem d33_6 : decode jdk_52_method_94_code 6 = .ok (.invokestatic 419, 3) := by decide +kernel
theorem d33_9 : decode jdk_52_method_94_code 9 = .ok (.pop, 1) := by decide +kernel
theorem d33_10 : decode jdk_52_method_94_code 10 = .ok (.return_, 1) := by decide +kernel
theorem pn33 : plainFor (⟨"java/lang/StringUTF16", "checkBoundsOffCount", "(II[B)V"⟩ : MethodName) = true := by first | exact plainFor_of_name (by first | (simp [plainName, overriddenIn]; done) | decide +kernel) | decide +kernel
theorem pd33 : parseMethodDescriptor "(II[B)V" = some ⟨[.int, .int, (.array .byte)], none⟩ := by decide +kernel
set_option maxRecDepth 65536 in
set_option maxHeartbeats 40000000 in
theorem ucb (l : Launch) (Z : State) (a0' : Array Value) (hw : ∀ d ∈ tables_1, d.before a0' Z = true) (hEL : EW Z a0' EL0) (hSA : ∀ a ∈ Bundle.stringAtoms, a.before a0' Z = true) (h : Heap) (b : Addr) (cs : List Int32) (k : Nat) (sf : Value) (hsf : sf.isRef = true) (SSF : Sta Z Z.heap "jdk/internal/util/Preconditions" "SIOOBE_FORMATTER" "Ljava/util/function/BiFunction;" sf) (hk : k ≤ cs.length) (hz : cs.length < 17) (B : Al Z h b .byte (iv' (u16 cs))) :
    Con l Z EL0 (⟨"java/lang/StringUTF16", "checkBoundsOffCount", "(II[B)V"⟩ : MethodName) jdk_52_method_94_code 3 none ⟨2, 0, 0, 29⟩ #[.int 0, .int (Int32.ofNat k), .ref b] h [] (Same none h) (fun _ => []) := by
  refine Con.of (Ls := #[.val (.int (0 : Int32)), .val (.int (Int32.ofNat k)), .val (.ref b)]) hw hEL pn33 (fun m => by first | (simp [entryFrame, mkF, argsToLocals, Value.category, maxLocals]; done) | rfl) fun W C => ?_
  refine C.kept fun hE => ?_
  have z0 : Z.heap.size ≤ h.size := hE.1
  refine C.iloadN 1 d33_0 rfl rfl ?_
  refine C.iloadN 2 d33_1 rfl rfl ?_
  refine C.aloadN 3 d33_2 rfl rfl rfl ?_
  refine C.callS 6 (as := [.ref b]) (rest := [.int (Int32.ofNat k), .int (0 : Int32)]) (rm := ⟨0, 0, 0, 0⟩) 2 d33_3 rfl (tw 144) (tw 145) (tw 72) (tw 146) (by decide) (ule l Z a0' hw hEL hSA h b cs (by omega) B) (by simp) pd34 rfl rfl (Nat.le_of_eq rfl) (by decide) (by decide) (by decide) (by decide) rfl ?_
  refine same_intro ?_
  show W h [] 0 0 6 #[.val (.int (0 : Int32)), .val (.int (Int32.ofNat k)), .val (.ref b)] [.int (Int32.ofNat cs.length), .int (Int32.ofNat k), .int (0 : Int32)]
  refine C.callS 9 (as := [.int (0 : Int32), .int (Int32.ofNat k), .int (Int32.ofNat cs.length)]) (rest := []) (rm := ⟨1, 0, 0, 15⟩) 0 d33_6 rfl (tw 147) (tw 148) (tw 4) (tw 149) (by decide) (cbo l Z a0' hw hEL hSA h k cs.length sf hsf SSF hk hz) (by simp) pd35 rfl rfl (Nat.le_of_eq rfl) (by decide) (by decide) (by decide) (by decide) rfl ?_
  refine same_intro ?_
  show W h [] 0 0 9 #[.val (.int (0 : Int32)), .val (.int (Int32.ofNat k)), .val (.ref b)] [.int (0 : Int32)]
  refine C.pop 10 d33_9 rfl rfl ?_
  exact C.ret0 d33_10 rfl (by decide) (by decide) ⟨rfl, rfl⟩ (fun _ q => nomatch q)
theorem d32_0 : decode jdk_52_method_22_code 0 = .ok (.iload_n 1, 1) := by decide +kernel
theorem d32_1 : decode jdk_52_method_22_code 1 = .ok (.iload 4, 2) := by decide +kernel
theorem d32_3 : decode jdk_52_method_22_code 3 = .ok (.aload_n 0, 1) := by decide +kernel
theorem d32_4 : decode jdk_52_method_22_code 4 = .ok (.invokestatic 173, 3) := by decide +kernel
theorem d32_7 : decode jdk_52_method_22_code 7 = .ok (.iconst 0, 1) := by decide +kernel
theorem d32_8 : decode jdk_52_method_22_code 8 = .ok (.istore 5, 2) := by decide +kernel
theorem d32_10 : decode jdk_52_method_22_code 10 = .ok (.iload 5, 2) := by decide +kernel
theorem d32_12 : decode jdk_52_method_22_code 12 = .ok (.iload 4, 2) := by decide +kernel
theorem d32_14 : decode jdk_52_method_22_code 14 = .ok (.if_icmp .ge 39, 3) := by decide +kernel
theorem d32_17 : decode jdk_52_method_22_code 17 = .ok (.aload_n 0, 1) := by decide +kernel
theorem d32_18 : decode jdk_52_method_22_code 18 = .ok (.iload_n 1, 1) := by decide +kernel
theorem d32_19 : decode jdk_52_method_22_code 19 = .ok (.invokestatic 71, 3) := by decide +kernel
theorem d32_22 : decode jdk_52_method_22_code 22 = .ok (.istore 6, 2) := by decide +kernel
theorem d32_24 : decode jdk_52_method_22_code 24 = .ok (.iload 6, 2) := by decide +kernel
theorem d32_26 : decode jdk_52_method_22_code 26 = .ok (.sipush 255, 3) := by decide +kernel
theorem d32_29 : decode jdk_52_method_22_code 29 = .ok (.if_icmp .le 6, 3) := by decide +kernel
theorem d32_32 : decode jdk_52_method_22_code 32 = .ok (.iload 5, 2) := by decide +kernel
theorem d32_34 : decode jdk_52_method_22_code 34 = .ok (.ireturn, 1) := by decide +kernel
theorem d32_35 : decode jdk_52_method_22_code 35 = .ok (.aload_n 2, 1) := by decide +kernel
theorem d32_36 : decode jdk_52_method_22_code 36 = .ok (.iload_n 3, 1) := by decide +kernel
theorem d32_37 : decode jdk_52_method_22_code 37 = .ok (.iload 6, 2) := by decide +kernel
theorem d32_39 : decode jdk_52_method_22_code 39 = .ok (.i2b, 1) := by decide +kernel
theorem d32_40 : decode jdk_52_method_22_code 40 = .ok (.bastore, 1) := by decide +kernel
theorem d32_41 : decode jdk_52_method_22_code 41 = .ok (.iinc 1 1, 3) := by decide +kernel
theorem d32_44 : decode jdk_52_method_22_code 44 = .ok (.iinc 3 1, 3) := by decide +kernel
theorem d32_47 : decode jdk_52_method_22_code 47 = .ok (.iinc 5 1, 3) := by decide +kernel
theorem d32_50 : decode jdk_52_method_22_code 50 = .ok (.goto (-40), 3) := by decide +kernel
theorem d32_53 : decode jdk_52_method_22_code 53 = .ok (.iload 4, 2) := by decide +kernel
theorem d32_55 : decode jdk_52_method_22_code 55 = .ok (.ireturn, 1) := by decide +kernel
theorem pn32 : plainFor (⟨"java/lang/StringUTF16", "compress", "([BI[BII)I"⟩ : MethodName) = true := by first | exact plainFor_of_name (by first | (simp [plainName, overriddenIn]; done) | decide +kernel) | decide +kernel
theorem pd32 : parseMethodDescriptor "([BI[BII)I" = some ⟨[(.array .byte), .int, (.array .byte), .int, .int], some .int⟩ := by decide +kernel
set_option maxRecDepth 65536 in
set_option maxHeartbeats 40000000 in
theorem b5_loop {W : Wk} {l : Launch} {Z : State} {a0' : Array Value} {Q : Option Value → Heap → Prop} (C : Walk W l Z a0' tables_1 EL0 "java/lang/StringUTF16" jdk_52_method_22_code 7 (some .int) "compress" ⟨3, 0, 0, 43⟩ Q (fun _ => [])) (hw : ∀ d ∈ tables_1, d.before a0' Z = true) (hEL : EW Z a0' EL0) (hSA : ∀ a ∈ Bundle.stringAtoms, a.before a0' Z = true) (cpt : Int32) (SCP : Sta Z Z.heap "java/lang/String" "COMPACT_STRINGS" "Z" (.int cpt)) (hcp : ¬ cpt = 0) (SAD : Sta Z Z.heap "java/lang/StringUTF16" "$assertionsDisabled" "Z" (.int (1 : Int32))) (SHI : Sta Z Z.heap "java/lang/StringUTF16" "HI_BYTE_SHIFT" "I" (.int (0 : Int32))) (SLO : Sta Z Z.heap "java/lang/StringUTF16" "LO_BYTE_SHIFT" "I" (.int (8 : Int32))) (os : List Addr) (src dst : Addr) (zd : dst ∈ os) (ne : src ≠ dst) (cs ks : List Int32) (hn : cs.length < 2 ^ 28) (hch : ∀ c ∈ cs, Ch c) (hpf : ∀ (i : Nat) (c : Int32), ks[i]? = some c → cs[i]? = some c) :
    ∀ (rest pre : List Int32) (h : Heap) (s6 : Slot), ks = pre ++ rest → lat pre → Al Z h src .byte (iv' (u16 cs)) → Al Z h dst .byte (iv' (pre.map by8) ++ List.replicate rest.length (.int 0)) → (s6 = .unset ∨ ∃ w : Value, s6 = .val w ∧ w.category = 1) →
      (∀ h' : Heap, Keep h h' [dst] → lat ks → Al Z h' dst .byte (iv' (ks.map by8)) → Q (some (.int (Int32.ofNat ks.length))) h') →
      (∀ (h' : Heap) (r : Nat) (c : Int32), Keep h h' [dst] → ks[r]? = some c → (255 : Int32) < c → Q (some (.int (Int32.ofNat r))) h') → ks.length < 2 ^ 28 → W h os 0 0 10 #[.val (.ref src), .val (.int (Int32.ofNat pre.length)), .val (.ref dst), .val (.int (Int32.ofNat pre.length)), .val (.int (Int32.ofNat ks.length)), .val (.int (Int32.ofNat pre.length)), s6] []
  | [], pre, h, s6, e, hp, A, B, h6, K, KU, hm => by
    have e' : pre = ks := by rw [e, List.append_nil]
    subst e'
    show W h os 0 0 10 #[.val (.ref src), .val (.int (Int32.ofNat pre.length)), .val (.ref dst), .val (.int (Int32.ofNat pre.length)), .val (.int (Int32.ofNat pre.length)), .val (.int (Int32.ofNat pre.length)), s6] []
    have q : ¬ Int32.ofNat pre.length < Int32.ofNat pre.length := Int32.lt_irrefl
    refine C.iload 12 d32_10 rfl rfl ?_
    refine C.iload 14 d32_12 rfl rfl ?_
    refine C.icmpT 53 d32_14 rfl (flt q).2.1 ?_
    refine C.iload 55 d32_53 rfl rfl ?_
    exact C.retI .int d32_55 rfl (by simp) rfl (by decide) (by decide) (K h (Keep.refl _ _) hp (by simpa using B)) (fun _ q => nomatch q)
  | c :: rest, pre, h, s6, e, hp, A, B, h6, K, KU, hm => by
    have hlen : pre.length < ks.length := by rw [e, List.length_append, List.length_cons]; omega
    have q : Int32.ofNat pre.length < Int32.ofNat ks.length := (o_lt (by omega) (by omega)).mpr hlen
    have hg : ks[pre.length]? = some c := by rw [e]; simp
    have hg' := hpf _ _ hg
    have hcc := hch c (List.mem_of_getElem? hg')
    refine C.iload 12 d32_10 rfl rfl ?_
    refine C.iload 14 d32_12 rfl rfl ?_
    refine C.icmpF 17 d32_14 rfl (tlt q).2.1 ?_
    refine C.aloadN 18 d32_17 rfl rfl rfl ?_
    refine C.iloadN 19 d32_18 rfl rfl ?_
    refine C.callS 22 (as := [.ref src, .int (Int32.ofNat pre.length)]) (rest := []) (rm := ⟨0, 0, 0, 0⟩) 0 d32_19 rfl (tw 93) (tw 94) (tw 72) (tw 95) (by decide) (gch l Z a0' hw hEL hSA h cpt SCP hcp SAD SHI SLO src cs pre.length c hn hg' hcc A) (by simp) pd20 rfl rfl (Nat.le_of_eq rfl) (by decide) (by decide) (by decide) (by decide) rfl ?_
    refine same_intro ?_
    show W h os 0 0 22 #[.val (.ref src), .val (.int (Int32.ofNat pre.length)), .val (.ref dst), .val (.int (Int32.ofNat pre.length)), .val (.int (Int32.ofNat ks.length)), .val (.int (Int32.ofNat pre.length)), s6] [.int c]
    refine C.istore 24 #[.val (.ref src), .val (.int (Int32.ofNat pre.length)), .val (.ref dst), .val (.int (Int32.ofNat pre.length)), .val (.int (Int32.ofNat ks.length)), .val (.int (Int32.ofNat pre.length)), .val (.int c)] d32_22 rfl (XS.store1 rfl h6 rfl) ?_
    refine C.iload 26 d32_24 rfl rfl ?_
    refine C.sipush 29 (255 : Int32) d32_26 rfl rfl ?_
    by_cases hc : (255 : Int32) < c
    · refine C.icmpF 32 d32_29 rfl (tlt hc).2.2.2 ?_
      refine C.iload 34 d32_32 rfl rfl ?_
      exact C.retI .int d32_34 rfl (by simp) rfl (by decide) (by decide) (KU h pre.length c (Keep.refl _ _) hg hc) (fun _ q => nomatch q)
    · refine C.icmpT 35 d32_29 rfl (flt hc).2.2.2 ?_
      refine C.aloadN 36 d32_35 rfl rfl rfl ?_
      refine C.iloadN 37 d32_36 rfl rfl ?_
      refine C.iload 39 d32_37 rfl rfl ?_
      refine C.i2b 40 d32_39 rfl ?_
      refine C.bastoreB 41 pre.length (by8 c) d32_40 rfl B zd (o_nn (by omega)) (o_cl (by omega)) (by simp) (by8_nar c) ?_
      intro h1 W1 B1
      refine C.iinc 44 #[.val (.ref src), .val (.int ((Int32.ofNat pre.length) + (1 : Int32))), .val (.ref dst), .val (.int (Int32.ofNat pre.length)), .val (.int (Int32.ofNat ks.length)), .val (.int (Int32.ofNat pre.length)), .val (.int c)] d32_41 rfl rfl rfl ?_
      refine C.iinc 47 #[.val (.ref src), .val (.int ((Int32.ofNat pre.length) + (1 : Int32))), .val (.ref dst), .val (.int ((Int32.ofNat pre.length) + (1 : Int32))), .val (.int (Int32.ofNat ks.length)), .val (.int (Int32.ofNat pre.length)), .val (.int c)] d32_44 rfl rfl rfl ?_
      refine C.iinc 50 #[.val (.ref src), .val (.int ((Int32.ofNat pre.length) + (1 : Int32))), .val (.ref dst), .val (.int ((Int32.ofNat pre.length) + (1 : Int32))), .val (.int (Int32.ofNat ks.length)), .val (.int ((Int32.ofNat pre.length) + (1 : Int32))), .val (.int c)] d32_47 rfl rfl rfl ?_
      have e1 : Int32.ofNat pre.length + (1 : Int32) = Int32.ofNat (pre ++ [c]).length := by rw [List.length_append]; exact o_add pre.length 1
      show W h1 os 0 0 50 #[.val (.ref src), .val (.int ((Int32.ofNat pre.length) + (1 : Int32))), .val (.ref dst), .val (.int ((Int32.ofNat pre.length) + (1 : Int32))), .val (.int (Int32.ofNat ks.length)), .val (.int ((Int32.ofNat pre.length) + (1 : Int32))), .val (.int c)] []
      rw [e1]
      refine C.goto 10 d32_50 rfl ?_
      refine b5_loop C hw hEL hSA cpt SCP hcp SAD SHI SLO os src dst zd ne cs ks hn hch hpf rest (pre ++ [c]) h1 _ (by rw [e]; simp) (fun x hx => by rcases List.mem_append.mp hx with hx | hx; exact hp x hx; rw [List.mem_singleton.mp hx]; exact hc) (A.keep (Keep.of_wr W1) (ninS ne nin0)) ?_ (Or.inr ⟨_, rfl, rfl⟩) (fun h' K' l' B' => K h' ((Keep.of_wr W1).trans K' (fun x hx => Or.inl hx)) l' B') (fun h' r c' K' g' b' => KU h' r c' ((Keep.of_wr W1).trans K' (fun x hx => Or.inl hx)) g' b') hm
      have e2 : (iv' (pre.map by8) ++ List.replicate (c :: rest).length (Value.int 0)).set pre.length (.int (by8 c)) = iv' ((pre ++ [c]).map by8) ++ List.replicate rest.length (.int 0) := by simp [List.replicate_succ]
      rw [e2] at B1
      exact B1
set_option maxRecDepth 65536 in
set_option maxHeartbeats 40000000 in
theorem b5 (l : Launch) (Z : State) (a0' : Array Value) (hw : ∀ d ∈ tables_1, d.before a0' Z = true) (hEL : EW Z a0' EL0) (hSA : ∀ a ∈ Bundle.stringAtoms, a.before a0' Z = true) (h : Heap) (cpt : Int32) (SCP : Sta Z Z.heap "java/lang/String" "COMPACT_STRINGS" "Z" (.int cpt)) (hcp : ¬ cpt = 0) (SAD : Sta Z Z.heap "java/lang/StringUTF16" "$assertionsDisabled" "Z" (.int (1 : Int32))) (SHI : Sta Z Z.heap "java/lang/StringUTF16" "HI_BYTE_SHIFT" "I" (.int (0 : Int32))) (SLO : Sta Z Z.heap "java/lang/StringUTF16" "LO_BYTE_SHIFT" "I" (.int (8 : Int32))) (sf : Value) (hsf : sf.isRef = true) (SSF : Sta Z Z.heap "jdk/internal/util/Preconditions" "SIOOBE_FORMATTER" "Ljava/util/function/BiFunction;" sf) (src dst : Addr) (ne : src ≠ dst) (cs ks : List Int32) (hn : cs.length < 17) (hch : ∀ c ∈ cs, Ch c) (hpf : ∀ (i : Nat) (c : Int32), ks[i]? = some c → cs[i]? = some c) (hm : ks.length ≤ cs.length) (A : Al Z h src .byte (iv' (u16 cs))) (B : Al Z h dst .byte (List.replicate ks.length (.int 0))) :
    Con l Z EL0 (⟨"java/lang/StringUTF16", "compress", "([BI[BII)I"⟩ : MethodName) jdk_52_method_22_code 7 (some .int) ⟨3, 0, 0, 43⟩ #[.ref src, .int 0, .ref dst, .int 0, .int (Int32.ofNat ks.length)] h [dst] (fun v h' => Keep h h' [dst] ∧ ((v = some (.int (Int32.ofNat ks.length)) ∧ lat ks ∧ Al Z h' dst .byte (iv' (ks.map by8))) ∨ ∃ (r : Nat) (c : Int32), v = some (.int (Int32.ofNat r)) ∧ ks[r]? = some c ∧ (255 : Int32) < c)) (fun _ => []) := by
  refine Con.of (Ls := #[.val (.ref src), .val (.int (0 : Int32)), .val (.ref dst), .val (.int (0 : Int32)), .val (.int (Int32.ofNat ks.length)), .unset, .unset]) hw hEL pn32 (fun m => by first | (simp [entryFrame, mkF, argsToLocals, Value.category, maxLocals]; done) | rfl) fun W C => ?_
  refine C.kept fun hE => ?_
  have z0 : Z.heap.size ≤ h.size := hE.1
  refine C.iloadN 1 d32_0 rfl rfl ?_
  refine C.iload 3 d32_1 rfl rfl ?_
  refine C.aloadN 4 d32_3 rfl rfl rfl ?_
  refine C.callS 7 (as := [.int (0 : Int32), .int (Int32.ofNat ks.length), .ref src]) (rest := []) (rm := ⟨2, 0, 0, 29⟩) 0 d32_4 rfl (tw 141) (tw 142) (tw 72) (tw 143) (by decide) (ucb l Z a0' hw hEL hSA h src cs ks.length sf hsf SSF hm hn A) (by simp) pd33 rfl rfl (Nat.le_of_eq rfl) (by decide) (by decide) (by decide) (by decide) rfl ?_
  refine same_intro ?_
  show W h [dst] 0 0 7 #[.val (.ref src), .val (.int (0 : Int32)), .val (.ref dst), .val (.int (0 : Int32)), .val (.int (Int32.ofNat ks.length)), .unset, .unset] []
  refine C.iconst 8 (0 : Int32) d32_7 rfl rfl ?_
  refine C.istore 10 #[.val (.ref src), .val (.int (0 : Int32)), .val (.ref dst), .val (.int (0 : Int32)), .val (.int (Int32.ofNat ks.length)), .val (.int (0 : Int32)), .unset] d32_8 rfl rfl ?_
  exact b5_loop C hw hEL hSA cpt SCP hcp SAD SHI SLO [dst] src dst (by simp) ne cs ks (by omega) hch hpf ks [] h _ rfl (fun x hx => nomatch hx) A B (Or.inl rfl) (fun h' K' l' B' => ⟨K', Or.inl ⟨rfl, l', B'⟩⟩) (fun h' r c K' g' b' => ⟨K', Or.inr ⟨r, c, rfl, g', b'⟩⟩) (by omega)
theorem d48_0 : decode jdk_29_method_69_code 0 = .ok (.iload_n 0, 1) := by decide +kernel
theorem d48_1 : decode jdk_29_method_69_code 1 = .ok (.iload_n 1, 1) := by decide +kernel
theorem d48_2 : decode jdk_29_method_69_code 2 = .ok (.if_icmp .gt 7, 3) := by decide +kernel
theorem d48_5 : decode jdk_29_method_69_code 5 = .ok (.iload_n 0, 1) := by decide +kernel
theorem d48_6 : decode jdk_29_method_69_code 6 = .ok (.goto 4, 3) := by decide +kernel
theorem d48_9 : decode jdk_29_method_69_code 9 = .ok (.iload_n 1, 1) := by decide +kernel
theorem d48_10 : decode jdk_29_method_69_code 10 = .ok (.ireturn, 1) := by decide +kernel
theorem pn48 : plainFor (⟨"java/lang/Math", "min", "(II)I"⟩ : MethodName) = true := by first | exact plainFor_of_name (by first | (simp [plainName, overriddenIn]; done) | decide +kernel) | decide +kernel
theorem pd48 : parseMethodDescriptor "(II)I" = some ⟨[.int, .int], some .int⟩ := by decide +kernel
set_option maxRecDepth 65536 in
set_option maxHeartbeats 40000000 in
theorem mmi (l : Launch) (Z : State) (a0' : Array Value) (hw : ∀ d ∈ tables_1, d.before a0' Z = true) (hEL : EW Z a0' EL0) (hSA : ∀ a ∈ Bundle.stringAtoms, a.before a0' Z = true) (h : Heap) (y z : Nat) (hz : z < 2 ^ 31) (hy : y < z) :
    Con l Z EL0 (⟨"java/lang/Math", "min", "(II)I"⟩ : MethodName) jdk_29_method_69_code 2 (some .int) ⟨0, 0, 0, 0⟩ #[.int (Int32.ofNat z), .int (Int32.ofNat y)] h [] (Same (some (.int (Int32.ofNat y))) h) (fun _ => []) := by
  refine Con.of (Ls := #[.val (.int (Int32.ofNat z)), .val (.int (Int32.ofNat y))]) hw hEL pn48 (fun m => by first | (simp [entryFrame, mkF, argsToLocals, Value.category, maxLocals]; done) | rfl) fun W C => ?_
  refine C.kept fun hE => ?_
  have z0 : Z.heap.size ≤ h.size := hE.1
  refine C.iloadN 1 d48_0 rfl rfl ?_
  refine C.iloadN 2 d48_1 rfl rfl ?_
  have q : Int32.ofNat y < Int32.ofNat z := (o_lt (by omega) (by omega)).mpr hy
  refine C.icmpT 9 d48_2 rfl (tlt q).2.2.1 ?_
  refine C.iloadN 10 d48_9 rfl rfl ?_
  exact C.retI .int d48_10 rfl (by simp) rfl (by decide) (by decide) ⟨rfl, rfl⟩ (fun _ q => nomatch q)
theorem d47_0 : decode jdk_65_method_131_code 0 = .ok (.iload_n 1, 1) := by decide +kernel
theorem d47_1 : decode jdk_65_method_131_code 1 = .ok (.iload_n 0, 1) := by decide +kernel
theorem d47_2 : decode jdk_65_method_131_code 2 = .ok (.if_icmp .ge 35, 3) := by decide +kernel
theorem d47_5 : decode jdk_65_method_131_code 5 = .ok (.new 43, 3) := by decide +kernel
theorem d47_8 : decode jdk_65_method_131_code 8 = .ok (.dup, 1) := by decide +kernel
theorem d47_9 : decode jdk_65_method_131_code 9 = .ok (.new 45, 3) := by decide +kernel
theorem d47_12 : decode jdk_65_method_131_code 12 = .ok (.dup, 1) := by decide +kernel
theorem d47_13 : decode jdk_65_method_131_code 13 = .ok (.invokespecial 47, 3) := by decide +kernel
theorem d47_16 : decode jdk_65_method_131_code 16 = .ok (.iload_n 0, 1) := by decide +kernel
theorem d47_17 : decode jdk_65_method_131_code 17 = .ok (.invokevirtual 54, 3) := by decide +kernel
theorem d47_20 : decode jdk_65_method_131_code 20 = .ok (.ldc_w 337, 3) := by decide +kernel
theorem d47_23 : decode jdk_65_method_131_code 23 = .ok (.invokevirtual 50, 3) := by decide +kernel
theorem d47_26 : decode jdk_65_method_131_code 26 = .ok (.iload_n 1, 1) := by decide +kernel
theorem d47_27 : decode jdk_65_method_131_code 27 = .ok (.invokevirtual 54, 3) := by decide +kernel
theorem d47_30 : decode jdk_65_method_131_code 30 = .ok (.invokevirtual 61, 3) := by decide +kernel
theorem d47_33 : decode jdk_65_method_131_code 33 = .ok (.invokespecial 65, 3) := by decide +kernel
theorem d47_36 : decode jdk_65_method_131_code 36 = .ok (.athrow, 1) := by decide +kernel
theorem d47_37 : decode jdk_65_method_131_code 37 = .ok (.return_, 1) := by decide +kernel
theorem pn47 : plainFor (⟨"java/util/Arrays", "checkLength", "(II)V"⟩ : MethodName) = true := by first | exact plainFor_of_name (by first | (simp [plainName, overriddenIn]; done) | decide +kernel) | decide +kernel
theorem pd47 : parseMethodDescriptor "(II)V" = some ⟨[.int, .int], none⟩ := by decide +kernel
set_option maxRecDepth 65536 in
set_option maxHeartbeats 40000000 in
theorem ckl (l : Launch) (Z : State) (a0' : Array Value) (hw : ∀ d ∈ tables_1, d.before a0' Z = true) (hEL : EW Z a0' EL0) (hSA : ∀ a ∈ Bundle.stringAtoms, a.before a0' Z = true) (h : Heap) (k : Nat) (hk : k < 2 ^ 31) :
    Con l Z EL0 (⟨"java/util/Arrays", "checkLength", "(II)V"⟩ : MethodName) jdk_65_method_131_code 2 none ⟨0, 0, 0, 0⟩ #[.int 0, .int (Int32.ofNat k)] h [] (Same none h) (fun _ => []) := by
  refine Con.of (Ls := #[.val (.int (0 : Int32)), .val (.int (Int32.ofNat k))]) hw hEL pn47 (fun m => by first | (simp [entryFrame, mkF, argsToLocals, Value.category, maxLocals]; done) | rfl) fun W C => ?_
  refine C.kept fun hE => ?_
  have z0 : Z.heap.size ≤ h.size := hE.1
  refine C.iloadN 1 d47_0 rfl rfl ?_
  refine C.iloadN 2 d47_1 rfl rfl ?_
  refine C.icmpT 37 d47_2 rfl (flt (o_nn hk)).2.1 ?_
  exact C.ret0 d47_37 rfl (by decide) (by decide) ⟨rfl, rfl⟩ (fun _ q => nomatch q)
theorem d46_0 : decode jdk_65_method_133_code 0 = .ok (.iload_n 1, 1) := by decide +kernel
theorem d46_1 : decode jdk_65_method_133_code 1 = .ok (.iload_n 2, 1) := by decide +kernel
theorem d46_2 : decode jdk_65_method_133_code 2 = .ok (.invokestatic 343, 3) := by decide +kernel
theorem d46_5 : decode jdk_65_method_133_code 5 = .ok (.iload_n 2, 1) := by decide +kernel
theorem d46_6 : decode jdk_65_method_133_code 6 = .ok (.iload_n 1, 1) := by decide +kernel
theorem d46_7 : decode jdk_65_method_133_code 7 = .ok (.isub, 1) := by decide +kernel
theorem d46_8 : decode jdk_65_method_133_code 8 = .ok (.istore_n 3, 1) := by decide +kernel
theorem d46_9 : decode jdk_65_method_133_code 9 = .ok (.iload_n 3, 1) := by decide +kernel
theorem d46_10 : decode jdk_65_method_133_code 10 = .ok (.newarray .byte, 2) := by decide +kernel
theorem d46_12 : decode jdk_65_method_133_code 12 = .ok (.astore 4, 2) := by decide +kernel
theorem d46_14 : decode jdk_65_method_133_code 14 = .ok (.aload_n 0, 1) := by decide +kernel
theorem d46_15 : decode jdk_65_method_133_code 15 = .ok (.iload_n 1, 1) := by decide +kernel
theorem d46_16 : decode jdk_65_method_133_code 16 = .ok (.aload 4, 2) := by decide +kernel
theorem d46_18 : decode jdk_65_method_133_code 18 = .ok (.iconst 0, 1) := by decide +kernel
theorem d46_19 : decode jdk_65_method_133_code 19 = .ok (.aload_n 0, 1) := by decide +kernel
theorem d46_20 : decode jdk_65_method_133_code 20 = .ok (.arraylength, 1) := by decide +kernel
theorem d46_21 : decode jdk_65_method_133_code 21 = .ok (.iload_n 1, 1) := by decide +kernel
theorem d46_22 : decode jdk_65_method_133_code 22 = .ok (.isub, 1) := by decide +kernel
theorem d46_23 : decode jdk_65_method_133_code 23 = .ok (.iload_n 3, 1) := by decide +kernel
theorem d46_24 : decode jdk_65_method_133_code 24 = .ok (.invokestatic 304, 3) := by decide +kernel
theorem d46_27 : decode jdk_65_method_133_code 27 = .ok (.invokestatic 150, 3) := by decide +kernel
theorem d46_30 : decode jdk_65_method_133_code 30 = .ok (.aload 4, 2) := by decide +kernel
theorem d46_32 : decode jdk_65_method_133_code 32 = .ok (.areturn, 1) := by decide +kernel
theorem pn46 : plainFor (⟨"java/util/Arrays", "copyOfRangeByte", "([BII)[B"⟩ : MethodName) = true := by first | exact plainFor_of_name (by first | (simp [plainName, overriddenIn]; done) | decide +kernel) | decide +kernel
theorem pd46 : parseMethodDescriptor "([BII)[B" = some ⟨[(.array .byte), .int, .int], some (.array .byte)⟩ := by decide +kernel
set_option maxRecDepth 65536 in
set_option maxHeartbeats 40000000 in
theorem crb (l : Launch) (Z : State) (a0' : Array Value) (hw : ∀ d ∈ tables_1, d.before a0' Z = true) (hEL : EW Z a0' EL0) (hSA : ∀ a ∈ Bundle.stringAtoms, a.before a0' Z = true) (h : Heap) (b : Addr) (vs : List Value) (k : Nat) (hv : vs.length < 17) (hk : k < vs.length) (hfi : ∀ v ∈ vs, fits .byte v = true) (A : Al Z h b .byte vs) :
    Con l Z EL0 (⟨"java/util/Arrays", "copyOfRangeByte", "([BII)[B"⟩ : MethodName) jdk_65_method_133_code 5 (some (.array .byte)) ⟨1, 1, 16, 18⟩ #[.ref b, .int 0, .int (Int32.ofNat k)] h [] (fun v h' => ∃ b', v = some (.ref b') ∧ h.size ≤ b' ∧ Ext h h' ∧ Al Z h' b' .byte (vs.take k)) (fun _ => []) := by
  refine Con.of (Ls := #[.val (.ref b), .val (.int (0 : Int32)), .val (.int (Int32.ofNat k)), .unset, .unset]) hw hEL pn46 (fun m => by first | (simp [entryFrame, mkF, argsToLocals, Value.category, maxLocals]; done) | rfl) fun W C => ?_
  refine C.kept fun hE => ?_
  have z0 : Z.heap.size ≤ h.size := hE.1
  refine C.iloadN 1 d46_0 rfl rfl ?_
  refine C.iloadN 2 d46_1 rfl rfl ?_
  refine C.callS 5 (as := [.int (0 : Int32), .int (Int32.ofNat k)]) (rest := []) (rm := ⟨0, 0, 0, 0⟩) 0 d46_2 rfl (tw 196) (tw 197) (tw 191) (tw 198) (by decide) (ckl l Z a0' hw hEL hSA h k (by omega)) (by simp) pd47 rfl rfl (Nat.le_of_eq rfl) (by decide) (by decide) (by decide) (by decide) rfl ?_
  refine same_intro ?_
  show W h [] 0 0 5 #[.val (.ref b), .val (.int (0 : Int32)), .val (.int (Int32.ofNat k)), .unset, .unset] []
  refine C.iloadN 6 d46_5 rfl rfl ?_
  refine C.iloadN 7 d46_6 rfl rfl ?_
  refine C.isub 8 d46_7 rfl ?_
  rw [Int32.sub_zero]
  refine C.istoreN 9 #[.val (.ref b), .val (.int (0 : Int32)), .val (.int (Int32.ofNat k)), .val (.int (Int32.ofNat k)), .unset] d46_8 rfl rfl ?_
  refine C.iloadN 10 d46_9 rfl rfl ?_
  refine C.newarray 12 16 d46_10 rfl (tw 16) (o_nn (by omega)) (by rw [o_cl (by omega)]; omega) (by decide) (by decide) (by decide) ?_
  intro h1 E1 B1
  rw [o_cl (by omega)] at B1
  obtain ⟨d, gd⟩ : ∃ z, z = h.size := ⟨_, rfl⟩
  rw [← gd] at B1 ⊢
  show W h1 [d] 1 16 12 #[.val (.ref b), .val (.int (0 : Int32)), .val (.int (Int32.ofNat k)), .val (.int (Int32.ofNat k)), .unset] [.ref d]
  have A1 := A.ext E1
  refine C.astore 14 #[.val (.ref b), .val (.int (0 : Int32)), .val (.int (Int32.ofNat k)), .val (.int (Int32.ofNat k)), .val (.ref d)] d46_12 rfl rfl rfl ?_
  refine C.aloadN 15 d46_14 rfl rfl rfl ?_
  refine C.iloadN 16 d46_15 rfl rfl ?_
  refine C.aload 18 d46_16 rfl rfl rfl ?_
  refine C.iconst 19 (0 : Int32) d46_18 rfl rfl ?_
  refine C.aloadN 20 d46_19 rfl rfl rfl ?_
  refine C.arraylength 21 (Int32.ofNat vs.length) d46_20 rfl A1 rfl ?_
  refine C.iloadN 22 d46_21 rfl rfl ?_
  refine C.isub 23 d46_22 rfl ?_
  rw [Int32.sub_zero]
  refine C.iloadN 24 d46_23 rfl rfl ?_
  refine C.callS 27 (as := [.int (Int32.ofNat vs.length), .int (Int32.ofNat k)]) (rest := [.int (0 : Int32), .ref d, .int (0 : Int32), .ref b]) (rm := ⟨0, 0, 0, 0⟩) 4 d46_24 rfl (tw 199) (tw 200) (tw 201) (tw 202) (by decide) (mmi l Z a0' hw hEL hSA h1 k vs.length (by omega) hk) (by simp) pd48 rfl rfl (Nat.le_of_eq rfl) (by decide) (by decide) (by decide) (by decide) rfl ?_
  refine same_intro ?_
  show W h1 [d] 1 16 27 #[.val (.ref b), .val (.int (0 : Int32)), .val (.int (Int32.ofNat k)), .val (.int (Int32.ofNat k)), .val (.ref d)] [.int (Int32.ofNat k), .int (0 : Int32), .ref d, .int (0 : Int32), .ref b]
  refine C.acopy 30 k 0 d46_27 rfl (tw 203) (tw 206) (tw 204) (tw 205) A1 B1 (by simp) (by omega) hfi (by omega) rfl (Nat.le_of_eq rfl) (by decide) (by decide) ?_
  intro h2 K2 B2
  refine C.aload 32 d46_30 rfl rfl rfl ?_
  have K : Keep h h2 [] := ((Keep.refl h []).ext E1).trans K2 (fun x hx => Or.inr (by cases List.mem_singleton.mp hx; exact Nat.le_of_eq gd.symm))
  exact C.retA (.array .byte) d46_32 rfl rfl rfl (by decide) (by decide) ⟨d, rfl, Nat.le_of_eq gd.symm, ⟨K.1, fun x c q => K.2.1 x c q nin0⟩, B2⟩ (fun _ q => nomatch q)
theorem d45_0 : decode jdk_65_method_132_code 0 = .ok (.iload_n 1, 1) := by decide +kernel
theorem d45_1 : decode jdk_65_method_132_code 1 = .ok (.ifCond .ne 9, 3) := by decide +kernel
theorem d45_4 : decode jdk_65_method_132_code 4 = .ok (.iload_n 2, 1) := by decide +kernel
theorem d45_5 : decode jdk_65_method_132_code 5 = .ok (.aload_n 0, 1) := by decide +kernel
theorem d45_6 : decode jdk_65_method_132_code 6 = .ok (.arraylength, 1) := by decide +kernel
theorem d45_7 : decode jdk_65_method_132_code 7 = .ok (.if_icmp .eq 10, 3) := by decide +kernel
theorem d45_10 : decode jdk_65_method_132_code 10 = .ok (.aload_n 0, 1) := by decide +kernel
theorem d45_11 : decode jdk_65_method_132_code 11 = .ok (.iload_n 1, 1) := by decide +kernel
theorem d45_12 : decode jdk_65_method_132_code 12 = .ok (.iload_n 2, 1) := by decide +kernel
theorem d45_13 : decode jdk_65_method_132_code 13 = .ok (.invokestatic 339, 3) := by decide +kernel
theorem d45_16 : decode jdk_65_method_132_code 16 = .ok (.areturn, 1) := by decide +kernel
theorem d45_17 : decode jdk_65_method_132_code 17 = .ok (.aload_n 0, 1) := by decide +kernel
theorem d45_18 : decode jdk_65_method_132_code 18 = .ok (.invokevirtual 310, 3) := by decide +kernel
theorem d45_21 : decode jdk_65_method_132_code 21 = .ok (.checkcast 311, 3) := by decide +kernel
theorem d45_24 : decode jdk_65_method_132_code 24 = .ok (.areturn, 1) := by decide +kernel
theorem pn45 : plainFor (⟨"java/util/Arrays", "copyOfRange", "([BII)[B"⟩ : MethodName) = true := by first | exact plainFor_of_name (by first | (simp [plainName, overriddenIn]; done) | decide +kernel) | decide +kernel
theorem pd45 : parseMethodDescriptor "([BII)[B" = some ⟨[(.array .byte), .int, .int], some (.array .byte)⟩ := by decide +kernel
set_option maxRecDepth 65536 in
set_option maxHeartbeats 40000000 in
theorem cor (l : Launch) (Z : State) (a0' : Array Value) (hw : ∀ d ∈ tables_1, d.before a0' Z = true) (hEL : EW Z a0' EL0) (hSA : ∀ a ∈ Bundle.stringAtoms, a.before a0' Z = true) (h : Heap) (b : Addr) (vs : List Value) (k : Nat) (hv : vs.length < 17) (hk : k < vs.length) (hfi : ∀ v ∈ vs, fits .byte v = true) (A : Al Z h b .byte vs) :
    Con l Z EL0 (⟨"java/util/Arrays", "copyOfRange", "([BII)[B"⟩ : MethodName) jdk_65_method_132_code 3 (some (.array .byte)) ⟨2, 1, 16, 34⟩ #[.ref b, .int 0, .int (Int32.ofNat k)] h [] (fun v h' => ∃ b', v = some (.ref b') ∧ h.size ≤ b' ∧ Ext h h' ∧ Al Z h' b' .byte (vs.take k)) (fun _ => []) := by
  refine Con.of (Ls := #[.val (.ref b), .val (.int (0 : Int32)), .val (.int (Int32.ofNat k))]) hw hEL pn45 (fun m => by first | (simp [entryFrame, mkF, argsToLocals, Value.category, maxLocals]; done) | rfl) fun W C => ?_
  refine C.kept fun hE => ?_
  have z0 : Z.heap.size ≤ h.size := hE.1
  refine C.iloadN 1 d45_0 rfl rfl ?_
  refine C.ifF 4 d45_1 rfl (by decide) ?_
  refine C.iloadN 5 d45_4 rfl rfl ?_
  refine C.aloadN 6 d45_5 rfl rfl rfl ?_
  refine C.arraylength 7 (Int32.ofNat vs.length) d45_6 rfl A rfl ?_
  have q : ¬ Int32.ofNat k = Int32.ofNat vs.length := fun z => absurd (o_inj (by omega) (by omega) z) (by omega)
  refine C.icmpF 10 d45_7 rfl (feq q).1 ?_
  refine C.aloadN 11 d45_10 rfl rfl rfl ?_
  refine C.iloadN 12 d45_11 rfl rfl ?_
  refine C.iloadN 13 d45_12 rfl rfl ?_
  refine C.callS 16 (as := [.ref b, .int (0 : Int32), .int (Int32.ofNat k)]) (rest := []) (rm := ⟨1, 1, 16, 18⟩) 0 d45_13 rfl (tw 193) (tw 194) (tw 191) (tw 195) (by decide) (crb l Z a0' hw hEL hSA h b vs k hv hk hfi A) (by simp) pd46 rfl rfl (Nat.le_of_eq rfl) (by decide) (by decide) (by decide) (by decide) rfl ?_
  rintro v h1 ⟨d, rfl, gd, E1, B1⟩
  show W h1 [] 1 16 16 #[.val (.ref b), .val (.int (0 : Int32)), .val (.int (Int32.ofNat k))] [.ref d]
  exact C.retA (.array .byte) d45_16 rfl rfl rfl (by decide) (by decide) ⟨d, rfl, gd, E1, B1⟩ (fun _ q => nomatch q)
theorem d37_0 : decode jdk_42_method_151_code 0 = .ok (.aload_n 0, 1) := by decide +kernel
theorem d37_1 : decode jdk_42_method_151_code 1 = .ok (.invokespecial 1, 3) := by decide +kernel
theorem d37_4 : decode jdk_42_method_151_code 4 = .ok (.aload_n 0, 1) := by decide +kernel
theorem d37_5 : decode jdk_42_method_151_code 5 = .ok (.aload_n 1, 1) := by decide +kernel
theorem d37_6 : decode jdk_42_method_151_code 6 = .ok (.putfield 9, 3) := by decide +kernel
theorem d37_9 : decode jdk_42_method_151_code 9 = .ok (.aload_n 0, 1) := by decide +kernel
theorem d37_10 : decode jdk_42_method_151_code 10 = .ok (.iload_n 2, 1) := by decide +kernel
theorem d37_11 : decode jdk_42_method_151_code 11 = .ok (.putfield 15, 3) := by decide +kernel
theorem d37_14 : decode jdk_42_method_151_code 14 = .ok (.return_, 1) := by decide +kernel
theorem pn37 : plainFor (⟨"java/lang/String", "<init>", "([BB)V"⟩ : MethodName) = true := by first | exact plainFor_of_name (by first | (simp [plainName, overriddenIn]; done) | decide +kernel) | decide +kernel
theorem pd37 : parseMethodDescriptor "([BB)V" = some ⟨[(.array .byte), .byte], none⟩ := by decide +kernel
set_option maxRecDepth 65536 in
set_option maxHeartbeats 40000000 in
theorem sib (l : Launch) (Z : State) (a0' : Array Value) (hw : ∀ d ∈ tables_1, d.before a0' Z = true) (hEL : EW Z a0' EL0) (hSA : ∀ a ∈ Bundle.stringAtoms, a.before a0' Z = true) (h : Heap) (a b : Addr) (cs : List Int32) (nab : b ≠ a) (E : Exa Z h a "java/lang/String") (F0 : Fld Z h a "java/lang/String" "value" "[B" .null) (F1 : Fld Z h a "java/lang/String" "coder" "B" (.int 0)) (B : Al Z h b .byte (iv' (enc cs))) :
    Con l Z EL0 (⟨"java/lang/String", "<init>", "([BB)V"⟩ : MethodName) jdk_42_method_151_code 3 none ⟨1, 0, 0, 12⟩ #[.ref a, .ref b, .int (cod cs)] h [a] (fun v h' => v = none ∧ Keep h h' [a] ∧ Str Z h' a b cs) (fun _ => []) := by
  refine Con.of (Ls := #[.val (.ref a), .val (.ref b), .val (.int (cod cs))]) hw hEL pn37 (fun m => by first | (simp [entryFrame, mkF, argsToLocals, Value.category, maxLocals]; done) | rfl) fun W C => ?_
  refine C.kept fun hE => ?_
  have z0 : Z.heap.size ≤ h.size := hE.1
  have cod01 : cod cs = 0 ∨ cod cs = 1 := by unfold cod; split <;> simp
  have nb : narrow .byte (.int (cod cs)) = .int (cod cs) := by rcases cod01 with q | q <;> rw [q] <;> rfl
  have fb : fits .byte (.int (cod cs)) = true := by rcases cod01 with q | q <;> rw [q] <;> rfl
  refine C.aloadN 1 d37_0 rfl rfl rfl ?_
  refine C.initObj 4 0 d37_1 rfl (tw 12) (tw 13) (tw 14) rfl (by decide) (Nat.le_of_eq rfl) (by decide) ?_
  refine C.aloadN 5 d37_4 rfl rfl rfl ?_
  refine C.aloadN 6 d37_5 rfl rfl rfl ?_
  refine C.putfield 9 (v' := .ref b) (.array .byte) d37_6 rfl (tw 21) Via.refl F0 E (Or.inr ⟨(tw 17), rfl, rfl⟩) (tw 3) (by decide) rfl rfl (by simp) ?_
  intro h1 W1
  have z1 : Z.heap.size ≤ h1.size := by rw [W1.size]; exact z0
  have F0' := F0.same W1
  have F1' := F1.other W1 (Or.inr (slot_ne (Or.inr (hw _ (tw 18))) (Or.inr (hw _ (tw 17))) (by decide) (t := .byte) (t' := (.array .byte)) (by decide) (by decide)))
  refine C.aloadN 10 d37_9 rfl rfl rfl ?_
  refine C.iloadN 11 d37_10 rfl rfl ?_
  refine C.putfield 14 (v' := .int (cod cs)) .byte d37_11 rfl (tw 22) Via.refl F1' (E.wr W1) (Or.inr ⟨(tw 18), rfl, rfl⟩) (tw 3) (by decide) nb fb (by simp) ?_
  intro h2 W2
  have z2 : Z.heap.size ≤ h2.size := by rw [W2.size]; exact z1
  exact C.ret0 d37_14 rfl (by decide) (by decide) ⟨rfl, (Keep.of_wr W1).wr W2 (Or.inl (List.mem_of_getElem? (i := 0) rfl)), (E.wr W1).wr W2, F0'.other W2 (Or.inr (slot_ne (Or.inr (hw _ (tw 17))) (Or.inr (hw _ (tw 18))) (by decide) (t := (.array .byte)) (t' := .byte) (by decide) (by decide))), F1'.same W2, (B.keep (Keep.of_wr W1) (ninS nab nin0)).keep (Keep.of_wr W2) (ninS nab nin0)⟩ (fun _ q => nomatch q)
theorem d44_0 : decode jdk_43_method_47_code 0 = .ok (.iload_n 2, 1) := by decide +kernel
theorem d44_1 : decode jdk_43_method_47_code 1 = .ok (.ifCond .ne 6, 3) := by decide +kernel
theorem d44_4 : decode jdk_43_method_47_code 4 = .ok (.ldc 151, 2) := by decide +kernel
theorem d44_6 : decode jdk_43_method_47_code 6 = .ok (.areturn, 1) := by decide +kernel
theorem d44_7 : decode jdk_43_method_47_code 7 = .ok (.new 1, 3) := by decide +kernel
theorem d44_10 : decode jdk_43_method_47_code 10 = .ok (.dup, 1) := by decide +kernel
theorem d44_11 : decode jdk_43_method_47_code 11 = .ok (.aload_n 0, 1) := by decide +kernel
theorem d44_12 : decode jdk_43_method_47_code 12 = .ok (.iload_n 1, 1) := by decide +kernel
theorem d44_13 : decode jdk_43_method_47_code 13 = .ok (.iload_n 1, 1) := by decide +kernel
theorem d44_14 : decode jdk_43_method_47_code 14 = .ok (.iload_n 2, 1) := by decide +kernel
theorem d44_15 : decode jdk_43_method_47_code 15 = .ok (.iadd, 1) := by decide +kernel
theorem d44_16 : decode jdk_43_method_47_code 16 = .ok (.invokestatic 232, 3) := by decide +kernel
theorem d44_19 : decode jdk_43_method_47_code 19 = .ok (.iconst 0, 1) := by decide +kernel
theorem d44_20 : decode jdk_43_method_47_code 20 = .ok (.invokespecial 112, 3) := by decide +kernel
theorem d44_23 : decode jdk_43_method_47_code 23 = .ok (.areturn, 1) := by decide +kernel
theorem pn44 : plainFor (⟨"java/lang/StringLatin1", "newString", "([BII)Ljava/lang/String;"⟩ : MethodName) = true := by first | exact plainFor_of_name (by first | (simp [plainName, overriddenIn]; done) | decide +kernel) | decide +kernel
theorem pd44 : parseMethodDescriptor "([BII)Ljava/lang/String;" = some ⟨[(.array .byte), .int, .int], some (.object "java/lang/String")⟩ := by decide +kernel
set_option maxRecDepth 65536 in
set_option maxHeartbeats 40000000 in
theorem lns (l : Launch) (Z : State) (a0' : Array Value) (hw : ∀ d ∈ tables_1, d.before a0' Z = true) (hEL : EW Z a0' EL0) (hSA : ∀ a ∈ Bundle.stringAtoms, a.before a0' Z = true) (h : Heap) (b : Addr) (cs : List Int32) (k : Nat) (hn : cs.length < 17) (hl : lat cs) (hk : k < cs.length) (A : Al Z h b .byte (iv' (cs.map by8))) :
    Con l Z EL0 (⟨"java/lang/StringLatin1", "newString", "([BII)Ljava/lang/String;"⟩ : MethodName) jdk_43_method_47_code 3 (some (.object "java/lang/String")) ⟨3, 2, 20, 50⟩ #[.ref b, .int 0, .int (Int32.ofNat k)] h [] (fun v h' => ∃ a' b', v = some (.ref a') ∧ Ext h h' ∧ Str Z h' a' b' (cs.take k)) (fun _ => []) := by
  refine Con.of (Ls := #[.val (.ref b), .val (.int (0 : Int32)), .val (.int (Int32.ofNat k))]) hw hEL pn44 (fun m => by first | (simp [entryFrame, mkF, argsToLocals, Value.category, maxLocals]; done) | rfl) fun W C => ?_
  refine C.kept fun hE => ?_
  have z0 : Z.heap.size ≤ h.size := hE.1
  refine C.iloadN 1 d44_0 rfl rfl ?_
  by_cases h0 : k = 0
  · subst h0
    show W h [] 0 0 1 #[.val (.ref b), .val (.int (0 : Int32)), .val (.int (0 : Int32))] [.int (0 : Int32)]
    refine C.ifF 4 d44_1 rfl (by decide) ?_
    refine C.ldcC 6 (vs := []) 0 0 d44_4 rfl (tw 187) hSA (by simp [EL0]) ⟨by simp, rfl⟩ (by decide) rfl (by decide) (by decide) (by decide) (by decide) ?_
    intro h1 u1 v1 E1 Y1 V1 D1 A1 ne1
    show W h1 [] 2 4 6 #[.val (.ref b), .val (.int (0 : Int32)), .val (.int (0 : Int32))] [.ref u1]
    exact C.retA (.object "java/lang/String") d44_6 rfl rfl rfl (by decide) (by decide) ⟨u1, v1, rfl, E1, Y1, V1, D1, A1⟩ (fun _ q => nomatch q)
  · refine C.ifT 7 d44_1 rfl ((if0 _ _).trans (feq (o_ne (by omega) h0)).2) ?_
    refine C.new 10 d44_7 rfl (tw 207) (tw 3) (tw 4) (by decide) (by decide) ?_
    intro h1 E1 X1 D1
    obtain ⟨b1, g1⟩ : ∃ z, z = h.size := ⟨_, rfl⟩
    rw [← g1] at X1 ⊢
    rw [← g1] at D1
    have z1 : Z.heap.size ≤ h1.size := Nat.le_trans z0 E1.1
    have zb1 : Z.heap.size ≤ b1 := by rw [g1]; exact z0
    show W h1 [b1] 1 4 10 #[.val (.ref b), .val (.int (0 : Int32)), .val (.int (Int32.ofNat k))] [.ref b1]
    have NV : Fld Z h1 b1 "java/lang/String" "value" "[B" .null := D1 (Or.inr (hw _ (tw 17))) (ty := (.array .byte)) (by decide)
    have NC : Fld Z h1 b1 "java/lang/String" "coder" "B" (.int (0 : Int32)) := D1 (Or.inr (hw _ (tw 18))) (ty := .byte) (by decide)
    have X := X1
    refine C.dup 11 d44_10 rfl rfl ?_
    refine C.aloadN 12 d44_11 rfl rfl rfl ?_
    refine C.iloadN 13 d44_12 rfl rfl ?_
    refine C.iloadN 14 d44_13 rfl rfl ?_
    refine C.iloadN 15 d44_14 rfl rfl ?_
    refine C.iadd 16 d44_15 rfl ?_
    rw [Int32.zero_add]
    refine C.callS 19 (as := [.ref b, .int (0 : Int32), .int (Int32.ofNat k)]) (rest := [.ref b1, .ref b1]) (rm := ⟨2, 1, 16, 34⟩) 2 d44_16 rfl (tw 208) (tw 190) (tw 191) (tw 192) (by decide) (cor l Z a0' hw hEL hSA h1 b (iv' (cs.map by8)) k (by simp; omega) (by simp; omega) (fit8 cs) (A.ext E1)) (by simp) pd45 rfl rfl (Nat.le_of_eq rfl) (by decide) (by decide) (by decide) (by decide) rfl ?_
    rintro v h2 ⟨d, rfl, gd, E2, B2⟩
    have z2 : Z.heap.size ≤ h2.size := Nat.le_trans z1 E2.1
    show W h2 [b1] 2 20 19 #[.val (.ref b), .val (.int (0 : Int32)), .val (.int (Int32.ofNat k))] [.ref d, .ref b1, .ref b1]
    refine C.iconst 20 (0 : Int32) d44_19 rfl rfl ?_
    have ht : lat (cs.take k) := fun x hx => hl x (List.mem_of_mem_take hx)
    have Bd : Al Z h2 d .byte (iv' (enc (cs.take k))) := by rw [enc_l ht, List.map_take]; show Al Z _ d .byte ((List.take k (cs.map by8)).map Value.int); rw [List.map_take]; exact B2
    have nab : d ≠ b1 := Nat.ne_of_gt (Nat.lt_of_lt_of_le X.lt gd)
    replace X := X.ext E2
    replace NV := NV.ext E2
    replace NC := NC.ext E2
    have ec : (Value.int (0 : Int32)) = Value.int (cod (cs.take k)) := by rw [cod_l ht]
    show W h2 [b1] 2 20 20 #[.val (.ref b), .val (.int (0 : Int32)), .val (.int (Int32.ofNat k))] [.int (0 : Int32), .ref d, .ref b1, .ref b1]
    refine C.callI 23 (a := b1) (as := [.ref d, .int (0 : Int32)]) (rest := [.ref b1]) (rm := ⟨1, 0, 0, 12⟩) 1 d44_20 rfl rfl rfl (tw 209) (tw 156) (tw 4) (tw 157) (by decide) ((by have q := sib l Z a0' hw hEL hSA h2 b1 d (cs.take k) nab X NV NC Bd; rw [cod_l ht] at q; exact q)) (by simp) pd37 rfl rfl (Nat.le_of_eq rfl) (by decide) (by decide) (by decide) (by decide) rfl ?_
    rintro v h' ⟨rfl, K', T⟩
    show W h' [b1] 2 20 23 #[.val (.ref b), .val (.int (0 : Int32)), .val (.int (Int32.ofNat k))] [.ref b1]
    have KK := (((Keep.refl h []).ext E1).ext E2).trans K' (fun y hy => Or.inr (by cases List.mem_singleton.mp hy; rw [g1]; exact Nat.le_refl _))
    exact C.retA (.object "java/lang/String") d44_23 rfl rfl rfl (by decide) (by decide) ⟨b1, d, rfl, ⟨KK.1, fun y c q => KK.2.1 y c q nin0⟩, T⟩ (fun _ q => nomatch q)
theorem d31_0 : decode jdk_52_method_17_code 0 = .ok (.iload_n 2, 1) := by decide +kernel
theorem d31_1 : decode jdk_52_method_17_code 1 = .ok (.newarray .byte, 2) := by decide +kernel
theorem d31_3 : decode jdk_52_method_17_code 3 = .ok (.astore_n 3, 1) := by decide +kernel
theorem d31_4 : decode jdk_52_method_17_code 4 = .ok (.aload_n 0, 1) := by decide +kernel
theorem d31_5 : decode jdk_52_method_17_code 5 = .ok (.iload_n 1, 1) := by decide +kernel
theorem d31_6 : decode jdk_52_method_17_code 6 = .ok (.aload_n 3, 1) := by decide +kernel
theorem d31_7 : decode jdk_52_method_17_code 7 = .ok (.iconst 0, 1) := by decide +kernel
theorem d31_8 : decode jdk_52_method_17_code 8 = .ok (.iload_n 2, 1) := by decide +kernel
theorem d31_9 : decode jdk_52_method_17_code 9 = .ok (.invokestatic 123, 3) := by decide +kernel
theorem d31_12 : decode jdk_52_method_17_code 12 = .ok (.istore 4, 2) := by decide +kernel
theorem d31_14 : decode jdk_52_method_17_code 14 = .ok (.iload 4, 2) := by decide +kernel
theorem d31_16 : decode jdk_52_method_17_code 16 = .ok (.iload_n 2, 1) := by decide +kernel
theorem d31_17 : decode jdk_52_method_17_code 17 = .ok (.if_icmp .eq 47, 3) := by decide +kernel
theorem d31_20 : decode jdk_52_method_17_code 20 = .ok (.aload_n 0, 1) := by decide +kernel
theorem d31_21 : decode jdk_52_method_17_code 21 = .ok (.iload_n 1, 1) := by decide +kernel
theorem d31_22 : decode jdk_52_method_17_code 22 = .ok (.iconst 1, 1) := by decide +kernel
theorem d31_23 : decode jdk_52_method_17_code 23 = .ok (.ishl, 1) := by decide +kernel
theorem d31_24 : decode jdk_52_method_17_code 24 = .ok (.iload_n 1, 1) := by decide +kernel
theorem d31_25 : decode jdk_52_method_17_code 25 = .ok (.iload_n 2, 1) := by decide +kernel
theorem d31_26 : decode jdk_52_method_17_code 26 = .ok (.iadd, 1) := by decide +kernel
theorem d31_27 : decode jdk_52_method_17_code 27 = .ok (.invokestatic 11, 3) := by decide +kernel
theorem d31_30 : decode jdk_52_method_17_code 30 = .ok (.invokestatic 126, 3) := by decide +kernel
theorem d31_33 : decode jdk_52_method_17_code 33 = .ok (.astore 5, 2) := by decide +kernel
theorem d31_35 : decode jdk_52_method_17_code 35 = .ok (.aload 5, 2) := by decide +kernel
theorem d31_37 : decode jdk_52_method_17_code 37 = .ok (.iload 4, 2) := by decide +kernel
theorem d31_39 : decode jdk_52_method_17_code 39 = .ok (.invokestatic 71, 3) := by decide +kernel
theorem d31_42 : decode jdk_52_method_17_code 42 = .ok (.sipush 255, 3) := by decide +kernel
theorem d31_45 : decode jdk_52_method_17_code 45 = .ok (.if_icmp .gt 16, 3) := by decide +kernel
theorem d31_48 : decode jdk_52_method_17_code 48 = .ok (.aload 5, 2) := by decide +kernel
theorem d31_50 : decode jdk_52_method_17_code 50 = .ok (.iconst 0, 1) := by decide +kernel
theorem d31_51 : decode jdk_52_method_17_code 51 = .ok (.aload_n 3, 1) := by decide +kernel
theorem d31_52 : decode jdk_52_method_17_code 52 = .ok (.iconst 0, 1) := by decide +kernel
theorem d31_53 : decode jdk_52_method_17_code 53 = .ok (.iload_n 2, 1) := by decide +kernel
theorem d31_54 : decode jdk_52_method_17_code 54 = .ok (.invokestatic 123, 3) := by decide +kernel
theorem d31_57 : decode jdk_52_method_17_code 57 = .ok (.iload_n 2, 1) := by decide +kernel
theorem d31_58 : decode jdk_52_method_17_code 58 = .ok (.if_icmp .eq 6, 3) := by decide +kernel
theorem d31_61 : decode jdk_52_method_17_code 61 = .ok (.aload 5, 2) := by decide +kernel
theorem d31_63 : decode jdk_52_method_17_code 63 = .ok (.areturn, 1) := by decide +kernel
theorem d31_64 : decode jdk_52_method_17_code 64 = .ok (.aload_n 3, 1) := by decide +kernel
theorem d31_65 : decode jdk_52_method_17_code 65 = .ok (.areturn, 1) := by decide +kernel
theorem pn31 : plainFor (⟨"java/lang/StringUTF16", "compress", "([BII)[B"⟩ : MethodName) = true := by first | exact plainFor_of_name (by first | (simp [plainName, overriddenIn]; done) | decide +kernel) | decide +kernel
theorem pd31 : parseMethodDescriptor "([BII)[B" = some ⟨[(.array .byte), .int, .int], some (.array .byte)⟩ := by decide +kernel
set_option maxRecDepth 65536 in
set_option maxHeartbeats 40000000 in
theorem b3 (l : Launch) (Z : State) (a0' : Array Value) (hw : ∀ d ∈ tables_1, d.before a0' Z = true) (hEL : EW Z a0' EL0) (hSA : ∀ a ∈ Bundle.stringAtoms, a.before a0' Z = true) (h : Heap) (cpt : Int32) (SCP : Sta Z Z.heap "java/lang/String" "COMPACT_STRINGS" "Z" (.int cpt)) (hcp : ¬ cpt = 0) (SAD : Sta Z Z.heap "java/lang/StringUTF16" "$assertionsDisabled" "Z" (.int (1 : Int32))) (SHI : Sta Z Z.heap "java/lang/StringUTF16" "HI_BYTE_SHIFT" "I" (.int (0 : Int32))) (SLO : Sta Z Z.heap "java/lang/StringUTF16" "LO_BYTE_SHIFT" "I" (.int (8 : Int32))) (sf : Value) (hsf : sf.isRef = true) (SSF : Sta Z Z.heap "jdk/internal/util/Preconditions" "SIOOBE_FORMATTER" "Ljava/util/function/BiFunction;" sf) (b : Addr) (cs : List Int32) (k : Nat) (hn : cs.length ≤ 8) (hch : ∀ c ∈ cs, Ch c) (hk : k < cs.length) (A : Al Z h b .byte (iv' (u16 cs))) :
    Con l Z EL0 (⟨"java/lang/StringUTF16", "compress", "([BII)[B"⟩ : MethodName) jdk_52_method_17_code 6 (some (.array .byte)) ⟨4, 2, 24, 61⟩ #[.ref b, .int 0, .int (Int32.ofNat k)] h [] (fun v h' => ∃ b', v = some (.ref b') ∧ h.size ≤ b' ∧ Ext h h' ∧ Al Z h' b' .byte (iv' (enc (cs.take k)))) (fun _ => []) := by
  refine Con.of (Ls := #[.val (.ref b), .val (.int (0 : Int32)), .val (.int (Int32.ofNat k)), .unset, .unset, .unset]) hw hEL pn31 (fun m => by first | (simp [entryFrame, mkF, argsToLocals, Value.category, maxLocals]; done) | rfl) fun W C => ?_
  refine C.kept fun hE => ?_
  have z0 : Z.heap.size ≤ h.size := hE.1
  have lk : (cs.take k).length = k := by rw [List.length_take]; omega
  refine C.iloadN 1 d31_0 rfl rfl ?_
  refine C.newarray 3 8 d31_1 rfl (tw 16) (o_nn (by omega)) (by rw [o_cl (by omega)]; omega) (by decide) (by decide) (by decide) ?_
  intro h1 E1 B1
  rw [o_cl (by omega)] at B1
  obtain ⟨d, gd⟩ : ∃ z, z = h.size := ⟨_, rfl⟩
  rw [← gd] at B1 ⊢
  have ne : b ≠ d := by rw [gd]; exact Nat.ne_of_lt A.lt
  show W h1 [d] 1 8 3 #[.val (.ref b), .val (.int (0 : Int32)), .val (.int (Int32.ofNat k)), .unset, .unset, .unset] [.ref d]
  refine C.astoreN 4 #[.val (.ref b), .val (.int (0 : Int32)), .val (.int (Int32.ofNat k)), .val (.ref d), .unset, .unset] d31_3 rfl rfl rfl ?_
  refine C.aloadN 5 d31_4 rfl rfl rfl ?_
  refine C.iloadN 6 d31_5 rfl rfl ?_
  refine C.aloadN 7 d31_6 rfl rfl rfl ?_
  refine C.iconst 8 (0 : Int32) d31_7 rfl rfl ?_
  refine C.iloadN 9 d31_8 rfl rfl ?_
  refine C.callS 12 (as := [.ref b, .int (0 : Int32), .ref d, .int (0 : Int32), .int (Int32.ofNat k)]) (rest := []) (rm := ⟨3, 0, 0, 43⟩) 0 d31_9 rfl (tw 138) (tw 139) (tw 72) (tw 140) (by decide) ((by have q := b5 l Z a0' hw hEL hSA h1 cpt SCP hcp SAD SHI SLO sf hsf SSF b d ne cs (cs.take k) (by omega) hch (fun i c q => by rw [List.getElem?_take] at q; split at q; exact q; cases q) (by omega) (A.ext E1) (by rw [lk]; exact B1); rw [lk] at q; exact q)) (by simp) pd32 rfl rfl (Nat.le_of_eq rfl) (by decide) (by decide) (by decide) (by decide) rfl ?_
  rintro v h2 ⟨K2, ⟨rfl, hl, B2⟩ | ⟨r, c, rfl, hg, hc⟩⟩
  all_goals have K : Keep h h2 [] := ((Keep.refl h []).ext E1).trans K2 (fun x hx => Or.inr (by cases List.mem_singleton.mp hx; exact Nat.le_of_eq gd.symm))
  all_goals have E : Ext h h2 := ⟨K.1, fun x c q => K.2.1 x c q nin0⟩
  · show W h2 [d] 1 8 12 #[.val (.ref b), .val (.int (0 : Int32)), .val (.int (Int32.ofNat k)), .val (.ref d), .unset, .unset] [.int (Int32.ofNat k)]
    refine C.istore 14 #[.val (.ref b), .val (.int (0 : Int32)), .val (.int (Int32.ofNat k)), .val (.ref d), .val (.int (Int32.ofNat k)), .unset] d31_12 rfl rfl ?_
    refine C.iload 16 d31_14 rfl rfl ?_
    refine C.iloadN 17 d31_16 rfl rfl ?_
    refine C.icmpT 64 d31_17 rfl (teq rfl).1 ?_
    refine C.aloadN 65 d31_64 rfl rfl rfl ?_
    exact C.retA (.array .byte) d31_65 rfl rfl rfl (by decide) (by decide) ⟨d, rfl, Nat.le_of_eq gd.symm, E, by rw [enc_l hl]; exact B2⟩ (fun _ q => nomatch q)
  · have hl : ¬ lat (cs.take k) := fun z => z c (List.mem_of_getElem? hg) hc
    have hr : r < k := by have := (List.getElem?_eq_some_iff.mp hg).1; omega
    have hcc : Ch c := hch c (List.mem_of_mem_take (List.mem_of_getElem? hg))
    show W h2 [d] 1 8 12 #[.val (.ref b), .val (.int (0 : Int32)), .val (.int (Int32.ofNat k)), .val (.ref d), .unset, .unset] [.int (Int32.ofNat r)]
    refine C.istore 14 #[.val (.ref b), .val (.int (0 : Int32)), .val (.int (Int32.ofNat k)), .val (.ref d), .val (.int (Int32.ofNat r)), .unset] d31_12 rfl rfl ?_
    refine C.iload 16 d31_14 rfl rfl ?_
    refine C.iloadN 17 d31_16 rfl rfl ?_
    have q : ¬ Int32.ofNat r = Int32.ofNat k := fun z => absurd (o_inj (by omega) (by omega) z) (by omega)
    refine C.icmpF 20 d31_17 rfl (feq q).1 ?_
    refine C.aloadN 21 d31_20 rfl rfl rfl ?_
    refine C.iloadN 22 d31_21 rfl rfl ?_
    refine C.iconst 23 (1 : Int32) d31_22 rfl rfl ?_
    refine C.ishl 24 d31_23 rfl ?_
    show W h2 [d] 1 8 24 #[.val (.ref b), .val (.int (0 : Int32)), .val (.int (Int32.ofNat k)), .val (.ref d), .val (.int (Int32.ofNat r)), .unset] [.int (0 : Int32), .ref b]
    refine C.iloadN 25 d31_24 rfl rfl ?_
    refine C.iloadN 26 d31_25 rfl rfl ?_
    refine C.iadd 27 d31_26 rfl ?_
    rw [Int32.zero_add]
    refine C.callS 30 (as := [.int (Int32.ofNat k)]) (rest := [.int (0 : Int32), .ref b]) (rm := ⟨0, 0, 0, 0⟩) 2 d31_27 rfl (tw 83) (tw 84) (tw 72) (tw 85) (by decide) (nbl l Z a0' hw hEL hSA h2 k (by omega)) (by simp) pd18 rfl rfl (Nat.le_of_eq rfl) (by decide) (by decide) (by decide) (by decide) rfl ?_
    refine same_intro ?_
    show W h2 [d] 1 8 30 #[.val (.ref b), .val (.int (0 : Int32)), .val (.int (Int32.ofNat k)), .val (.ref d), .val (.int (Int32.ofNat r)), .unset] [.int (Int32.ofNat (2 * k)), .int (0 : Int32), .ref b]
    refine C.callS 33 (as := [.ref b, .int (0 : Int32), .int (Int32.ofNat (2 * k))]) (rest := []) (rm := ⟨2, 1, 16, 34⟩) 0 d31_30 rfl (tw 189) (tw 190) (tw 191) (tw 192) (by decide) (cor l Z a0' hw hEL hSA h2 b (iv' (u16 cs)) (2 * k) (by simp [u16_len]; omega) (by simp [u16_len]; omega) (fit16 cs) (A.ext E)) (by simp) pd45 rfl rfl (Nat.le_of_eq rfl) (by decide) (by decide) (by decide) (by decide) rfl ?_
    rintro v h3 ⟨d3, rfl, g3, E3, B3⟩
    have B4 : Al Z h3 d3 .byte (iv' (u16 (cs.take k))) := by rw [← u16_take]; show Al Z _ d3 .byte ((List.take (2 * k) (u16 cs)).map Value.int); rw [List.map_take]; exact B3
    show W h3 [d] 2 24 33 #[.val (.ref b), .val (.int (0 : Int32)), .val (.int (Int32.ofNat k)), .val (.ref d), .val (.int (Int32.ofNat r)), .unset] [.ref d3]
    refine C.astore 35 #[.val (.ref b), .val (.int (0 : Int32)), .val (.int (Int32.ofNat k)), .val (.ref d), .val (.int (Int32.ofNat r)), .val (.ref d3)] d31_33 rfl rfl rfl ?_
    refine C.aload 37 d31_35 rfl rfl rfl ?_
    refine C.iload 39 d31_37 rfl rfl ?_
    refine C.callS 42 (as := [.ref d3, .int (Int32.ofNat r)]) (rest := []) (rm := ⟨0, 0, 0, 0⟩) 0 d31_39 rfl (tw 93) (tw 94) (tw 72) (tw 95) (by decide) (gch l Z a0' hw hEL hSA h3 cpt SCP hcp SAD SHI SLO d3 (cs.take k) r c (by omega) hg hcc B4) (by simp) pd20 rfl rfl (Nat.le_of_eq rfl) (by decide) (by decide) (by decide) (by decide) rfl ?_
    refine same_intro ?_
    show W h3 [d] 2 24 42 #[.val (.ref b), .val (.int (0 : Int32)), .val (.int (Int32.ofNat k)), .val (.ref d), .val (.int (Int32.ofNat r)), .val (.ref d3)] [.int c]
    refine C.sipush 45 (255 : Int32) d31_42 rfl rfl ?_
    refine C.icmpT 61 d31_45 rfl (tlt hc).2.2.1 ?_
    refine C.aload 63 d31_61 rfl rfl rfl ?_
    exact C.retA (.array .byte) d31_63 rfl rfl rfl (by decide) (by decide) ⟨d3, rfl, Nat.le_trans E.1 g3, ⟨Nat.le_trans E.1 E3.1, fun x c q => E3.2 x c (E.2 x c q)⟩, by rw [enc_u hl]; exact B4⟩ (fun _ q => nomatch q)
theorem d30_0 : decode jdk_52_method_69_code 0 = .ok (.iload_n 2, 1) := by decide +kernel
theorem d30_1 : decode jdk_52_method_69_code 1 = .ok (.ifCond .ne 7, 3) := by decide +kernel
theorem d30_4 : decode jdk_52_method_69_code 4 = .ok (.ldc_w 295, 3) := by decide +kernel
theorem d30_7 : decode jdk_52_method_69_code 7 = .ok (.areturn, 1) := by decide +kernel
theorem d30_8 : decode jdk_52_method_69_code 8 = .ok (.getstatic 251, 3) := by decide +kernel
theorem d30_11 : decode jdk_52_method_69_code 11 = .ok (.ifCond .eq 28, 3) := by decide +kernel
theorem d30_14 : decode jdk_52_method_69_code 14 = .ok (.aload_n 0, 1) := by decide +kernel
theorem d30_15 : decode jdk_52_method_69_code 15 = .ok (.iload_n 1, 1) := by decide +kernel
theorem d30_16 : decode jdk_52_method_69_code 16 = .ok (.iload_n 2, 1) := by decide +kernel
theorem d30_17 : decode jdk_52_method_69_code 17 = .ok (.invokestatic 257, 3) := by decide +kernel
theorem d30_20 : decode jdk_52_method_69_code 20 = .ok (.astore_n 3, 1) := by decide +kernel
theorem d30_21 : decode jdk_52_method_69_code 21 = .ok (.aload_n 3, 1) := by decide +kernel
theorem d30_22 : decode jdk_52_method_69_code 22 = .ok (.iload_n 2, 1) := by decide +kernel
theorem d30_23 : decode jdk_52_method_69_code 23 = .ok (.invokestatic 259, 3) := by decide +kernel
theorem d30_26 : decode jdk_52_method_69_code 26 = .ok (.istore 4, 2) := by decide +kernel
theorem d30_28 : decode jdk_52_method_69_code 28 = .ok (.new 3, 3) := by decide +kernel
theorem d30_31 : decode jdk_52_method_69_code 31 = .ok (.dup, 1) := by decide +kernel
theorem d30_32 : decode jdk_52_method_69_code 32 = .ok (.aload_n 3, 1) := by decide +kernel
theorem d30_33 : decode jdk_52_method_69_code 33 = .ok (.iload 4, 2) := by decide +kernel
theorem d30_35 : decode jdk_52_method_69_code 35 = .ok (.invokespecial 263, 3) := by decide +kernel
theorem d30_38 : decode jdk_52_method_69_code 38 = .ok (.areturn, 1) := by decide +kernel
theorem d30_39 : decode jdk_52_method_69_code 39 = .ok (.iload_n 1, 1) := by decide +kernel
theorem d30_40 : decode jdk_52_method_69_code 40 = .ok (.iload_n 2, 1) := by decide +kernel
theorem d30_41 : decode jdk_52_method_69_code 41 = .ok (.iadd, 1) := by decide +kernel
theorem d30_42 : decode jdk_52_method_69_code 42 = .ok (.istore_n 3, 1) := by decide +kernel
theorem d30_43 : decode jdk_52_method_69_code 43 = .ok (.new 3, 3) := by decide +kernel
theorem d30_46 : decode jdk_52_method_69_code 46 = .ok (.dup, 1) := by decide +kernel
theorem d30_47 : decode jdk_52_method_69_code 47 = .ok (.aload_n 0, 1) := by decide +kernel
theorem d30_48 : decode jdk_52_method_69_code 48 = .ok (.iload_n 1, 1) := by decide +kernel
theorem d30_49 : decode jdk_52_method_69_code 49 = .ok (.iconst 1, 1) := by decide +kernel
theorem d30_50 : decode jdk_52_method_69_code 50 = .ok (.ishl, 1) := by decide +kernel
theorem d30_51 : decode jdk_52_method_69_code 51 = .ok (.iload_n 3, 1) := by decide +kernel
theorem d30_52 : decode jdk_52_method_69_code 52 = .ok (.iconst 1, 1) := by decide +kernel
theorem d30_53 : decode jdk_52_method_69_code 53 = .ok (.ishl, 1) := by decide +kernel
theorem d30_54 : decode jdk_52_method_69_code 54 = .ok (.invokestatic 126, 3) := by decide +kernel
theorem d30_57 : decode jdk_52_method_69_code 57 = .ok (.iconst 1, 1) := by decide +kernel
theorem d30_58 : decode jdk_52_method_69_code 58 = .ok (.invokespecial 263, 3) := by decide +kernel
theorem d30_61 : decode jdk_52_method_69_code 61 = .ok (.areturn, 1) := by decide +kernel
theorem pn30 : plainFor (⟨"java/lang/StringUTF16", "newString", "([BII)Ljava/lang/String;"⟩ : MethodName) = true := by first | exact plainFor_of_name (by first | (simp [plainName, overriddenIn]; done) | decide +kernel) | decide +kernel
theorem pd30 : parseMethodDescriptor "([BII)Ljava/lang/String;" = some ⟨[(.array .byte), .int, .int], some (.object "java/lang/String")⟩ := by decide +kernel
set_option maxRecDepth 65536 in
set_option maxHeartbeats 40000000 in
theorem uns (l : Launch) (Z : State) (a0' : Array Value) (hw : ∀ d ∈ tables_1, d.before a0' Z = true) (hEL : EW Z a0' EL0) (hSA : ∀ a ∈ Bundle.stringAtoms, a.before a0' Z = true) (h : Heap) (cpt : Int32) (SCP : Sta Z Z.heap "java/lang/String" "COMPACT_STRINGS" "Z" (.int cpt)) (hcp : ¬ cpt = 0) (SAD : Sta Z Z.heap "java/lang/StringUTF16" "$assertionsDisabled" "Z" (.int (1 : Int32))) (SHI : Sta Z Z.heap "java/lang/StringUTF16" "HI_BYTE_SHIFT" "I" (.int (0 : Int32))) (SLO : Sta Z Z.heap "java/lang/StringUTF16" "LO_BYTE_SHIFT" "I" (.int (8 : Int32))) (sf : Value) (hsf : sf.isRef = true) (SSF : Sta Z Z.heap "jdk/internal/util/Preconditions" "SIOOBE_FORMATTER" "Ljava/util/function/BiFunction;" sf) (b : Addr) (cs : List Int32) (k : Nat) (hn : cs.length ≤ 8) (hch : ∀ c ∈ cs, Ch c) (hk : k < cs.length) (A : Al Z h b .byte (iv' (u16 cs))) :
    Con l Z EL0 (⟨"java/lang/StringUTF16", "newString", "([BII)Ljava/lang/String;"⟩ : MethodName) jdk_52_method_69_code 5 (some (.object "java/lang/String")) ⟨5, 3, 28, 78⟩ #[.ref b, .int 0, .int (Int32.ofNat k)] h [] (fun v h' => ∃ a' b', v = some (.ref a') ∧ Ext h h' ∧ Str Z h' a' b' (cs.take k)) (fun _ => []) := by
  refine Con.of (Ls := #[.val (.ref b), .val (.int (0 : Int32)), .val (.int (Int32.ofNat k)), .unset, .unset]) hw hEL pn30 (fun m => by first | (simp [entryFrame, mkF, argsToLocals, Value.category, maxLocals]; done) | rfl) fun W C => ?_
  refine C.kept fun hE => ?_
  have z0 : Z.heap.size ≤ h.size := hE.1
  refine C.iloadN 1 d30_0 rfl rfl ?_
  by_cases h0 : k = 0
  · subst h0
    show W h [] 0 0 1 #[.val (.ref b), .val (.int (0 : Int32)), .val (.int (0 : Int32)), .unset, .unset] [.int (0 : Int32)]
    refine C.ifF 4 d30_1 rfl (by decide) ?_
    refine C.ldcWE 7 d30_4 rfl (tw 188) hSA (by simp [EL0]) (by decide) (by decide) ?_
    intro h1 u1 v1 E1 Y1 V1 D1 A1
    show W h1 [] 2 4 7 #[.val (.ref b), .val (.int (0 : Int32)), .val (.int (0 : Int32)), .unset, .unset] [.ref u1]
    exact C.retA (.object "java/lang/String") d30_7 rfl rfl rfl (by decide) (by decide) ⟨u1, v1, rfl, E1, Y1, V1, D1, A1⟩ (fun _ q => nomatch q)
  · have lk : (cs.take k).length = k := by rw [List.length_take]; omega
    refine C.ifT 8 d30_1 rfl ((if0 _ _).trans (feq (o_ne (by omega) h0)).2) ?_
    refine C.getstatic 11 d30_8 rfl (tw 134) SCP ?_
    refine C.ifF 14 d30_11 rfl ((if0 _ _).trans (feq hcp).1) ?_
    refine C.aloadN 15 d30_14 rfl rfl rfl ?_
    refine C.iloadN 16 d30_15 rfl rfl ?_
    refine C.iloadN 17 d30_16 rfl rfl ?_
    refine C.callS 20 (as := [.ref b, .int (0 : Int32), .int (Int32.ofNat k)]) (rest := []) (rm := ⟨4, 2, 24, 61⟩) 0 d30_17 rfl (tw 135) (tw 136) (tw 72) (tw 137) (by decide) (b3 l Z a0' hw hEL hSA h cpt SCP hcp SAD SHI SLO sf hsf SSF b cs k hn hch hk A) (by simp) pd31 rfl rfl (Nat.le_of_eq rfl) (by decide) (by decide) (by decide) (by decide) rfl ?_
    rintro v h1 ⟨d, rfl, gd, E1, B1⟩
    have z1 : Z.heap.size ≤ h1.size := Nat.le_trans z0 E1.1
    show W h1 [] 2 24 20 #[.val (.ref b), .val (.int (0 : Int32)), .val (.int (Int32.ofNat k)), .unset, .unset] [.ref d]
    refine C.astoreN 21 #[.val (.ref b), .val (.int (0 : Int32)), .val (.int (Int32.ofNat k)), .val (.ref d), .unset] d30_20 rfl rfl rfl ?_
    refine C.aloadN 22 d30_21 rfl rfl rfl ?_
    refine C.iloadN 23 d30_22 rfl rfl ?_
    refine C.callS 26 (as := [.ref d, .int (Int32.ofNat k)]) (rest := []) (rm := ⟨0, 0, 0, 0⟩) 0 d30_23 rfl (tw 153) (tw 97) (tw 72) (tw 98) (by decide) ((by have q := cfa l Z a0' hw hEL hSA h1 d (cs.take k) (by omega) (by omega) B1; rw [lk] at q; exact q)) (by simp) pd21 rfl rfl (Nat.le_of_eq rfl) (by decide) (by decide) (by decide) (by decide) rfl ?_
    refine same_intro ?_
    show W h1 [] 2 24 26 #[.val (.ref b), .val (.int (0 : Int32)), .val (.int (Int32.ofNat k)), .val (.ref d), .unset] [.int (cod (cs.take k))]
    refine C.istore 28 #[.val (.ref b), .val (.int (0 : Int32)), .val (.int (Int32.ofNat k)), .val (.ref d), .val (.int (cod (cs.take k)))] d30_26 rfl rfl ?_
    refine C.new 31 d30_28 rfl (tw 154) (tw 3) (tw 4) (by decide) (by decide) ?_
    intro h2 E2 X2 D2
    obtain ⟨b2, g2⟩ : ∃ z, z = h1.size := ⟨_, rfl⟩
    rw [← g2] at X2 ⊢
    rw [← g2] at D2
    have z2 : Z.heap.size ≤ h2.size := Nat.le_trans z1 E2.1
    have zb2 : Z.heap.size ≤ b2 := by rw [g2]; exact z1
    show W h2 [b2] 3 28 31 #[.val (.ref b), .val (.int (0 : Int32)), .val (.int (Int32.ofNat k)), .val (.ref d), .val (.int (cod (cs.take k)))] [.ref b2]
    have NV : Fld Z h2 b2 "java/lang/String" "value" "[B" .null := D2 (Or.inr (hw _ (tw 17))) (ty := (.array .byte)) (by decide)
    have NC : Fld Z h2 b2 "java/lang/String" "coder" "B" (.int (0 : Int32)) := D2 (Or.inr (hw _ (tw 18))) (ty := .byte) (by decide)
    have X := X2
    refine C.dup 32 d30_31 rfl rfl ?_
    refine C.aloadN 33 d30_32 rfl rfl rfl ?_
    refine C.iload 35 d30_33 rfl rfl ?_
    have nab : d ≠ b2 := by rw [g2]; exact Nat.ne_of_lt B1.lt
    refine C.callI 38 (a := b2) (as := [.ref d, .int (cod (cs.take k))]) (rest := [.ref b2]) (rm := ⟨1, 0, 0, 12⟩) 1 d30_35 rfl rfl rfl (tw 155) (tw 156) (tw 4) (tw 157) (by decide) (sib l Z a0' hw hEL hSA h2 b2 d (cs.take k) nab X NV NC (B1.ext E2)) (by simp) pd37 rfl rfl (Nat.le_of_eq rfl) (by decide) (by decide) (by decide) (by decide) rfl ?_
    rintro v h' ⟨rfl, K', T⟩
    show W h' [b2] 3 28 38 #[.val (.ref b), .val (.int (0 : Int32)), .val (.int (Int32.ofNat k)), .val (.ref d), .val (.int (cod (cs.take k)))] [.ref b2]
    have KK := (((Keep.refl h []).ext E1).ext E2).trans K' (fun y hy => Or.inr (by cases List.mem_singleton.mp hy; rw [g2]; exact E1.1))
    exact C.retA (.object "java/lang/String") d30_38 rfl rfl rfl (by decide) (by decide) ⟨b2, d, rfl, ⟨KK.1, fun y c q => KK.2.1 y c q nin0⟩, T⟩ (fun _ q => nomatch q)
theorem d8_0 : decode jdk_42_method_92_code 0 = .ok (.aload_n 0, 1) := by decide +kernel
theorem d8_1 : decode jdk_42_method_92_code 1 = .ok (.invokevirtual 505, 3) := by decide +kernel
theorem d8_4 : decode jdk_42_method_92_code 4 = .ok (.istore_n 3, 1) := by decide +kernel
theorem d8_5 : decode jdk_42_method_92_code 5 = .ok (.iload_n 1, 1) := by decide +kernel
theorem d8_6 : decode jdk_42_method_92_code 6 = .ok (.iload_n 2, 1) := by decide +kernel
theorem d8_7 : decode jdk_42_method_92_code 7 = .ok (.iload_n 3, 1) := by decide +kernel
theorem d8_8 : decode jdk_42_method_92_code 8 = .ok (.invokestatic 521, 3) := by decide +kernel
theorem d8_11 : decode jdk_42_method_92_code 11 = .ok (.iload_n 1, 1) := by decide +kernel
theorem d8_12 : decode jdk_42_method_92_code 12 = .ok (.ifCond .ne 10, 3) := by decide +kernel
theorem d8_15 : decode jdk_42_method_92_code 15 = .ok (.iload_n 2, 1) := by decide +kernel
theorem d8_16 : decode jdk_42_method_92_code 16 = .ok (.iload_n 3, 1) := by decide +kernel
theorem d8_17 : decode jdk_42_method_92_code 17 = .ok (.if_icmp .ne 5, 3) := by decide +kernel
theorem d8_20 : decode jdk_42_method_92_code 20 = .ok (.aload_n 0, 1) := by decide +kernel
theorem d8_21 : decode jdk_42_method_92_code 21 = .ok (.areturn, 1) := by decide +kernel
theorem d8_22 : decode jdk_42_method_92_code 22 = .ok (.iload_n 2, 1) := by decide +kernel
theorem d8_23 : decode jdk_42_method_92_code 23 = .ok (.iload_n 1, 1) := by decide +kernel
theorem d8_24 : decode jdk_42_method_92_code 24 = .ok (.isub, 1) := by decide +kernel
theorem d8_25 : decode jdk_42_method_92_code 25 = .ok (.istore 4, 2) := by decide +kernel
theorem d8_27 : decode jdk_42_method_92_code 27 = .ok (.aload_n 0, 1) := by decide +kernel
theorem d8_28 : decode jdk_42_method_92_code 28 = .ok (.invokevirtual 492, 3) := by decide +kernel
theorem d8_31 : decode jdk_42_method_92_code 31 = .ok (.ifCond .eq 16, 3) := by decide +kernel
theorem d8_34 : decode jdk_42_method_92_code 34 = .ok (.aload_n 0, 1) := by decide +kernel
theorem d8_35 : decode jdk_42_method_92_code 35 = .ok (.getfield 9, 3) := by decide +kernel
theorem d8_38 : decode jdk_42_method_92_code 38 = .ok (.iload_n 1, 1) := by decide +kernel
theorem d8_39 : decode jdk_42_method_92_code 39 = .ok (.iload 4, 2) := by decide +kernel
theorem d8_41 : decode jdk_42_method_92_code 41 = .ok (.invokestatic 685, 3) := by decide +kernel
theorem d8_44 : decode jdk_42_method_92_code 44 = .ok (.goto 13, 3) := by decide +kernel
theorem d8_47 : decode jdk_42_method_92_code 47 = .ok (.aload_n 0, 1) := by decide +kernel
theorem d8_48 : decode jdk_42_method_92_code 48 = .ok (.getfield 9, 3) := by decide +kernel
theorem d8_51 : decode jdk_42_method_92_code 51 = .ok (.iload_n 1, 1) := by decide +kernel
theorem d8_52 : decode jdk_42_method_92_code 52 = .ok (.iload 4, 2) := by decide +kernel
theorem d8_54 : decode jdk_42_method_92_code 54 = .ok (.invokestatic 689, 3) := by decide +kernel
theorem d8_57 : decode jdk_42_method_92_code 57 = .ok (.areturn, 1) := by decide +kernel
theorem pn8 : plainFor (⟨"java/lang/String", "substring", "(II)Ljava/lang/String;"⟩ : MethodName) = true := by first | exact plainFor_of_name (by first | (simp [plainName, overriddenIn]; done) | decide +kernel) | decide +kernel
theorem pd8 : parseMethodDescriptor "(II)Ljava/lang/String;" = some ⟨[.int, .int], some (.object "java/lang/String")⟩ := by decide +kernel
set_option maxRecDepth 65536 in
set_option maxHeartbeats 40000000 in
theorem sub (l : Launch) (Z : State) (a0' : Array Value) (hw : ∀ d ∈ tables_1, d.before a0' Z = true) (hEL : EW Z a0' EL0) (hSA : ∀ a ∈ Bundle.stringAtoms, a.before a0' Z = true) (h : Heap) (cpt : Int32) (SCP : Sta Z Z.heap "java/lang/String" "COMPACT_STRINGS" "Z" (.int cpt)) (hcp : ¬ cpt = 0) (SAD : Sta Z Z.heap "java/lang/StringUTF16" "$assertionsDisabled" "Z" (.int (1 : Int32))) (SHI : Sta Z Z.heap "java/lang/StringUTF16" "HI_BYTE_SHIFT" "I" (.int (0 : Int32))) (SLO : Sta Z Z.heap "java/lang/StringUTF16" "LO_BYTE_SHIFT" "I" (.int (8 : Int32))) (sf : Value) (hsf : sf.isRef = true) (SSF : Sta Z Z.heap "jdk/internal/util/Preconditions" "SIOOBE_FORMATTER" "Ljava/util/function/BiFunction;" sf) (a b : Addr) (cs : List Int32) (k : Nat) (hn : cs.length ≤ 8) (hch : ∀ c ∈ cs, Ch c) (hk : k ≤ cs.length) (T : Str Z h a b cs) :
    Con l Z EL0 (⟨"java/lang/String", "substring", "(II)Ljava/lang/String;"⟩ : MethodName) jdk_42_method_92_code 5 (some (.object "java/lang/String")) ⟨6, 3, 28, 94⟩ #[.ref a, .int 0, .int (Int32.ofNat k)] h [] (fun v h' => ∃ a' b', v = some (.ref a') ∧ Ext h h' ∧ Str Z h' a' b' (cs.take k)) (fun _ => []) := by
  refine Con.of (Ls := #[.val (.ref a), .val (.int (0 : Int32)), .val (.int (Int32.ofNat k)), .unset, .unset]) hw hEL pn8 (fun m => by first | (simp [entryFrame, mkF, argsToLocals, Value.category, maxLocals]; done) | rfl) fun W C => ?_
  refine C.kept fun hE => ?_
  have z0 : Z.heap.size ≤ h.size := hE.1
  refine C.aloadN 1 d8_0 rfl rfl rfl ?_
  refine C.callV 4 (as := []) (rest := []) (rm := ⟨1, 0, 0, 13⟩) 0 d8_1 rfl (tw 47) (tw 32) (tw 34) nfSelf (tw 33) (tw 4) (tw 35) (by decide) T.1 (sle l Z a0' hw hEL hSA h cpt SCP hcp SAD SHI SLO a b cs (by omega) T) (by simp) pd6 rfl rfl (Nat.le_of_eq rfl) (by decide) (by decide) (by decide) (by decide) rfl ?_
  refine same_intro ?_
  show W h [] 0 0 4 #[.val (.ref a), .val (.int (0 : Int32)), .val (.int (Int32.ofNat k)), .unset, .unset] [.int (Int32.ofNat cs.length)]
  refine C.istoreN 5 #[.val (.ref a), .val (.int (0 : Int32)), .val (.int (Int32.ofNat k)), .val (.int (Int32.ofNat cs.length)), .unset] d8_4 rfl rfl ?_
  refine C.iloadN 6 d8_5 rfl rfl ?_
  refine C.iloadN 7 d8_6 rfl rfl ?_
  refine C.iloadN 8 d8_7 rfl rfl ?_
  refine C.callS 11 (as := [.int (0 : Int32), .int (Int32.ofNat k), .int (Int32.ofNat cs.length)]) (rest := []) (rm := ⟨1, 0, 0, 15⟩) 0 d8_8 rfl (tw 48) (tw 49) (tw 4) (tw 50) (by decide) (cbe l Z a0' hw hEL hSA h k cs.length sf hsf SSF hk (by omega)) (by simp) pd9 rfl rfl (Nat.le_of_eq rfl) (by decide) (by decide) (by decide) (by decide) rfl ?_
  refine same_intro ?_
  show W h [] 0 0 11 #[.val (.ref a), .val (.int (0 : Int32)), .val (.int (Int32.ofNat k)), .val (.int (Int32.ofNat cs.length)), .unset] []
  refine C.iloadN 12 d8_11 rfl rfl ?_
  refine C.ifF 15 d8_12 rfl (by decide) ?_
  refine C.iloadN 16 d8_15 rfl rfl ?_
  refine C.iloadN 17 d8_16 rfl rfl ?_
  by_cases hq : k = cs.length
  · have q : Int32.ofNat k = Int32.ofNat cs.length := by rw [hq]
    refine C.icmpF 20 d8_17 rfl (teq q).2 ?_
    refine C.aloadN 21 d8_20 rfl rfl rfl ?_
    exact C.retA (.object "java/lang/String") d8_21 rfl rfl rfl (by decide) (by decide) ⟨a, b, rfl, ⟨Nat.le_refl _, fun _ _ q => q⟩, by rw [hq, List.take_length]; exact T⟩ (fun _ q => nomatch q)
  · have q : ¬ Int32.ofNat k = Int32.ofNat cs.length := fun z => hq (o_inj (by omega) (by omega) z)
    refine C.icmpT 22 d8_17 rfl (feq q).2 ?_
    refine C.iloadN 23 d8_22 rfl rfl ?_
    refine C.iloadN 24 d8_23 rfl rfl ?_
    refine C.isub 25 d8_24 rfl ?_
    rw [Int32.sub_zero]
    refine C.istore 27 #[.val (.ref a), .val (.int (0 : Int32)), .val (.int (Int32.ofNat k)), .val (.int (Int32.ofNat cs.length)), .val (.int (Int32.ofNat k))] d8_25 rfl rfl ?_
    refine C.aloadN 28 d8_27 rfl rfl rfl ?_
    refine C.callV 31 (as := []) (rest := []) (rm := ⟨0, 0, 0, 0⟩) 0 d8_28 rfl (tw 104) (tw 105) (tw 107) nfSelf (tw 106) (tw 4) (tw 108) (by decide) T.1 (sil l Z a0' hw hEL hSA h cpt SCP hcp SAD SHI SLO a b cs T) (by simp) pd23 rfl rfl (Nat.le_of_eq rfl) (by decide) (by decide) (by decide) (by decide) rfl ?_
    refine same_intro ?_
    show W h [] 0 0 31 #[.val (.ref a), .val (.int (0 : Int32)), .val (.int (Int32.ofNat k)), .val (.int (Int32.ofNat cs.length)), .val (.int (Int32.ofNat k))] [.int (if lat cs then 1 else 0)]
    have B := T.2.2.2
    by_cases hl : lat cs
    · rw [if_pos hl]
      rw [enc_l hl] at B
      refine C.ifF 34 d8_31 rfl (by decide) ?_
      refine C.aloadN 35 d8_34 rfl rfl rfl ?_
      refine C.getfield 38 d8_35 rfl (tw 21) Via.refl T.2.1 ?_
      refine C.iloadN 39 d8_38 rfl rfl ?_
      refine C.iload 41 d8_39 rfl rfl ?_
      refine C.callS 44 (as := [.ref b, .int (0 : Int32), .int (Int32.ofNat k)]) (rest := []) (rm := ⟨3, 2, 20, 50⟩) 0 d8_41 rfl (tw 184) (tw 185) (tw 165) (tw 186) (by decide) (lns l Z a0' hw hEL hSA h b cs k (by omega) hl (by omega) B) (by simp) pd44 rfl rfl (Nat.le_of_eq rfl) (by decide) (by decide) (by decide) (by decide) rfl ?_
      rintro v h1 ⟨a', b', rfl, E1, T1⟩
      show W h1 [] 2 20 44 #[.val (.ref a), .val (.int (0 : Int32)), .val (.int (Int32.ofNat k)), .val (.int (Int32.ofNat cs.length)), .val (.int (Int32.ofNat k))] [.ref a']
      refine C.goto 57 d8_44 rfl ?_
      exact C.retA (.object "java/lang/String") d8_57 rfl rfl rfl (by decide) (by decide) ⟨a', b', rfl, E1, T1⟩ (fun _ q => nomatch q)
    · rw [if_neg hl]
      rw [enc_u hl] at B
      refine C.ifT 47 d8_31 rfl (by decide) ?_
      refine C.aloadN 48 d8_47 rfl rfl rfl ?_
      refine C.getfield 51 d8_48 rfl (tw 21) Via.refl T.2.1 ?_
      refine C.iloadN 52 d8_51 rfl rfl ?_
      refine C.iload 54 d8_52 rfl rfl ?_
      refine C.callS 57 (as := [.ref b, .int (0 : Int32), .int (Int32.ofNat k)]) (rest := []) (rm := ⟨5, 3, 28, 78⟩) 0 d8_54 rfl (tw 131) (tw 132) (tw 72) (tw 133) (by decide) (uns l Z a0' hw hEL hSA h cpt SCP hcp SAD SHI SLO sf hsf SSF b cs k hn hch (by omega) B) (by simp) pd30 rfl rfl (Nat.le_of_eq rfl) (by decide) (by decide) (by decide) (by decide) rfl ?_
      rintro v h1 ⟨a', b', rfl, E1, T1⟩
      show W h1 [] 3 28 57 #[.val (.ref a), .val (.int (0 : Int32)), .val (.int (Int32.ofNat k)), .val (.int (Int32.ofNat cs.length)), .val (.int (Int32.ofNat k))] [.ref a']
      exact C.retA (.object "java/lang/String") d8_57 rfl rfl rfl (by decide) (by decide) ⟨a', b', rfl, E1, T1⟩ (fun _ q => nomatch q)
def flat : List (List Int32 × Nat) → List Int32
  | [] => []
  | g :: gs => g.1 ++ flat gs
theorem flat_app : ∀ as bs : List (List Int32 × Nat), flat (as ++ bs) = flat as ++ flat bs
  | [], _ => rfl
  | g :: as, bs => by show g.1 ++ flat (as ++ bs) = g.1 ++ flat as ++ flat bs; rw [flat_app as bs, List.append_assoc]
theorem flat_snoc (as : List (List Int32 × Nat)) (g : List Int32 × Nat) : (flat (as ++ [g])).length = (flat as).length + g.1.length := by
  rw [flat_app, List.length_append]; show _ + (g.1 ++ []).length = _; rw [List.append_nil]
def cut (M : Int32) : Nat → List (List Int32 × Nat) → Nat
  | _, [] => 0
  | u, g :: gs => if M < Int32.ofNat (u + g.2) then 0 else g.1.length + cut M (u + g.2) gs
theorem cut_nil (M : Int32) (u : Nat) : cut M u [] = 0 := rfl
theorem cut_y {M : Int32} {u : Nat} {g : List Int32 × Nat} {gs : List (List Int32 × Nat)} (p : M < Int32.ofNat (u + g.2)) : cut M u (g :: gs) = 0 := if_pos p
theorem cut_n {M : Int32} {u : Nat} {g : List Int32 × Nat} {gs : List (List Int32 × Nat)} (p : ¬ M < Int32.ofNat (u + g.2)) : cut M u (g :: gs) = g.1.length + cut M (u + g.2) gs := if_neg p
theorem cut_le (M : Int32) : ∀ (gs : List (List Int32 × Nat)) (u : Nat), cut M u gs ≤ (flat gs).length
  | [], u => Nat.le_refl _
  | g :: gs, u => by
    have q := cut_le M gs (u + g.2)
    have e : (flat (g :: gs)).length = g.1.length + (flat gs).length := by show (g.1 ++ flat gs).length = _; rw [List.length_append]
    by_cases p : M < Int32.ofNat (u + g.2)
    · rw [cut_y p]; exact Nat.zero_le _
    · rw [cut_n p, e]; omega
def W1 (c : Int32) (z : Nat) : Prop := Ch c ∧ ¬ hiS c ∧ ((z = 1 ∧ c < 128) ∨ (z = 2 ∧ ¬ c < 128 ∧ c < 2048) ∨ (z = 3 ∧ ¬ c < 128 ∧ ¬ c < 2048))
def W2 (c d : Int32) (z : Nat) : Prop := Ch c ∧ Ch d ∧ hiS c ∧ loS d ∧ z = 4
def Wf (g : List Int32 × Nat) : Prop := (∃ c, g.1 = [c] ∧ W1 c g.2) ∨ ∃ c d, g.1 = [c, d] ∧ W2 c d g.2
theorem Wf.pos {g : List Int32 × Nat} (w : Wf g) : g.1.length ≠ 0 := by rcases w with ⟨c, e, -⟩ | ⟨c, d, e, -⟩ <;> rw [e] <;> simp
theorem flat_ch : ∀ gs : List (List Int32 × Nat), (∀ g ∈ gs, Wf g) → ∀ c ∈ flat gs, Ch c
  | [], _, c, hc => nomatch hc
  | g :: gs, hg, c, hc => by
    rcases List.mem_append.mp (show c ∈ g.1 ++ flat gs from hc) with hc | hc
    · rcases hg g (by simp) with ⟨x, e, w⟩ | ⟨x, y, e, w⟩
      · rw [e] at hc; rw [List.mem_singleton.mp hc]; exact w.1
      · rw [e] at hc; simp only [List.mem_cons, List.not_mem_nil, or_false] at hc
        rcases hc with rfl | rfl
        · exact w.1
        · exact w.2.1
    · exact flat_ch gs (fun x hx => hg x (List.mem_cons_of_mem _ hx)) c hc
theorem e128 : (128 : Int32).toInt = 128 := rfl
theorem e2048 : (2048 : Int32).toInt = 2048 := rfl
theorem e65536 : (65536 : Int32).toInt = 65536 := rfl
theorem e55296 : (55296 : Int32).toInt = 55296 := rfl
theorem e56320 : (56320 : Int32).toInt = 56320 := rfl
theorem e57344 : (57344 : Int32).toInt = 57344 := rfl
theorem ch_lt {c : Int32} (h : Ch c) : c < 65536 := by rw [Int32.lt_iff_toInt_lt, e65536]; exact h.2
theorem tc_big {c d : Int32} (h : hiS c) (k : loS d) : ¬ tc c d < 128 ∧ ¬ tc c d < 2048 ∧ ¬ tc c d < 65536 := by
  obtain ⟨h1, h2⟩ := h
  obtain ⟨k1, k2⟩ := k
  rw [Int32.lt_iff_toInt_lt] at h1 h2 k1 k2
  rw [e55296] at h1
  rw [e56320] at h2 k1
  rw [e57344] at k2
  have s := c_ishl c (10 : Int32) 10 (by decide)
  have r := rng32 (c <<< ((10 : Int32) &&& 31))
  have a := c_iadd (c <<< ((10 : Int32) &&& 31)) d
  have r2 := rng32 (c <<< ((10 : Int32) &&& 31) + d)
  have b := c_iadd (c <<< ((10 : Int32) &&& 31) + d) (-56613888 : Int32)
  have e : (-56613888 : Int32).toInt = -56613888 := rfl
  have t : (tc c d).toInt = (c <<< ((10 : Int32) &&& 31) + d + (-56613888 : Int32)).toInt := rfl
  have r3 := rng32 (c <<< ((10 : Int32) &&& 31) + d + (-56613888 : Int32))
  rw [e] at b
  refine ⟨?_, ?_, ?_⟩ <;> rw [Int32.lt_iff_toInt_lt] <;> simp only [e128, e2048, e65536, t] <;> omega
theorem d5_0 : decode prog_10_method_6_code 0 = .ok (.iconst 0, 1) := by decide +kernel
theorem d5_1 : decode prog_10_method_6_code 1 = .ok (.istore_n 2, 1) := by decide +kernel
theorem d5_2 : decode prog_10_method_6_code 2 = .ok (.iconst 0, 1) := by decide +kernel
theorem d5_3 : decode prog_10_method_6_code 3 = .ok (.istore_n 3, 1) := by decide +kernel
theorem d5_4 : decode prog_10_method_6_code 4 = .ok (.iload_n 3, 1) := by decide +kernel
theorem d5_5 : decode prog_10_method_6_code 5 = .ok (.aload_n 0, 1) := by decide +kernel
theorem d5_6 : decode prog_10_method_6_code 6 = .ok (.invokevirtual 59, 3) := by decide +kernel
theorem d5_9 : decode prog_10_method_6_code 9 = .ok (.if_icmp .ge 68, 3) := by decide +kernel
theorem d5_12 : decode prog_10_method_6_code 12 = .ok (.aload_n 0, 1) := by decide +kernel
theorem d5_13 : decode prog_10_method_6_code 13 = .ok (.iload_n 3, 1) := by decide +kernel
theorem d5_14 : decode prog_10_method_6_code 14 = .ok (.invokevirtual 62, 3) := by decide +kernel
theorem d5_17 : decode prog_10_method_6_code 17 = .ok (.istore 4, 2) := by decide +kernel
theorem d5_19 : decode prog_10_method_6_code 19 = .ok (.iload_n 2, 1) := by decide +kernel
theorem d5_20 : decode prog_10_method_6_code 20 = .ok (.iload 4, 2) := by decide +kernel
theorem d5_22 : decode prog_10_method_6_code 22 = .ok (.sipush 128, 3) := by decide +kernel
theorem d5_25 : decode prog_10_method_6_code 25 = .ok (.if_icmp .ge 7, 3) := by decide +kernel
theorem d5_28 : decode prog_10_method_6_code 28 = .ok (.iconst 1, 1) := by decide +kernel
theorem d5_29 : decode prog_10_method_6_code 29 = .ok (.goto 27, 3) := by decide +kernel
theorem d5_32 : decode prog_10_method_6_code 32 = .ok (.iload 4, 2) := by decide +kernel
theorem d5_34 : decode prog_10_method_6_code 34 = .ok (.sipush 2048, 3) := by decide +kernel
theorem d5_37 : decode prog_10_method_6_code 37 = .ok (.if_icmp .ge 7, 3) := by decide +kernel
theorem d5_40 : decode prog_10_method_6_code 40 = .ok (.iconst 2, 1) := by decide +kernel
theorem d5_41 : decode prog_10_method_6_code 41 = .ok (.goto 15, 3) := by decide +kernel
theorem d5_44 : decode prog_10_method_6_code 44 = .ok (.iload 4, 2) := by decide +kernel
theorem d5_46 : decode prog_10_method_6_code 46 = .ok (.ldc 66, 2) := by decide +kernel
theorem d5_48 : decode prog_10_method_6_code 48 = .ok (.if_icmp .ge 7, 3) := by decide +kernel
theorem d5_51 : decode prog_10_method_6_code 51 = .ok (.iconst 3, 1) := by decide +kernel
theorem d5_52 : decode prog_10_method_6_code 52 = .ok (.goto 4, 3) := by decide +kernel
theorem d5_55 : decode prog_10_method_6_code 55 = .ok (.iconst 4, 1) := by decide +kernel
theorem d5_56 : decode prog_10_method_6_code 56 = .ok (.iadd, 1) := by decide +kernel
theorem d5_57 : decode prog_10_method_6_code 57 = .ok (.istore_n 2, 1) := by decide +kernel
theorem d5_58 : decode prog_10_method_6_code 58 = .ok (.iload_n 2, 1) := by decide +kernel
theorem d5_59 : decode prog_10_method_6_code 59 = .ok (.iload_n 1, 1) := by decide +kernel
theorem d5_60 : decode prog_10_method_6_code 60 = .ok (.if_icmp .le 6, 3) := by decide +kernel
theorem d5_63 : decode prog_10_method_6_code 63 = .ok (.goto 14, 3) := by decide +kernel
theorem d5_66 : decode prog_10_method_6_code 66 = .ok (.iload_n 3, 1) := by decide +kernel
theorem d5_67 : decode prog_10_method_6_code 67 = .ok (.iload 4, 2) := by decide +kernel
theorem d5_69 : decode prog_10_method_6_code 69 = .ok (.invokestatic 67, 3) := by decide +kernel
theorem d5_72 : decode prog_10_method_6_code 72 = .ok (.iadd, 1) := by decide +kernel
theorem d5_73 : decode prog_10_method_6_code 73 = .ok (.istore_n 3, 1) := by decide +kernel
theorem d5_74 : decode prog_10_method_6_code 74 = .ok (.goto (-70), 3) := by decide +kernel
theorem d5_77 : decode prog_10_method_6_code 77 = .ok (.aload_n 0, 1) := by decide +kernel
theorem d5_78 : decode prog_10_method_6_code 78 = .ok (.iconst 0, 1) := by decide +kernel
theorem d5_79 : decode prog_10_method_6_code 79 = .ok (.iload_n 3, 1) := by decide +kernel
theorem d5_80 : decode prog_10_method_6_code 80 = .ok (.invokevirtual 72, 3) := by decide +kernel
theorem d5_83 : decode prog_10_method_6_code 83 = .ok (.areturn, 1) := by decide +kernel
theorem pn5 : plainFor (⟨"com/example/goneish/goneish/NameRule", "cutToUtf8Bytes", "(Ljava/lang/String;I)Ljava/lang/String;"⟩ : MethodName) = true := by first | exact plainFor_of_name (by first | (simp [plainName, overriddenIn]; done) | decide +kernel) | decide +kernel
theorem pd5 : parseMethodDescriptor "(Ljava/lang/String;I)Ljava/lang/String;" = some ⟨[(.object "java/lang/String"), .int], some (.object "java/lang/String")⟩ := by decide +kernel
set_option maxRecDepth 65536 in
set_option maxHeartbeats 40000000 in
theorem cut_loop {W : Wk} {l : Launch} {Z : State} {a0' : Array Value} {Q : Option Value → Heap → Prop} (C : Walk W l Z a0' tables_1 EL0 "com/example/goneish/goneish/NameRule" prog_10_method_6_code 5 (some (.object "java/lang/String")) "cutToUtf8Bytes" ⟨7, 3, 28, 110⟩ Q (fun _ => [])) (hw : ∀ d ∈ tables_1, d.before a0' Z = true) (hEL : EW Z a0' EL0) (hSA : ∀ a ∈ Bundle.stringAtoms, a.before a0' Z = true) (cpt : Int32) (SCP : Sta Z Z.heap "java/lang/String" "COMPACT_STRINGS" "Z" (.int cpt)) (hcp : ¬ cpt = 0) (SAD : Sta Z Z.heap "java/lang/StringUTF16" "$assertionsDisabled" "Z" (.int (1 : Int32))) (SHI : Sta Z Z.heap "java/lang/StringUTF16" "HI_BYTE_SHIFT" "I" (.int (0 : Int32))) (SLO : Sta Z Z.heap "java/lang/StringUTF16" "LO_BYTE_SHIFT" "I" (.int (8 : Int32))) (sf : Value) (hsf : sf.isRef = true) (SSF : Sta Z Z.heap "jdk/internal/util/Preconditions" "SIOOBE_FORMATTER" "Ljava/util/function/BiFunction;" sf) (M : Int32) (a b : Addr) (h : Heap) (gs : List (List Int32 × Nat)) (hg : ∀ g ∈ gs, Wf g) (hn : (flat gs).length ≤ 8) (T : Str Z h a b (flat gs)) :
    ∀ (rest pre : List (List Int32 × Nat)) (u : Nat) (s4 : Slot), gs = pre ++ rest → (s4 = .unset ∨ ∃ w : Value, s4 = .val w ∧ w.category = 1) → (∀ (s2 : Int32) (s4' : Slot), W h [] 0 0 77 #[.val (.ref a), .val (.int M), .val (.int s2), .val (.int (Int32.ofNat ((flat pre).length + cut M u rest))), s4'] []) → W h [] 0 0 4 #[.val (.ref a), .val (.int M), .val (.int (Int32.ofNat u)), .val (.int (Int32.ofNat (flat pre).length)), s4] []
  | [], pre, u, s4, e, h4, K => by
    have e' : gs = pre := by rw [e, List.append_nil]
    subst e'
    show W h [] 0 0 4 #[.val (.ref a), .val (.int M), .val (.int (Int32.ofNat u)), .val (.int (Int32.ofNat (flat gs).length)), s4] []
    have q : ¬ Int32.ofNat (flat gs).length < Int32.ofNat (flat gs).length := Int32.lt_irrefl
    refine C.iloadN 5 d5_4 rfl rfl ?_
    refine C.aloadN 6 d5_5 rfl rfl rfl ?_
    refine C.callV 9 (as := []) (rest := [.int (Int32.ofNat (flat gs).length)]) (rm := ⟨1, 0, 0, 13⟩) 1 d5_6 rfl (tw 31) (tw 32) (tw 34) nfSelf (tw 33) (tw 4) (tw 35) (by decide) T.1 (sle l Z a0' hw hEL hSA h cpt SCP hcp SAD SHI SLO a b (flat gs) (by omega) T) (by simp) pd6 rfl rfl (Nat.le_of_eq rfl) (by decide) (by decide) (by decide) (by decide) rfl ?_
    refine same_intro ?_
    show W h [] 0 0 9 #[.val (.ref a), .val (.int M), .val (.int (Int32.ofNat u)), .val (.int (Int32.ofNat (flat gs).length)), s4] [.int (Int32.ofNat (flat gs).length), .int (Int32.ofNat (flat gs).length)]
    refine C.icmpT 77 d5_9 rfl (flt q).2.1 ?_
    exact K (Int32.ofNat u) s4
  | g :: rest, pre, u, s4, e, h4, K => by
    have hgm : Wf g := hg g (by rw [e]; simp)
    have hfl : flat gs = flat pre ++ (g.1 ++ flat rest) := by rw [e, flat_app]; rfl
    have hlen : (flat gs).length = (flat pre).length + (g.1.length + (flat rest).length) := by rw [hfl]; simp
    have hpos := hgm.pos
    have q : Int32.ofNat (flat pre).length < Int32.ofNat (flat gs).length := (o_lt (by omega) (by omega)).mpr (by omega)
    refine C.iloadN 5 d5_4 rfl rfl ?_
    refine C.aloadN 6 d5_5 rfl rfl rfl ?_
    refine C.callV 9 (as := []) (rest := [.int (Int32.ofNat (flat pre).length)]) (rm := ⟨1, 0, 0, 13⟩) 1 d5_6 rfl (tw 31) (tw 32) (tw 34) nfSelf (tw 33) (tw 4) (tw 35) (by decide) T.1 (sle l Z a0' hw hEL hSA h cpt SCP hcp SAD SHI SLO a b (flat gs) (by omega) T) (by simp) pd6 rfl rfl (Nat.le_of_eq rfl) (by decide) (by decide) (by decide) (by decide) rfl ?_
    refine same_intro ?_
    show W h [] 0 0 9 #[.val (.ref a), .val (.int M), .val (.int (Int32.ofNat u)), .val (.int (Int32.ofNat (flat pre).length)), s4] [.int (Int32.ofNat (flat gs).length), .int (Int32.ofNat (flat pre).length)]
    refine C.icmpF 12 d5_9 rfl (tlt q).2.1 ?_
    refine C.aloadN 13 d5_12 rfl rfl rfl ?_
    refine C.iloadN 14 d5_13 rfl rfl ?_
    rcases hgm with ⟨c, hc1, hW⟩ | ⟨c, d, hc1, hW⟩
    · have hi : (flat gs)[(flat pre).length]? = some c := by rw [hfl, hc1]; simp
      refine C.callV 17 (as := [.int (Int32.ofNat (flat pre).length)]) (rest := []) (rm := ⟨3, 0, 0, 44⟩) 0 d5_14 rfl (tw 99) (tw 100) (tw 102) nfSelf (tw 101) (tw 4) (tw 103) (by decide) T.1 (scp1 l Z a0' hw hEL hSA h cpt SCP hcp SAD SHI SLO sf hsf SSF a b (flat gs) (flat pre).length c (by omega) hi hW.1 hW.2.1 T) (by simp) pd22 rfl rfl (Nat.le_of_eq rfl) (by decide) (by decide) (by decide) (by decide) rfl ?_
      refine same_intro ?_
      show W h [] 0 0 17 #[.val (.ref a), .val (.int M), .val (.int (Int32.ofNat u)), .val (.int (Int32.ofNat (flat pre).length)), s4] [.int c]
      refine C.istore 19 #[.val (.ref a), .val (.int M), .val (.int (Int32.ofNat u)), .val (.int (Int32.ofNat (flat pre).length)), .val (.int c)] d5_17 rfl (XS.store1 rfl h4 rfl) ?_
      refine C.iloadN 20 d5_19 rfl rfl ?_
      refine C.iload 22 d5_20 rfl rfl ?_
      refine C.sipush 25 (128 : Int32) d5_22 rfl rfl ?_
      rcases hW.2.2 with ⟨hz, p1⟩ | ⟨hz, p1, p2⟩ | ⟨hz, p1, p2⟩
      · refine C.icmpF 28 d5_25 rfl (tlt p1).2.1 ?_
        refine C.iconst 29 (1 : Int32) d5_28 rfl rfl ?_
        refine C.goto 56 d5_29 rfl ?_
        have e1 : Int32.ofNat u + (1 : Int32) = Int32.ofNat (u + g.2) := by rw [hz]; exact o_add u 1
        refine C.iadd 57 d5_56 rfl ?_
        rw [e1]
        refine C.istoreN 58 #[.val (.ref a), .val (.int M), .val (.int (Int32.ofNat (u + g.2))), .val (.int (Int32.ofNat (flat pre).length)), .val (.int c)] d5_57 rfl rfl ?_
        refine C.iloadN 59 d5_58 rfl rfl ?_
        refine C.iloadN 60 d5_59 rfl rfl ?_
        by_cases hM : M < Int32.ofNat (u + g.2)
        · refine C.icmpF 63 d5_60 rfl (tlt hM).2.2.2 ?_
          refine C.goto 77 d5_63 rfl ?_
          have k0 : (flat pre).length + cut M u (g :: rest) = (flat pre).length := by rw [cut_y hM]; rfl
          have K' := K (Int32.ofNat (u + g.2)) (.val (.int c))
          rw [k0] at K'
          exact K'
        · refine C.icmpT 66 d5_60 rfl (flt hM).2.2.2 ?_
          refine C.iloadN 67 d5_66 rfl rfl ?_
          refine C.iload 69 d5_67 rfl rfl ?_
          refine C.callS 72 (as := [.int c]) (rest := [.int (Int32.ofNat (flat pre).length)]) (rm := ⟨0, 0, 0, 0⟩) 1 d5_69 rfl (tw 126) (tw 127) (tw 123) (tw 128) (by decide) (cct l Z a0' hw hEL hSA h c 1 (by rw [if_pos (ch_lt hW.1)])) (by simp) pd29 rfl rfl (Nat.le_of_eq rfl) (by decide) (by decide) (by decide) (by decide) rfl ?_
          refine same_intro ?_
          show W h [] 0 0 72 #[.val (.ref a), .val (.int M), .val (.int (Int32.ofNat (u + g.2))), .val (.int (Int32.ofNat (flat pre).length)), .val (.int c)] [.int (1 : Int32), .int (Int32.ofNat (flat pre).length)]
          refine C.iadd 73 d5_72 rfl ?_
          have e2 : Int32.ofNat (flat pre).length + (1 : Int32) = Int32.ofNat (flat (pre ++ [g])).length := by rw [flat_snoc, hc1]; exact o_add _ 1
          rw [e2]
          refine C.istoreN 74 #[.val (.ref a), .val (.int M), .val (.int (Int32.ofNat (u + g.2))), .val (.int (Int32.ofNat (flat (pre ++ [g])).length)), .val (.int c)] d5_73 rfl rfl ?_
          refine C.goto 4 d5_74 rfl ?_
          refine cut_loop C hw hEL hSA cpt SCP hcp SAD SHI SLO sf hsf SSF M a b h gs hg hn T rest (pre ++ [g]) (u + g.2) _ (by rw [e]; simp) (Or.inr ⟨_, rfl, rfl⟩) (fun s2 s4' => ?_)
          have k0 : (flat pre).length + cut M u (g :: rest) = (flat (pre ++ [g])).length + cut M (u + g.2) rest := by rw [cut_n hM, flat_snoc]; omega
          have K' := K s2 s4'
          rw [k0] at K'
          exact K'
      · refine C.icmpT 32 d5_25 rfl (flt p1).2.1 ?_
        refine C.iload 34 d5_32 rfl rfl ?_
        refine C.sipush 37 (2048 : Int32) d5_34 rfl rfl ?_
        refine C.icmpF 40 d5_37 rfl (tlt p2).2.1 ?_
        refine C.iconst 41 (2 : Int32) d5_40 rfl rfl ?_
        refine C.goto 56 d5_41 rfl ?_
        have e1 : Int32.ofNat u + (2 : Int32) = Int32.ofNat (u + g.2) := by rw [hz]; exact o_add u 2
        refine C.iadd 57 d5_56 rfl ?_
        rw [e1]
        refine C.istoreN 58 #[.val (.ref a), .val (.int M), .val (.int (Int32.ofNat (u + g.2))), .val (.int (Int32.ofNat (flat pre).length)), .val (.int c)] d5_57 rfl rfl ?_
        refine C.iloadN 59 d5_58 rfl rfl ?_
        refine C.iloadN 60 d5_59 rfl rfl ?_
        by_cases hM : M < Int32.ofNat (u + g.2)
        · refine C.icmpF 63 d5_60 rfl (tlt hM).2.2.2 ?_
          refine C.goto 77 d5_63 rfl ?_
          have k0 : (flat pre).length + cut M u (g :: rest) = (flat pre).length := by rw [cut_y hM]; rfl
          have K' := K (Int32.ofNat (u + g.2)) (.val (.int c))
          rw [k0] at K'
          exact K'
        · refine C.icmpT 66 d5_60 rfl (flt hM).2.2.2 ?_
          refine C.iloadN 67 d5_66 rfl rfl ?_
          refine C.iload 69 d5_67 rfl rfl ?_
          refine C.callS 72 (as := [.int c]) (rest := [.int (Int32.ofNat (flat pre).length)]) (rm := ⟨0, 0, 0, 0⟩) 1 d5_69 rfl (tw 126) (tw 127) (tw 123) (tw 128) (by decide) (cct l Z a0' hw hEL hSA h c 1 (by rw [if_pos (ch_lt hW.1)])) (by simp) pd29 rfl rfl (Nat.le_of_eq rfl) (by decide) (by decide) (by decide) (by decide) rfl ?_
          refine same_intro ?_
          show W h [] 0 0 72 #[.val (.ref a), .val (.int M), .val (.int (Int32.ofNat (u + g.2))), .val (.int (Int32.ofNat (flat pre).length)), .val (.int c)] [.int (1 : Int32), .int (Int32.ofNat (flat pre).length)]
          refine C.iadd 73 d5_72 rfl ?_
          have e2 : Int32.ofNat (flat pre).length + (1 : Int32) = Int32.ofNat (flat (pre ++ [g])).length := by rw [flat_snoc, hc1]; exact o_add _ 1
          rw [e2]
          refine C.istoreN 74 #[.val (.ref a), .val (.int M), .val (.int (Int32.ofNat (u + g.2))), .val (.int (Int32.ofNat (flat (pre ++ [g])).length)), .val (.int c)] d5_73 rfl rfl ?_
          refine C.goto 4 d5_74 rfl ?_
          refine cut_loop C hw hEL hSA cpt SCP hcp SAD SHI SLO sf hsf SSF M a b h gs hg hn T rest (pre ++ [g]) (u + g.2) _ (by rw [e]; simp) (Or.inr ⟨_, rfl, rfl⟩) (fun s2 s4' => ?_)
          have k0 : (flat pre).length + cut M u (g :: rest) = (flat (pre ++ [g])).length + cut M (u + g.2) rest := by rw [cut_n hM, flat_snoc]; omega
          have K' := K s2 s4'
          rw [k0] at K'
          exact K'
      · refine C.icmpT 32 d5_25 rfl (flt p1).2.1 ?_
        refine C.iload 34 d5_32 rfl rfl ?_
        refine C.sipush 37 (2048 : Int32) d5_34 rfl rfl ?_
        refine C.icmpT 44 d5_37 rfl (flt p2).2.1 ?_
        refine C.iload 46 d5_44 rfl rfl ?_
        refine C.ldc 48 (65536 : Int32) d5_46 rfl (tw 130) ?_
        refine C.icmpF 51 d5_48 rfl (tlt (ch_lt hW.1)).2.1 ?_
        refine C.iconst 52 (3 : Int32) d5_51 rfl rfl ?_
        refine C.goto 56 d5_52 rfl ?_
        have e1 : Int32.ofNat u + (3 : Int32) = Int32.ofNat (u + g.2) := by rw [hz]; exact o_add u 3
        refine C.iadd 57 d5_56 rfl ?_
        rw [e1]
        refine C.istoreN 58 #[.val (.ref a), .val (.int M), .val (.int (Int32.ofNat (u + g.2))), .val (.int (Int32.ofNat (flat pre).length)), .val (.int c)] d5_57 rfl rfl ?_
        refine C.iloadN 59 d5_58 rfl rfl ?_
        refine C.iloadN 60 d5_59 rfl rfl ?_
        by_cases hM : M < Int32.ofNat (u + g.2)
        · refine C.icmpF 63 d5_60 rfl (tlt hM).2.2.2 ?_
          refine C.goto 77 d5_63 rfl ?_
          have k0 : (flat pre).length + cut M u (g :: rest) = (flat pre).length := by rw [cut_y hM]; rfl
          have K' := K (Int32.ofNat (u + g.2)) (.val (.int c))
          rw [k0] at K'
          exact K'
        · refine C.icmpT 66 d5_60 rfl (flt hM).2.2.2 ?_
          refine C.iloadN 67 d5_66 rfl rfl ?_
          refine C.iload 69 d5_67 rfl rfl ?_
          refine C.callS 72 (as := [.int c]) (rest := [.int (Int32.ofNat (flat pre).length)]) (rm := ⟨0, 0, 0, 0⟩) 1 d5_69 rfl (tw 126) (tw 127) (tw 123) (tw 128) (by decide) (cct l Z a0' hw hEL hSA h c 1 (by rw [if_pos (ch_lt hW.1)])) (by simp) pd29 rfl rfl (Nat.le_of_eq rfl) (by decide) (by decide) (by decide) (by decide) rfl ?_
          refine same_intro ?_
          show W h [] 0 0 72 #[.val (.ref a), .val (.int M), .val (.int (Int32.ofNat (u + g.2))), .val (.int (Int32.ofNat (flat pre).length)), .val (.int c)] [.int (1 : Int32), .int (Int32.ofNat (flat pre).length)]
          refine C.iadd 73 d5_72 rfl ?_
          have e2 : Int32.ofNat (flat pre).length + (1 : Int32) = Int32.ofNat (flat (pre ++ [g])).length := by rw [flat_snoc, hc1]; exact o_add _ 1
          rw [e2]
          refine C.istoreN 74 #[.val (.ref a), .val (.int M), .val (.int (Int32.ofNat (u + g.2))), .val (.int (Int32.ofNat (flat (pre ++ [g])).length)), .val (.int c)] d5_73 rfl rfl ?_
          refine C.goto 4 d5_74 rfl ?_
          refine cut_loop C hw hEL hSA cpt SCP hcp SAD SHI SLO sf hsf SSF M a b h gs hg hn T rest (pre ++ [g]) (u + g.2) _ (by rw [e]; simp) (Or.inr ⟨_, rfl, rfl⟩) (fun s2 s4' => ?_)
          have k0 : (flat pre).length + cut M u (g :: rest) = (flat (pre ++ [g])).length + cut M (u + g.2) rest := by rw [cut_n hM, flat_snoc]; omega
          have K' := K s2 s4'
          rw [k0] at K'
          exact K'
    · have hi : (flat gs)[(flat pre).length]? = some c := by rw [hfl, hc1]; simp
      have hj : (flat gs)[(flat pre).length + 1]? = some d := by rw [hfl, hc1]; simp
      obtain ⟨w1, w2, w3, w4, hz⟩ := hW
      have hbig := tc_big w3 w4
      refine C.callV 17 (as := [.int (Int32.ofNat (flat pre).length)]) (rest := []) (rm := ⟨3, 0, 0, 44⟩) 0 d5_14 rfl (tw 99) (tw 100) (tw 102) nfSelf (tw 101) (tw 4) (tw 103) (by decide) T.1 (scp2 l Z a0' hw hEL hSA h cpt SCP hcp SAD SHI SLO sf hsf SSF a b (flat gs) (flat pre).length c (by omega) hi w1 d hj w2 w3 w4 T) (by simp) pd22 rfl rfl (Nat.le_of_eq rfl) (by decide) (by decide) (by decide) (by decide) rfl ?_
      refine same_intro ?_
      show W h [] 0 0 17 #[.val (.ref a), .val (.int M), .val (.int (Int32.ofNat u)), .val (.int (Int32.ofNat (flat pre).length)), s4] [.int (tc c d)]
      refine C.istore 19 #[.val (.ref a), .val (.int M), .val (.int (Int32.ofNat u)), .val (.int (Int32.ofNat (flat pre).length)), .val (.int (tc c d))] d5_17 rfl (XS.store1 rfl h4 rfl) ?_
      refine C.iloadN 20 d5_19 rfl rfl ?_
      refine C.iload 22 d5_20 rfl rfl ?_
      refine C.sipush 25 (128 : Int32) d5_22 rfl rfl ?_
      refine C.icmpT 32 d5_25 rfl (flt hbig.1).2.1 ?_
      refine C.iload 34 d5_32 rfl rfl ?_
      refine C.sipush 37 (2048 : Int32) d5_34 rfl rfl ?_
      refine C.icmpT 44 d5_37 rfl (flt hbig.2.1).2.1 ?_
      refine C.iload 46 d5_44 rfl rfl ?_
      refine C.ldc 48 (65536 : Int32) d5_46 rfl (tw 130) ?_
      refine C.icmpT 55 d5_48 rfl (flt hbig.2.2).2.1 ?_
      refine C.iconst 56 (4 : Int32) d5_55 rfl rfl ?_
      have e1 : Int32.ofNat u + (4 : Int32) = Int32.ofNat (u + g.2) := by rw [hz]; exact o_add u 4
      refine C.iadd 57 d5_56 rfl ?_
      rw [e1]
      refine C.istoreN 58 #[.val (.ref a), .val (.int M), .val (.int (Int32.ofNat (u + g.2))), .val (.int (Int32.ofNat (flat pre).length)), .val (.int (tc c d))] d5_57 rfl rfl ?_
      refine C.iloadN 59 d5_58 rfl rfl ?_
      refine C.iloadN 60 d5_59 rfl rfl ?_
      by_cases hM : M < Int32.ofNat (u + g.2)
      · refine C.icmpF 63 d5_60 rfl (tlt hM).2.2.2 ?_
        refine C.goto 77 d5_63 rfl ?_
        have k0 : (flat pre).length + cut M u (g :: rest) = (flat pre).length := by rw [cut_y hM]; rfl
        have K' := K (Int32.ofNat (u + g.2)) (.val (.int (tc c d)))
        rw [k0] at K'
        exact K'
      · refine C.icmpT 66 d5_60 rfl (flt hM).2.2.2 ?_
        refine C.iloadN 67 d5_66 rfl rfl ?_
        refine C.iload 69 d5_67 rfl rfl ?_
        refine C.callS 72 (as := [.int (tc c d)]) (rest := [.int (Int32.ofNat (flat pre).length)]) (rm := ⟨0, 0, 0, 0⟩) 1 d5_69 rfl (tw 126) (tw 127) (tw 123) (tw 128) (by decide) (cct l Z a0' hw hEL hSA h (tc c d) 2 (by rw [if_neg hbig.2.2])) (by simp) pd29 rfl rfl (Nat.le_of_eq rfl) (by decide) (by decide) (by decide) (by decide) rfl ?_
        refine same_intro ?_
        show W h [] 0 0 72 #[.val (.ref a), .val (.int M), .val (.int (Int32.ofNat (u + g.2))), .val (.int (Int32.ofNat (flat pre).length)), .val (.int (tc c d))] [.int (2 : Int32), .int (Int32.ofNat (flat pre).length)]
        refine C.iadd 73 d5_72 rfl ?_
        have e2 : Int32.ofNat (flat pre).length + (2 : Int32) = Int32.ofNat (flat (pre ++ [g])).length := by rw [flat_snoc, hc1]; exact o_add _ 2
        rw [e2]
        refine C.istoreN 74 #[.val (.ref a), .val (.int M), .val (.int (Int32.ofNat (u + g.2))), .val (.int (Int32.ofNat (flat (pre ++ [g])).length)), .val (.int (tc c d))] d5_73 rfl rfl ?_
        refine C.goto 4 d5_74 rfl ?_
        refine cut_loop C hw hEL hSA cpt SCP hcp SAD SHI SLO sf hsf SSF M a b h gs hg hn T rest (pre ++ [g]) (u + g.2) _ (by rw [e]; simp) (Or.inr ⟨_, rfl, rfl⟩) (fun s2 s4' => ?_)
        have k0 : (flat pre).length + cut M u (g :: rest) = (flat (pre ++ [g])).length + cut M (u + g.2) rest := by rw [cut_n hM, flat_snoc]; omega
        have K' := K s2 s4'
        rw [k0] at K'
        exact K'
set_option maxRecDepth 65536 in
set_option maxHeartbeats 40000000 in
theorem cutc (l : Launch) (Z : State) (a0' : Array Value) (hw : ∀ d ∈ tables_1, d.before a0' Z = true) (hEL : EW Z a0' EL0) (hSA : ∀ a ∈ Bundle.stringAtoms, a.before a0' Z = true) (h : Heap) (cpt : Int32) (SCP : Sta Z Z.heap "java/lang/String" "COMPACT_STRINGS" "Z" (.int cpt)) (hcp : ¬ cpt = 0) (SAD : Sta Z Z.heap "java/lang/StringUTF16" "$assertionsDisabled" "Z" (.int (1 : Int32))) (SHI : Sta Z Z.heap "java/lang/StringUTF16" "HI_BYTE_SHIFT" "I" (.int (0 : Int32))) (SLO : Sta Z Z.heap "java/lang/StringUTF16" "LO_BYTE_SHIFT" "I" (.int (8 : Int32))) (sf : Value) (hsf : sf.isRef = true) (SSF : Sta Z Z.heap "jdk/internal/util/Preconditions" "SIOOBE_FORMATTER" "Ljava/util/function/BiFunction;" sf) (M : Int32) (a b : Addr) (gs : List (List Int32 × Nat)) (hg : ∀ g ∈ gs, Wf g) (hn : (flat gs).length ≤ 8) (T : Str Z h a b (flat gs)) :
    Con l Z EL0 (⟨"com/example/goneish/goneish/NameRule", "cutToUtf8Bytes", "(Ljava/lang/String;I)Ljava/lang/String;"⟩ : MethodName) prog_10_method_6_code 5 (some (.object "java/lang/String")) ⟨7, 3, 28, 110⟩ #[.ref a, .int M] h [] (fun v h' => ∃ a' b', v = some (.ref a') ∧ Ext h h' ∧ Str Z h' a' b' ((flat gs).take (cut M 0 gs))) (fun _ => []) := by
  refine Con.of (Ls := #[.val (.ref a), .val (.int M), .unset, .unset, .unset]) hw hEL pn5 (fun m => by first | (simp [entryFrame, mkF, argsToLocals, Value.category, maxLocals]; done) | rfl) fun W C => ?_
  refine C.kept fun hE => ?_
  have z0 : Z.heap.size ≤ h.size := hE.1
  refine C.iconst 1 (0 : Int32) d5_0 rfl rfl ?_
  refine C.istoreN 2 #[.val (.ref a), .val (.int M), .val (.int (0 : Int32)), .unset, .unset] d5_1 rfl rfl ?_
  refine C.iconst 3 (0 : Int32) d5_2 rfl rfl ?_
  refine C.istoreN 4 #[.val (.ref a), .val (.int M), .val (.int (0 : Int32)), .val (.int (0 : Int32)), .unset] d5_3 rfl rfl ?_
  refine cut_loop C hw hEL hSA cpt SCP hcp SAD SHI SLO sf hsf SSF M a b h gs hg hn T gs [] 0 _ rfl (Or.inl rfl) (fun s2 s4 => ?_)
  have k0 : (flat []).length + cut M 0 gs = cut M 0 gs := Nat.zero_add _
  rw [k0]
  refine C.aloadN 78 d5_77 rfl rfl rfl ?_
  refine C.iconst 79 (0 : Int32) d5_78 rfl rfl ?_
  refine C.iloadN 80 d5_79 rfl rfl ?_
  refine C.callV 83 (as := [.int (0 : Int32), .int (Int32.ofNat (cut M 0 gs))]) (rest := []) (rm := ⟨6, 3, 28, 94⟩) 0 d5_80 rfl (tw 42) (tw 43) (tw 45) nfSelf (tw 44) (tw 4) (tw 46) (by decide) T.1 (sub l Z a0' hw hEL hSA h cpt SCP hcp SAD SHI SLO sf hsf SSF a b (flat gs) (cut M 0 gs) hn (flat_ch gs hg) (cut_le M gs 0) T) (by simp) pd8 rfl rfl (Nat.le_of_eq rfl) (by decide) (by decide) (by decide) (by decide) rfl ?_
  rintro v h1 ⟨a', b', rfl, E1, T1⟩
  show W h1 [] 3 28 83 #[.val (.ref a), .val (.int M), .val (.int s2), .val (.int (Int32.ofNat (cut M 0 gs))), s4] [.ref a']
  exact C.retA (.object "java/lang/String") d5_83 rfl rfl rfl (by decide) (by decide) ⟨a', b', rfl, E1, T1⟩ (fun _ q => nomatch q)
def kd (x : Int32) : Nat := (x &&& (3 : Int32)).toNatClampNeg
theorem kd_r (x : Int32) : kd x < 4 ∧ x &&& (3 : Int32) = Int32.ofNat (kd x) := by
  have h1 := c_and x (3 : Int32) (by decide)
  have e : (3 : Int32).toInt = 3 := rfl
  rw [e] at h1
  have k : kd x = (x &&& (3 : Int32)).toInt.toNat := rfl
  refine ⟨by omega, Int32.toInt_inj.mp ?_⟩
  rw [Int32.toInt_ofNat_of_lt (by omega)]; omega
theorem kd_c (x : Int32) : kd x = 0 ∨ kd x = 1 ∨ kd x = 2 ∨ kd x = 3 := by have := (kd_r x).1; omega
def vv (x : Int32) : Int32 := XT.ushr x (2 : Int32)
def i2c (y : Int32) : Int32 := (Int32.toUInt32 y).toUInt16.toUInt32.toInt32
def cpa (x : Int32) : Int32 := (2048 : Int32) + vv x % (61440 : Int32)
def sv (x : Int32) : Int32 := vv x % (1048576 : Int32)
def gp (x : Int32) : List Int32 := if kd x = 0 then [i2c (vv x &&& (127 : Int32))] else if kd x = 1 then [i2c ((128 : Int32) + vv x % (1920 : Int32))] else if kd x = 2 then [i2c (if cpa x < 55296 then cpa x else cpa x + (2048 : Int32))] else [i2c ((55296 : Int32) + XT.ushr (sv x) (10 : Int32)), i2c ((56320 : Int32) + (sv x &&& (1023 : Int32)))]
theorem gp_0 {x : Int32} (h : kd x = 0) : gp x = [i2c (vv x &&& (127 : Int32))] := if_pos h
theorem gp_1 {x : Int32} (h : kd x = 1) : gp x = [i2c ((128 : Int32) + vv x % (1920 : Int32))] := by unfold gp; rw [h]; rfl
theorem gp_2 {x : Int32} (h : kd x = 2) : gp x = [i2c (if cpa x < 55296 then cpa x else cpa x + (2048 : Int32))] := by unfold gp; rw [h]; rfl
theorem gp_3 {x : Int32} (h : kd x = 3) : gp x = [i2c ((55296 : Int32) + XT.ushr (sv x) (10 : Int32)), i2c ((56320 : Int32) + (sv x &&& (1023 : Int32)))] := by unfold gp; rw [h]; rfl
theorem vv_r (x : Int32) : 0 ≤ (vv x).toInt ∧ (vv x).toInt < 1073741824 := by
  have a := c_iushr x (2 : Int32) 2 (by decide) (by decide)
  have e : (vv x).toInt = ((x.toUInt32 >>> ((2 : Int32) &&& 31).toUInt32).toInt32).toInt := rfl
  omega
theorem i2c_v {y : Int32} (h0 : 0 ≤ y.toInt) (h1 : y.toInt < 65536) : (i2c y).toInt = y.toInt := by
  have q := c_i2c y
  have e : (i2c y).toInt = y.toUInt32.toUInt16.toUInt32.toInt32.toInt := rfl
  omega
theorem i2c_ch (y : Int32) : Ch (i2c y) := ⟨(c_i2c y).2.1, (c_i2c y).2.2⟩
theorem w_0 (x : Int32) : W1 (i2c (vv x &&& (127 : Int32))) 1 := by
  have m := c_mask (vv x) (127 : Int32) 7 (by decide) (by decide)
  have v := vv_r x
  have i := i2c_v (y := vv x &&& (127 : Int32)) (by omega) (by omega)
  refine ⟨i2c_ch _, fun z => z.1 ?_, Or.inl ⟨rfl, ?_⟩⟩ <;> rw [Int32.lt_iff_toInt_lt] <;> simp only [e55296, e128] <;> omega
theorem w_1 (x : Int32) : W1 (i2c ((128 : Int32) + vv x % (1920 : Int32))) 2 := by
  have v := vv_r x
  have m := (c_irem (vv x) (1920 : Int32) 1920 rfl).1 v.1
  have a := c_iadd (128 : Int32) (vv x % (1920 : Int32))
  have r := rng32 ((128 : Int32) + vv x % (1920 : Int32))
  rw [e128] at a
  have i := i2c_v (y := (128 : Int32) + vv x % (1920 : Int32)) (by omega) (by omega)
  refine ⟨i2c_ch _, fun z => z.1 ?_, Or.inr (Or.inl ⟨rfl, ?_, ?_⟩)⟩ <;> rw [Int32.lt_iff_toInt_lt] <;> simp only [e55296, e128, e2048] <;> omega
theorem cpa_v (x : Int32) : (cpa x).toInt = 2048 + (vv x).toInt % 61440 := by
  have v := vv_r x
  have m := (c_irem (vv x) (61440 : Int32) 61440 rfl).1 v.1
  have a := c_iadd (2048 : Int32) (vv x % (61440 : Int32))
  have r := rng32 ((2048 : Int32) + vv x % (61440 : Int32))
  have e : (cpa x).toInt = ((2048 : Int32) + vv x % (61440 : Int32)).toInt := rfl
  rw [e2048] at a
  omega
theorem w_2 (x : Int32) : W1 (i2c (if cpa x < 55296 then cpa x else cpa x + (2048 : Int32))) 3 := by
  have v := vv_r x
  have c := cpa_v x
  by_cases p : cpa x < 55296
  · rw [if_pos p]
    rw [Int32.lt_iff_toInt_lt, e55296] at p
    have i := i2c_v (y := cpa x) (by omega) (by omega)
    refine ⟨i2c_ch _, fun z => z.1 ?_, Or.inr (Or.inr ⟨rfl, ?_, ?_⟩)⟩ <;> rw [Int32.lt_iff_toInt_lt] <;> simp only [e55296, e128, e2048] <;> omega
  · rw [if_neg p]
    rw [Int32.lt_iff_toInt_lt, e55296] at p
    have a := c_iadd (cpa x) (2048 : Int32)
    have r := rng32 (cpa x + (2048 : Int32))
    rw [e2048] at a
    have i := i2c_v (y := cpa x + (2048 : Int32)) (by omega) (by omega)
    refine ⟨i2c_ch _, fun z => absurd z.2 ?_, Or.inr (Or.inr ⟨rfl, ?_, ?_⟩)⟩ <;> rw [Int32.lt_iff_toInt_lt] <;> simp only [e56320, e128, e2048] <;> omega
theorem w_3 (x : Int32) : W2 (i2c ((55296 : Int32) + XT.ushr (sv x) (10 : Int32))) (i2c ((56320 : Int32) + (sv x &&& (1023 : Int32)))) 4 := by
  have v := vv_r x
  have m := (c_irem (vv x) (1048576 : Int32) 1048576 rfl).1 v.1
  have e : (sv x).toInt = (vv x % (1048576 : Int32)).toInt := rfl
  have u := c_iushr (sv x) (10 : Int32) 10 (by decide) (by decide)
  have eu : (XT.ushr (sv x) (10 : Int32)).toInt = (((sv x).toUInt32 >>> ((10 : Int32) &&& 31).toUInt32).toInt32).toInt := rfl
  have k := c_mask (sv x) (1023 : Int32) 10 (by decide) (by decide)
  have a := c_iadd (55296 : Int32) (XT.ushr (sv x) (10 : Int32))
  have r := rng32 ((55296 : Int32) + XT.ushr (sv x) (10 : Int32))
  have a2 := c_iadd (56320 : Int32) (sv x &&& (1023 : Int32))
  have r2 := rng32 ((56320 : Int32) + (sv x &&& (1023 : Int32)))
  rw [e55296] at a
  rw [e56320] at a2
  have i := i2c_v (y := (55296 : Int32) + XT.ushr (sv x) (10 : Int32)) (by omega) (by omega)
  have j := i2c_v (y := (56320 : Int32) + (sv x &&& (1023 : Int32))) (by omega) (by omega)
  refine ⟨i2c_ch _, i2c_ch _, ⟨?_, ?_⟩, ⟨?_, ?_⟩, rfl⟩ <;> rw [Int32.lt_iff_toInt_lt] <;> simp only [e55296, e56320, e57344] <;> omega
theorem wf_gp (x : Int32) : Wf (gp x, kd x + 1) := by
  rcases kd_c x with h | h | h | h
  · exact Or.inl ⟨_, gp_0 h, by show W1 _ (kd x + 1); rw [h]; exact w_0 x⟩
  · exact Or.inl ⟨_, gp_1 h, by show W1 _ (kd x + 1); rw [h]; exact w_1 x⟩
  · exact Or.inl ⟨_, gp_2 h, by show W1 _ (kd x + 1); rw [h]; exact w_2 x⟩
  · exact Or.inr ⟨_, _, gp_3 h, by show W2 _ _ (kd x + 1); rw [h]; exact w_3 x⟩
theorem gp_len (x : Int32) : 1 ≤ (gp x).length ∧ (gp x).length ≤ 2 := by
  rcases kd_c x with h | h | h | h
  · rw [gp_0 h]; simp
  · rw [gp_1 h]; simp
  · rw [gp_2 h]; simp
  · rw [gp_3 h]; simp
theorem set1 (pre : List Int32) (m : Nat) (c : Int32) : (iv' pre ++ List.replicate (1 + m) (Value.int 0)).set pre.length (.int c) = iv' (pre ++ [c]) ++ List.replicate m (.int 0) := by
  rw [Nat.add_comm 1 m, List.replicate_succ]; simp
theorem mod5 (p : Int32) : ∃ i : Nat, i < 5 ∧ (p &&& (2147483647 : Int32)) % (5 : Int32) = Int32.ofNat i := by
  have h1 := c_and p (2147483647 : Int32) (by decide)
  have h2 := (c_irem (p &&& (2147483647 : Int32)) (5 : Int32) 5 rfl).1 h1.1
  generalize (p &&& (2147483647 : Int32)) % (5 : Int32) = r at h2 ⊢
  refine ⟨r.toInt.toNat, by omega, Int32.toInt_inj.mp ?_⟩
  rw [Int32.toInt_ofNat_of_lt (by omega)]; omega
theorem d12_0 : decode method_3_code 0 = .ok (.iload_n 0, 1) := by decide +kernel
theorem d12_1 : decode method_3_code 1 = .ok (.iconst 3, 1) := by decide +kernel
theorem d12_2 : decode method_3_code 2 = .ok (.if_icmp .ne 7, 3) := by decide +kernel
theorem d12_5 : decode method_3_code 5 = .ok (.iconst 2, 1) := by decide +kernel
theorem d12_6 : decode method_3_code 6 = .ok (.goto 4, 3) := by decide +kernel
theorem d12_9 : decode method_3_code 9 = .ok (.iconst 1, 1) := by decide +kernel
theorem d12_10 : decode method_3_code 10 = .ok (.ireturn, 1) := by decide +kernel
theorem pn12 : plainFor (⟨"com/example/goneish/goneish/NameRuleCutToUtf8BytesPinLaw", "chars", "(I)I"⟩ : MethodName) = true := by first | exact plainFor_of_name (by first | (simp [plainName, overriddenIn]; done) | decide +kernel) | decide +kernel
theorem pd12 : parseMethodDescriptor "(I)I" = some ⟨[.int], some .int⟩ := by decide +kernel
set_option maxRecDepth 65536 in
set_option maxHeartbeats 40000000 in
theorem kch (l : Launch) (Z : State) (a0' : Array Value) (hw : ∀ d ∈ tables_1, d.before a0' Z = true) (hEL : EW Z a0' EL0) (hSA : ∀ a ∈ Bundle.stringAtoms, a.before a0' Z = true) (h : Heap) (x : Int32) :
    Con l Z EL0 (⟨"com/example/goneish/goneish/NameRuleCutToUtf8BytesPinLaw", "chars", "(I)I"⟩ : MethodName) method_3_code 1 (some .int) ⟨0, 0, 0, 0⟩ #[.int (Int32.ofNat (kd x))] h [] (Same (some (.int (Int32.ofNat (gp x).length))) h) (fun _ => []) := by
  refine Con.of (Ls := #[.val (.int (Int32.ofNat (kd x)))]) hw hEL pn12 (fun m => by first | (simp [entryFrame, mkF, argsToLocals, Value.category, maxLocals]; done) | rfl) fun W C => ?_
  refine C.kept fun hE => ?_
  have z0 : Z.heap.size ≤ h.size := hE.1
  rcases kd_c x with hk | hk | hk | hk
  · rw [hk]
    show W h [] 0 0 0 #[.val (.int (0 : Int32))] []
    refine C.iloadN 1 d12_0 rfl rfl ?_
    refine C.iconst 2 (3 : Int32) d12_1 rfl rfl ?_
    refine C.icmpT 9 d12_2 rfl (by decide) ?_
    refine C.iconst 10 (1 : Int32) d12_9 rfl rfl ?_
    exact C.retI .int d12_10 rfl (by simp) rfl (by decide) (by decide) ⟨by rw [gp_0 hk]; rfl, rfl⟩ (fun _ q => nomatch q)
  · rw [hk]
    show W h [] 0 0 0 #[.val (.int (1 : Int32))] []
    refine C.iloadN 1 d12_0 rfl rfl ?_
    refine C.iconst 2 (3 : Int32) d12_1 rfl rfl ?_
    refine C.icmpT 9 d12_2 rfl (by decide) ?_
    refine C.iconst 10 (1 : Int32) d12_9 rfl rfl ?_
    exact C.retI .int d12_10 rfl (by simp) rfl (by decide) (by decide) ⟨by rw [gp_1 hk]; rfl, rfl⟩ (fun _ q => nomatch q)
  · rw [hk]
    show W h [] 0 0 0 #[.val (.int (2 : Int32))] []
    refine C.iloadN 1 d12_0 rfl rfl ?_
    refine C.iconst 2 (3 : Int32) d12_1 rfl rfl ?_
    refine C.icmpT 9 d12_2 rfl (by decide) ?_
    refine C.iconst 10 (1 : Int32) d12_9 rfl rfl ?_
    exact C.retI .int d12_10 rfl (by simp) rfl (by decide) (by decide) ⟨by rw [gp_2 hk]; rfl, rfl⟩ (fun _ q => nomatch q)
  · rw [hk]
    show W h [] 0 0 0 #[.val (.int (3 : Int32))] []
    refine C.iloadN 1 d12_0 rfl rfl ?_
    refine C.iconst 2 (3 : Int32) d12_1 rfl rfl ?_
    refine C.icmpF 5 d12_2 rfl (by decide) ?_
    refine C.iconst 6 (2 : Int32) d12_5 rfl rfl ?_
    refine C.goto 10 d12_6 rfl ?_
    exact C.retI .int d12_10 rfl (by simp) rfl (by decide) (by decide) ⟨by rw [gp_3 hk]; rfl, rfl⟩ (fun _ q => nomatch q)
theorem d4_0 : decode method_4_code 0 = .ok (.iload_n 0, 1) := by decide +kernel
theorem d4_1 : decode method_4_code 1 = .ok (.iconst 1, 1) := by decide +kernel
theorem d4_2 : decode method_4_code 2 = .ok (.iadd, 1) := by decide +kernel
theorem d4_3 : decode method_4_code 3 = .ok (.ireturn, 1) := by decide +kernel
theorem pn4 : plainFor (⟨"com/example/goneish/goneish/NameRuleCutToUtf8BytesPinLaw", "bytes", "(I)I"⟩ : MethodName) = true := by first | exact plainFor_of_name (by first | (simp [plainName, overriddenIn]; done) | decide +kernel) | decide +kernel
theorem pd4 : parseMethodDescriptor "(I)I" = some ⟨[.int], some .int⟩ := by decide +kernel
set_option maxRecDepth 65536 in
set_option maxHeartbeats 40000000 in
theorem kby (l : Launch) (Z : State) (a0' : Array Value) (hw : ∀ d ∈ tables_1, d.before a0' Z = true) (hEL : EW Z a0' EL0) (hSA : ∀ a ∈ Bundle.stringAtoms, a.before a0' Z = true) (h : Heap) (x : Int32) :
    Con l Z EL0 (⟨"com/example/goneish/goneish/NameRuleCutToUtf8BytesPinLaw", "bytes", "(I)I"⟩ : MethodName) method_4_code 1 (some .int) ⟨0, 0, 0, 0⟩ #[.int (Int32.ofNat (kd x))] h [] (Same (some (.int (Int32.ofNat (kd x + 1)))) h) (fun _ => []) := by
  refine Con.of (Ls := #[.val (.int (Int32.ofNat (kd x)))]) hw hEL pn4 (fun m => by first | (simp [entryFrame, mkF, argsToLocals, Value.category, maxLocals]; done) | rfl) fun W C => ?_
  refine C.kept fun hE => ?_
  have z0 : Z.heap.size ≤ h.size := hE.1
  refine C.iloadN 1 d4_0 rfl rfl ?_
  refine C.iconst 2 (1 : Int32) d4_1 rfl rfl ?_
  refine C.iadd 3 d4_2 rfl ?_
  have e1 : Int32.ofNat (kd x) + (1 : Int32) = Int32.ofNat (kd x + 1) := o_add (kd x) 1
  rw [e1]
  exact C.retI .int d4_3 rfl (by simp) rfl (by decide) (by decide) ⟨rfl, rfl⟩ (fun _ q => nomatch q)
theorem d13_0 : decode method_5_code 0 = .ok (.iload_n 2, 1) := by decide +kernel
theorem d13_1 : decode method_5_code 1 = .ok (.iconst 3, 1) := by decide +kernel
theorem d13_2 : decode method_5_code 2 = .ok (.iand, 1) := by decide +kernel
theorem d13_3 : decode method_5_code 3 = .ok (.istore_n 3, 1) := by decide +kernel
theorem d13_4 : decode method_5_code 4 = .ok (.iload_n 2, 1) := by decide +kernel
theorem d13_5 : decode method_5_code 5 = .ok (.iconst 2, 1) := by decide +kernel
theorem d13_6 : decode method_5_code 6 = .ok (.iushr, 1) := by decide +kernel
theorem d13_7 : decode method_5_code 7 = .ok (.istore 4, 2) := by decide +kernel
theorem d13_9 : decode method_5_code 9 = .ok (.iload_n 3, 1) := by decide +kernel
theorem d13_10 : decode method_5_code 10 = .ok (.ifCond .ne 16, 3) := by decide +kernel
theorem d13_13 : decode method_5_code 13 = .ok (.aload_n 0, 1) := by decide +kernel
theorem d13_14 : decode method_5_code 14 = .ok (.iload_n 1, 1) := by decide +kernel
theorem d13_15 : decode method_5_code 15 = .ok (.iload 4, 2) := by decide +kernel
theorem d13_17 : decode method_5_code 17 = .ok (.bipush 127, 2) := by decide +kernel
theorem d13_19 : decode method_5_code 19 = .ok (.iand, 1) := by decide +kernel
theorem d13_20 : decode method_5_code 20 = .ok (.i2c, 1) := by decide +kernel
theorem d13_21 : decode method_5_code 21 = .ok (.castore, 1) := by decide +kernel
theorem d13_22 : decode method_5_code 22 = .ok (.iload_n 1, 1) := by decide +kernel
theorem d13_23 : decode method_5_code 23 = .ok (.iconst 1, 1) := by decide +kernel
theorem d13_24 : decode method_5_code 24 = .ok (.iadd, 1) := by decide +kernel
theorem d13_25 : decode method_5_code 25 = .ok (.ireturn, 1) := by decide +kernel
theorem d13_26 : decode method_5_code 26 = .ok (.iload_n 3, 1) := by decide +kernel
theorem d13_27 : decode method_5_code 27 = .ok (.iconst 1, 1) := by decide +kernel
theorem d13_28 : decode method_5_code 28 = .ok (.if_icmp .ne 21, 3) := by decide +kernel
theorem d13_31 : decode method_5_code 31 = .ok (.aload_n 0, 1) := by decide +kernel
theorem d13_32 : decode method_5_code 32 = .ok (.iload_n 1, 1) := by decide +kernel
theorem d13_33 : decode method_5_code 33 = .ok (.sipush 128, 3) := by decide +kernel
theorem d13_36 : decode method_5_code 36 = .ok (.iload 4, 2) := by decide +kernel
theorem d13_38 : decode method_5_code 38 = .ok (.sipush 1920, 3) := by decide +kernel
theorem d13_41 : decode method_5_code 41 = .ok (.irem, 1) := by decide +kernel
theorem d13_42 : decode method_5_code 42 = .ok (.iadd, 1) := by decide +kernel
theorem d13_43 : decode method_5_code 43 = .ok (.i2c, 1) := by decide +kernel
theorem d13_44 : decode method_5_code 44 = .ok (.castore, 1) := by decide +kernel
theorem d13_45 : decode method_5_code 45 = .ok (.iload_n 1, 1) := by decide +kernel
theorem d13_46 : decode method_5_code 46 = .ok (.iconst 1, 1) := by decide +kernel
theorem d13_47 : decode method_5_code 47 = .ok (.iadd, 1) := by decide +kernel
theorem d13_48 : decode method_5_code 48 = .ok (.ireturn, 1) := by decide +kernel
theorem d13_49 : decode method_5_code 49 = .ok (.iload_n 3, 1) := by decide +kernel
theorem d13_50 : decode method_5_code 50 = .ok (.iconst 2, 1) := by decide +kernel
theorem d13_51 : decode method_5_code 51 = .ok (.if_icmp .ne 39, 3) := by decide +kernel
theorem d13_54 : decode method_5_code 54 = .ok (.sipush 2048, 3) := by decide +kernel
theorem d13_57 : decode method_5_code 57 = .ok (.iload 4, 2) := by decide +kernel
theorem d13_59 : decode method_5_code 59 = .ok (.ldc 40, 2) := by decide +kernel
theorem d13_61 : decode method_5_code 61 = .ok (.irem, 1) := by decide +kernel
theorem d13_62 : decode method_5_code 62 = .ok (.iadd, 1) := by decide +kernel
theorem d13_63 : decode method_5_code 63 = .ok (.istore 5, 2) := by decide +kernel
theorem d13_65 : decode method_5_code 65 = .ok (.iload 5, 2) := by decide +kernel
theorem d13_67 : decode method_5_code 67 = .ok (.ldc 41, 2) := by decide +kernel
theorem d13_69 : decode method_5_code 69 = .ok (.if_icmp .lt 11, 3) := by decide +kernel
theorem d13_72 : decode method_5_code 72 = .ok (.iload 5, 2) := by decide +kernel
theorem d13_74 : decode method_5_code 74 = .ok (.sipush 2048, 3) := by decide +kernel
theorem d13_77 : decode method_5_code 77 = .ok (.iadd, 1) := by decide +kernel
theorem d13_78 : decode method_5_code 78 = .ok (.istore 5, 2) := by decide +kernel
theorem d13_80 : decode method_5_code 80 = .ok (.aload_n 0, 1) := by decide +kernel
theorem d13_81 : decode method_5_code 81 = .ok (.iload_n 1, 1) := by decide +kernel
theorem d13_82 : decode method_5_code 82 = .ok (.iload 5, 2) := by decide +kernel
theorem d13_84 : decode method_5_code 84 = .ok (.i2c, 1) := by decide +kernel
theorem d13_85 : decode method_5_code 85 = .ok (.castore, 1) := by decide +kernel
theorem d13_86 : decode method_5_code 86 = .ok (.iload_n 1, 1) := by decide +kernel
theorem d13_87 : decode method_5_code 87 = .ok (.iconst 1, 1) := by decide +kernel
theorem d13_88 : decode method_5_code 88 = .ok (.iadd, 1) := by decide +kernel
theorem d13_89 : decode method_5_code 89 = .ok (.ireturn, 1) := by decide +kernel
theorem d13_90 : decode method_5_code 90 = .ok (.iload 4, 2) := by decide +kernel
theorem d13_92 : decode method_5_code 92 = .ok (.ldc 42, 2) := by decide +kernel
theorem d13_94 : decode method_5_code 94 = .ok (.irem, 1) := by decide +kernel
theorem d13_95 : decode method_5_code 95 = .ok (.istore 5, 2) := by decide +kernel
theorem d13_97 : decode method_5_code 97 = .ok (.aload_n 0, 1) := by decide +kernel
theorem d13_98 : decode method_5_code 98 = .ok (.iload_n 1, 1) := by decide +kernel
theorem d13_99 : decode method_5_code 99 = .ok (.ldc 41, 2) := by decide +kernel
theorem d13_101 : decode method_5_code 101 = .ok (.iload 5, 2) := by decide +kernel
theorem d13_103 : decode method_5_code 103 = .ok (.bipush 10, 2) := by decide +kernel
theorem d13_105 : decode method_5_code 105 = .ok (.iushr, 1) := by decide +kernel
theorem d13_106 : decode method_5_code 106 = .ok (.iadd, 1) := by decide +kernel
theorem d13_107 : decode method_5_code 107 = .ok (.i2c, 1) := by decide +kernel
theorem d13_108 : decode method_5_code 108 = .ok (.castore, 1) := by decide +kernel
theorem d13_109 : decode method_5_code 109 = .ok (.aload_n 0, 1) := by decide +kernel
theorem d13_110 : decode method_5_code 110 = .ok (.iload_n 1, 1) := by decide +kernel
theorem d13_111 : decode method_5_code 111 = .ok (.iconst 1, 1) := by decide +kernel
theorem d13_112 : decode method_5_code 112 = .ok (.iadd, 1) := by decide +kernel
theorem d13_113 : decode method_5_code 113 = .ok (.ldc 43, 2) := by decide +kernel
theorem d13_115 : decode method_5_code 115 = .ok (.iload 5, 2) := by decide +kernel
theorem d13_117 : decode method_5_code 117 = .ok (.sipush 1023, 3) := by decide +kernel
theorem d13_120 : decode method_5_code 120 = .ok (.iand, 1) := by decide +kernel
theorem d13_121 : decode method_5_code 121 = .ok (.iadd, 1) := by decide +kernel
theorem d13_122 : decode method_5_code 122 = .ok (.i2c, 1) := by decide +kernel
theorem d13_123 : decode method_5_code 123 = .ok (.castore, 1) := by decide +kernel
theorem d13_124 : decode method_5_code 124 = .ok (.iload_n 1, 1) := by decide +kernel
theorem d13_125 : decode method_5_code 125 = .ok (.iconst 2, 1) := by decide +kernel
theorem d13_126 : decode method_5_code 126 = .ok (.iadd, 1) := by decide +kernel
theorem d13_127 : decode method_5_code 127 = .ok (.ireturn, 1) := by decide +kernel
theorem pn13 : plainFor (⟨"com/example/goneish/goneish/NameRuleCutToUtf8BytesPinLaw", "put", "([CII)I"⟩ : MethodName) = true := by first | exact plainFor_of_name (by first | (simp [plainName, overriddenIn]; done) | decide +kernel) | decide +kernel
theorem pd13 : parseMethodDescriptor "([CII)I" = some ⟨[(.array .char), .int, .int], some .int⟩ := by decide +kernel
set_option maxRecDepth 65536 in
set_option maxHeartbeats 40000000 in
theorem put (l : Launch) (Z : State) (a0' : Array Value) (hw : ∀ d ∈ tables_1, d.before a0' Z = true) (hEL : EW Z a0' EL0) (hSA : ∀ a ∈ Bundle.stringAtoms, a.before a0' Z = true) (h : Heap) (buf : Addr) (pre : List Int32) (m : Nat) (x : Int32) (hm : pre.length + ((gp x).length + m) ≤ 8) (A : Al Z h buf .char (iv' pre ++ List.replicate ((gp x).length + m) (.int 0))) :
    Con l Z EL0 (⟨"com/example/goneish/goneish/NameRuleCutToUtf8BytesPinLaw", "put", "([CII)I"⟩ : MethodName) method_5_code 6 (some .int) ⟨0, 0, 0, 0⟩ #[.ref buf, .int (Int32.ofNat pre.length), .int x] h [buf] (fun v h' => v = some (.int (Int32.ofNat (pre ++ gp x).length)) ∧ Keep h h' [buf] ∧ Al Z h' buf .char (iv' (pre ++ gp x) ++ List.replicate m (.int 0))) (fun _ => []) := by
  refine Con.of (Ls := #[.val (.ref buf), .val (.int (Int32.ofNat pre.length)), .val (.int x), .unset, .unset, .unset]) hw hEL pn13 (fun m => by first | (simp [entryFrame, mkF, argsToLocals, Value.category, maxLocals]; done) | rfl) fun W C => ?_
  refine C.kept fun hE => ?_
  have z0 : Z.heap.size ≤ h.size := hE.1
  refine C.iloadN 1 d13_0 rfl rfl ?_
  refine C.iconst 2 (3 : Int32) d13_1 rfl rfl ?_
  refine C.iand 3 d13_2 rfl ?_
  rw [(kd_r x).2]
  rcases kd_c x with hk | hk | hk | hk
  · rw [hk]
    rw [gp_0 hk] at A hm
    replace A : Al Z h buf .char (iv' pre ++ List.replicate (1 + m) (.int 0)) := A
    replace hm : pre.length + (1 + m) ≤ 8 := hm
    show W h [buf] 0 0 3 #[.val (.ref buf), .val (.int (Int32.ofNat pre.length)), .val (.int x), .unset, .unset, .unset] [.int (0 : Int32)]
    refine C.istoreN 4 #[.val (.ref buf), .val (.int (Int32.ofNat pre.length)), .val (.int x), .val (.int (0 : Int32)), .unset, .unset] d13_3 rfl rfl ?_
    refine C.iloadN 5 d13_4 rfl rfl ?_
    refine C.iconst 6 (2 : Int32) d13_5 rfl rfl ?_
    refine C.iushr 7 d13_6 rfl ?_
    show W h [buf] 0 0 7 #[.val (.ref buf), .val (.int (Int32.ofNat pre.length)), .val (.int x), .val (.int (0 : Int32)), .unset, .unset] [.int (vv x)]
    refine C.istore 9 #[.val (.ref buf), .val (.int (Int32.ofNat pre.length)), .val (.int x), .val (.int (0 : Int32)), .val (.int (vv x)), .unset] d13_7 rfl rfl ?_
    refine C.iloadN 10 d13_9 rfl rfl ?_
    refine C.ifF 13 d13_10 rfl (by decide) ?_
    refine C.aloadN 14 d13_13 rfl rfl rfl ?_
    refine C.iloadN 15 d13_14 rfl rfl ?_
    refine C.iload 17 d13_15 rfl rfl ?_
    refine C.bipush 19 (127 : Int32) d13_17 rfl rfl ?_
    refine C.iand 20 d13_19 rfl ?_
    refine C.i2c 21 d13_20 rfl ?_
    show W h [buf] 0 0 21 #[.val (.ref buf), .val (.int (Int32.ofNat pre.length)), .val (.int x), .val (.int (0 : Int32)), .val (.int (vv x)), .unset] [.int (i2c (vv x &&& (127 : Int32))), .int (Int32.ofNat pre.length), .ref buf]
    refine C.castore 22 pre.length (i2c (vv x &&& (127 : Int32))) d13_21 rfl A (by simp) (o_nn (by first | omega | (simp; omega))) (o_cl (by first | omega | (simp; omega))) (by simp <;> omega) (ch_nar (i2c_ch _)) ?_
    intro h1 W1 A1
    rw [set1] at A1
    refine C.iloadN 23 d13_22 rfl rfl ?_
    refine C.iconst 24 (1 : Int32) d13_23 rfl rfl ?_
    refine C.iadd 25 d13_24 rfl ?_
    exact C.retI .int d13_25 rfl (by simp) rfl (by decide) (by decide) ⟨by rw [gp_0 hk, List.length_append]; exact congrArg (fun z => some (Value.int z)) (o_add pre.length 1), Keep.of_wr W1, by rw [gp_0 hk]; exact A1⟩ (fun _ q => nomatch q)
  · rw [hk]
    rw [gp_1 hk] at A hm
    replace A : Al Z h buf .char (iv' pre ++ List.replicate (1 + m) (.int 0)) := A
    replace hm : pre.length + (1 + m) ≤ 8 := hm
    show W h [buf] 0 0 3 #[.val (.ref buf), .val (.int (Int32.ofNat pre.length)), .val (.int x), .unset, .unset, .unset] [.int (1 : Int32)]
    refine C.istoreN 4 #[.val (.ref buf), .val (.int (Int32.ofNat pre.length)), .val (.int x), .val (.int (1 : Int32)), .unset, .unset] d13_3 rfl rfl ?_
    refine C.iloadN 5 d13_4 rfl rfl ?_
    refine C.iconst 6 (2 : Int32) d13_5 rfl rfl ?_
    refine C.iushr 7 d13_6 rfl ?_
    show W h [buf] 0 0 7 #[.val (.ref buf), .val (.int (Int32.ofNat pre.length)), .val (.int x), .val (.int (1 : Int32)), .unset, .unset] [.int (vv x)]
    refine C.istore 9 #[.val (.ref buf), .val (.int (Int32.ofNat pre.length)), .val (.int x), .val (.int (1 : Int32)), .val (.int (vv x)), .unset] d13_7 rfl rfl ?_
    refine C.iloadN 10 d13_9 rfl rfl ?_
    refine C.ifT 26 d13_10 rfl (by decide) ?_
    refine C.iloadN 27 d13_26 rfl rfl ?_
    refine C.iconst 28 (1 : Int32) d13_27 rfl rfl ?_
    refine C.icmpF 31 d13_28 rfl (by decide) ?_
    refine C.aloadN 32 d13_31 rfl rfl rfl ?_
    refine C.iloadN 33 d13_32 rfl rfl ?_
    refine C.sipush 36 (128 : Int32) d13_33 rfl rfl ?_
    refine C.iload 38 d13_36 rfl rfl ?_
    refine C.sipush 41 (1920 : Int32) d13_38 rfl rfl ?_
    refine C.irem 42 d13_41 rfl (by decide) ?_
    refine C.iadd 43 d13_42 rfl ?_
    refine C.i2c 44 d13_43 rfl ?_
    show W h [buf] 0 0 44 #[.val (.ref buf), .val (.int (Int32.ofNat pre.length)), .val (.int x), .val (.int (1 : Int32)), .val (.int (vv x)), .unset] [.int (i2c ((128 : Int32) + vv x % (1920 : Int32))), .int (Int32.ofNat pre.length), .ref buf]
    refine C.castore 45 pre.length (i2c ((128 : Int32) + vv x % (1920 : Int32))) d13_44 rfl A (by simp) (o_nn (by first | omega | (simp; omega))) (o_cl (by first | omega | (simp; omega))) (by simp <;> omega) (ch_nar (i2c_ch _)) ?_
    intro h1 W1 A1
    rw [set1] at A1
    refine C.iloadN 46 d13_45 rfl rfl ?_
    refine C.iconst 47 (1 : Int32) d13_46 rfl rfl ?_
    refine C.iadd 48 d13_47 rfl ?_
    exact C.retI .int d13_48 rfl (by simp) rfl (by decide) (by decide) ⟨by rw [gp_1 hk, List.length_append]; exact congrArg (fun z => some (Value.int z)) (o_add pre.length 1), Keep.of_wr W1, by rw [gp_1 hk]; exact A1⟩ (fun _ q => nomatch q)
  · rw [hk]
    rw [gp_2 hk] at A hm
    replace A : Al Z h buf .char (iv' pre ++ List.replicate (1 + m) (.int 0)) := A
    replace hm : pre.length + (1 + m) ≤ 8 := hm
    show W h [buf] 0 0 3 #[.val (.ref buf), .val (.int (Int32.ofNat pre.length)), .val (.int x), .unset, .unset, .unset] [.int (2 : Int32)]
    refine C.istoreN 4 #[.val (.ref buf), .val (.int (Int32.ofNat pre.length)), .val (.int x), .val (.int (2 : Int32)), .unset, .unset] d13_3 rfl rfl ?_
    refine C.iloadN 5 d13_4 rfl rfl ?_
    refine C.iconst 6 (2 : Int32) d13_5 rfl rfl ?_
    refine C.iushr 7 d13_6 rfl ?_
    show W h [buf] 0 0 7 #[.val (.ref buf), .val (.int (Int32.ofNat pre.length)), .val (.int x), .val (.int (2 : Int32)), .unset, .unset] [.int (vv x)]
    refine C.istore 9 #[.val (.ref buf), .val (.int (Int32.ofNat pre.length)), .val (.int x), .val (.int (2 : Int32)), .val (.int (vv x)), .unset] d13_7 rfl rfl ?_
    refine C.iloadN 10 d13_9 rfl rfl ?_
    refine C.ifT 26 d13_10 rfl (by decide) ?_
    refine C.iloadN 27 d13_26 rfl rfl ?_
    refine C.iconst 28 (1 : Int32) d13_27 rfl rfl ?_
    refine C.icmpT 49 d13_28 rfl (by decide) ?_
    refine C.iloadN 50 d13_49 rfl rfl ?_
    refine C.iconst 51 (2 : Int32) d13_50 rfl rfl ?_
    refine C.icmpF 54 d13_51 rfl (by decide) ?_
    refine C.sipush 57 (2048 : Int32) d13_54 rfl rfl ?_
    refine C.iload 59 d13_57 rfl rfl ?_
    refine C.ldc 61 (61440 : Int32) d13_59 rfl (tw 66) ?_
    refine C.irem 62 d13_61 rfl (by decide) ?_
    refine C.iadd 63 d13_62 rfl ?_
    show W h [buf] 0 0 63 #[.val (.ref buf), .val (.int (Int32.ofNat pre.length)), .val (.int x), .val (.int (2 : Int32)), .val (.int (vv x)), .unset] [.int (cpa x)]
    refine C.istore 65 #[.val (.ref buf), .val (.int (Int32.ofNat pre.length)), .val (.int x), .val (.int (2 : Int32)), .val (.int (vv x)), .val (.int (cpa x))] d13_63 rfl rfl ?_
    refine C.iload 67 d13_65 rfl rfl ?_
    refine C.ldc 69 (55296 : Int32) d13_67 rfl (tw 67) ?_
    by_cases p : cpa x < (55296 : Int32)
    · refine C.icmpT 80 d13_69 rfl (tlt p).1 ?_
      refine C.aloadN 81 d13_80 rfl rfl rfl ?_
      refine C.iloadN 82 d13_81 rfl rfl ?_
      refine C.iload 84 d13_82 rfl rfl ?_
      refine C.i2c 85 d13_84 rfl ?_
      show W h [buf] 0 0 85 #[.val (.ref buf), .val (.int (Int32.ofNat pre.length)), .val (.int x), .val (.int (2 : Int32)), .val (.int (vv x)), .val (.int (cpa x))] [.int (i2c (cpa x)), .int (Int32.ofNat pre.length), .ref buf]
      refine C.castore 86 pre.length (i2c (cpa x)) d13_85 rfl A (by simp) (o_nn (by first | omega | (simp; omega))) (o_cl (by first | omega | (simp; omega))) (by simp <;> omega) (ch_nar (i2c_ch _)) ?_
      intro h1 W1 A1
      rw [set1] at A1
      have gq : gp x = [i2c (cpa x)] := by rw [gp_2 hk, if_pos p]
      refine C.iloadN 87 d13_86 rfl rfl ?_
      refine C.iconst 88 (1 : Int32) d13_87 rfl rfl ?_
      refine C.iadd 89 d13_88 rfl ?_
      exact C.retI .int d13_89 rfl (by simp) rfl (by decide) (by decide) ⟨by rw [gq, List.length_append]; exact congrArg (fun z => some (Value.int z)) (o_add pre.length 1), Keep.of_wr W1, by rw [gq]; exact A1⟩ (fun _ q => nomatch q)
    · refine C.icmpF 72 d13_69 rfl (flt p).1 ?_
      refine C.iload 74 d13_72 rfl rfl ?_
      refine C.sipush 77 (2048 : Int32) d13_74 rfl rfl ?_
      refine C.iadd 78 d13_77 rfl ?_
      refine C.istore 80 #[.val (.ref buf), .val (.int (Int32.ofNat pre.length)), .val (.int x), .val (.int (2 : Int32)), .val (.int (vv x)), .val (.int ((cpa x) + (2048 : Int32)))] d13_78 rfl rfl ?_
      refine C.aloadN 81 d13_80 rfl rfl rfl ?_
      refine C.iloadN 82 d13_81 rfl rfl ?_
      refine C.iload 84 d13_82 rfl rfl ?_
      refine C.i2c 85 d13_84 rfl ?_
      show W h [buf] 0 0 85 #[.val (.ref buf), .val (.int (Int32.ofNat pre.length)), .val (.int x), .val (.int (2 : Int32)), .val (.int (vv x)), .val (.int ((cpa x) + (2048 : Int32)))] [.int (i2c (cpa x + (2048 : Int32))), .int (Int32.ofNat pre.length), .ref buf]
      refine C.castore 86 pre.length (i2c (cpa x + (2048 : Int32))) d13_85 rfl A (by simp) (o_nn (by first | omega | (simp; omega))) (o_cl (by first | omega | (simp; omega))) (by simp <;> omega) (ch_nar (i2c_ch _)) ?_
      intro h1 W1 A1
      rw [set1] at A1
      have gq : gp x = [i2c (cpa x + (2048 : Int32))] := by rw [gp_2 hk, if_neg p]
      refine C.iloadN 87 d13_86 rfl rfl ?_
      refine C.iconst 88 (1 : Int32) d13_87 rfl rfl ?_
      refine C.iadd 89 d13_88 rfl ?_
      exact C.retI .int d13_89 rfl (by simp) rfl (by decide) (by decide) ⟨by rw [gq, List.length_append]; exact congrArg (fun z => some (Value.int z)) (o_add pre.length 1), Keep.of_wr W1, by rw [gq]; exact A1⟩ (fun _ q => nomatch q)
  · rw [hk]
    rw [gp_3 hk] at A hm
    replace A : Al Z h buf .char (iv' pre ++ List.replicate (2 + m) (.int 0)) := A
    replace hm : pre.length + (2 + m) ≤ 8 := hm
    show W h [buf] 0 0 3 #[.val (.ref buf), .val (.int (Int32.ofNat pre.length)), .val (.int x), .unset, .unset, .unset] [.int (3 : Int32)]
    refine C.istoreN 4 #[.val (.ref buf), .val (.int (Int32.ofNat pre.length)), .val (.int x), .val (.int (3 : Int32)), .unset, .unset] d13_3 rfl rfl ?_
    refine C.iloadN 5 d13_4 rfl rfl ?_
    refine C.iconst 6 (2 : Int32) d13_5 rfl rfl ?_
    refine C.iushr 7 d13_6 rfl ?_
    show W h [buf] 0 0 7 #[.val (.ref buf), .val (.int (Int32.ofNat pre.length)), .val (.int x), .val (.int (3 : Int32)), .unset, .unset] [.int (vv x)]
    refine C.istore 9 #[.val (.ref buf), .val (.int (Int32.ofNat pre.length)), .val (.int x), .val (.int (3 : Int32)), .val (.int (vv x)), .unset] d13_7 rfl rfl ?_
    refine C.iloadN 10 d13_9 rfl rfl ?_
    refine C.ifT 26 d13_10 rfl (by decide) ?_
    refine C.iloadN 27 d13_26 rfl rfl ?_
    refine C.iconst 28 (1 : Int32) d13_27 rfl rfl ?_
    refine C.icmpT 49 d13_28 rfl (by decide) ?_
    refine C.iloadN 50 d13_49 rfl rfl ?_
    refine C.iconst 51 (2 : Int32) d13_50 rfl rfl ?_
    refine C.icmpT 90 d13_51 rfl (by decide) ?_
    refine C.iload 92 d13_90 rfl rfl ?_
    refine C.ldc 94 (1048576 : Int32) d13_92 rfl (tw 68) ?_
    refine C.irem 95 d13_94 rfl (by decide) ?_
    show W h [buf] 0 0 95 #[.val (.ref buf), .val (.int (Int32.ofNat pre.length)), .val (.int x), .val (.int (3 : Int32)), .val (.int (vv x)), .unset] [.int (sv x)]
    refine C.istore 97 #[.val (.ref buf), .val (.int (Int32.ofNat pre.length)), .val (.int x), .val (.int (3 : Int32)), .val (.int (vv x)), .val (.int (sv x))] d13_95 rfl rfl ?_
    refine C.aloadN 98 d13_97 rfl rfl rfl ?_
    refine C.iloadN 99 d13_98 rfl rfl ?_
    refine C.ldc 101 (55296 : Int32) d13_99 rfl (tw 67) ?_
    refine C.iload 103 d13_101 rfl rfl ?_
    refine C.bipush 105 (10 : Int32) d13_103 rfl rfl ?_
    refine C.iushr 106 d13_105 rfl ?_
    refine C.iadd 107 d13_106 rfl ?_
    refine C.i2c 108 d13_107 rfl ?_
    replace A : Al Z h buf .char (iv' pre ++ List.replicate (1 + (1 + m)) (.int 0)) := by have q := A; rw [show 1 + (1 + m) = 2 + m by omega]; exact q
    show W h [buf] 0 0 108 #[.val (.ref buf), .val (.int (Int32.ofNat pre.length)), .val (.int x), .val (.int (3 : Int32)), .val (.int (vv x)), .val (.int (sv x))] [.int (i2c ((55296 : Int32) + XT.ushr (sv x) (10 : Int32))), .int (Int32.ofNat pre.length), .ref buf]
    refine C.castore 109 pre.length (i2c ((55296 : Int32) + XT.ushr (sv x) (10 : Int32))) d13_108 rfl A (by simp) (o_nn (by first | omega | (simp; omega))) (o_cl (by first | omega | (simp; omega))) (by simp <;> omega) (ch_nar (i2c_ch _)) ?_
    intro h1 W1 A1
    rw [set1] at A1
    refine C.aloadN 110 d13_109 rfl rfl rfl ?_
    refine C.iloadN 111 d13_110 rfl rfl ?_
    refine C.iconst 112 (1 : Int32) d13_111 rfl rfl ?_
    refine C.iadd 113 d13_112 rfl ?_
    have e1 : Int32.ofNat pre.length + (1 : Int32) = Int32.ofNat (pre ++ [(i2c ((55296 : Int32) + XT.ushr (sv x) (10 : Int32)))]).length := by rw [List.length_append]; exact o_add pre.length 1
    rw [e1]
    refine C.ldc 115 (56320 : Int32) d13_113 rfl (tw 69) ?_
    refine C.iload 117 d13_115 rfl rfl ?_
    refine C.sipush 120 (1023 : Int32) d13_117 rfl rfl ?_
    refine C.iand 121 d13_120 rfl ?_
    refine C.iadd 122 d13_121 rfl ?_
    refine C.i2c 123 d13_122 rfl ?_
    show W h1 [buf] 0 0 123 #[.val (.ref buf), .val (.int (Int32.ofNat pre.length)), .val (.int x), .val (.int (3 : Int32)), .val (.int (vv x)), .val (.int (sv x))] [.int (i2c ((56320 : Int32) + (sv x &&& (1023 : Int32)))), .int (Int32.ofNat (pre ++ [(i2c ((55296 : Int32) + XT.ushr (sv x) (10 : Int32)))]).length), .ref buf]
    refine C.castore 124 (pre ++ [(i2c ((55296 : Int32) + XT.ushr (sv x) (10 : Int32)))]).length (i2c ((56320 : Int32) + (sv x &&& (1023 : Int32)))) d13_123 rfl A1 (by simp) (o_nn (by first | omega | (simp; omega))) (o_cl (by first | omega | (simp; omega))) (by simp <;> omega) (ch_nar (i2c_ch _)) ?_
    intro h2 W2 A2
    rw [set1] at A2
    refine C.iloadN 125 d13_124 rfl rfl ?_
    refine C.iconst 126 (2 : Int32) d13_125 rfl rfl ?_
    refine C.iadd 127 d13_126 rfl ?_
    exact C.retI .int d13_127 rfl (by simp) rfl (by decide) (by decide) ⟨by rw [gp_3 hk, List.length_append]; exact congrArg (fun z => some (Value.int z)) (o_add pre.length 2), (Keep.of_wr W1).wr W2 (Or.inl (List.mem_of_getElem? (i := 0) rfl)), by rw [gp_3 hk]; exact (by simpa using A2)⟩ (fun _ q => nomatch q)
theorem d11_0 : decode method_6_code 0 = .ok (.iload_n 2, 1) := by decide +kernel
theorem d11_1 : decode method_6_code 1 = .ok (.aload_n 0, 1) := by decide +kernel
theorem d11_2 : decode method_6_code 2 = .ok (.invokevirtual 32, 3) := by decide +kernel
theorem d11_5 : decode method_6_code 5 = .ok (.if_icmp .ge 16, 3) := by decide +kernel
theorem d11_8 : decode method_6_code 8 = .ok (.aload_n 0, 1) := by decide +kernel
theorem d11_9 : decode method_6_code 9 = .ok (.iload_n 2, 1) := by decide +kernel
theorem d11_10 : decode method_6_code 10 = .ok (.invokevirtual 44, 3) := by decide +kernel
theorem d11_13 : decode method_6_code 13 = .ok (.aload_n 1, 1) := by decide +kernel
theorem d11_14 : decode method_6_code 14 = .ok (.iload_n 2, 1) := by decide +kernel
theorem d11_15 : decode method_6_code 15 = .ok (.invokevirtual 44, 3) := by decide +kernel
theorem d11_18 : decode method_6_code 18 = .ok (.if_icmp .ne 7, 3) := by decide +kernel
theorem d11_21 : decode method_6_code 21 = .ok (.iconst 1, 1) := by decide +kernel
theorem d11_22 : decode method_6_code 22 = .ok (.goto 4, 3) := by decide +kernel
theorem d11_25 : decode method_6_code 25 = .ok (.iconst 0, 1) := by decide +kernel
theorem d11_26 : decode method_6_code 26 = .ok (.ireturn, 1) := by decide +kernel
theorem pn11 : plainFor (⟨"com/example/goneish/goneish/NameRuleCutToUtf8BytesPinLaw", "same", "(Ljava/lang/String;Ljava/lang/String;I)Z"⟩ : MethodName) = true := by first | exact plainFor_of_name (by first | (simp [plainName, overriddenIn]; done) | decide +kernel) | decide +kernel
theorem pd11 : parseMethodDescriptor "(Ljava/lang/String;Ljava/lang/String;I)Z" = some ⟨[(.object "java/lang/String"), (.object "java/lang/String"), .int], some .boolean⟩ := by decide +kernel
set_option maxRecDepth 65536 in
set_option maxHeartbeats 40000000 in
theorem sam (l : Launch) (Z : State) (a0' : Array Value) (hw : ∀ d ∈ tables_1, d.before a0' Z = true) (hEL : EW Z a0' EL0) (hSA : ∀ a ∈ Bundle.stringAtoms, a.before a0' Z = true) (h : Heap) (cpt : Int32) (SCP : Sta Z Z.heap "java/lang/String" "COMPACT_STRINGS" "Z" (.int cpt)) (hcp : ¬ cpt = 0) (SAD : Sta Z Z.heap "java/lang/StringUTF16" "$assertionsDisabled" "Z" (.int (1 : Int32))) (SHI : Sta Z Z.heap "java/lang/StringUTF16" "HI_BYTE_SHIFT" "I" (.int (0 : Int32))) (SLO : Sta Z Z.heap "java/lang/StringUTF16" "LO_BYTE_SHIFT" "I" (.int (8 : Int32))) (sf : Value) (hsf : sf.isRef = true) (SSF : Sta Z Z.heap "jdk/internal/util/Preconditions" "SIOOBE_FORMATTER" "Ljava/util/function/BiFunction;" sf) (r rb t tb : Addr) (cs : List Int32) (k i : Nat) (hn : cs.length ≤ 8) (hch : ∀ c ∈ cs, Ch c) (hi : i < 2 ^ 31) (T1 : Str Z h r rb (cs.take k)) (T : Str Z h t tb cs) :
    Con l Z EL0 (⟨"com/example/goneish/goneish/NameRuleCutToUtf8BytesPinLaw", "same", "(Ljava/lang/String;Ljava/lang/String;I)Z"⟩ : MethodName) method_6_code 3 (some .boolean) ⟨5, 0, 0, 67⟩ #[.ref r, .ref t, .int (Int32.ofNat i)] h [] (Same (some (.int 1)) h) (fun _ => []) := by
  refine Con.of (Ls := #[.val (.ref r), .val (.ref t), .val (.int (Int32.ofNat i))]) hw hEL pn11 (fun m => by first | (simp [entryFrame, mkF, argsToLocals, Value.category, maxLocals]; done) | rfl) fun W C => ?_
  refine C.kept fun hE => ?_
  have z0 : Z.heap.size ≤ h.size := hE.1
  have lk : (cs.take k).length < 2 ^ 28 := by rw [List.length_take]; omega
  refine C.iloadN 1 d11_0 rfl rfl ?_
  refine C.aloadN 2 d11_1 rfl rfl rfl ?_
  refine C.callV 5 (as := []) (rest := [.int (Int32.ofNat i)]) (rm := ⟨1, 0, 0, 13⟩) 1 d11_2 rfl (tw 56) (tw 32) (tw 34) nfSelf (tw 33) (tw 4) (tw 35) (by decide) T1.1 (sle l Z a0' hw hEL hSA h cpt SCP hcp SAD SHI SLO r rb (cs.take k) lk T1) (by simp) pd6 rfl rfl (Nat.le_of_eq rfl) (by decide) (by decide) (by decide) (by decide) rfl ?_
  refine same_intro ?_
  show W h [] 0 0 5 #[.val (.ref r), .val (.ref t), .val (.int (Int32.ofNat i))] [.int (Int32.ofNat (cs.take k).length), .int (Int32.ofNat i)]
  by_cases hlt : i < (cs.take k).length
  · have q : Int32.ofNat i < Int32.ofNat (cs.take k).length := (o_lt hi (by omega)).mpr hlt
    obtain ⟨c, hg⟩ : ∃ c, (cs.take k)[i]? = some c := ⟨_, List.getElem?_eq_getElem hlt⟩
    have hg' : cs[i]? = some c := by rw [List.getElem?_take] at hg; split at hg; exact hg; cases hg
    have hc := hch c (List.mem_of_getElem? hg')
    refine C.icmpF 8 d11_5 rfl (tlt q).2.1 ?_
    refine C.aloadN 9 d11_8 rfl rfl rfl ?_
    refine C.iloadN 10 d11_9 rfl rfl ?_
    refine C.callV 13 (as := [.int (Int32.ofNat i)]) (rest := []) (rm := ⟨4, 0, 0, 53⟩) 0 d11_10 rfl (tw 158) (tw 159) (tw 161) nfSelf (tw 160) (tw 4) (tw 162) (by decide) T1.1 (sca l Z a0' hw hEL hSA h cpt SCP hcp SAD SHI SLO sf hsf SSF r rb (cs.take k) i c lk hg hc T1) (by simp) pd38 rfl rfl (Nat.le_of_eq rfl) (by decide) (by decide) (by decide) (by decide) rfl ?_
    refine same_intro ?_
    show W h [] 0 0 13 #[.val (.ref r), .val (.ref t), .val (.int (Int32.ofNat i))] [.int c]
    refine C.aloadN 14 d11_13 rfl rfl rfl ?_
    refine C.iloadN 15 d11_14 rfl rfl ?_
    refine C.callV 18 (as := [.int (Int32.ofNat i)]) (rest := [.int c]) (rm := ⟨4, 0, 0, 53⟩) 1 d11_15 rfl (tw 158) (tw 159) (tw 161) nfSelf (tw 160) (tw 4) (tw 162) (by decide) T.1 (sca l Z a0' hw hEL hSA h cpt SCP hcp SAD SHI SLO sf hsf SSF t tb cs i c (by omega) hg' hc T) (by simp) pd38 rfl rfl (Nat.le_of_eq rfl) (by decide) (by decide) (by decide) (by decide) rfl ?_
    refine same_intro ?_
    show W h [] 0 0 18 #[.val (.ref r), .val (.ref t), .val (.int (Int32.ofNat i))] [.int c, .int c]
    refine C.icmpF 21 d11_18 rfl (teq rfl).2 ?_
    refine C.iconst 22 (1 : Int32) d11_21 rfl rfl ?_
    refine C.goto 26 d11_22 rfl ?_
    exact C.retI .boolean d11_26 rfl (by simp) rfl (by decide) (by decide) ⟨rfl, rfl⟩ (fun _ q => nomatch q)
  · have q : ¬ Int32.ofNat i < Int32.ofNat (cs.take k).length := fun z => hlt ((o_lt hi (by omega)).mp z)
    refine C.icmpT 21 d11_5 rfl (flt q).2.1 ?_
    refine C.iconst 22 (1 : Int32) d11_21 rfl rfl ?_
    refine C.goto 26 d11_22 rfl ?_
    exact C.retI .boolean d11_26 rfl (by simp) rfl (by decide) (by decide) ⟨rfl, rfl⟩ (fun _ q => nomatch q)
set_option maxRecDepth 65536 in
set_option maxHeartbeats 40000000 in
theorem law_con (l : Launch) (Z : State) (a0' : Array Value) (hw : ∀ d ∈ tables_1, d.before a0' Z = true) (hEL : EW Z a0' EL0) (hSA : ∀ a ∈ Bundle.stringAtoms, a.before a0' Z = true) (a b c d cnt M : Int32) (cpt : Int32) (SCP : Sta Z Z.heap "java/lang/String" "COMPACT_STRINGS" "Z" (.int cpt)) (hcp : ¬ cpt = 0) (SAD : Sta Z Z.heap "java/lang/StringUTF16" "$assertionsDisabled" "Z" (.int (1 : Int32))) (SHI : Sta Z Z.heap "java/lang/StringUTF16" "HI_BYTE_SHIFT" "I" (.int (0 : Int32))) (SLO : Sta Z Z.heap "java/lang/StringUTF16" "LO_BYTE_SHIFT" "I" (.int (8 : Int32))) (sf : Value) (hsf : sf.isRef = true) (SSF : Sta Z Z.heap "jdk/internal/util/Preconditions" "SIOOBE_FORMATTER" "Ljava/util/function/BiFunction;" sf) :
    Con l Z EL0 x code maxLocals ret room_1 #[.int a, .int b, .int c, .int d, .int cnt, .int M] Z.heap [] (fun v _ => v = some (.int 1)) (fun _ => []) := by
  refine Con.of (Ls := #[.val (.int a), .val (.int b), .val (.int c), .val (.int d), .val (.int cnt), .val (.int M), .unset, .unset, .unset, .unset, .unset, .unset, .unset, .unset, .unset, .unset, .unset, .unset, .unset, .unset, .unset, .unset, .unset, .unset]) hw hEL pn0 (fun m => by first | (simp [entryFrame, mkF, argsToLocals, Value.category, maxLocals]; done) | rfl) fun W C => ?_
  have z0 : Z.heap.size ≤ Z.heap.size := Nat.le_refl _
  have tail : ∀ (gs : List (List Int32 × Nat)) (hg : ∀ g ∈ gs, Wf g) (hn : (flat gs).length ≤ 8) (K : Nat) (hK : K = cut M 0 gs) (h : Heap) (os : List Addr) (t tb : Addr) (T : Str Z h t tb (flat gs)) (s0 s1 s2 s3 s4 s6 s7 s8 s9 s10 s11 s12 s13 s14 s15 s16 s17 s20 s21 s22 s23 : Slot) (h21 : (s21 = .unset ∨ ∃ w : Value, s21 = .val w ∧ w.category = 1)), W h os 6 36 311 #[s0, s1, s2, s3, s4, .val (.int M), s6, s7, s8, s9, s10, s11, s12, s13, s14, s15, s16, s17, .val (.ref t), .val (.int (Int32.ofNat K)), s20, s21, s22, s23] [] := by
    intro gs hg hn K hK h os t tb T s0 s1 s2 s3 s4 s6 s7 s8 s9 s10 s11 s12 s13 s14 s15 s16 s17 s20 s21 s22 s23 h21
    refine C.aload 313 at_311 rfl rfl rfl ?_
    refine C.iload 315 at_313 rfl rfl ?_
    refine C.callS 318 (as := [.ref t, .int M]) (rest := []) (rm := ⟨7, 3, 28, 110⟩) 0 at_315 rfl (tw 27) (tw 28) (tw 29) (tw 30) (by decide) (cutc l Z a0' hw hEL hSA h cpt SCP hcp SAD SHI SLO sf hsf SSF M t tb gs hg hn T) (by simp) pd5 rfl rfl (Nat.le_of_eq rfl) (by decide) (by decide) (by decide) (by decide) rfl ?_
    rintro v h1 ⟨r, rb, rfl, E1, T1⟩
    replace T := T.ext E1
    rw [← hK] at T1
    show W h1 os 9 64 318 #[s0, s1, s2, s3, s4, .val (.int M), s6, s7, s8, s9, s10, s11, s12, s13, s14, s15, s16, s17, .val (.ref t), .val (.int (Int32.ofNat K)), s20, s21, s22, s23] [.ref r]
    refine C.astore 320 #[s0, s1, s2, s3, s4, .val (.int M), s6, s7, s8, s9, s10, s11, s12, s13, s14, s15, s16, s17, .val (.ref t), .val (.int (Int32.ofNat K)), s20, .val (.ref r), s22, s23] at_318 rfl rfl (XS.store1 rfl h21 rfl) ?_
    refine C.aload 322 at_320 rfl rfl rfl ?_
    have lk : ((flat gs).take K).length = K := by rw [List.length_take, hK]; exact Nat.min_eq_left (cut_le M gs 0)
    refine C.callV 325 (as := []) (rest := []) (rm := ⟨1, 0, 0, 13⟩) 0 at_322 rfl (tw 56) (tw 32) (tw 34) nfSelf (tw 33) (tw 4) (tw 35) (by decide) T1.1 (sle l Z a0' hw hEL hSA h1 cpt SCP hcp SAD SHI SLO r rb ((flat gs).take K) (by rw [lk]; have := cut_le M gs 0; omega) T1) (by simp) pd6 rfl rfl (Nat.le_of_eq rfl) (by decide) (by decide) (by decide) (by decide) rfl ?_
    refine same_intro ?_
    show W h1 os 9 64 325 #[s0, s1, s2, s3, s4, .val (.int M), s6, s7, s8, s9, s10, s11, s12, s13, s14, s15, s16, s17, .val (.ref t), .val (.int (Int32.ofNat K)), s20, .val (.ref r), s22, s23] [.int (Int32.ofNat ((flat gs).take K).length)]
    rw [lk]
    refine C.iload 327 at_325 rfl rfl ?_
    refine C.icmpF 330 at_327 rfl (teq rfl).2 ?_
    refine C.aload 332 at_330 rfl rfl rfl ?_
    refine C.aload 334 at_332 rfl rfl rfl ?_
    refine C.iconst 335 (0 : Int32) at_334 rfl rfl ?_
    refine C.callS 338 (as := [.ref r, .ref t, .int (0 : Int32)]) (rest := []) (rm := ⟨5, 0, 0, 67⟩) 0 at_335 rfl (tw 57) (tw 58) (tw 25) (tw 59) (by decide) (sam l Z a0' hw hEL hSA h1 cpt SCP hcp SAD SHI SLO sf hsf SSF r rb t tb (flat gs) K 0 hn (flat_ch gs hg) (by decide) T1 T) (by simp) pd11 rfl rfl (Nat.le_of_eq rfl) (by decide) (by decide) (by decide) (by decide) rfl ?_
    refine same_intro ?_
    show W h1 os 9 64 338 #[s0, s1, s2, s3, s4, .val (.int M), s6, s7, s8, s9, s10, s11, s12, s13, s14, s15, s16, s17, .val (.ref t), .val (.int (Int32.ofNat K)), s20, .val (.ref r), s22, s23] [.int (1 : Int32)]
    refine C.ifF 341 at_338 rfl (by decide) ?_
    refine C.aload 343 at_341 rfl rfl rfl ?_
    refine C.aload 345 at_343 rfl rfl rfl ?_
    refine C.iconst 346 (1 : Int32) at_345 rfl rfl ?_
    refine C.callS 349 (as := [.ref r, .ref t, .int (1 : Int32)]) (rest := []) (rm := ⟨5, 0, 0, 67⟩) 0 at_346 rfl (tw 57) (tw 58) (tw 25) (tw 59) (by decide) (sam l Z a0' hw hEL hSA h1 cpt SCP hcp SAD SHI SLO sf hsf SSF r rb t tb (flat gs) K 1 hn (flat_ch gs hg) (by decide) T1 T) (by simp) pd11 rfl rfl (Nat.le_of_eq rfl) (by decide) (by decide) (by decide) (by decide) rfl ?_
    refine same_intro ?_
    show W h1 os 9 64 349 #[s0, s1, s2, s3, s4, .val (.int M), s6, s7, s8, s9, s10, s11, s12, s13, s14, s15, s16, s17, .val (.ref t), .val (.int (Int32.ofNat K)), s20, .val (.ref r), s22, s23] [.int (1 : Int32)]
    refine C.ifF 352 at_349 rfl (by decide) ?_
    refine C.aload 354 at_352 rfl rfl rfl ?_
    refine C.aload 356 at_354 rfl rfl rfl ?_
    refine C.iconst 357 (2 : Int32) at_356 rfl rfl ?_
    refine C.callS 360 (as := [.ref r, .ref t, .int (2 : Int32)]) (rest := []) (rm := ⟨5, 0, 0, 67⟩) 0 at_357 rfl (tw 57) (tw 58) (tw 25) (tw 59) (by decide) (sam l Z a0' hw hEL hSA h1 cpt SCP hcp SAD SHI SLO sf hsf SSF r rb t tb (flat gs) K 2 hn (flat_ch gs hg) (by decide) T1 T) (by simp) pd11 rfl rfl (Nat.le_of_eq rfl) (by decide) (by decide) (by decide) (by decide) rfl ?_
    refine same_intro ?_
    show W h1 os 9 64 360 #[s0, s1, s2, s3, s4, .val (.int M), s6, s7, s8, s9, s10, s11, s12, s13, s14, s15, s16, s17, .val (.ref t), .val (.int (Int32.ofNat K)), s20, .val (.ref r), s22, s23] [.int (1 : Int32)]
    refine C.ifF 363 at_360 rfl (by decide) ?_
    refine C.aload 365 at_363 rfl rfl rfl ?_
    refine C.aload 367 at_365 rfl rfl rfl ?_
    refine C.iconst 368 (3 : Int32) at_367 rfl rfl ?_
    refine C.callS 371 (as := [.ref r, .ref t, .int (3 : Int32)]) (rest := []) (rm := ⟨5, 0, 0, 67⟩) 0 at_368 rfl (tw 57) (tw 58) (tw 25) (tw 59) (by decide) (sam l Z a0' hw hEL hSA h1 cpt SCP hcp SAD SHI SLO sf hsf SSF r rb t tb (flat gs) K 3 hn (flat_ch gs hg) (by decide) T1 T) (by simp) pd11 rfl rfl (Nat.le_of_eq rfl) (by decide) (by decide) (by decide) (by decide) rfl ?_
    refine same_intro ?_
    show W h1 os 9 64 371 #[s0, s1, s2, s3, s4, .val (.int M), s6, s7, s8, s9, s10, s11, s12, s13, s14, s15, s16, s17, .val (.ref t), .val (.int (Int32.ofNat K)), s20, .val (.ref r), s22, s23] [.int (1 : Int32)]
    refine C.ifF 374 at_371 rfl (by decide) ?_
    refine C.aload 376 at_374 rfl rfl rfl ?_
    refine C.aload 378 at_376 rfl rfl rfl ?_
    refine C.iconst 379 (4 : Int32) at_378 rfl rfl ?_
    refine C.callS 382 (as := [.ref r, .ref t, .int (4 : Int32)]) (rest := []) (rm := ⟨5, 0, 0, 67⟩) 0 at_379 rfl (tw 57) (tw 58) (tw 25) (tw 59) (by decide) (sam l Z a0' hw hEL hSA h1 cpt SCP hcp SAD SHI SLO sf hsf SSF r rb t tb (flat gs) K 4 hn (flat_ch gs hg) (by decide) T1 T) (by simp) pd11 rfl rfl (Nat.le_of_eq rfl) (by decide) (by decide) (by decide) (by decide) rfl ?_
    refine same_intro ?_
    show W h1 os 9 64 382 #[s0, s1, s2, s3, s4, .val (.int M), s6, s7, s8, s9, s10, s11, s12, s13, s14, s15, s16, s17, .val (.ref t), .val (.int (Int32.ofNat K)), s20, .val (.ref r), s22, s23] [.int (1 : Int32)]
    refine C.ifF 385 at_382 rfl (by decide) ?_
    refine C.aload 387 at_385 rfl rfl rfl ?_
    refine C.aload 389 at_387 rfl rfl rfl ?_
    refine C.iconst 390 (5 : Int32) at_389 rfl rfl ?_
    refine C.callS 393 (as := [.ref r, .ref t, .int (5 : Int32)]) (rest := []) (rm := ⟨5, 0, 0, 67⟩) 0 at_390 rfl (tw 57) (tw 58) (tw 25) (tw 59) (by decide) (sam l Z a0' hw hEL hSA h1 cpt SCP hcp SAD SHI SLO sf hsf SSF r rb t tb (flat gs) K 5 hn (flat_ch gs hg) (by decide) T1 T) (by simp) pd11 rfl rfl (Nat.le_of_eq rfl) (by decide) (by decide) (by decide) (by decide) rfl ?_
    refine same_intro ?_
    show W h1 os 9 64 393 #[s0, s1, s2, s3, s4, .val (.int M), s6, s7, s8, s9, s10, s11, s12, s13, s14, s15, s16, s17, .val (.ref t), .val (.int (Int32.ofNat K)), s20, .val (.ref r), s22, s23] [.int (1 : Int32)]
    refine C.ifF 396 at_393 rfl (by decide) ?_
    refine C.aload 398 at_396 rfl rfl rfl ?_
    refine C.aload 400 at_398 rfl rfl rfl ?_
    refine C.bipush 402 (6 : Int32) at_400 rfl rfl ?_
    refine C.callS 405 (as := [.ref r, .ref t, .int (6 : Int32)]) (rest := []) (rm := ⟨5, 0, 0, 67⟩) 0 at_402 rfl (tw 57) (tw 58) (tw 25) (tw 59) (by decide) (sam l Z a0' hw hEL hSA h1 cpt SCP hcp SAD SHI SLO sf hsf SSF r rb t tb (flat gs) K 6 hn (flat_ch gs hg) (by decide) T1 T) (by simp) pd11 rfl rfl (Nat.le_of_eq rfl) (by decide) (by decide) (by decide) (by decide) rfl ?_
    refine same_intro ?_
    show W h1 os 9 64 405 #[s0, s1, s2, s3, s4, .val (.int M), s6, s7, s8, s9, s10, s11, s12, s13, s14, s15, s16, s17, .val (.ref t), .val (.int (Int32.ofNat K)), s20, .val (.ref r), s22, s23] [.int (1 : Int32)]
    refine C.ifF 408 at_405 rfl (by decide) ?_
    refine C.aload 410 at_408 rfl rfl rfl ?_
    refine C.aload 412 at_410 rfl rfl rfl ?_
    refine C.bipush 414 (7 : Int32) at_412 rfl rfl ?_
    refine C.callS 417 (as := [.ref r, .ref t, .int (7 : Int32)]) (rest := []) (rm := ⟨5, 0, 0, 67⟩) 0 at_414 rfl (tw 57) (tw 58) (tw 25) (tw 59) (by decide) (sam l Z a0' hw hEL hSA h1 cpt SCP hcp SAD SHI SLO sf hsf SSF r rb t tb (flat gs) K 7 hn (flat_ch gs hg) (by decide) T1 T) (by simp) pd11 rfl rfl (Nat.le_of_eq rfl) (by decide) (by decide) (by decide) (by decide) rfl ?_
    refine same_intro ?_
    show W h1 os 9 64 417 #[s0, s1, s2, s3, s4, .val (.int M), s6, s7, s8, s9, s10, s11, s12, s13, s14, s15, s16, s17, .val (.ref t), .val (.int (Int32.ofNat K)), s20, .val (.ref r), s22, s23] [.int (1 : Int32)]
    refine C.ifF 420 at_417 rfl (by decide) ?_
    refine C.iconst 421 (1 : Int32) at_420 rfl rfl ?_
    refine C.goto 425 at_421 rfl ?_
    exact C.retI .boolean at_425 rfl (by simp) rfl (by decide) (by decide) rfl (fun _ q => nomatch q)
  have la := gp_len a
  have lb := gp_len b
  have lc := gp_len c
  have ld := gp_len d
  obtain ⟨n, hn5, en⟩ := mod5 cnt
  refine C.iload 2 at_0 rfl rfl ?_
  refine C.ldc 4 (2147483647 : Int32) at_2 rfl (tw 0) ?_
  refine C.iand 5 at_4 rfl ?_
  refine C.iconst 6 (5 : Int32) at_5 rfl rfl ?_
  refine C.irem 7 at_6 rfl (by decide) ?_
  rw [en]
  refine C.istore 9 #[.val (.int a), .val (.int b), .val (.int c), .val (.int d), .val (.int cnt), .val (.int M), .val (.int (Int32.ofNat n)), .unset, .unset, .unset, .unset, .unset, .unset, .unset, .unset, .unset, .unset, .unset, .unset, .unset, .unset, .unset, .unset, .unset] at_7 rfl rfl ?_
  refine C.iloadN 10 at_9 rfl rfl ?_
  refine C.iconst 11 (3 : Int32) at_10 rfl rfl ?_
  refine C.iand 12 at_11 rfl ?_
  rw [(kd_r a).2]
  refine C.istore 14 #[.val (.int a), .val (.int b), .val (.int c), .val (.int d), .val (.int cnt), .val (.int M), .val (.int (Int32.ofNat n)), .val (.int (Int32.ofNat (kd a))), .unset, .unset, .unset, .unset, .unset, .unset, .unset, .unset, .unset, .unset, .unset, .unset, .unset, .unset, .unset, .unset] at_12 rfl rfl ?_
  refine C.iloadN 15 at_14 rfl rfl ?_
  refine C.iconst 16 (3 : Int32) at_15 rfl rfl ?_
  refine C.iand 17 at_16 rfl ?_
  rw [(kd_r b).2]
  refine C.istore 19 #[.val (.int a), .val (.int b), .val (.int c), .val (.int d), .val (.int cnt), .val (.int M), .val (.int (Int32.ofNat n)), .val (.int (Int32.ofNat (kd a))), .val (.int (Int32.ofNat (kd b))), .unset, .unset, .unset, .unset, .unset, .unset, .unset, .unset, .unset, .unset, .unset, .unset, .unset, .unset, .unset] at_17 rfl rfl ?_
  refine C.iloadN 20 at_19 rfl rfl ?_
  refine C.iconst 21 (3 : Int32) at_20 rfl rfl ?_
  refine C.iand 22 at_21 rfl ?_
  rw [(kd_r c).2]
  refine C.istore 24 #[.val (.int a), .val (.int b), .val (.int c), .val (.int d), .val (.int cnt), .val (.int M), .val (.int (Int32.ofNat n)), .val (.int (Int32.ofNat (kd a))), .val (.int (Int32.ofNat (kd b))), .val (.int (Int32.ofNat (kd c))), .unset, .unset, .unset, .unset, .unset, .unset, .unset, .unset, .unset, .unset, .unset, .unset, .unset, .unset] at_22 rfl rfl ?_
  refine C.iloadN 25 at_24 rfl rfl ?_
  refine C.iconst 26 (3 : Int32) at_25 rfl rfl ?_
  refine C.iand 27 at_26 rfl ?_
  rw [(kd_r d).2]
  refine C.istore 29 #[.val (.int a), .val (.int b), .val (.int c), .val (.int d), .val (.int cnt), .val (.int M), .val (.int (Int32.ofNat n)), .val (.int (Int32.ofNat (kd a))), .val (.int (Int32.ofNat (kd b))), .val (.int (Int32.ofNat (kd c))), .val (.int (Int32.ofNat (kd d))), .unset, .unset, .unset, .unset, .unset, .unset, .unset, .unset, .unset, .unset, .unset, .unset, .unset] at_27 rfl rfl ?_
  match n, hn5 with
  | 0, _ =>
    show W Z.heap [] 0 0 29 #[.val (.int a), .val (.int b), .val (.int c), .val (.int d), .val (.int cnt), .val (.int M), .val (.int (0 : Int32)), .val (.int (Int32.ofNat (kd a))), .val (.int (Int32.ofNat (kd b))), .val (.int (Int32.ofNat (kd c))), .val (.int (Int32.ofNat (kd d))), .unset, .unset, .unset, .unset, .unset, .unset, .unset, .unset, .unset, .unset, .unset, .unset, .unset] []
    refine C.iload 31 at_29 rfl rfl ?_
    refine C.iconst 32 (1 : Int32) at_31 rfl rfl ?_
    refine C.icmpT 43 at_32 rfl (by decide) ?_
    refine C.iconst 44 (0 : Int32) at_43 rfl rfl ?_
    refine C.istore 46 #[.val (.int a), .val (.int b), .val (.int c), .val (.int d), .val (.int cnt), .val (.int M), .val (.int (0 : Int32)), .val (.int (Int32.ofNat (kd a))), .val (.int (Int32.ofNat (kd b))), .val (.int (Int32.ofNat (kd c))), .val (.int (Int32.ofNat (kd d))), .val (.int (0 : Int32)), .unset, .unset, .unset, .unset, .unset, .unset, .unset, .unset, .unset, .unset, .unset, .unset] at_44 rfl rfl ?_
    refine C.iload 48 at_46 rfl rfl ?_
    refine C.iconst 49 (2 : Int32) at_48 rfl rfl ?_
    refine C.icmpT 60 at_49 rfl (by decide) ?_
    refine C.iconst 61 (0 : Int32) at_60 rfl rfl ?_
    refine C.istore 63 #[.val (.int a), .val (.int b), .val (.int c), .val (.int d), .val (.int cnt), .val (.int M), .val (.int (0 : Int32)), .val (.int (Int32.ofNat (kd a))), .val (.int (Int32.ofNat (kd b))), .val (.int (Int32.ofNat (kd c))), .val (.int (Int32.ofNat (kd d))), .val (.int (0 : Int32)), .val (.int (0 : Int32)), .unset, .unset, .unset, .unset, .unset, .unset, .unset, .unset, .unset, .unset, .unset] at_61 rfl rfl ?_
    refine C.iload 65 at_63 rfl rfl ?_
    refine C.iconst 66 (3 : Int32) at_65 rfl rfl ?_
    refine C.icmpT 77 at_66 rfl (by decide) ?_
    refine C.iconst 78 (0 : Int32) at_77 rfl rfl ?_
    refine C.istore 80 #[.val (.int a), .val (.int b), .val (.int c), .val (.int d), .val (.int cnt), .val (.int M), .val (.int (0 : Int32)), .val (.int (Int32.ofNat (kd a))), .val (.int (Int32.ofNat (kd b))), .val (.int (Int32.ofNat (kd c))), .val (.int (Int32.ofNat (kd d))), .val (.int (0 : Int32)), .val (.int (0 : Int32)), .val (.int (0 : Int32)), .unset, .unset, .unset, .unset, .unset, .unset, .unset, .unset, .unset, .unset] at_78 rfl rfl ?_
    refine C.iload 82 at_80 rfl rfl ?_
    refine C.iconst 83 (4 : Int32) at_82 rfl rfl ?_
    refine C.icmpT 94 at_83 rfl (by decide) ?_
    refine C.iconst 95 (0 : Int32) at_94 rfl rfl ?_
    refine C.istore 97 #[.val (.int a), .val (.int b), .val (.int c), .val (.int d), .val (.int cnt), .val (.int M), .val (.int (0 : Int32)), .val (.int (Int32.ofNat (kd a))), .val (.int (Int32.ofNat (kd b))), .val (.int (Int32.ofNat (kd c))), .val (.int (Int32.ofNat (kd d))), .val (.int (0 : Int32)), .val (.int (0 : Int32)), .val (.int (0 : Int32)), .val (.int (0 : Int32)), .unset, .unset, .unset, .unset, .unset, .unset, .unset, .unset, .unset] at_95 rfl rfl ?_
    refine C.iload 99 at_97 rfl rfl ?_
    refine C.iload 101 at_99 rfl rfl ?_
    refine C.iadd 102 at_101 rfl ?_
    refine C.iload 104 at_102 rfl rfl ?_
    refine C.iadd 105 at_104 rfl ?_
    refine C.iload 107 at_105 rfl rfl ?_
    refine C.iadd 108 at_107 rfl ?_
    have es : ((((0 : Int32) + (0 : Int32)) + (0 : Int32)) + (0 : Int32)) = Int32.ofNat (0) := by
      (simp only [show (0 : Int32) = Int32.ofNat 0 from rfl, o_add]) <;> first | done | (congr 1 <;> omega)
    rw [es]
    refine C.istore 110 #[.val (.int a), .val (.int b), .val (.int c), .val (.int d), .val (.int cnt), .val (.int M), .val (.int (0 : Int32)), .val (.int (Int32.ofNat (kd a))), .val (.int (Int32.ofNat (kd b))), .val (.int (Int32.ofNat (kd c))), .val (.int (Int32.ofNat (kd d))), .val (.int (0 : Int32)), .val (.int (0 : Int32)), .val (.int (0 : Int32)), .val (.int (0 : Int32)), .val (.int (Int32.ofNat (0))), .unset, .unset, .unset, .unset, .unset, .unset, .unset, .unset] at_108 rfl rfl ?_
    refine C.iload 112 at_110 rfl rfl ?_
    refine C.newarray 114 8 at_112 rfl (tw 1) (o_nn (by omega)) (by rw [o_cl (by omega)]; omega) (by decide) (by decide) (by decide) ?_
    intro h1 E1 A0
    rw [o_cl (by omega)] at A0
    obtain ⟨bf, gbf⟩ : ∃ z, z = Z.heap.size := ⟨_, rfl⟩
    rw [← gbf] at A0 ⊢
    replace A0 : Al Z h1 bf .char (iv' [] ++ List.replicate (0) (.int 0)) := A0
    have z1 : Z.heap.size ≤ h1.size := E1.1
    show W h1 [bf] 1 8 114 #[.val (.int a), .val (.int b), .val (.int c), .val (.int d), .val (.int cnt), .val (.int M), .val (.int (0 : Int32)), .val (.int (Int32.ofNat (kd a))), .val (.int (Int32.ofNat (kd b))), .val (.int (Int32.ofNat (kd c))), .val (.int (Int32.ofNat (kd d))), .val (.int (0 : Int32)), .val (.int (0 : Int32)), .val (.int (0 : Int32)), .val (.int (0 : Int32)), .val (.int (Int32.ofNat (0))), .unset, .unset, .unset, .unset, .unset, .unset, .unset, .unset] [.ref bf]
    refine C.astore 116 #[.val (.int a), .val (.int b), .val (.int c), .val (.int d), .val (.int cnt), .val (.int M), .val (.int (0 : Int32)), .val (.int (Int32.ofNat (kd a))), .val (.int (Int32.ofNat (kd b))), .val (.int (Int32.ofNat (kd c))), .val (.int (Int32.ofNat (kd d))), .val (.int (0 : Int32)), .val (.int (0 : Int32)), .val (.int (0 : Int32)), .val (.int (0 : Int32)), .val (.int (Int32.ofNat (0))), .val (.ref bf), .unset, .unset, .unset, .unset, .unset, .unset, .unset] at_114 rfl rfl rfl ?_
    refine C.iconst 117 (0 : Int32) at_116 rfl rfl ?_
    refine C.istore 119 #[.val (.int a), .val (.int b), .val (.int c), .val (.int d), .val (.int cnt), .val (.int M), .val (.int (0 : Int32)), .val (.int (Int32.ofNat (kd a))), .val (.int (Int32.ofNat (kd b))), .val (.int (Int32.ofNat (kd c))), .val (.int (Int32.ofNat (kd d))), .val (.int (0 : Int32)), .val (.int (0 : Int32)), .val (.int (0 : Int32)), .val (.int (0 : Int32)), .val (.int (Int32.ofNat (0))), .val (.ref bf), .val (.int (0 : Int32)), .unset, .unset, .unset, .unset, .unset, .unset] at_117 rfl rfl ?_
    refine C.iload 121 at_119 rfl rfl ?_
    refine C.iconst 122 (1 : Int32) at_121 rfl rfl ?_
    refine C.icmpT 135 at_122 rfl (by decide) ?_
    refine C.iload 137 at_135 rfl rfl ?_
    refine C.iconst 138 (2 : Int32) at_137 rfl rfl ?_
    refine C.icmpT 151 at_138 rfl (by decide) ?_
    refine C.iload 153 at_151 rfl rfl ?_
    refine C.iconst 154 (3 : Int32) at_153 rfl rfl ?_
    refine C.icmpT 167 at_154 rfl (by decide) ?_
    refine C.iload 169 at_167 rfl rfl ?_
    refine C.iconst 170 (4 : Int32) at_169 rfl rfl ?_
    refine C.icmpT 183 at_170 rfl (by decide) ?_
    obtain ⟨gs, egs⟩ : ∃ gs : List (List Int32 × Nat), gs = [] := ⟨_, rfl⟩
    have hg : ∀ g ∈ gs, Wf g := by
      rw [egs]; intro g hg
      cases hg
    have hn8 : (flat gs).length ≤ 8 := by rw [egs]; simp only [flat, List.length_append, List.length_nil]; omega
    have AF : Al Z h1 bf .char (iv' (flat gs)) := by rw [egs]; simpa [flat] using A0
    refine C.new 186 at_183 rfl (tw 2) (tw 3) (tw 4) (by decide) (by decide) ?_
    intro h2 E2 X2 D2
    obtain ⟨b2, g2⟩ : ∃ z, z = h1.size := ⟨_, rfl⟩
    rw [← g2] at X2 ⊢
    rw [← g2] at D2
    have z2 : Z.heap.size ≤ h2.size := Nat.le_trans z1 E2.1
    have zb2 : Z.heap.size ≤ b2 := by rw [g2]; exact z1
    show W h2 [b2, bf] 2 12 186 #[.val (.int a), .val (.int b), .val (.int c), .val (.int d), .val (.int cnt), .val (.int M), .val (.int (0 : Int32)), .val (.int (Int32.ofNat (kd a))), .val (.int (Int32.ofNat (kd b))), .val (.int (Int32.ofNat (kd c))), .val (.int (Int32.ofNat (kd d))), .val (.int (0 : Int32)), .val (.int (0 : Int32)), .val (.int (0 : Int32)), .val (.int (0 : Int32)), .val (.int (Int32.ofNat (0))), .val (.ref bf), .val (.int (0 : Int32)), .unset, .unset, .unset, .unset, .unset, .unset] [.ref b2]
    have NV : Fld Z h2 b2 "java/lang/String" "value" "[B" .null := D2 (Or.inr (hw _ (tw 17))) (ty := (.array .byte)) (by decide)
    have NC : Fld Z h2 b2 "java/lang/String" "coder" "B" (.int (0 : Int32)) := D2 (Or.inr (hw _ (tw 18))) (ty := .byte) (by decide)
    have X := X2
    refine C.dup 187 at_186 rfl rfl ?_
    refine C.aload 189 at_187 rfl rfl rfl ?_
    have h0 : flat gs = [] := by rw [egs]; rfl
    refine C.callI 192 (a := b2) (as := [.ref bf]) (rest := [.ref b2]) (rm := ⟨5, 4, 24, 94⟩) 1 at_189 rfl rfl rfl (tw 5) (tw 6) (tw 4) (tw 7) (by decide) (si1e l Z a0' hw hEL hSA h2 b2 bf cpt SCP hcp SAD SHI SLO (flat gs) hn8 h0 (flat_ch gs hg) X NV NC (AF.ext E2)) (by simp) pd1 rfl rfl (Nat.le_of_eq rfl) (by decide) (by decide) (by decide) (by decide) rfl ?_
    rintro v h' ⟨tb, rfl, sn, K', T⟩
    show W h' [b2, bf] 6 36 192 #[.val (.int a), .val (.int b), .val (.int c), .val (.int d), .val (.int cnt), .val (.int M), .val (.int (0 : Int32)), .val (.int (Int32.ofNat (kd a))), .val (.int (Int32.ofNat (kd b))), .val (.int (Int32.ofNat (kd c))), .val (.int (Int32.ofNat (kd d))), .val (.int (0 : Int32)), .val (.int (0 : Int32)), .val (.int (0 : Int32)), .val (.int (0 : Int32)), .val (.int (Int32.ofNat (0))), .val (.ref bf), .val (.int (0 : Int32)), .unset, .unset, .unset, .unset, .unset, .unset] [.ref b2]
    refine C.astore 194 #[.val (.int a), .val (.int b), .val (.int c), .val (.int d), .val (.int cnt), .val (.int M), .val (.int (0 : Int32)), .val (.int (Int32.ofNat (kd a))), .val (.int (Int32.ofNat (kd b))), .val (.int (Int32.ofNat (kd c))), .val (.int (Int32.ofNat (kd d))), .val (.int (0 : Int32)), .val (.int (0 : Int32)), .val (.int (0 : Int32)), .val (.int (0 : Int32)), .val (.int (Int32.ofNat (0))), .val (.ref bf), .val (.int (0 : Int32)), .val (.ref b2), .unset, .unset, .unset, .unset, .unset] at_192 rfl rfl rfl ?_
    refine C.iconst 195 (0 : Int32) at_194 rfl rfl ?_
    refine C.istore 197 #[.val (.int a), .val (.int b), .val (.int c), .val (.int d), .val (.int cnt), .val (.int M), .val (.int (0 : Int32)), .val (.int (Int32.ofNat (kd a))), .val (.int (Int32.ofNat (kd b))), .val (.int (Int32.ofNat (kd c))), .val (.int (Int32.ofNat (kd d))), .val (.int (0 : Int32)), .val (.int (0 : Int32)), .val (.int (0 : Int32)), .val (.int (0 : Int32)), .val (.int (Int32.ofNat (0))), .val (.ref bf), .val (.int (0 : Int32)), .val (.ref b2), .val (.int (0 : Int32)), .unset, .unset, .unset, .unset] at_195 rfl rfl ?_
    refine C.iload 199 at_197 rfl rfl ?_
    refine C.callS 202 (as := [.int (Int32.ofNat (kd a))]) (rest := []) (rm := ⟨0, 0, 0, 0⟩) 0 at_199 rfl (tw 23) (tw 24) (tw 25) (tw 26) (by decide) (kby l Z a0' hw hEL hSA h' a) (by simp) pd4 rfl rfl (Nat.le_of_eq rfl) (by decide) (by decide) (by decide) (by decide) rfl ?_
    refine same_intro ?_
    show W h' [b2, bf] 6 36 202 #[.val (.int a), .val (.int b), .val (.int c), .val (.int d), .val (.int cnt), .val (.int M), .val (.int (0 : Int32)), .val (.int (Int32.ofNat (kd a))), .val (.int (Int32.ofNat (kd b))), .val (.int (Int32.ofNat (kd c))), .val (.int (Int32.ofNat (kd d))), .val (.int (0 : Int32)), .val (.int (0 : Int32)), .val (.int (0 : Int32)), .val (.int (0 : Int32)), .val (.int (Int32.ofNat (0))), .val (.ref bf), .val (.int (0 : Int32)), .val (.ref b2), .val (.int (0 : Int32)), .unset, .unset, .unset, .unset] [.int (Int32.ofNat (kd a + 1))]
    rw [show kd a + 1 = 0 + (kd a + 1) from (Nat.zero_add _).symm]
    refine C.istore 204 #[.val (.int a), .val (.int b), .val (.int c), .val (.int d), .val (.int cnt), .val (.int M), .val (.int (0 : Int32)), .val (.int (Int32.ofNat (kd a))), .val (.int (Int32.ofNat (kd b))), .val (.int (Int32.ofNat (kd c))), .val (.int (Int32.ofNat (kd d))), .val (.int (0 : Int32)), .val (.int (0 : Int32)), .val (.int (0 : Int32)), .val (.int (0 : Int32)), .val (.int (Int32.ofNat (0))), .val (.ref bf), .val (.int (0 : Int32)), .val (.ref b2), .val (.int (0 : Int32)), .val (.int (Int32.ofNat (0 + (kd a + 1)))), .unset, .unset, .unset] at_202 rfl rfl ?_
    refine C.iload 206 at_204 rfl rfl ?_
    refine C.iconst 207 (1 : Int32) at_206 rfl rfl ?_
    refine C.icmpT 311 at_207 rfl (by decide) ?_
    have hK : 0 = cut M 0 gs := by
      rw [egs, cut_nil]
      first | done | rfl | (simp only []; omega) | omega
    exact tail gs hg hn8 0 hK h' _ b2 tb T _ _ _ _ _ _ _ _ _ _ _ _ _ _ _ _ _ _ _ _ _ (Or.inl rfl)
  | 1, _ =>
    show W Z.heap [] 0 0 29 #[.val (.int a), .val (.int b), .val (.int c), .val (.int d), .val (.int cnt), .val (.int M), .val (.int (1 : Int32)), .val (.int (Int32.ofNat (kd a))), .val (.int (Int32.ofNat (kd b))), .val (.int (Int32.ofNat (kd c))), .val (.int (Int32.ofNat (kd d))), .unset, .unset, .unset, .unset, .unset, .unset, .unset, .unset, .unset, .unset, .unset, .unset, .unset] []
    refine C.iload 31 at_29 rfl rfl ?_
    refine C.iconst 32 (1 : Int32) at_31 rfl rfl ?_
    refine C.icmpF 35 at_32 rfl (by decide) ?_
    refine C.iload 37 at_35 rfl rfl ?_
    refine C.callS 40 (as := [.int (Int32.ofNat (kd a))]) (rest := []) (rm := ⟨0, 0, 0, 0⟩) 0 at_37 rfl (tw 60) (tw 61) (tw 25) (tw 62) (by decide) (kch l Z a0' hw hEL hSA Z.heap a) (by simp) pd12 rfl rfl (Nat.le_of_eq rfl) (by decide) (by decide) (by decide) (by decide) rfl ?_
    refine same_intro ?_
    show W Z.heap [] 0 0 40 #[.val (.int a), .val (.int b), .val (.int c), .val (.int d), .val (.int cnt), .val (.int M), .val (.int (1 : Int32)), .val (.int (Int32.ofNat (kd a))), .val (.int (Int32.ofNat (kd b))), .val (.int (Int32.ofNat (kd c))), .val (.int (Int32.ofNat (kd d))), .unset, .unset, .unset, .unset, .unset, .unset, .unset, .unset, .unset, .unset, .unset, .unset, .unset] [.int (Int32.ofNat (gp a).length)]
    refine C.goto 44 at_40 rfl ?_
    refine C.istore 46 #[.val (.int a), .val (.int b), .val (.int c), .val (.int d), .val (.int cnt), .val (.int M), .val (.int (1 : Int32)), .val (.int (Int32.ofNat (kd a))), .val (.int (Int32.ofNat (kd b))), .val (.int (Int32.ofNat (kd c))), .val (.int (Int32.ofNat (kd d))), .val (.int (Int32.ofNat (gp a).length)), .unset, .unset, .unset, .unset, .unset, .unset, .unset, .unset, .unset, .unset, .unset, .unset] at_44 rfl rfl ?_
    refine C.iload 48 at_46 rfl rfl ?_
    refine C.iconst 49 (2 : Int32) at_48 rfl rfl ?_
    refine C.icmpT 60 at_49 rfl (by decide) ?_
    refine C.iconst 61 (0 : Int32) at_60 rfl rfl ?_
    refine C.istore 63 #[.val (.int a), .val (.int b), .val (.int c), .val (.int d), .val (.int cnt), .val (.int M), .val (.int (1 : Int32)), .val (.int (Int32.ofNat (kd a))), .val (.int (Int32.ofNat (kd b))), .val (.int (Int32.ofNat (kd c))), .val (.int (Int32.ofNat (kd d))), .val (.int (Int32.ofNat (gp a).length)), .val (.int (0 : Int32)), .unset, .unset, .unset, .unset, .unset, .unset, .unset, .unset, .unset, .unset, .unset] at_61 rfl rfl ?_
    refine C.iload 65 at_63 rfl rfl ?_
    refine C.iconst 66 (3 : Int32) at_65 rfl rfl ?_
    refine C.icmpT 77 at_66 rfl (by decide) ?_
    refine C.iconst 78 (0 : Int32) at_77 rfl rfl ?_
    refine C.istore 80 #[.val (.int a), .val (.int b), .val (.int c), .val (.int d), .val (.int cnt), .val (.int M), .val (.int (1 : Int32)), .val (.int (Int32.ofNat (kd a))), .val (.int (Int32.ofNat (kd b))), .val (.int (Int32.ofNat (kd c))), .val (.int (Int32.ofNat (kd d))), .val (.int (Int32.ofNat (gp a).length)), .val (.int (0 : Int32)), .val (.int (0 : Int32)), .unset, .unset, .unset, .unset, .unset, .unset, .unset, .unset, .unset, .unset] at_78 rfl rfl ?_
    refine C.iload 82 at_80 rfl rfl ?_
    refine C.iconst 83 (4 : Int32) at_82 rfl rfl ?_
    refine C.icmpT 94 at_83 rfl (by decide) ?_
    refine C.iconst 95 (0 : Int32) at_94 rfl rfl ?_
    refine C.istore 97 #[.val (.int a), .val (.int b), .val (.int c), .val (.int d), .val (.int cnt), .val (.int M), .val (.int (1 : Int32)), .val (.int (Int32.ofNat (kd a))), .val (.int (Int32.ofNat (kd b))), .val (.int (Int32.ofNat (kd c))), .val (.int (Int32.ofNat (kd d))), .val (.int (Int32.ofNat (gp a).length)), .val (.int (0 : Int32)), .val (.int (0 : Int32)), .val (.int (0 : Int32)), .unset, .unset, .unset, .unset, .unset, .unset, .unset, .unset, .unset] at_95 rfl rfl ?_
    refine C.iload 99 at_97 rfl rfl ?_
    refine C.iload 101 at_99 rfl rfl ?_
    refine C.iadd 102 at_101 rfl ?_
    refine C.iload 104 at_102 rfl rfl ?_
    refine C.iadd 105 at_104 rfl ?_
    refine C.iload 107 at_105 rfl rfl ?_
    refine C.iadd 108 at_107 rfl ?_
    have es : ((((Int32.ofNat (gp a).length) + (0 : Int32)) + (0 : Int32)) + (0 : Int32)) = Int32.ofNat ((gp a).length + (0)) := by
      (simp only [show (0 : Int32) = Int32.ofNat 0 from rfl, o_add]) <;> first | done | (congr 1 <;> omega)
    rw [es]
    refine C.istore 110 #[.val (.int a), .val (.int b), .val (.int c), .val (.int d), .val (.int cnt), .val (.int M), .val (.int (1 : Int32)), .val (.int (Int32.ofNat (kd a))), .val (.int (Int32.ofNat (kd b))), .val (.int (Int32.ofNat (kd c))), .val (.int (Int32.ofNat (kd d))), .val (.int (Int32.ofNat (gp a).length)), .val (.int (0 : Int32)), .val (.int (0 : Int32)), .val (.int (0 : Int32)), .val (.int (Int32.ofNat ((gp a).length + (0)))), .unset, .unset, .unset, .unset, .unset, .unset, .unset, .unset] at_108 rfl rfl ?_
    refine C.iload 112 at_110 rfl rfl ?_
    refine C.newarray 114 8 at_112 rfl (tw 1) (o_nn (by omega)) (by rw [o_cl (by omega)]; omega) (by decide) (by decide) (by decide) ?_
    intro h1 E1 A0
    rw [o_cl (by omega)] at A0
    obtain ⟨bf, gbf⟩ : ∃ z, z = Z.heap.size := ⟨_, rfl⟩
    rw [← gbf] at A0 ⊢
    replace A0 : Al Z h1 bf .char (iv' [] ++ List.replicate ((gp a).length + (0)) (.int 0)) := A0
    have z1 : Z.heap.size ≤ h1.size := E1.1
    show W h1 [bf] 1 8 114 #[.val (.int a), .val (.int b), .val (.int c), .val (.int d), .val (.int cnt), .val (.int M), .val (.int (1 : Int32)), .val (.int (Int32.ofNat (kd a))), .val (.int (Int32.ofNat (kd b))), .val (.int (Int32.ofNat (kd c))), .val (.int (Int32.ofNat (kd d))), .val (.int (Int32.ofNat (gp a).length)), .val (.int (0 : Int32)), .val (.int (0 : Int32)), .val (.int (0 : Int32)), .val (.int (Int32.ofNat ((gp a).length + (0)))), .unset, .unset, .unset, .unset, .unset, .unset, .unset, .unset] [.ref bf]
    refine C.astore 116 #[.val (.int a), .val (.int b), .val (.int c), .val (.int d), .val (.int cnt), .val (.int M), .val (.int (1 : Int32)), .val (.int (Int32.ofNat (kd a))), .val (.int (Int32.ofNat (kd b))), .val (.int (Int32.ofNat (kd c))), .val (.int (Int32.ofNat (kd d))), .val (.int (Int32.ofNat (gp a).length)), .val (.int (0 : Int32)), .val (.int (0 : Int32)), .val (.int (0 : Int32)), .val (.int (Int32.ofNat ((gp a).length + (0)))), .val (.ref bf), .unset, .unset, .unset, .unset, .unset, .unset, .unset] at_114 rfl rfl rfl ?_
    refine C.iconst 117 (0 : Int32) at_116 rfl rfl ?_
    refine C.istore 119 #[.val (.int a), .val (.int b), .val (.int c), .val (.int d), .val (.int cnt), .val (.int M), .val (.int (1 : Int32)), .val (.int (Int32.ofNat (kd a))), .val (.int (Int32.ofNat (kd b))), .val (.int (Int32.ofNat (kd c))), .val (.int (Int32.ofNat (kd d))), .val (.int (Int32.ofNat (gp a).length)), .val (.int (0 : Int32)), .val (.int (0 : Int32)), .val (.int (0 : Int32)), .val (.int (Int32.ofNat ((gp a).length + (0)))), .val (.ref bf), .val (.int (0 : Int32)), .unset, .unset, .unset, .unset, .unset, .unset] at_117 rfl rfl ?_
    refine C.iload 121 at_119 rfl rfl ?_
    refine C.iconst 122 (1 : Int32) at_121 rfl rfl ?_
    refine C.icmpF 125 at_122 rfl (by decide) ?_
    refine C.aload 127 at_125 rfl rfl rfl ?_
    refine C.iload 129 at_127 rfl rfl ?_
    refine C.iloadN 130 at_129 rfl rfl ?_
    refine C.callS 133 (as := [.ref bf, .int (0 : Int32), .int a]) (rest := []) (rm := ⟨0, 0, 0, 0⟩) 0 at_130 rfl (tw 63) (tw 64) (tw 25) (tw 65) (by decide) (put l Z a0' hw hEL hSA h1 bf [] (0) a (by simp only [List.length_append, List.length_nil]; omega) A0) (by simp) pd13 rfl rfl (Nat.le_of_eq rfl) (by decide) (by decide) (by decide) (by decide) rfl ?_
    rintro v h2 ⟨rfl, K2, A2⟩
    have z2 : Z.heap.size ≤ h2.size := Nat.le_trans z1 K2.1
    show W h2 [bf] 1 8 133 #[.val (.int a), .val (.int b), .val (.int c), .val (.int d), .val (.int cnt), .val (.int M), .val (.int (1 : Int32)), .val (.int (Int32.ofNat (kd a))), .val (.int (Int32.ofNat (kd b))), .val (.int (Int32.ofNat (kd c))), .val (.int (Int32.ofNat (kd d))), .val (.int (Int32.ofNat (gp a).length)), .val (.int (0 : Int32)), .val (.int (0 : Int32)), .val (.int (0 : Int32)), .val (.int (Int32.ofNat ((gp a).length + (0)))), .val (.ref bf), .val (.int (0 : Int32)), .unset, .unset, .unset, .unset, .unset, .unset] [.int (Int32.ofNat ([] ++ gp a).length)]
    refine C.istore 135 #[.val (.int a), .val (.int b), .val (.int c), .val (.int d), .val (.int cnt), .val (.int M), .val (.int (1 : Int32)), .val (.int (Int32.ofNat (kd a))), .val (.int (Int32.ofNat (kd b))), .val (.int (Int32.ofNat (kd c))), .val (.int (Int32.ofNat (kd d))), .val (.int (Int32.ofNat (gp a).length)), .val (.int (0 : Int32)), .val (.int (0 : Int32)), .val (.int (0 : Int32)), .val (.int (Int32.ofNat ((gp a).length + (0)))), .val (.ref bf), .val (.int (Int32.ofNat ([] ++ gp a).length)), .unset, .unset, .unset, .unset, .unset, .unset] at_133 rfl rfl ?_
    refine C.iload 137 at_135 rfl rfl ?_
    refine C.iconst 138 (2 : Int32) at_137 rfl rfl ?_
    refine C.icmpT 151 at_138 rfl (by decide) ?_
    refine C.iload 153 at_151 rfl rfl ?_
    refine C.iconst 154 (3 : Int32) at_153 rfl rfl ?_
    refine C.icmpT 167 at_154 rfl (by decide) ?_
    refine C.iload 169 at_167 rfl rfl ?_
    refine C.iconst 170 (4 : Int32) at_169 rfl rfl ?_
    refine C.icmpT 183 at_170 rfl (by decide) ?_
    obtain ⟨gs, egs⟩ : ∃ gs : List (List Int32 × Nat), gs = [(gp a, kd a + 1)] := ⟨_, rfl⟩
    have hg : ∀ g ∈ gs, Wf g := by
      rw [egs]; intro g hg
      simp only [List.mem_cons, List.not_mem_nil, or_false] at hg; rcases hg with rfl <;> exact wf_gp _
    have hn8 : (flat gs).length ≤ 8 := by rw [egs]; simp only [flat, List.length_append, List.length_nil]; omega
    have AF : Al Z h2 bf .char (iv' (flat gs)) := by rw [egs]; simpa [flat] using A2
    refine C.new 186 at_183 rfl (tw 2) (tw 3) (tw 4) (by decide) (by decide) ?_
    intro h3 E3 X3 D3
    obtain ⟨b3, g3⟩ : ∃ z, z = h2.size := ⟨_, rfl⟩
    rw [← g3] at X3 ⊢
    rw [← g3] at D3
    have z3 : Z.heap.size ≤ h3.size := Nat.le_trans z2 E3.1
    have zb3 : Z.heap.size ≤ b3 := by rw [g3]; exact z2
    show W h3 [b3, bf] 2 12 186 #[.val (.int a), .val (.int b), .val (.int c), .val (.int d), .val (.int cnt), .val (.int M), .val (.int (1 : Int32)), .val (.int (Int32.ofNat (kd a))), .val (.int (Int32.ofNat (kd b))), .val (.int (Int32.ofNat (kd c))), .val (.int (Int32.ofNat (kd d))), .val (.int (Int32.ofNat (gp a).length)), .val (.int (0 : Int32)), .val (.int (0 : Int32)), .val (.int (0 : Int32)), .val (.int (Int32.ofNat ((gp a).length + (0)))), .val (.ref bf), .val (.int (Int32.ofNat ([] ++ gp a).length)), .unset, .unset, .unset, .unset, .unset, .unset] [.ref b3]
    have NV : Fld Z h3 b3 "java/lang/String" "value" "[B" .null := D3 (Or.inr (hw _ (tw 17))) (ty := (.array .byte)) (by decide)
    have NC : Fld Z h3 b3 "java/lang/String" "coder" "B" (.int (0 : Int32)) := D3 (Or.inr (hw _ (tw 18))) (ty := .byte) (by decide)
    have X := X3
    refine C.dup 187 at_186 rfl rfl ?_
    refine C.aload 189 at_187 rfl rfl rfl ?_
    have h0 : (flat gs).length ≠ 0 := by rw [egs]; simp only [flat, List.length_append, List.length_nil]; omega
    refine C.callI 192 (a := b3) (as := [.ref bf]) (rest := [.ref b3]) (rm := ⟨5, 4, 24, 94⟩) 1 at_189 rfl rfl rfl (tw 5) (tw 6) (tw 4) (tw 7) (by decide) (si1 l Z a0' hw hEL hSA h3 b3 bf cpt SCP hcp SAD SHI SLO (flat gs) hn8 h0 (flat_ch gs hg) X NV NC (AF.ext E3)) (by simp) pd1 rfl rfl (Nat.le_of_eq rfl) (by decide) (by decide) (by decide) (by decide) rfl ?_
    rintro v h' ⟨tb, rfl, sn, K', T⟩
    show W h' [b3, bf] 6 36 192 #[.val (.int a), .val (.int b), .val (.int c), .val (.int d), .val (.int cnt), .val (.int M), .val (.int (1 : Int32)), .val (.int (Int32.ofNat (kd a))), .val (.int (Int32.ofNat (kd b))), .val (.int (Int32.ofNat (kd c))), .val (.int (Int32.ofNat (kd d))), .val (.int (Int32.ofNat (gp a).length)), .val (.int (0 : Int32)), .val (.int (0 : Int32)), .val (.int (0 : Int32)), .val (.int (Int32.ofNat ((gp a).length + (0)))), .val (.ref bf), .val (.int (Int32.ofNat ([] ++ gp a).length)), .unset, .unset, .unset, .unset, .unset, .unset] [.ref b3]
    refine C.astore 194 #[.val (.int a), .val (.int b), .val (.int c), .val (.int d), .val (.int cnt), .val (.int M), .val (.int (1 : Int32)), .val (.int (Int32.ofNat (kd a))), .val (.int (Int32.ofNat (kd b))), .val (.int (Int32.ofNat (kd c))), .val (.int (Int32.ofNat (kd d))), .val (.int (Int32.ofNat (gp a).length)), .val (.int (0 : Int32)), .val (.int (0 : Int32)), .val (.int (0 : Int32)), .val (.int (Int32.ofNat ((gp a).length + (0)))), .val (.ref bf), .val (.int (Int32.ofNat ([] ++ gp a).length)), .val (.ref b3), .unset, .unset, .unset, .unset, .unset] at_192 rfl rfl rfl ?_
    refine C.iconst 195 (0 : Int32) at_194 rfl rfl ?_
    refine C.istore 197 #[.val (.int a), .val (.int b), .val (.int c), .val (.int d), .val (.int cnt), .val (.int M), .val (.int (1 : Int32)), .val (.int (Int32.ofNat (kd a))), .val (.int (Int32.ofNat (kd b))), .val (.int (Int32.ofNat (kd c))), .val (.int (Int32.ofNat (kd d))), .val (.int (Int32.ofNat (gp a).length)), .val (.int (0 : Int32)), .val (.int (0 : Int32)), .val (.int (0 : Int32)), .val (.int (Int32.ofNat ((gp a).length + (0)))), .val (.ref bf), .val (.int (Int32.ofNat ([] ++ gp a).length)), .val (.ref b3), .val (.int (0 : Int32)), .unset, .unset, .unset, .unset] at_195 rfl rfl ?_
    refine C.iload 199 at_197 rfl rfl ?_
    refine C.callS 202 (as := [.int (Int32.ofNat (kd a))]) (rest := []) (rm := ⟨0, 0, 0, 0⟩) 0 at_199 rfl (tw 23) (tw 24) (tw 25) (tw 26) (by decide) (kby l Z a0' hw hEL hSA h' a) (by simp) pd4 rfl rfl (Nat.le_of_eq rfl) (by decide) (by decide) (by decide) (by decide) rfl ?_
    refine same_intro ?_
    show W h' [b3, bf] 6 36 202 #[.val (.int a), .val (.int b), .val (.int c), .val (.int d), .val (.int cnt), .val (.int M), .val (.int (1 : Int32)), .val (.int (Int32.ofNat (kd a))), .val (.int (Int32.ofNat (kd b))), .val (.int (Int32.ofNat (kd c))), .val (.int (Int32.ofNat (kd d))), .val (.int (Int32.ofNat (gp a).length)), .val (.int (0 : Int32)), .val (.int (0 : Int32)), .val (.int (0 : Int32)), .val (.int (Int32.ofNat ((gp a).length + (0)))), .val (.ref bf), .val (.int (Int32.ofNat ([] ++ gp a).length)), .val (.ref b3), .val (.int (0 : Int32)), .unset, .unset, .unset, .unset] [.int (Int32.ofNat (kd a + 1))]
    rw [show kd a + 1 = 0 + (kd a + 1) from (Nat.zero_add _).symm]
    refine C.istore 204 #[.val (.int a), .val (.int b), .val (.int c), .val (.int d), .val (.int cnt), .val (.int M), .val (.int (1 : Int32)), .val (.int (Int32.ofNat (kd a))), .val (.int (Int32.ofNat (kd b))), .val (.int (Int32.ofNat (kd c))), .val (.int (Int32.ofNat (kd d))), .val (.int (Int32.ofNat (gp a).length)), .val (.int (0 : Int32)), .val (.int (0 : Int32)), .val (.int (0 : Int32)), .val (.int (Int32.ofNat ((gp a).length + (0)))), .val (.ref bf), .val (.int (Int32.ofNat ([] ++ gp a).length)), .val (.ref b3), .val (.int (0 : Int32)), .val (.int (Int32.ofNat (0 + (kd a + 1)))), .unset, .unset, .unset] at_202 rfl rfl ?_
    refine C.iload 206 at_204 rfl rfl ?_
    refine C.iconst 207 (1 : Int32) at_206 rfl rfl ?_
    refine C.icmpF 210 at_207 rfl (by decide) ?_
    refine C.iload 212 at_210 rfl rfl ?_
    refine C.iload 214 at_212 rfl rfl ?_
    by_cases p0 : M < Int32.ofNat (0 + (kd a + 1))
    · refine C.icmpT 311 at_214 rfl (tlt p0).2.2.1 ?_
      have hK : 0 = cut M 0 gs := by
        rw [egs, cut_y (u := 0) (g := (gp a, kd a + 1)) p0]
        first | done | rfl | (simp only []; omega) | omega
      exact tail gs hg hn8 0 hK h' _ b3 tb T _ _ _ _ _ _ _ _ _ _ _ _ _ _ _ _ _ _ _ _ _ (Or.inl rfl)
    · refine C.icmpF 217 at_214 rfl (flt p0).2.2.1 ?_
      refine C.iload 219 at_217 rfl rfl ?_
      refine C.istore 221 #[.val (.int a), .val (.int b), .val (.int c), .val (.int d), .val (.int cnt), .val (.int M), .val (.int (1 : Int32)), .val (.int (Int32.ofNat (kd a))), .val (.int (Int32.ofNat (kd b))), .val (.int (Int32.ofNat (kd c))), .val (.int (Int32.ofNat (kd d))), .val (.int (Int32.ofNat (gp a).length)), .val (.int (0 : Int32)), .val (.int (0 : Int32)), .val (.int (0 : Int32)), .val (.int (Int32.ofNat ((gp a).length + (0)))), .val (.ref bf), .val (.int (Int32.ofNat ([] ++ gp a).length)), .val (.ref b3), .val (.int (Int32.ofNat (gp a).length)), .val (.int (Int32.ofNat (0 + (kd a + 1)))), .unset, .unset, .unset] at_219 rfl rfl ?_
      refine C.iload 223 at_221 rfl rfl ?_
      refine C.iload 225 at_223 rfl rfl ?_
      refine C.callS 228 (as := [.int (Int32.ofNat (kd b))]) (rest := [.int (Int32.ofNat (0 + (kd a + 1)))]) (rm := ⟨0, 0, 0, 0⟩) 1 at_225 rfl (tw 23) (tw 24) (tw 25) (tw 26) (by decide) (kby l Z a0' hw hEL hSA h' b) (by simp) pd4 rfl rfl (Nat.le_of_eq rfl) (by decide) (by decide) (by decide) (by decide) rfl ?_
      refine same_intro ?_
      show W h' [b3, bf] 6 36 228 #[.val (.int a), .val (.int b), .val (.int c), .val (.int d), .val (.int cnt), .val (.int M), .val (.int (1 : Int32)), .val (.int (Int32.ofNat (kd a))), .val (.int (Int32.ofNat (kd b))), .val (.int (Int32.ofNat (kd c))), .val (.int (Int32.ofNat (kd d))), .val (.int (Int32.ofNat (gp a).length)), .val (.int (0 : Int32)), .val (.int (0 : Int32)), .val (.int (0 : Int32)), .val (.int (Int32.ofNat ((gp a).length + (0)))), .val (.ref bf), .val (.int (Int32.ofNat ([] ++ gp a).length)), .val (.ref b3), .val (.int (Int32.ofNat (gp a).length)), .val (.int (Int32.ofNat (0 + (kd a + 1)))), .unset, .unset, .unset] [.int (Int32.ofNat (kd b + 1)), .int (Int32.ofNat (0 + (kd a + 1)))]
      refine C.iadd 229 at_228 rfl ?_
      rw [o_add]
      refine C.istore 231 #[.val (.int a), .val (.int b), .val (.int c), .val (.int d), .val (.int cnt), .val (.int M), .val (.int (1 : Int32)), .val (.int (Int32.ofNat (kd a))), .val (.int (Int32.ofNat (kd b))), .val (.int (Int32.ofNat (kd c))), .val (.int (Int32.ofNat (kd d))), .val (.int (Int32.ofNat (gp a).length)), .val (.int (0 : Int32)), .val (.int (0 : Int32)), .val (.int (0 : Int32)), .val (.int (Int32.ofNat ((gp a).length + (0)))), .val (.ref bf), .val (.int (Int32.ofNat ([] ++ gp a).length)), .val (.ref b3), .val (.int (Int32.ofNat (gp a).length)), .val (.int (Int32.ofNat (0 + (kd a + 1)))), .val (.int (Int32.ofNat ((0 + (kd a + 1)) + (kd b + 1)))), .unset, .unset] at_229 rfl rfl ?_
      refine C.iload 233 at_231 rfl rfl ?_
      refine C.iconst 234 (2 : Int32) at_233 rfl rfl ?_
      refine C.icmpT 311 at_234 rfl (by decide) ?_
      have hK : ((gp a).length) = cut M 0 gs := by
        rw [egs, cut_n (u := 0) (g := (gp a, kd a + 1)) p0, cut_nil]
        first | done | rfl | (simp only []; omega) | omega
      exact tail gs hg hn8 ((gp a).length) hK h' _ b3 tb T _ _ _ _ _ _ _ _ _ _ _ _ _ _ _ _ _ _ _ _ _ (Or.inr ⟨_, rfl, rfl⟩)
  | 2, _ =>
    show W Z.heap [] 0 0 29 #[.val (.int a), .val (.int b), .val (.int c), .val (.int d), .val (.int cnt), .val (.int M), .val (.int (2 : Int32)), .val (.int (Int32.ofNat (kd a))), .val (.int (Int32.ofNat (kd b))), .val (.int (Int32.ofNat (kd c))), .val (.int (Int32.ofNat (kd d))), .unset, .unset, .unset, .unset, .unset, .unset, .unset, .unset, .unset, .unset, .unset, .unset, .unset] []
    refine C.iload 31 at_29 rfl rfl ?_
    refine C.iconst 32 (1 : Int32) at_31 rfl rfl ?_
    refine C.icmpF 35 at_32 rfl (by decide) ?_
    refine C.iload 37 at_35 rfl rfl ?_
    refine C.callS 40 (as := [.int (Int32.ofNat (kd a))]) (rest := []) (rm := ⟨0, 0, 0, 0⟩) 0 at_37 rfl (tw 60) (tw 61) (tw 25) (tw 62) (by decide) (kch l Z a0' hw hEL hSA Z.heap a) (by simp) pd12 rfl rfl (Nat.le_of_eq rfl) (by decide) (by decide) (by decide) (by decide) rfl ?_
    refine same_intro ?_
    show W Z.heap [] 0 0 40 #[.val (.int a), .val (.int b), .val (.int c), .val (.int d), .val (.int cnt), .val (.int M), .val (.int (2 : Int32)), .val (.int (Int32.ofNat (kd a))), .val (.int (Int32.ofNat (kd b))), .val (.int (Int32.ofNat (kd c))), .val (.int (Int32.ofNat (kd d))), .unset, .unset, .unset, .unset, .unset, .unset, .unset, .unset, .unset, .unset, .unset, .unset, .unset] [.int (Int32.ofNat (gp a).length)]
    refine C.goto 44 at_40 rfl ?_
    refine C.istore 46 #[.val (.int a), .val (.int b), .val (.int c), .val (.int d), .val (.int cnt), .val (.int M), .val (.int (2 : Int32)), .val (.int (Int32.ofNat (kd a))), .val (.int (Int32.ofNat (kd b))), .val (.int (Int32.ofNat (kd c))), .val (.int (Int32.ofNat (kd d))), .val (.int (Int32.ofNat (gp a).length)), .unset, .unset, .unset, .unset, .unset, .unset, .unset, .unset, .unset, .unset, .unset, .unset] at_44 rfl rfl ?_
    refine C.iload 48 at_46 rfl rfl ?_
    refine C.iconst 49 (2 : Int32) at_48 rfl rfl ?_
    refine C.icmpF 52 at_49 rfl (by decide) ?_
    refine C.iload 54 at_52 rfl rfl ?_
    refine C.callS 57 (as := [.int (Int32.ofNat (kd b))]) (rest := []) (rm := ⟨0, 0, 0, 0⟩) 0 at_54 rfl (tw 60) (tw 61) (tw 25) (tw 62) (by decide) (kch l Z a0' hw hEL hSA Z.heap b) (by simp) pd12 rfl rfl (Nat.le_of_eq rfl) (by decide) (by decide) (by decide) (by decide) rfl ?_
    refine same_intro ?_
    show W Z.heap [] 0 0 57 #[.val (.int a), .val (.int b), .val (.int c), .val (.int d), .val (.int cnt), .val (.int M), .val (.int (2 : Int32)), .val (.int (Int32.ofNat (kd a))), .val (.int (Int32.ofNat (kd b))), .val (.int (Int32.ofNat (kd c))), .val (.int (Int32.ofNat (kd d))), .val (.int (Int32.ofNat (gp a).length)), .unset, .unset, .unset, .unset, .unset, .unset, .unset, .unset, .unset, .unset, .unset, .unset] [.int (Int32.ofNat (gp b).length)]
    refine C.goto 61 at_57 rfl ?_
    refine C.istore 63 #[.val (.int a), .val (.int b), .val (.int c), .val (.int d), .val (.int cnt), .val (.int M), .val (.int (2 : Int32)), .val (.int (Int32.ofNat (kd a))), .val (.int (Int32.ofNat (kd b))), .val (.int (Int32.ofNat (kd c))), .val (.int (Int32.ofNat (kd d))), .val (.int (Int32.ofNat (gp a).length)), .val (.int (Int32.ofNat (gp b).length)), .unset, .unset, .unset, .unset, .unset, .unset, .unset, .unset, .unset, .unset, .unset] at_61 rfl rfl ?_
    refine C.iload 65 at_63 rfl rfl ?_
    refine C.iconst 66 (3 : Int32) at_65 rfl rfl ?_
    refine C.icmpT 77 at_66 rfl (by decide) ?_
    refine C.iconst 78 (0 : Int32) at_77 rfl rfl ?_
    refine C.istore 80 #[.val (.int a), .val (.int b), .val (.int c), .val (.int d), .val (.int cnt), .val (.int M), .val (.int (2 : Int32)), .val (.int (Int32.ofNat (kd a))), .val (.int (Int32.ofNat (kd b))), .val (.int (Int32.ofNat (kd c))), .val (.int (Int32.ofNat (kd d))), .val (.int (Int32.ofNat (gp a).length)), .val (.int (Int32.ofNat (gp b).length)), .val (.int (0 : Int32)), .unset, .unset, .unset, .unset, .unset, .unset, .unset, .unset, .unset, .unset] at_78 rfl rfl ?_
    refine C.iload 82 at_80 rfl rfl ?_
    refine C.iconst 83 (4 : Int32) at_82 rfl rfl ?_
    refine C.icmpT 94 at_83 rfl (by decide) ?_
    refine C.iconst 95 (0 : Int32) at_94 rfl rfl ?_
    refine C.istore 97 #[.val (.int a), .val (.int b), .val (.int c), .val (.int d), .val (.int cnt), .val (.int M), .val (.int (2 : Int32)), .val (.int (Int32.ofNat (kd a))), .val (.int (Int32.ofNat (kd b))), .val (.int (Int32.ofNat (kd c))), .val (.int (Int32.ofNat (kd d))), .val (.int (Int32.ofNat (gp a).length)), .val (.int (Int32.ofNat (gp b).length)), .val (.int (0 : Int32)), .val (.int (0 : Int32)), .unset, .unset, .unset, .unset, .unset, .unset, .unset, .unset, .unset] at_95 rfl rfl ?_
    refine C.iload 99 at_97 rfl rfl ?_
    refine C.iload 101 at_99 rfl rfl ?_
    refine C.iadd 102 at_101 rfl ?_
    refine C.iload 104 at_102 rfl rfl ?_
    refine C.iadd 105 at_104 rfl ?_
    refine C.iload 107 at_105 rfl rfl ?_
    refine C.iadd 108 at_107 rfl ?_
    have es : ((((Int32.ofNat (gp a).length) + (Int32.ofNat (gp b).length)) + (0 : Int32)) + (0 : Int32)) = Int32.ofNat ((gp a).length + ((gp b).length + (0))) := by
      (simp only [show (0 : Int32) = Int32.ofNat 0 from rfl, o_add]) <;> first | done | (congr 1 <;> omega)
    rw [es]
    refine C.istore 110 #[.val (.int a), .val (.int b), .val (.int c), .val (.int d), .val (.int cnt), .val (.int M), .val (.int (2 : Int32)), .val (.int (Int32.ofNat (kd a))), .val (.int (Int32.ofNat (kd b))), .val (.int (Int32.ofNat (kd c))), .val (.int (Int32.ofNat (kd d))), .val (.int (Int32.ofNat (gp a).length)), .val (.int (Int32.ofNat (gp b).length)), .val (.int (0 : Int32)), .val (.int (0 : Int32)), .val (.int (Int32.ofNat ((gp a).length + ((gp b).length + (0))))), .unset, .unset, .unset, .unset, .unset, .unset, .unset, .unset] at_108 rfl rfl ?_
    refine C.iload 112 at_110 rfl rfl ?_
    refine C.newarray 114 8 at_112 rfl (tw 1) (o_nn (by omega)) (by rw [o_cl (by omega)]; omega) (by decide) (by decide) (by decide) ?_
    intro h1 E1 A0
    rw [o_cl (by omega)] at A0
    obtain ⟨bf, gbf⟩ : ∃ z, z = Z.heap.size := ⟨_, rfl⟩
    rw [← gbf] at A0 ⊢
    replace A0 : Al Z h1 bf .char (iv' [] ++ List.replicate ((gp a).length + ((gp b).length + (0))) (.int 0)) := A0
    have z1 : Z.heap.size ≤ h1.size := E1.1
    show W h1 [bf] 1 8 114 #[.val (.int a), .val (.int b), .val (.int c), .val (.int d), .val (.int cnt), .val (.int M), .val (.int (2 : Int32)), .val (.int (Int32.ofNat (kd a))), .val (.int (Int32.ofNat (kd b))), .val (.int (Int32.ofNat (kd c))), .val (.int (Int32.ofNat (kd d))), .val (.int (Int32.ofNat (gp a).length)), .val (.int (Int32.ofNat (gp b).length)), .val (.int (0 : Int32)), .val (.int (0 : Int32)), .val (.int (Int32.ofNat ((gp a).length + ((gp b).length + (0))))), .unset, .unset, .unset, .unset, .unset, .unset, .unset, .unset] [.ref bf]
    refine C.astore 116 #[.val (.int a), .val (.int b), .val (.int c), .val (.int d), .val (.int cnt), .val (.int M), .val (.int (2 : Int32)), .val (.int (Int32.ofNat (kd a))), .val (.int (Int32.ofNat (kd b))), .val (.int (Int32.ofNat (kd c))), .val (.int (Int32.ofNat (kd d))), .val (.int (Int32.ofNat (gp a).length)), .val (.int (Int32.ofNat (gp b).length)), .val (.int (0 : Int32)), .val (.int (0 : Int32)), .val (.int (Int32.ofNat ((gp a).length + ((gp b).length + (0))))), .val (.ref bf), .unset, .unset, .unset, .unset, .unset, .unset, .unset] at_114 rfl rfl rfl ?_
    refine C.iconst 117 (0 : Int32) at_116 rfl rfl ?_
    refine C.istore 119 #[.val (.int a), .val (.int b), .val (.int c), .val (.int d), .val (.int cnt), .val (.int M), .val (.int (2 : Int32)), .val (.int (Int32.ofNat (kd a))), .val (.int (Int32.ofNat (kd b))), .val (.int (Int32.ofNat (kd c))), .val (.int (Int32.ofNat (kd d))), .val (.int (Int32.ofNat (gp a).length)), .val (.int (Int32.ofNat (gp b).length)), .val (.int (0 : Int32)), .val (.int (0 : Int32)), .val (.int (Int32.ofNat ((gp a).length + ((gp b).length + (0))))), .val (.ref bf), .val (.int (0 : Int32)), .unset, .unset, .unset, .unset, .unset, .unset] at_117 rfl rfl ?_
    refine C.iload 121 at_119 rfl rfl ?_
    refine C.iconst 122 (1 : Int32) at_121 rfl rfl ?_
    refine C.icmpF 125 at_122 rfl (by decide) ?_
    refine C.aload 127 at_125 rfl rfl rfl ?_
    refine C.iload 129 at_127 rfl rfl ?_
    refine C.iloadN 130 at_129 rfl rfl ?_
    refine C.callS 133 (as := [.ref bf, .int (0 : Int32), .int a]) (rest := []) (rm := ⟨0, 0, 0, 0⟩) 0 at_130 rfl (tw 63) (tw 64) (tw 25) (tw 65) (by decide) (put l Z a0' hw hEL hSA h1 bf [] ((gp b).length + (0)) a (by simp only [List.length_append, List.length_nil]; omega) A0) (by simp) pd13 rfl rfl (Nat.le_of_eq rfl) (by decide) (by decide) (by decide) (by decide) rfl ?_
    rintro v h2 ⟨rfl, K2, A2⟩
    have z2 : Z.heap.size ≤ h2.size := Nat.le_trans z1 K2.1
    show W h2 [bf] 1 8 133 #[.val (.int a), .val (.int b), .val (.int c), .val (.int d), .val (.int cnt), .val (.int M), .val (.int (2 : Int32)), .val (.int (Int32.ofNat (kd a))), .val (.int (Int32.ofNat (kd b))), .val (.int (Int32.ofNat (kd c))), .val (.int (Int32.ofNat (kd d))), .val (.int (Int32.ofNat (gp a).length)), .val (.int (Int32.ofNat (gp b).length)), .val (.int (0 : Int32)), .val (.int (0 : Int32)), .val (.int (Int32.ofNat ((gp a).length + ((gp b).length + (0))))), .val (.ref bf), .val (.int (0 : Int32)), .unset, .unset, .unset, .unset, .unset, .unset] [.int (Int32.ofNat ([] ++ gp a).length)]
    refine C.istore 135 #[.val (.int a), .val (.int b), .val (.int c), .val (.int d), .val (.int cnt), .val (.int M), .val (.int (2 : Int32)), .val (.int (Int32.ofNat (kd a))), .val (.int (Int32.ofNat (kd b))), .val (.int (Int32.ofNat (kd c))), .val (.int (Int32.ofNat (kd d))), .val (.int (Int32.ofNat (gp a).length)), .val (.int (Int32.ofNat (gp b).length)), .val (.int (0 : Int32)), .val (.int (0 : Int32)), .val (.int (Int32.ofNat ((gp a).length + ((gp b).length + (0))))), .val (.ref bf), .val (.int (Int32.ofNat ([] ++ gp a).length)), .unset, .unset, .unset, .unset, .unset, .unset] at_133 rfl rfl ?_
    refine C.iload 137 at_135 rfl rfl ?_
    refine C.iconst 138 (2 : Int32) at_137 rfl rfl ?_
    refine C.icmpF 141 at_138 rfl (by decide) ?_
    refine C.aload 143 at_141 rfl rfl rfl ?_
    refine C.iload 145 at_143 rfl rfl ?_
    refine C.iloadN 146 at_145 rfl rfl ?_
    refine C.callS 149 (as := [.ref bf, .int (Int32.ofNat ([] ++ gp a).length), .int b]) (rest := []) (rm := ⟨0, 0, 0, 0⟩) 0 at_146 rfl (tw 63) (tw 64) (tw 25) (tw 65) (by decide) (put l Z a0' hw hEL hSA h2 bf ([] ++ gp a) (0) b (by simp only [List.length_append, List.length_nil]; omega) A2) (by simp) pd13 rfl rfl (Nat.le_of_eq rfl) (by decide) (by decide) (by decide) (by decide) rfl ?_
    rintro v h3 ⟨rfl, K3, A3⟩
    have z3 : Z.heap.size ≤ h3.size := Nat.le_trans z2 K3.1
    show W h3 [bf] 1 8 149 #[.val (.int a), .val (.int b), .val (.int c), .val (.int d), .val (.int cnt), .val (.int M), .val (.int (2 : Int32)), .val (.int (Int32.ofNat (kd a))), .val (.int (Int32.ofNat (kd b))), .val (.int (Int32.ofNat (kd c))), .val (.int (Int32.ofNat (kd d))), .val (.int (Int32.ofNat (gp a).length)), .val (.int (Int32.ofNat (gp b).length)), .val (.int (0 : Int32)), .val (.int (0 : Int32)), .val (.int (Int32.ofNat ((gp a).length + ((gp b).length + (0))))), .val (.ref bf), .val (.int (Int32.ofNat ([] ++ gp a).length)), .unset, .unset, .unset, .unset, .unset, .unset] [.int (Int32.ofNat (([] ++ gp a) ++ gp b).length)]
    refine C.istore 151 #[.val (.int a), .val (.int b), .val (.int c), .val (.int d), .val (.int cnt), .val (.int M), .val (.int (2 : Int32)), .val (.int (Int32.ofNat (kd a))), .val (.int (Int32.ofNat (kd b))), .val (.int (Int32.ofNat (kd c))), .val (.int (Int32.ofNat (kd d))), .val (.int (Int32.ofNat (gp a).length)), .val (.int (Int32.ofNat (gp b).length)), .val (.int (0 : Int32)), .val (.int (0 : Int32)), .val (.int (Int32.ofNat ((gp a).length + ((gp b).length + (0))))), .val (.ref bf), .val (.int (Int32.ofNat (([] ++ gp a) ++ gp b).length)), .unset, .unset, .unset, .unset, .unset, .unset] at_149 rfl rfl ?_
    refine C.iload 153 at_151 rfl rfl ?_
    refine C.iconst 154 (3 : Int32) at_153 rfl rfl ?_
    refine C.icmpT 167 at_154 rfl (by decide) ?_
    refine C.iload 169 at_167 rfl rfl ?_
    refine C.iconst 170 (4 : Int32) at_169 rfl rfl ?_
    refine C.icmpT 183 at_170 rfl (by decide) ?_
    obtain ⟨gs, egs⟩ : ∃ gs : List (List Int32 × Nat), gs = [(gp a, kd a + 1), (gp b, kd b + 1)] := ⟨_, rfl⟩
    have hg : ∀ g ∈ gs, Wf g := by
      rw [egs]; intro g hg
      simp only [List.mem_cons, List.not_mem_nil, or_false] at hg; rcases hg with rfl | rfl <;> exact wf_gp _
    have hn8 : (flat gs).length ≤ 8 := by rw [egs]; simp only [flat, List.length_append, List.length_nil]; omega
    have AF : Al Z h3 bf .char (iv' (flat gs)) := by rw [egs]; simpa [flat] using A3
    refine C.new 186 at_183 rfl (tw 2) (tw 3) (tw 4) (by decide) (by decide) ?_
    intro h4 E4 X4 D4
    obtain ⟨b4, g4⟩ : ∃ z, z = h3.size := ⟨_, rfl⟩
    rw [← g4] at X4 ⊢
    rw [← g4] at D4
    have z4 : Z.heap.size ≤ h4.size := Nat.le_trans z3 E4.1
    have zb4 : Z.heap.size ≤ b4 := by rw [g4]; exact z3
    show W h4 [b4, bf] 2 12 186 #[.val (.int a), .val (.int b), .val (.int c), .val (.int d), .val (.int cnt), .val (.int M), .val (.int (2 : Int32)), .val (.int (Int32.ofNat (kd a))), .val (.int (Int32.ofNat (kd b))), .val (.int (Int32.ofNat (kd c))), .val (.int (Int32.ofNat (kd d))), .val (.int (Int32.ofNat (gp a).length)), .val (.int (Int32.ofNat (gp b).length)), .val (.int (0 : Int32)), .val (.int (0 : Int32)), .val (.int (Int32.ofNat ((gp a).length + ((gp b).length + (0))))), .val (.ref bf), .val (.int (Int32.ofNat (([] ++ gp a) ++ gp b).length)), .unset, .unset, .unset, .unset, .unset, .unset] [.ref b4]
    have NV : Fld Z h4 b4 "java/lang/String" "value" "[B" .null := D4 (Or.inr (hw _ (tw 17))) (ty := (.array .byte)) (by decide)
    have NC : Fld Z h4 b4 "java/lang/String" "coder" "B" (.int (0 : Int32)) := D4 (Or.inr (hw _ (tw 18))) (ty := .byte) (by decide)
    have X := X4
    refine C.dup 187 at_186 rfl rfl ?_
    refine C.aload 189 at_187 rfl rfl rfl ?_
    have h0 : (flat gs).length ≠ 0 := by rw [egs]; simp only [flat, List.length_append, List.length_nil]; omega
    refine C.callI 192 (a := b4) (as := [.ref bf]) (rest := [.ref b4]) (rm := ⟨5, 4, 24, 94⟩) 1 at_189 rfl rfl rfl (tw 5) (tw 6) (tw 4) (tw 7) (by decide) (si1 l Z a0' hw hEL hSA h4 b4 bf cpt SCP hcp SAD SHI SLO (flat gs) hn8 h0 (flat_ch gs hg) X NV NC (AF.ext E4)) (by simp) pd1 rfl rfl (Nat.le_of_eq rfl) (by decide) (by decide) (by decide) (by decide) rfl ?_
    rintro v h' ⟨tb, rfl, sn, K', T⟩
    show W h' [b4, bf] 6 36 192 #[.val (.int a), .val (.int b), .val (.int c), .val (.int d), .val (.int cnt), .val (.int M), .val (.int (2 : Int32)), .val (.int (Int32.ofNat (kd a))), .val (.int (Int32.ofNat (kd b))), .val (.int (Int32.ofNat (kd c))), .val (.int (Int32.ofNat (kd d))), .val (.int (Int32.ofNat (gp a).length)), .val (.int (Int32.ofNat (gp b).length)), .val (.int (0 : Int32)), .val (.int (0 : Int32)), .val (.int (Int32.ofNat ((gp a).length + ((gp b).length + (0))))), .val (.ref bf), .val (.int (Int32.ofNat (([] ++ gp a) ++ gp b).length)), .unset, .unset, .unset, .unset, .unset, .unset] [.ref b4]
    refine C.astore 194 #[.val (.int a), .val (.int b), .val (.int c), .val (.int d), .val (.int cnt), .val (.int M), .val (.int (2 : Int32)), .val (.int (Int32.ofNat (kd a))), .val (.int (Int32.ofNat (kd b))), .val (.int (Int32.ofNat (kd c))), .val (.int (Int32.ofNat (kd d))), .val (.int (Int32.ofNat (gp a).length)), .val (.int (Int32.ofNat (gp b).length)), .val (.int (0 : Int32)), .val (.int (0 : Int32)), .val (.int (Int32.ofNat ((gp a).length + ((gp b).length + (0))))), .val (.ref bf), .val (.int (Int32.ofNat (([] ++ gp a) ++ gp b).length)), .val (.ref b4), .unset, .unset, .unset, .unset, .unset] at_192 rfl rfl rfl ?_
    refine C.iconst 195 (0 : Int32) at_194 rfl rfl ?_
    refine C.istore 197 #[.val (.int a), .val (.int b), .val (.int c), .val (.int d), .val (.int cnt), .val (.int M), .val (.int (2 : Int32)), .val (.int (Int32.ofNat (kd a))), .val (.int (Int32.ofNat (kd b))), .val (.int (Int32.ofNat (kd c))), .val (.int (Int32.ofNat (kd d))), .val (.int (Int32.ofNat (gp a).length)), .val (.int (Int32.ofNat (gp b).length)), .val (.int (0 : Int32)), .val (.int (0 : Int32)), .val (.int (Int32.ofNat ((gp a).length + ((gp b).length + (0))))), .val (.ref bf), .val (.int (Int32.ofNat (([] ++ gp a) ++ gp b).length)), .val (.ref b4), .val (.int (0 : Int32)), .unset, .unset, .unset, .unset] at_195 rfl rfl ?_
    refine C.iload 199 at_197 rfl rfl ?_
    refine C.callS 202 (as := [.int (Int32.ofNat (kd a))]) (rest := []) (rm := ⟨0, 0, 0, 0⟩) 0 at_199 rfl (tw 23) (tw 24) (tw 25) (tw 26) (by decide) (kby l Z a0' hw hEL hSA h' a) (by simp) pd4 rfl rfl (Nat.le_of_eq rfl) (by decide) (by decide) (by decide) (by decide) rfl ?_
    refine same_intro ?_
    show W h' [b4, bf] 6 36 202 #[.val (.int a), .val (.int b), .val (.int c), .val (.int d), .val (.int cnt), .val (.int M), .val (.int (2 : Int32)), .val (.int (Int32.ofNat (kd a))), .val (.int (Int32.ofNat (kd b))), .val (.int (Int32.ofNat (kd c))), .val (.int (Int32.ofNat (kd d))), .val (.int (Int32.ofNat (gp a).length)), .val (.int (Int32.ofNat (gp b).length)), .val (.int (0 : Int32)), .val (.int (0 : Int32)), .val (.int (Int32.ofNat ((gp a).length + ((gp b).length + (0))))), .val (.ref bf), .val (.int (Int32.ofNat (([] ++ gp a) ++ gp b).length)), .val (.ref b4), .val (.int (0 : Int32)), .unset, .unset, .unset, .unset] [.int (Int32.ofNat (kd a + 1))]
    rw [show kd a + 1 = 0 + (kd a + 1) from (Nat.zero_add _).symm]
    refine C.istore 204 #[.val (.int a), .val (.int b), .val (.int c), .val (.int d), .val (.int cnt), .val (.int M), .val (.int (2 : Int32)), .val (.int (Int32.ofNat (kd a))), .val (.int (Int32.ofNat (kd b))), .val (.int (Int32.ofNat (kd c))), .val (.int (Int32.ofNat (kd d))), .val (.int (Int32.ofNat (gp a).length)), .val (.int (Int32.ofNat (gp b).length)), .val (.int (0 : Int32)), .val (.int (0 : Int32)), .val (.int (Int32.ofNat ((gp a).length + ((gp b).length + (0))))), .val (.ref bf), .val (.int (Int32.ofNat (([] ++ gp a) ++ gp b).length)), .val (.ref b4), .val (.int (0 : Int32)), .val (.int (Int32.ofNat (0 + (kd a + 1)))), .unset, .unset, .unset] at_202 rfl rfl ?_
    refine C.iload 206 at_204 rfl rfl ?_
    refine C.iconst 207 (1 : Int32) at_206 rfl rfl ?_
    refine C.icmpF 210 at_207 rfl (by decide) ?_
    refine C.iload 212 at_210 rfl rfl ?_
    refine C.iload 214 at_212 rfl rfl ?_
    by_cases p0 : M < Int32.ofNat (0 + (kd a + 1))
    · refine C.icmpT 311 at_214 rfl (tlt p0).2.2.1 ?_
      have hK : 0 = cut M 0 gs := by
        rw [egs, cut_y (u := 0) (g := (gp a, kd a + 1)) p0]
        first | done | rfl | (simp only []; omega) | omega
      exact tail gs hg hn8 0 hK h' _ b4 tb T _ _ _ _ _ _ _ _ _ _ _ _ _ _ _ _ _ _ _ _ _ (Or.inl rfl)
    · refine C.icmpF 217 at_214 rfl (flt p0).2.2.1 ?_
      refine C.iload 219 at_217 rfl rfl ?_
      refine C.istore 221 #[.val (.int a), .val (.int b), .val (.int c), .val (.int d), .val (.int cnt), .val (.int M), .val (.int (2 : Int32)), .val (.int (Int32.ofNat (kd a))), .val (.int (Int32.ofNat (kd b))), .val (.int (Int32.ofNat (kd c))), .val (.int (Int32.ofNat (kd d))), .val (.int (Int32.ofNat (gp a).length)), .val (.int (Int32.ofNat (gp b).length)), .val (.int (0 : Int32)), .val (.int (0 : Int32)), .val (.int (Int32.ofNat ((gp a).length + ((gp b).length + (0))))), .val (.ref bf), .val (.int (Int32.ofNat (([] ++ gp a) ++ gp b).length)), .val (.ref b4), .val (.int (Int32.ofNat (gp a).length)), .val (.int (Int32.ofNat (0 + (kd a + 1)))), .unset, .unset, .unset] at_219 rfl rfl ?_
      refine C.iload 223 at_221 rfl rfl ?_
      refine C.iload 225 at_223 rfl rfl ?_
      refine C.callS 228 (as := [.int (Int32.ofNat (kd b))]) (rest := [.int (Int32.ofNat (0 + (kd a + 1)))]) (rm := ⟨0, 0, 0, 0⟩) 1 at_225 rfl (tw 23) (tw 24) (tw 25) (tw 26) (by decide) (kby l Z a0' hw hEL hSA h' b) (by simp) pd4 rfl rfl (Nat.le_of_eq rfl) (by decide) (by decide) (by decide) (by decide) rfl ?_
      refine same_intro ?_
      show W h' [b4, bf] 6 36 228 #[.val (.int a), .val (.int b), .val (.int c), .val (.int d), .val (.int cnt), .val (.int M), .val (.int (2 : Int32)), .val (.int (Int32.ofNat (kd a))), .val (.int (Int32.ofNat (kd b))), .val (.int (Int32.ofNat (kd c))), .val (.int (Int32.ofNat (kd d))), .val (.int (Int32.ofNat (gp a).length)), .val (.int (Int32.ofNat (gp b).length)), .val (.int (0 : Int32)), .val (.int (0 : Int32)), .val (.int (Int32.ofNat ((gp a).length + ((gp b).length + (0))))), .val (.ref bf), .val (.int (Int32.ofNat (([] ++ gp a) ++ gp b).length)), .val (.ref b4), .val (.int (Int32.ofNat (gp a).length)), .val (.int (Int32.ofNat (0 + (kd a + 1)))), .unset, .unset, .unset] [.int (Int32.ofNat (kd b + 1)), .int (Int32.ofNat (0 + (kd a + 1)))]
      refine C.iadd 229 at_228 rfl ?_
      rw [o_add]
      refine C.istore 231 #[.val (.int a), .val (.int b), .val (.int c), .val (.int d), .val (.int cnt), .val (.int M), .val (.int (2 : Int32)), .val (.int (Int32.ofNat (kd a))), .val (.int (Int32.ofNat (kd b))), .val (.int (Int32.ofNat (kd c))), .val (.int (Int32.ofNat (kd d))), .val (.int (Int32.ofNat (gp a).length)), .val (.int (Int32.ofNat (gp b).length)), .val (.int (0 : Int32)), .val (.int (0 : Int32)), .val (.int (Int32.ofNat ((gp a).length + ((gp b).length + (0))))), .val (.ref bf), .val (.int (Int32.ofNat (([] ++ gp a) ++ gp b).length)), .val (.ref b4), .val (.int (Int32.ofNat (gp a).length)), .val (.int (Int32.ofNat (0 + (kd a + 1)))), .val (.int (Int32.ofNat ((0 + (kd a + 1)) + (kd b + 1)))), .unset, .unset] at_229 rfl rfl ?_
      refine C.iload 233 at_231 rfl rfl ?_
      refine C.iconst 234 (2 : Int32) at_233 rfl rfl ?_
      refine C.icmpF 237 at_234 rfl (by decide) ?_
      refine C.iload 239 at_237 rfl rfl ?_
      refine C.iload 241 at_239 rfl rfl ?_
      by_cases p1 : M < Int32.ofNat ((0 + (kd a + 1)) + (kd b + 1))
      · refine C.icmpT 311 at_241 rfl (tlt p1).2.2.1 ?_
        have hK : ((gp a).length) = cut M 0 gs := by
          rw [egs, cut_n (u := 0) (g := (gp a, kd a + 1)) p0, cut_y (u := (0 + (kd a + 1))) (g := (gp b, kd b + 1)) p1]
          first | done | rfl | (simp only []; omega) | omega
        exact tail gs hg hn8 ((gp a).length) hK h' _ b4 tb T _ _ _ _ _ _ _ _ _ _ _ _ _ _ _ _ _ _ _ _ _ (Or.inr ⟨_, rfl, rfl⟩)
      · refine C.icmpF 244 at_241 rfl (flt p1).2.2.1 ?_
        refine C.iload 246 at_244 rfl rfl ?_
        refine C.iload 248 at_246 rfl rfl ?_
        refine C.iadd 249 at_248 rfl ?_
        rw [o_add]
        refine C.istore 251 #[.val (.int a), .val (.int b), .val (.int c), .val (.int d), .val (.int cnt), .val (.int M), .val (.int (2 : Int32)), .val (.int (Int32.ofNat (kd a))), .val (.int (Int32.ofNat (kd b))), .val (.int (Int32.ofNat (kd c))), .val (.int (Int32.ofNat (kd d))), .val (.int (Int32.ofNat (gp a).length)), .val (.int (Int32.ofNat (gp b).length)), .val (.int (0 : Int32)), .val (.int (0 : Int32)), .val (.int (Int32.ofNat ((gp a).length + ((gp b).length + (0))))), .val (.ref bf), .val (.int (Int32.ofNat (([] ++ gp a) ++ gp b).length)), .val (.ref b4), .val (.int (Int32.ofNat ((gp a).length + (gp b).length))), .val (.int (Int32.ofNat (0 + (kd a + 1)))), .val (.int (Int32.ofNat ((0 + (kd a + 1)) + (kd b + 1)))), .unset, .unset] at_249 rfl rfl ?_
        refine C.iload 253 at_251 rfl rfl ?_
        refine C.iload 255 at_253 rfl rfl ?_
        refine C.callS 258 (as := [.int (Int32.ofNat (kd c))]) (rest := [.int (Int32.ofNat ((0 + (kd a + 1)) + (kd b + 1)))]) (rm := ⟨0, 0, 0, 0⟩) 1 at_255 rfl (tw 23) (tw 24) (tw 25) (tw 26) (by decide) (kby l Z a0' hw hEL hSA h' c) (by simp) pd4 rfl rfl (Nat.le_of_eq rfl) (by decide) (by decide) (by decide) (by decide) rfl ?_
        refine same_intro ?_
        show W h' [b4, bf] 6 36 258 #[.val (.int a), .val (.int b), .val (.int c), .val (.int d), .val (.int cnt), .val (.int M), .val (.int (2 : Int32)), .val (.int (Int32.ofNat (kd a))), .val (.int (Int32.ofNat (kd b))), .val (.int (Int32.ofNat (kd c))), .val (.int (Int32.ofNat (kd d))), .val (.int (Int32.ofNat (gp a).length)), .val (.int (Int32.ofNat (gp b).length)), .val (.int (0 : Int32)), .val (.int (0 : Int32)), .val (.int (Int32.ofNat ((gp a).length + ((gp b).length + (0))))), .val (.ref bf), .val (.int (Int32.ofNat (([] ++ gp a) ++ gp b).length)), .val (.ref b4), .val (.int (Int32.ofNat ((gp a).length + (gp b).length))), .val (.int (Int32.ofNat (0 + (kd a + 1)))), .val (.int (Int32.ofNat ((0 + (kd a + 1)) + (kd b + 1)))), .unset, .unset] [.int (Int32.ofNat (kd c + 1)), .int (Int32.ofNat ((0 + (kd a + 1)) + (kd b + 1)))]
        refine C.iadd 259 at_258 rfl ?_
        rw [o_add]
        refine C.istore 261 #[.val (.int a), .val (.int b), .val (.int c), .val (.int d), .val (.int cnt), .val (.int M), .val (.int (2 : Int32)), .val (.int (Int32.ofNat (kd a))), .val (.int (Int32.ofNat (kd b))), .val (.int (Int32.ofNat (kd c))), .val (.int (Int32.ofNat (kd d))), .val (.int (Int32.ofNat (gp a).length)), .val (.int (Int32.ofNat (gp b).length)), .val (.int (0 : Int32)), .val (.int (0 : Int32)), .val (.int (Int32.ofNat ((gp a).length + ((gp b).length + (0))))), .val (.ref bf), .val (.int (Int32.ofNat (([] ++ gp a) ++ gp b).length)), .val (.ref b4), .val (.int (Int32.ofNat ((gp a).length + (gp b).length))), .val (.int (Int32.ofNat (0 + (kd a + 1)))), .val (.int (Int32.ofNat ((0 + (kd a + 1)) + (kd b + 1)))), .val (.int (Int32.ofNat (((0 + (kd a + 1)) + (kd b + 1)) + (kd c + 1)))), .unset] at_259 rfl rfl ?_
        refine C.iload 263 at_261 rfl rfl ?_
        refine C.iconst 264 (3 : Int32) at_263 rfl rfl ?_
        refine C.icmpT 311 at_264 rfl (by decide) ?_
        have hK : ((gp a).length + (gp b).length) = cut M 0 gs := by
          rw [egs, cut_n (u := 0) (g := (gp a, kd a + 1)) p0, cut_n (u := (0 + (kd a + 1))) (g := (gp b, kd b + 1)) p1, cut_nil]
          first | done | rfl | (simp only []; omega) | omega
        exact tail gs hg hn8 ((gp a).length + (gp b).length) hK h' _ b4 tb T _ _ _ _ _ _ _ _ _ _ _ _ _ _ _ _ _ _ _ _ _ (Or.inr ⟨_, rfl, rfl⟩)
  | 3, _ =>
    show W Z.heap [] 0 0 29 #[.val (.int a), .val (.int b), .val (.int c), .val (.int d), .val (.int cnt), .val (.int M), .val (.int (3 : Int32)), .val (.int (Int32.ofNat (kd a))), .val (.int (Int32.ofNat (kd b))), .val (.int (Int32.ofNat (kd c))), .val (.int (Int32.ofNat (kd d))), .unset, .unset, .unset, .unset, .unset, .unset, .unset, .unset, .unset, .unset, .unset, .unset, .unset] []
    refine C.iload 31 at_29 rfl rfl ?_
    refine C.iconst 32 (1 : Int32) at_31 rfl rfl ?_
    refine C.icmpF 35 at_32 rfl (by decide) ?_
    refine C.iload 37 at_35 rfl rfl ?_
    refine C.callS 40 (as := [.int (Int32.ofNat (kd a))]) (rest := []) (rm := ⟨0, 0, 0, 0⟩) 0 at_37 rfl (tw 60) (tw 61) (tw 25) (tw 62) (by decide) (kch l Z a0' hw hEL hSA Z.heap a) (by simp) pd12 rfl rfl (Nat.le_of_eq rfl) (by decide) (by decide) (by decide) (by decide) rfl ?_
    refine same_intro ?_
    show W Z.heap [] 0 0 40 #[.val (.int a), .val (.int b), .val (.int c), .val (.int d), .val (.int cnt), .val (.int M), .val (.int (3 : Int32)), .val (.int (Int32.ofNat (kd a))), .val (.int (Int32.ofNat (kd b))), .val (.int (Int32.ofNat (kd c))), .val (.int (Int32.ofNat (kd d))), .unset, .unset, .unset, .unset, .unset, .unset, .unset, .unset, .unset, .unset, .unset, .unset, .unset] [.int (Int32.ofNat (gp a).length)]
    refine C.goto 44 at_40 rfl ?_
    refine C.istore 46 #[.val (.int a), .val (.int b), .val (.int c), .val (.int d), .val (.int cnt), .val (.int M), .val (.int (3 : Int32)), .val (.int (Int32.ofNat (kd a))), .val (.int (Int32.ofNat (kd b))), .val (.int (Int32.ofNat (kd c))), .val (.int (Int32.ofNat (kd d))), .val (.int (Int32.ofNat (gp a).length)), .unset, .unset, .unset, .unset, .unset, .unset, .unset, .unset, .unset, .unset, .unset, .unset] at_44 rfl rfl ?_
    refine C.iload 48 at_46 rfl rfl ?_
    refine C.iconst 49 (2 : Int32) at_48 rfl rfl ?_
    refine C.icmpF 52 at_49 rfl (by decide) ?_
    refine C.iload 54 at_52 rfl rfl ?_
    refine C.callS 57 (as := [.int (Int32.ofNat (kd b))]) (rest := []) (rm := ⟨0, 0, 0, 0⟩) 0 at_54 rfl (tw 60) (tw 61) (tw 25) (tw 62) (by decide) (kch l Z a0' hw hEL hSA Z.heap b) (by simp) pd12 rfl rfl (Nat.le_of_eq rfl) (by decide) (by decide) (by decide) (by decide) rfl ?_
    refine same_intro ?_
    show W Z.heap [] 0 0 57 #[.val (.int a), .val (.int b), .val (.int c), .val (.int d), .val (.int cnt), .val (.int M), .val (.int (3 : Int32)), .val (.int (Int32.ofNat (kd a))), .val (.int (Int32.ofNat (kd b))), .val (.int (Int32.ofNat (kd c))), .val (.int (Int32.ofNat (kd d))), .val (.int (Int32.ofNat (gp a).length)), .unset, .unset, .unset, .unset, .unset, .unset, .unset, .unset, .unset, .unset, .unset, .unset] [.int (Int32.ofNat (gp b).length)]
    refine C.goto 61 at_57 rfl ?_
    refine C.istore 63 #[.val (.int a), .val (.int b), .val (.int c), .val (.int d), .val (.int cnt), .val (.int M), .val (.int (3 : Int32)), .val (.int (Int32.ofNat (kd a))), .val (.int (Int32.ofNat (kd b))), .val (.int (Int32.ofNat (kd c))), .val (.int (Int32.ofNat (kd d))), .val (.int (Int32.ofNat (gp a).length)), .val (.int (Int32.ofNat (gp b).length)), .unset, .unset, .unset, .unset, .unset, .unset, .unset, .unset, .unset, .unset, .unset] at_61 rfl rfl ?_
    refine C.iload 65 at_63 rfl rfl ?_
    refine C.iconst 66 (3 : Int32) at_65 rfl rfl ?_
    refine C.icmpF 69 at_66 rfl (by decide) ?_
    refine C.iload 71 at_69 rfl rfl ?_
    refine C.callS 74 (as := [.int (Int32.ofNat (kd c))]) (rest := []) (rm := ⟨0, 0, 0, 0⟩) 0 at_71 rfl (tw 60) (tw 61) (tw 25) (tw 62) (by decide) (kch l Z a0' hw hEL hSA Z.heap c) (by simp) pd12 rfl rfl (Nat.le_of_eq rfl) (by decide) (by decide) (by decide) (by decide) rfl ?_
    refine same_intro ?_
    show W Z.heap [] 0 0 74 #[.val (.int a), .val (.int b), .val (.int c), .val (.int d), .val (.int cnt), .val (.int M), .val (.int (3 : Int32)), .val (.int (Int32.ofNat (kd a))), .val (.int (Int32.ofNat (kd b))), .val (.int (Int32.ofNat (kd c))), .val (.int (Int32.ofNat (kd d))), .val (.int (Int32.ofNat (gp a).length)), .val (.int (Int32.ofNat (gp b).length)), .unset, .unset, .unset, .unset, .unset, .unset, .unset, .unset, .unset, .unset, .unset] [.int (Int32.ofNat (gp c).length)]
    refine C.goto 78 at_74 rfl ?_
    refine C.istore 80 #[.val (.int a), .val (.int b), .val (.int c), .val (.int d), .val (.int cnt), .val (.int M), .val (.int (3 : Int32)), .val (.int (Int32.ofNat (kd a))), .val (.int (Int32.ofNat (kd b))), .val (.int (Int32.ofNat (kd c))), .val (.int (Int32.ofNat (kd d))), .val (.int (Int32.ofNat (gp a).length)), .val (.int (Int32.ofNat (gp b).length)), .val (.int (Int32.ofNat (gp c).length)), .unset, .unset, .unset, .unset, .unset, .unset, .unset, .unset, .unset, .unset] at_78 rfl rfl ?_
    refine C.iload 82 at_80 rfl rfl ?_
    refine C.iconst 83 (4 : Int32) at_82 rfl rfl ?_
    refine C.icmpT 94 at_83 rfl (by decide) ?_
    refine C.iconst 95 (0 : Int32) at_94 rfl rfl ?_
    refine C.istore 97 #[.val (.int a), .val (.int b), .val (.int c), .val (.int d), .val (.int cnt), .val (.int M), .val (.int (3 : Int32)), .val (.int (Int32.ofNat (kd a))), .val (.int (Int32.ofNat (kd b))), .val (.int (Int32.ofNat (kd c))), .val (.int (Int32.ofNat (kd d))), .val (.int (Int32.ofNat (gp a).length)), .val (.int (Int32.ofNat (gp b).length)), .val (.int (Int32.ofNat (gp c).length)), .val (.int (0 : Int32)), .unset, .unset, .unset, .unset, .unset, .unset, .unset, .unset, .unset] at_95 rfl rfl ?_
    refine C.iload 99 at_97 rfl rfl ?_
    refine C.iload 101 at_99 rfl rfl ?_
    refine C.iadd 102 at_101 rfl ?_
    refine C.iload 104 at_102 rfl rfl ?_
    refine C.iadd 105 at_104 rfl ?_
    refine C.iload 107 at_105 rfl rfl ?_
    refine C.iadd 108 at_107 rfl ?_
    have es : ((((Int32.ofNat (gp a).length) + (Int32.ofNat (gp b).length)) + (Int32.ofNat (gp c).length)) + (0 : Int32)) = Int32.ofNat ((gp a).length + ((gp b).length + ((gp c).length + (0)))) := by
      (simp only [show (0 : Int32) = Int32.ofNat 0 from rfl, o_add]) <;> first | done | (congr 1 <;> omega)
    rw [es]
    refine C.istore 110 #[.val (.int a), .val (.int b), .val (.int c), .val (.int d), .val (.int cnt), .val (.int M), .val (.int (3 : Int32)), .val (.int (Int32.ofNat (kd a))), .val (.int (Int32.ofNat (kd b))), .val (.int (Int32.ofNat (kd c))), .val (.int (Int32.ofNat (kd d))), .val (.int (Int32.ofNat (gp a).length)), .val (.int (Int32.ofNat (gp b).length)), .val (.int (Int32.ofNat (gp c).length)), .val (.int (0 : Int32)), .val (.int (Int32.ofNat ((gp a).length + ((gp b).length + ((gp c).length + (0)))))), .unset, .unset, .unset, .unset, .unset, .unset, .unset, .unset] at_108 rfl rfl ?_
    refine C.iload 112 at_110 rfl rfl ?_
    refine C.newarray 114 8 at_112 rfl (tw 1) (o_nn (by omega)) (by rw [o_cl (by omega)]; omega) (by decide) (by decide) (by decide) ?_
    intro h1 E1 A0
    rw [o_cl (by omega)] at A0
    obtain ⟨bf, gbf⟩ : ∃ z, z = Z.heap.size := ⟨_, rfl⟩
    rw [← gbf] at A0 ⊢
    replace A0 : Al Z h1 bf .char (iv' [] ++ List.replicate ((gp a).length + ((gp b).length + ((gp c).length + (0)))) (.int 0)) := A0
    have z1 : Z.heap.size ≤ h1.size := E1.1
    show W h1 [bf] 1 8 114 #[.val (.int a), .val (.int b), .val (.int c), .val (.int d), .val (.int cnt), .val (.int M), .val (.int (3 : Int32)), .val (.int (Int32.ofNat (kd a))), .val (.int (Int32.ofNat (kd b))), .val (.int (Int32.ofNat (kd c))), .val (.int (Int32.ofNat (kd d))), .val (.int (Int32.ofNat (gp a).length)), .val (.int (Int32.ofNat (gp b).length)), .val (.int (Int32.ofNat (gp c).length)), .val (.int (0 : Int32)), .val (.int (Int32.ofNat ((gp a).length + ((gp b).length + ((gp c).length + (0)))))), .unset, .unset, .unset, .unset, .unset, .unset, .unset, .unset] [.ref bf]
    refine C.astore 116 #[.val (.int a), .val (.int b), .val (.int c), .val (.int d), .val (.int cnt), .val (.int M), .val (.int (3 : Int32)), .val (.int (Int32.ofNat (kd a))), .val (.int (Int32.ofNat (kd b))), .val (.int (Int32.ofNat (kd c))), .val (.int (Int32.ofNat (kd d))), .val (.int (Int32.ofNat (gp a).length)), .val (.int (Int32.ofNat (gp b).length)), .val (.int (Int32.ofNat (gp c).length)), .val (.int (0 : Int32)), .val (.int (Int32.ofNat ((gp a).length + ((gp b).length + ((gp c).length + (0)))))), .val (.ref bf), .unset, .unset, .unset, .unset, .unset, .unset, .unset] at_114 rfl rfl rfl ?_
    refine C.iconst 117 (0 : Int32) at_116 rfl rfl ?_
    refine C.istore 119 #[.val (.int a), .val (.int b), .val (.int c), .val (.int d), .val (.int cnt), .val (.int M), .val (.int (3 : Int32)), .val (.int (Int32.ofNat (kd a))), .val (.int (Int32.ofNat (kd b))), .val (.int (Int32.ofNat (kd c))), .val (.int (Int32.ofNat (kd d))), .val (.int (Int32.ofNat (gp a).length)), .val (.int (Int32.ofNat (gp b).length)), .val (.int (Int32.ofNat (gp c).length)), .val (.int (0 : Int32)), .val (.int (Int32.ofNat ((gp a).length + ((gp b).length + ((gp c).length + (0)))))), .val (.ref bf), .val (.int (0 : Int32)), .unset, .unset, .unset, .unset, .unset, .unset] at_117 rfl rfl ?_
    refine C.iload 121 at_119 rfl rfl ?_
    refine C.iconst 122 (1 : Int32) at_121 rfl rfl ?_
    refine C.icmpF 125 at_122 rfl (by decide) ?_
    refine C.aload 127 at_125 rfl rfl rfl ?_
    refine C.iload 129 at_127 rfl rfl ?_
    refine C.iloadN 130 at_129 rfl rfl ?_
    refine C.callS 133 (as := [.ref bf, .int (0 : Int32), .int a]) (rest := []) (rm := ⟨0, 0, 0, 0⟩) 0 at_130 rfl (tw 63) (tw 64) (tw 25) (tw 65) (by decide) (put l Z a0' hw hEL hSA h1 bf [] ((gp b).length + ((gp c).length + (0))) a (by simp only [List.length_append, List.length_nil]; omega) A0) (by simp) pd13 rfl rfl (Nat.le_of_eq rfl) (by decide) (by decide) (by decide) (by decide) rfl ?_
    rintro v h2 ⟨rfl, K2, A2⟩
    have z2 : Z.heap.size ≤ h2.size := Nat.le_trans z1 K2.1
    show W h2 [bf] 1 8 133 #[.val (.int a), .val (.int b), .val (.int c), .val (.int d), .val (.int cnt), .val (.int M), .val (.int (3 : Int32)), .val (.int (Int32.ofNat (kd a))), .val (.int (Int32.ofNat (kd b))), .val (.int (Int32.ofNat (kd c))), .val (.int (Int32.ofNat (kd d))), .val (.int (Int32.ofNat (gp a).length)), .val (.int (Int32.ofNat (gp b).length)), .val (.int (Int32.ofNat (gp c).length)), .val (.int (0 : Int32)), .val (.int (Int32.ofNat ((gp a).length + ((gp b).length + ((gp c).length + (0)))))), .val (.ref bf), .val (.int (0 : Int32)), .unset, .unset, .unset, .unset, .unset, .unset] [.int (Int32.ofNat ([] ++ gp a).length)]
    refine C.istore 135 #[.val (.int a), .val (.int b), .val (.int c), .val (.int d), .val (.int cnt), .val (.int M), .val (.int (3 : Int32)), .val (.int (Int32.ofNat (kd a))), .val (.int (Int32.ofNat (kd b))), .val (.int (Int32.ofNat (kd c))), .val (.int (Int32.ofNat (kd d))), .val (.int (Int32.ofNat (gp a).length)), .val (.int (Int32.ofNat (gp b).length)), .val (.int (Int32.ofNat (gp c).length)), .val (.int (0 : Int32)), .val (.int (Int32.ofNat ((gp a).length + ((gp b).length + ((gp c).length + (0)))))), .val (.ref bf), .val (.int (Int32.ofNat ([] ++ gp a).length)), .unset, .unset, .unset, .unset, .unset, .unset] at_133 rfl rfl ?_
    refine C.iload 137 at_135 rfl rfl ?_
    refine C.iconst 138 (2 : Int32) at_137 rfl rfl ?_
    refine C.icmpF 141 at_138 rfl (by decide) ?_
    refine C.aload 143 at_141 rfl rfl rfl ?_
    refine C.iload 145 at_143 rfl rfl ?_
    refine C.iloadN 146 at_145 rfl rfl ?_
    refine C.callS 149 (as := [.ref bf, .int (Int32.ofNat ([] ++ gp a).length), .int b]) (rest := []) (rm := ⟨0, 0, 0, 0⟩) 0 at_146 rfl (tw 63) (tw 64) (tw 25) (tw 65) (by decide) (put l Z a0' hw hEL hSA h2 bf ([] ++ gp a) ((gp c).length + (0)) b (by simp only [List.length_append, List.length_nil]; omega) A2) (by simp) pd13 rfl rfl (Nat.le_of_eq rfl) (by decide) (by decide) (by decide) (by decide) rfl ?_
    rintro v h3 ⟨rfl, K3, A3⟩
    have z3 : Z.heap.size ≤ h3.size := Nat.le_trans z2 K3.1
    show W h3 [bf] 1 8 149 #[.val (.int a), .val (.int b), .val (.int c), .val (.int d), .val (.int cnt), .val (.int M), .val (.int (3 : Int32)), .val (.int (Int32.ofNat (kd a))), .val (.int (Int32.ofNat (kd b))), .val (.int (Int32.ofNat (kd c))), .val (.int (Int32.ofNat (kd d))), .val (.int (Int32.ofNat (gp a).length)), .val (.int (Int32.ofNat (gp b).length)), .val (.int (Int32.ofNat (gp c).length)), .val (.int (0 : Int32)), .val (.int (Int32.ofNat ((gp a).length + ((gp b).length + ((gp c).length + (0)))))), .val (.ref bf), .val (.int (Int32.ofNat ([] ++ gp a).length)), .unset, .unset, .unset, .unset, .unset, .unset] [.int (Int32.ofNat (([] ++ gp a) ++ gp b).length)]
    refine C.istore 151 #[.val (.int a), .val (.int b), .val (.int c), .val (.int d), .val (.int cnt), .val (.int M), .val (.int (3 : Int32)), .val (.int (Int32.ofNat (kd a))), .val (.int (Int32.ofNat (kd b))), .val (.int (Int32.ofNat (kd c))), .val (.int (Int32.ofNat (kd d))), .val (.int (Int32.ofNat (gp a).length)), .val (.int (Int32.ofNat (gp b).length)), .val (.int (Int32.ofNat (gp c).length)), .val (.int (0 : Int32)), .val (.int (Int32.ofNat ((gp a).length + ((gp b).length + ((gp c).length + (0)))))), .val (.ref bf), .val (.int (Int32.ofNat (([] ++ gp a) ++ gp b).length)), .unset, .unset, .unset, .unset, .unset, .unset] at_149 rfl rfl ?_
    refine C.iload 153 at_151 rfl rfl ?_
    refine C.iconst 154 (3 : Int32) at_153 rfl rfl ?_
    refine C.icmpF 157 at_154 rfl (by decide) ?_
    refine C.aload 159 at_157 rfl rfl rfl ?_
    refine C.iload 161 at_159 rfl rfl ?_
    refine C.iloadN 162 at_161 rfl rfl ?_
    refine C.callS 165 (as := [.ref bf, .int (Int32.ofNat (([] ++ gp a) ++ gp b).length), .int c]) (rest := []) (rm := ⟨0, 0, 0, 0⟩) 0 at_162 rfl (tw 63) (tw 64) (tw 25) (tw 65) (by decide) (put l Z a0' hw hEL hSA h3 bf (([] ++ gp a) ++ gp b) (0) c (by simp only [List.length_append, List.length_nil]; omega) A3) (by simp) pd13 rfl rfl (Nat.le_of_eq rfl) (by decide) (by decide) (by decide) (by decide) rfl ?_
    rintro v h4 ⟨rfl, K4, A4⟩
    have z4 : Z.heap.size ≤ h4.size := Nat.le_trans z3 K4.1
    show W h4 [bf] 1 8 165 #[.val (.int a), .val (.int b), .val (.int c), .val (.int d), .val (.int cnt), .val (.int M), .val (.int (3 : Int32)), .val (.int (Int32.ofNat (kd a))), .val (.int (Int32.ofNat (kd b))), .val (.int (Int32.ofNat (kd c))), .val (.int (Int32.ofNat (kd d))), .val (.int (Int32.ofNat (gp a).length)), .val (.int (Int32.ofNat (gp b).length)), .val (.int (Int32.ofNat (gp c).length)), .val (.int (0 : Int32)), .val (.int (Int32.ofNat ((gp a).length + ((gp b).length + ((gp c).length + (0)))))), .val (.ref bf), .val (.int (Int32.ofNat (([] ++ gp a) ++ gp b).length)), .unset, .unset, .unset, .unset, .unset, .unset] [.int (Int32.ofNat ((([] ++ gp a) ++ gp b) ++ gp c).length)]
    refine C.istore 167 #[.val (.int a), .val (.int b), .val (.int c), .val (.int d), .val (.int cnt), .val (.int M), .val (.int (3 : Int32)), .val (.int (Int32.ofNat (kd a))), .val (.int (Int32.ofNat (kd b))), .val (.int (Int32.ofNat (kd c))), .val (.int (Int32.ofNat (kd d))), .val (.int (Int32.ofNat (gp a).length)), .val (.int (Int32.ofNat (gp b).length)), .val (.int (Int32.ofNat (gp c).length)), .val (.int (0 : Int32)), .val (.int (Int32.ofNat ((gp a).length + ((gp b).length + ((gp c).length + (0)))))), .val (.ref bf), .val (.int (Int32.ofNat ((([] ++ gp a) ++ gp b) ++ gp c).length)), .unset, .unset, .unset, .unset, .unset, .unset] at_165 rfl rfl ?_
    refine C.iload 169 at_167 rfl rfl ?_
    refine C.iconst 170 (4 : Int32) at_169 rfl rfl ?_
    refine C.icmpT 183 at_170 rfl (by decide) ?_
    obtain ⟨gs, egs⟩ : ∃ gs : List (List Int32 × Nat), gs = [(gp a, kd a + 1), (gp b, kd b + 1), (gp c, kd c + 1)] := ⟨_, rfl⟩
    have hg : ∀ g ∈ gs, Wf g := by
      rw [egs]; intro g hg
      simp only [List.mem_cons, List.not_mem_nil, or_false] at hg; rcases hg with rfl | rfl | rfl <;> exact wf_gp _
    have hn8 : (flat gs).length ≤ 8 := by rw [egs]; simp only [flat, List.length_append, List.length_nil]; omega
    have AF : Al Z h4 bf .char (iv' (flat gs)) := by rw [egs]; simpa [flat] using A4
    refine C.new 186 at_183 rfl (tw 2) (tw 3) (tw 4) (by decide) (by decide) ?_
    intro h5 E5 X5 D5
    obtain ⟨b5, g5⟩ : ∃ z, z = h4.size := ⟨_, rfl⟩
    rw [← g5] at X5 ⊢
    rw [← g5] at D5
    have z5 : Z.heap.size ≤ h5.size := Nat.le_trans z4 E5.1
    have zb5 : Z.heap.size ≤ b5 := by rw [g5]; exact z4
    show W h5 [b5, bf] 2 12 186 #[.val (.int a), .val (.int b), .val (.int c), .val (.int d), .val (.int cnt), .val (.int M), .val (.int (3 : Int32)), .val (.int (Int32.ofNat (kd a))), .val (.int (Int32.ofNat (kd b))), .val (.int (Int32.ofNat (kd c))), .val (.int (Int32.ofNat (kd d))), .val (.int (Int32.ofNat (gp a).length)), .val (.int (Int32.ofNat (gp b).length)), .val (.int (Int32.ofNat (gp c).length)), .val (.int (0 : Int32)), .val (.int (Int32.ofNat ((gp a).length + ((gp b).length + ((gp c).length + (0)))))), .val (.ref bf), .val (.int (Int32.ofNat ((([] ++ gp a) ++ gp b) ++ gp c).length)), .unset, .unset, .unset, .unset, .unset, .unset] [.ref b5]
    have NV : Fld Z h5 b5 "java/lang/String" "value" "[B" .null := D5 (Or.inr (hw _ (tw 17))) (ty := (.array .byte)) (by decide)
    have NC : Fld Z h5 b5 "java/lang/String" "coder" "B" (.int (0 : Int32)) := D5 (Or.inr (hw _ (tw 18))) (ty := .byte) (by decide)
    have X := X5
    refine C.dup 187 at_186 rfl rfl ?_
    refine C.aload 189 at_187 rfl rfl rfl ?_
    have h0 : (flat gs).length ≠ 0 := by rw [egs]; simp only [flat, List.length_append, List.length_nil]; omega
    refine C.callI 192 (a := b5) (as := [.ref bf]) (rest := [.ref b5]) (rm := ⟨5, 4, 24, 94⟩) 1 at_189 rfl rfl rfl (tw 5) (tw 6) (tw 4) (tw 7) (by decide) (si1 l Z a0' hw hEL hSA h5 b5 bf cpt SCP hcp SAD SHI SLO (flat gs) hn8 h0 (flat_ch gs hg) X NV NC (AF.ext E5)) (by simp) pd1 rfl rfl (Nat.le_of_eq rfl) (by decide) (by decide) (by decide) (by decide) rfl ?_
    rintro v h' ⟨tb, rfl, sn, K', T⟩
    show W h' [b5, bf] 6 36 192 #[.val (.int a), .val (.int b), .val (.int c), .val (.int d), .val (.int cnt), .val (.int M), .val (.int (3 : Int32)), .val (.int (Int32.ofNat (kd a))), .val (.int (Int32.ofNat (kd b))), .val (.int (Int32.ofNat (kd c))), .val (.int (Int32.ofNat (kd d))), .val (.int (Int32.ofNat (gp a).length)), .val (.int (Int32.ofNat (gp b).length)), .val (.int (Int32.ofNat (gp c).length)), .val (.int (0 : Int32)), .val (.int (Int32.ofNat ((gp a).length + ((gp b).length + ((gp c).length + (0)))))), .val (.ref bf), .val (.int (Int32.ofNat ((([] ++ gp a) ++ gp b) ++ gp c).length)), .unset, .unset, .unset, .unset, .unset, .unset] [.ref b5]
    refine C.astore 194 #[.val (.int a), .val (.int b), .val (.int c), .val (.int d), .val (.int cnt), .val (.int M), .val (.int (3 : Int32)), .val (.int (Int32.ofNat (kd a))), .val (.int (Int32.ofNat (kd b))), .val (.int (Int32.ofNat (kd c))), .val (.int (Int32.ofNat (kd d))), .val (.int (Int32.ofNat (gp a).length)), .val (.int (Int32.ofNat (gp b).length)), .val (.int (Int32.ofNat (gp c).length)), .val (.int (0 : Int32)), .val (.int (Int32.ofNat ((gp a).length + ((gp b).length + ((gp c).length + (0)))))), .val (.ref bf), .val (.int (Int32.ofNat ((([] ++ gp a) ++ gp b) ++ gp c).length)), .val (.ref b5), .unset, .unset, .unset, .unset, .unset] at_192 rfl rfl rfl ?_
    refine C.iconst 195 (0 : Int32) at_194 rfl rfl ?_
    refine C.istore 197 #[.val (.int a), .val (.int b), .val (.int c), .val (.int d), .val (.int cnt), .val (.int M), .val (.int (3 : Int32)), .val (.int (Int32.ofNat (kd a))), .val (.int (Int32.ofNat (kd b))), .val (.int (Int32.ofNat (kd c))), .val (.int (Int32.ofNat (kd d))), .val (.int (Int32.ofNat (gp a).length)), .val (.int (Int32.ofNat (gp b).length)), .val (.int (Int32.ofNat (gp c).length)), .val (.int (0 : Int32)), .val (.int (Int32.ofNat ((gp a).length + ((gp b).length + ((gp c).length + (0)))))), .val (.ref bf), .val (.int (Int32.ofNat ((([] ++ gp a) ++ gp b) ++ gp c).length)), .val (.ref b5), .val (.int (0 : Int32)), .unset, .unset, .unset, .unset] at_195 rfl rfl ?_
    refine C.iload 199 at_197 rfl rfl ?_
    refine C.callS 202 (as := [.int (Int32.ofNat (kd a))]) (rest := []) (rm := ⟨0, 0, 0, 0⟩) 0 at_199 rfl (tw 23) (tw 24) (tw 25) (tw 26) (by decide) (kby l Z a0' hw hEL hSA h' a) (by simp) pd4 rfl rfl (Nat.le_of_eq rfl) (by decide) (by decide) (by decide) (by decide) rfl ?_
    refine same_intro ?_
    show W h' [b5, bf] 6 36 202 #[.val (.int a), .val (.int b), .val (.int c), .val (.int d), .val (.int cnt), .val (.int M), .val (.int (3 : Int32)), .val (.int (Int32.ofNat (kd a))), .val (.int (Int32.ofNat (kd b))), .val (.int (Int32.ofNat (kd c))), .val (.int (Int32.ofNat (kd d))), .val (.int (Int32.ofNat (gp a).length)), .val (.int (Int32.ofNat (gp b).length)), .val (.int (Int32.ofNat (gp c).length)), .val (.int (0 : Int32)), .val (.int (Int32.ofNat ((gp a).length + ((gp b).length + ((gp c).length + (0)))))), .val (.ref bf), .val (.int (Int32.ofNat ((([] ++ gp a) ++ gp b) ++ gp c).length)), .val (.ref b5), .val (.int (0 : Int32)), .unset, .unset, .unset, .unset] [.int (Int32.ofNat (kd a + 1))]
    rw [show kd a + 1 = 0 + (kd a + 1) from (Nat.zero_add _).symm]
    refine C.istore 204 #[.val (.int a), .val (.int b), .val (.int c), .val (.int d), .val (.int cnt), .val (.int M), .val (.int (3 : Int32)), .val (.int (Int32.ofNat (kd a))), .val (.int (Int32.ofNat (kd b))), .val (.int (Int32.ofNat (kd c))), .val (.int (Int32.ofNat (kd d))), .val (.int (Int32.ofNat (gp a).length)), .val (.int (Int32.ofNat (gp b).length)), .val (.int (Int32.ofNat (gp c).length)), .val (.int (0 : Int32)), .val (.int (Int32.ofNat ((gp a).length + ((gp b).length + ((gp c).length + (0)))))), .val (.ref bf), .val (.int (Int32.ofNat ((([] ++ gp a) ++ gp b) ++ gp c).length)), .val (.ref b5), .val (.int (0 : Int32)), .val (.int (Int32.ofNat (0 + (kd a + 1)))), .unset, .unset, .unset] at_202 rfl rfl ?_
    refine C.iload 206 at_204 rfl rfl ?_
    refine C.iconst 207 (1 : Int32) at_206 rfl rfl ?_
    refine C.icmpF 210 at_207 rfl (by decide) ?_
    refine C.iload 212 at_210 rfl rfl ?_
    refine C.iload 214 at_212 rfl rfl ?_
    by_cases p0 : M < Int32.ofNat (0 + (kd a + 1))
    · refine C.icmpT 311 at_214 rfl (tlt p0).2.2.1 ?_
      have hK : 0 = cut M 0 gs := by
        rw [egs, cut_y (u := 0) (g := (gp a, kd a + 1)) p0]
        first | done | rfl | (simp only []; omega) | omega
      exact tail gs hg hn8 0 hK h' _ b5 tb T _ _ _ _ _ _ _ _ _ _ _ _ _ _ _ _ _ _ _ _ _ (Or.inl rfl)
    · refine C.icmpF 217 at_214 rfl (flt p0).2.2.1 ?_
      refine C.iload 219 at_217 rfl rfl ?_
      refine C.istore 221 #[.val (.int a), .val (.int b), .val (.int c), .val (.int d), .val (.int cnt), .val (.int M), .val (.int (3 : Int32)), .val (.int (Int32.ofNat (kd a))), .val (.int (Int32.ofNat (kd b))), .val (.int (Int32.ofNat (kd c))), .val (.int (Int32.ofNat (kd d))), .val (.int (Int32.ofNat (gp a).length)), .val (.int (Int32.ofNat (gp b).length)), .val (.int (Int32.ofNat (gp c).length)), .val (.int (0 : Int32)), .val (.int (Int32.ofNat ((gp a).length + ((gp b).length + ((gp c).length + (0)))))), .val (.ref bf), .val (.int (Int32.ofNat ((([] ++ gp a) ++ gp b) ++ gp c).length)), .val (.ref b5), .val (.int (Int32.ofNat (gp a).length)), .val (.int (Int32.ofNat (0 + (kd a + 1)))), .unset, .unset, .unset] at_219 rfl rfl ?_
      refine C.iload 223 at_221 rfl rfl ?_
      refine C.iload 225 at_223 rfl rfl ?_
      refine C.callS 228 (as := [.int (Int32.ofNat (kd b))]) (rest := [.int (Int32.ofNat (0 + (kd a + 1)))]) (rm := ⟨0, 0, 0, 0⟩) 1 at_225 rfl (tw 23) (tw 24) (tw 25) (tw 26) (by decide) (kby l Z a0' hw hEL hSA h' b) (by simp) pd4 rfl rfl (Nat.le_of_eq rfl) (by decide) (by decide) (by decide) (by decide) rfl ?_
      refine same_intro ?_
      show W h' [b5, bf] 6 36 228 #[.val (.int a), .val (.int b), .val (.int c), .val (.int d), .val (.int cnt), .val (.int M), .val (.int (3 : Int32)), .val (.int (Int32.ofNat (kd a))), .val (.int (Int32.ofNat (kd b))), .val (.int (Int32.ofNat (kd c))), .val (.int (Int32.ofNat (kd d))), .val (.int (Int32.ofNat (gp a).length)), .val (.int (Int32.ofNat (gp b).length)), .val (.int (Int32.ofNat (gp c).length)), .val (.int (0 : Int32)), .val (.int (Int32.ofNat ((gp a).length + ((gp b).length + ((gp c).length + (0)))))), .val (.ref bf), .val (.int (Int32.ofNat ((([] ++ gp a) ++ gp b) ++ gp c).length)), .val (.ref b5), .val (.int (Int32.ofNat (gp a).length)), .val (.int (Int32.ofNat (0 + (kd a + 1)))), .unset, .unset, .unset] [.int (Int32.ofNat (kd b + 1)), .int (Int32.ofNat (0 + (kd a + 1)))]
      refine C.iadd 229 at_228 rfl ?_
      rw [o_add]
      refine C.istore 231 #[.val (.int a), .val (.int b), .val (.int c), .val (.int d), .val (.int cnt), .val (.int M), .val (.int (3 : Int32)), .val (.int (Int32.ofNat (kd a))), .val (.int (Int32.ofNat (kd b))), .val (.int (Int32.ofNat (kd c))), .val (.int (Int32.ofNat (kd d))), .val (.int (Int32.ofNat (gp a).length)), .val (.int (Int32.ofNat (gp b).length)), .val (.int (Int32.ofNat (gp c).length)), .val (.int (0 : Int32)), .val (.int (Int32.ofNat ((gp a).length + ((gp b).length + ((gp c).length + (0)))))), .val (.ref bf), .val (.int (Int32.ofNat ((([] ++ gp a) ++ gp b) ++ gp c).length)), .val (.ref b5), .val (.int (Int32.ofNat (gp a).length)), .val (.int (Int32.ofNat (0 + (kd a + 1)))), .val (.int (Int32.ofNat ((0 + (kd a + 1)) + (kd b + 1)))), .unset, .unset] at_229 rfl rfl ?_
      refine C.iload 233 at_231 rfl rfl ?_
      refine C.iconst 234 (2 : Int32) at_233 rfl rfl ?_
      refine C.icmpF 237 at_234 rfl (by decide) ?_
      refine C.iload 239 at_237 rfl rfl ?_
      refine C.iload 241 at_239 rfl rfl ?_
      by_cases p1 : M < Int32.ofNat ((0 + (kd a + 1)) + (kd b + 1))
      · refine C.icmpT 311 at_241 rfl (tlt p1).2.2.1 ?_
        have hK : ((gp a).length) = cut M 0 gs := by
          rw [egs, cut_n (u := 0) (g := (gp a, kd a + 1)) p0, cut_y (u := (0 + (kd a + 1))) (g := (gp b, kd b + 1)) p1]
          first | done | rfl | (simp only []; omega) | omega
        exact tail gs hg hn8 ((gp a).length) hK h' _ b5 tb T _ _ _ _ _ _ _ _ _ _ _ _ _ _ _ _ _ _ _ _ _ (Or.inr ⟨_, rfl, rfl⟩)
      · refine C.icmpF 244 at_241 rfl (flt p1).2.2.1 ?_
        refine C.iload 246 at_244 rfl rfl ?_
        refine C.iload 248 at_246 rfl rfl ?_
        refine C.iadd 249 at_248 rfl ?_
        rw [o_add]
        refine C.istore 251 #[.val (.int a), .val (.int b), .val (.int c), .val (.int d), .val (.int cnt), .val (.int M), .val (.int (3 : Int32)), .val (.int (Int32.ofNat (kd a))), .val (.int (Int32.ofNat (kd b))), .val (.int (Int32.ofNat (kd c))), .val (.int (Int32.ofNat (kd d))), .val (.int (Int32.ofNat (gp a).length)), .val (.int (Int32.ofNat (gp b).length)), .val (.int (Int32.ofNat (gp c).length)), .val (.int (0 : Int32)), .val (.int (Int32.ofNat ((gp a).length + ((gp b).length + ((gp c).length + (0)))))), .val (.ref bf), .val (.int (Int32.ofNat ((([] ++ gp a) ++ gp b) ++ gp c).length)), .val (.ref b5), .val (.int (Int32.ofNat ((gp a).length + (gp b).length))), .val (.int (Int32.ofNat (0 + (kd a + 1)))), .val (.int (Int32.ofNat ((0 + (kd a + 1)) + (kd b + 1)))), .unset, .unset] at_249 rfl rfl ?_
        refine C.iload 253 at_251 rfl rfl ?_
        refine C.iload 255 at_253 rfl rfl ?_
        refine C.callS 258 (as := [.int (Int32.ofNat (kd c))]) (rest := [.int (Int32.ofNat ((0 + (kd a + 1)) + (kd b + 1)))]) (rm := ⟨0, 0, 0, 0⟩) 1 at_255 rfl (tw 23) (tw 24) (tw 25) (tw 26) (by decide) (kby l Z a0' hw hEL hSA h' c) (by simp) pd4 rfl rfl (Nat.le_of_eq rfl) (by decide) (by decide) (by decide) (by decide) rfl ?_
        refine same_intro ?_
        show W h' [b5, bf] 6 36 258 #[.val (.int a), .val (.int b), .val (.int c), .val (.int d), .val (.int cnt), .val (.int M), .val (.int (3 : Int32)), .val (.int (Int32.ofNat (kd a))), .val (.int (Int32.ofNat (kd b))), .val (.int (Int32.ofNat (kd c))), .val (.int (Int32.ofNat (kd d))), .val (.int (Int32.ofNat (gp a).length)), .val (.int (Int32.ofNat (gp b).length)), .val (.int (Int32.ofNat (gp c).length)), .val (.int (0 : Int32)), .val (.int (Int32.ofNat ((gp a).length + ((gp b).length + ((gp c).length + (0)))))), .val (.ref bf), .val (.int (Int32.ofNat ((([] ++ gp a) ++ gp b) ++ gp c).length)), .val (.ref b5), .val (.int (Int32.ofNat ((gp a).length + (gp b).length))), .val (.int (Int32.ofNat (0 + (kd a + 1)))), .val (.int (Int32.ofNat ((0 + (kd a + 1)) + (kd b + 1)))), .unset, .unset] [.int (Int32.ofNat (kd c + 1)), .int (Int32.ofNat ((0 + (kd a + 1)) + (kd b + 1)))]
        refine C.iadd 259 at_258 rfl ?_
        rw [o_add]
        refine C.istore 261 #[.val (.int a), .val (.int b), .val (.int c), .val (.int d), .val (.int cnt), .val (.int M), .val (.int (3 : Int32)), .val (.int (Int32.ofNat (kd a))), .val (.int (Int32.ofNat (kd b))), .val (.int (Int32.ofNat (kd c))), .val (.int (Int32.ofNat (kd d))), .val (.int (Int32.ofNat (gp a).length)), .val (.int (Int32.ofNat (gp b).length)), .val (.int (Int32.ofNat (gp c).length)), .val (.int (0 : Int32)), .val (.int (Int32.ofNat ((gp a).length + ((gp b).length + ((gp c).length + (0)))))), .val (.ref bf), .val (.int (Int32.ofNat ((([] ++ gp a) ++ gp b) ++ gp c).length)), .val (.ref b5), .val (.int (Int32.ofNat ((gp a).length + (gp b).length))), .val (.int (Int32.ofNat (0 + (kd a + 1)))), .val (.int (Int32.ofNat ((0 + (kd a + 1)) + (kd b + 1)))), .val (.int (Int32.ofNat (((0 + (kd a + 1)) + (kd b + 1)) + (kd c + 1)))), .unset] at_259 rfl rfl ?_
        refine C.iload 263 at_261 rfl rfl ?_
        refine C.iconst 264 (3 : Int32) at_263 rfl rfl ?_
        refine C.icmpF 267 at_264 rfl (by decide) ?_
        refine C.iload 269 at_267 rfl rfl ?_
        refine C.iload 271 at_269 rfl rfl ?_
        by_cases p2 : M < Int32.ofNat (((0 + (kd a + 1)) + (kd b + 1)) + (kd c + 1))
        · refine C.icmpT 311 at_271 rfl (tlt p2).2.2.1 ?_
          have hK : ((gp a).length + (gp b).length) = cut M 0 gs := by
            rw [egs, cut_n (u := 0) (g := (gp a, kd a + 1)) p0, cut_n (u := (0 + (kd a + 1))) (g := (gp b, kd b + 1)) p1, cut_y (u := ((0 + (kd a + 1)) + (kd b + 1))) (g := (gp c, kd c + 1)) p2]
            first | done | rfl | (simp only []; omega) | omega
          exact tail gs hg hn8 ((gp a).length + (gp b).length) hK h' _ b5 tb T _ _ _ _ _ _ _ _ _ _ _ _ _ _ _ _ _ _ _ _ _ (Or.inr ⟨_, rfl, rfl⟩)
        · refine C.icmpF 274 at_271 rfl (flt p2).2.2.1 ?_
          refine C.iload 276 at_274 rfl rfl ?_
          refine C.iload 278 at_276 rfl rfl ?_
          refine C.iadd 279 at_278 rfl ?_
          rw [o_add]
          refine C.istore 281 #[.val (.int a), .val (.int b), .val (.int c), .val (.int d), .val (.int cnt), .val (.int M), .val (.int (3 : Int32)), .val (.int (Int32.ofNat (kd a))), .val (.int (Int32.ofNat (kd b))), .val (.int (Int32.ofNat (kd c))), .val (.int (Int32.ofNat (kd d))), .val (.int (Int32.ofNat (gp a).length)), .val (.int (Int32.ofNat (gp b).length)), .val (.int (Int32.ofNat (gp c).length)), .val (.int (0 : Int32)), .val (.int (Int32.ofNat ((gp a).length + ((gp b).length + ((gp c).length + (0)))))), .val (.ref bf), .val (.int (Int32.ofNat ((([] ++ gp a) ++ gp b) ++ gp c).length)), .val (.ref b5), .val (.int (Int32.ofNat ((gp a).length + (gp b).length + (gp c).length))), .val (.int (Int32.ofNat (0 + (kd a + 1)))), .val (.int (Int32.ofNat ((0 + (kd a + 1)) + (kd b + 1)))), .val (.int (Int32.ofNat (((0 + (kd a + 1)) + (kd b + 1)) + (kd c + 1)))), .unset] at_279 rfl rfl ?_
          refine C.iload 283 at_281 rfl rfl ?_
          refine C.iload 285 at_283 rfl rfl ?_
          refine C.callS 288 (as := [.int (Int32.ofNat (kd d))]) (rest := [.int (Int32.ofNat (((0 + (kd a + 1)) + (kd b + 1)) + (kd c + 1)))]) (rm := ⟨0, 0, 0, 0⟩) 1 at_285 rfl (tw 23) (tw 24) (tw 25) (tw 26) (by decide) (kby l Z a0' hw hEL hSA h' d) (by simp) pd4 rfl rfl (Nat.le_of_eq rfl) (by decide) (by decide) (by decide) (by decide) rfl ?_
          refine same_intro ?_
          show W h' [b5, bf] 6 36 288 #[.val (.int a), .val (.int b), .val (.int c), .val (.int d), .val (.int cnt), .val (.int M), .val (.int (3 : Int32)), .val (.int (Int32.ofNat (kd a))), .val (.int (Int32.ofNat (kd b))), .val (.int (Int32.ofNat (kd c))), .val (.int (Int32.ofNat (kd d))), .val (.int (Int32.ofNat (gp a).length)), .val (.int (Int32.ofNat (gp b).length)), .val (.int (Int32.ofNat (gp c).length)), .val (.int (0 : Int32)), .val (.int (Int32.ofNat ((gp a).length + ((gp b).length + ((gp c).length + (0)))))), .val (.ref bf), .val (.int (Int32.ofNat ((([] ++ gp a) ++ gp b) ++ gp c).length)), .val (.ref b5), .val (.int (Int32.ofNat ((gp a).length + (gp b).length + (gp c).length))), .val (.int (Int32.ofNat (0 + (kd a + 1)))), .val (.int (Int32.ofNat ((0 + (kd a + 1)) + (kd b + 1)))), .val (.int (Int32.ofNat (((0 + (kd a + 1)) + (kd b + 1)) + (kd c + 1)))), .unset] [.int (Int32.ofNat (kd d + 1)), .int (Int32.ofNat (((0 + (kd a + 1)) + (kd b + 1)) + (kd c + 1)))]
          refine C.iadd 289 at_288 rfl ?_
          rw [o_add]
          refine C.istore 291 #[.val (.int a), .val (.int b), .val (.int c), .val (.int d), .val (.int cnt), .val (.int M), .val (.int (3 : Int32)), .val (.int (Int32.ofNat (kd a))), .val (.int (Int32.ofNat (kd b))), .val (.int (Int32.ofNat (kd c))), .val (.int (Int32.ofNat (kd d))), .val (.int (Int32.ofNat (gp a).length)), .val (.int (Int32.ofNat (gp b).length)), .val (.int (Int32.ofNat (gp c).length)), .val (.int (0 : Int32)), .val (.int (Int32.ofNat ((gp a).length + ((gp b).length + ((gp c).length + (0)))))), .val (.ref bf), .val (.int (Int32.ofNat ((([] ++ gp a) ++ gp b) ++ gp c).length)), .val (.ref b5), .val (.int (Int32.ofNat ((gp a).length + (gp b).length + (gp c).length))), .val (.int (Int32.ofNat (0 + (kd a + 1)))), .val (.int (Int32.ofNat ((0 + (kd a + 1)) + (kd b + 1)))), .val (.int (Int32.ofNat (((0 + (kd a + 1)) + (kd b + 1)) + (kd c + 1)))), .val (.int (Int32.ofNat ((((0 + (kd a + 1)) + (kd b + 1)) + (kd c + 1)) + (kd d + 1))))] at_289 rfl rfl ?_
          refine C.iload 293 at_291 rfl rfl ?_
          refine C.iconst 294 (4 : Int32) at_293 rfl rfl ?_
          refine C.icmpT 311 at_294 rfl (by decide) ?_
          have hK : ((gp a).length + (gp b).length + (gp c).length) = cut M 0 gs := by
            rw [egs, cut_n (u := 0) (g := (gp a, kd a + 1)) p0, cut_n (u := (0 + (kd a + 1))) (g := (gp b, kd b + 1)) p1, cut_n (u := ((0 + (kd a + 1)) + (kd b + 1))) (g := (gp c, kd c + 1)) p2, cut_nil]
            first | done | rfl | (simp only []; omega) | omega
          exact tail gs hg hn8 ((gp a).length + (gp b).length + (gp c).length) hK h' _ b5 tb T _ _ _ _ _ _ _ _ _ _ _ _ _ _ _ _ _ _ _ _ _ (Or.inr ⟨_, rfl, rfl⟩)
  | 4, _ =>
    show W Z.heap [] 0 0 29 #[.val (.int a), .val (.int b), .val (.int c), .val (.int d), .val (.int cnt), .val (.int M), .val (.int (4 : Int32)), .val (.int (Int32.ofNat (kd a))), .val (.int (Int32.ofNat (kd b))), .val (.int (Int32.ofNat (kd c))), .val (.int (Int32.ofNat (kd d))), .unset, .unset, .unset, .unset, .unset, .unset, .unset, .unset, .unset, .unset, .unset, .unset, .unset] []
    refine C.iload 31 at_29 rfl rfl ?_
    refine C.iconst 32 (1 : Int32) at_31 rfl rfl ?_
    refine C.icmpF 35 at_32 rfl (by decide) ?_
    refine C.iload 37 at_35 rfl rfl ?_
    refine C.callS 40 (as := [.int (Int32.ofNat (kd a))]) (rest := []) (rm := ⟨0, 0, 0, 0⟩) 0 at_37 rfl (tw 60) (tw 61) (tw 25) (tw 62) (by decide) (kch l Z a0' hw hEL hSA Z.heap a) (by simp) pd12 rfl rfl (Nat.le_of_eq rfl) (by decide) (by decide) (by decide) (by decide) rfl ?_
    refine same_intro ?_
    show W Z.heap [] 0 0 40 #[.val (.int a), .val (.int b), .val (.int c), .val (.int d), .val (.int cnt), .val (.int M), .val (.int (4 : Int32)), .val (.int (Int32.ofNat (kd a))), .val (.int (Int32.ofNat (kd b))), .val (.int (Int32.ofNat (kd c))), .val (.int (Int32.ofNat (kd d))), .unset, .unset, .unset, .unset, .unset, .unset, .unset, .unset, .unset, .unset, .unset, .unset, .unset] [.int (Int32.ofNat (gp a).length)]
    refine C.goto 44 at_40 rfl ?_
    refine C.istore 46 #[.val (.int a), .val (.int b), .val (.int c), .val (.int d), .val (.int cnt), .val (.int M), .val (.int (4 : Int32)), .val (.int (Int32.ofNat (kd a))), .val (.int (Int32.ofNat (kd b))), .val (.int (Int32.ofNat (kd c))), .val (.int (Int32.ofNat (kd d))), .val (.int (Int32.ofNat (gp a).length)), .unset, .unset, .unset, .unset, .unset, .unset, .unset, .unset, .unset, .unset, .unset, .unset] at_44 rfl rfl ?_
    refine C.iload 48 at_46 rfl rfl ?_
    refine C.iconst 49 (2 : Int32) at_48 rfl rfl ?_
    refine C.icmpF 52 at_49 rfl (by decide) ?_
    refine C.iload 54 at_52 rfl rfl ?_
    refine C.callS 57 (as := [.int (Int32.ofNat (kd b))]) (rest := []) (rm := ⟨0, 0, 0, 0⟩) 0 at_54 rfl (tw 60) (tw 61) (tw 25) (tw 62) (by decide) (kch l Z a0' hw hEL hSA Z.heap b) (by simp) pd12 rfl rfl (Nat.le_of_eq rfl) (by decide) (by decide) (by decide) (by decide) rfl ?_
    refine same_intro ?_
    show W Z.heap [] 0 0 57 #[.val (.int a), .val (.int b), .val (.int c), .val (.int d), .val (.int cnt), .val (.int M), .val (.int (4 : Int32)), .val (.int (Int32.ofNat (kd a))), .val (.int (Int32.ofNat (kd b))), .val (.int (Int32.ofNat (kd c))), .val (.int (Int32.ofNat (kd d))), .val (.int (Int32.ofNat (gp a).length)), .unset, .unset, .unset, .unset, .unset, .unset, .unset, .unset, .unset, .unset, .unset, .unset] [.int (Int32.ofNat (gp b).length)]
    refine C.goto 61 at_57 rfl ?_
    refine C.istore 63 #[.val (.int a), .val (.int b), .val (.int c), .val (.int d), .val (.int cnt), .val (.int M), .val (.int (4 : Int32)), .val (.int (Int32.ofNat (kd a))), .val (.int (Int32.ofNat (kd b))), .val (.int (Int32.ofNat (kd c))), .val (.int (Int32.ofNat (kd d))), .val (.int (Int32.ofNat (gp a).length)), .val (.int (Int32.ofNat (gp b).length)), .unset, .unset, .unset, .unset, .unset, .unset, .unset, .unset, .unset, .unset, .unset] at_61 rfl rfl ?_
    refine C.iload 65 at_63 rfl rfl ?_
    refine C.iconst 66 (3 : Int32) at_65 rfl rfl ?_
    refine C.icmpF 69 at_66 rfl (by decide) ?_
    refine C.iload 71 at_69 rfl rfl ?_
    refine C.callS 74 (as := [.int (Int32.ofNat (kd c))]) (rest := []) (rm := ⟨0, 0, 0, 0⟩) 0 at_71 rfl (tw 60) (tw 61) (tw 25) (tw 62) (by decide) (kch l Z a0' hw hEL hSA Z.heap c) (by simp) pd12 rfl rfl (Nat.le_of_eq rfl) (by decide) (by decide) (by decide) (by decide) rfl ?_
    refine same_intro ?_
    show W Z.heap [] 0 0 74 #[.val (.int a), .val (.int b), .val (.int c), .val (.int d), .val (.int cnt), .val (.int M), .val (.int (4 : Int32)), .val (.int (Int32.ofNat (kd a))), .val (.int (Int32.ofNat (kd b))), .val (.int (Int32.ofNat (kd c))), .val (.int (Int32.ofNat (kd d))), .val (.int (Int32.ofNat (gp a).length)), .val (.int (Int32.ofNat (gp b).length)), .unset, .unset, .unset, .unset, .unset, .unset, .unset, .unset, .unset, .unset, .unset] [.int (Int32.ofNat (gp c).length)]
    refine C.goto 78 at_74 rfl ?_
    refine C.istore 80 #[.val (.int a), .val (.int b), .val (.int c), .val (.int d), .val (.int cnt), .val (.int M), .val (.int (4 : Int32)), .val (.int (Int32.ofNat (kd a))), .val (.int (Int32.ofNat (kd b))), .val (.int (Int32.ofNat (kd c))), .val (.int (Int32.ofNat (kd d))), .val (.int (Int32.ofNat (gp a).length)), .val (.int (Int32.ofNat (gp b).length)), .val (.int (Int32.ofNat (gp c).length)), .unset, .unset, .unset, .unset, .unset, .unset, .unset, .unset, .unset, .unset] at_78 rfl rfl ?_
    refine C.iload 82 at_80 rfl rfl ?_
    refine C.iconst 83 (4 : Int32) at_82 rfl rfl ?_
    refine C.icmpF 86 at_83 rfl (by decide) ?_
    refine C.iload 88 at_86 rfl rfl ?_
    refine C.callS 91 (as := [.int (Int32.ofNat (kd d))]) (rest := []) (rm := ⟨0, 0, 0, 0⟩) 0 at_88 rfl (tw 60) (tw 61) (tw 25) (tw 62) (by decide) (kch l Z a0' hw hEL hSA Z.heap d) (by simp) pd12 rfl rfl (Nat.le_of_eq rfl) (by decide) (by decide) (by decide) (by decide) rfl ?_
    refine same_intro ?_
    show W Z.heap [] 0 0 91 #[.val (.int a), .val (.int b), .val (.int c), .val (.int d), .val (.int cnt), .val (.int M), .val (.int (4 : Int32)), .val (.int (Int32.ofNat (kd a))), .val (.int (Int32.ofNat (kd b))), .val (.int (Int32.ofNat (kd c))), .val (.int (Int32.ofNat (kd d))), .val (.int (Int32.ofNat (gp a).length)), .val (.int (Int32.ofNat (gp b).length)), .val (.int (Int32.ofNat (gp c).length)), .unset, .unset, .unset, .unset, .unset, .unset, .unset, .unset, .unset, .unset] [.int (Int32.ofNat (gp d).length)]
    refine C.goto 95 at_91 rfl ?_
    refine C.istore 97 #[.val (.int a), .val (.int b), .val (.int c), .val (.int d), .val (.int cnt), .val (.int M), .val (.int (4 : Int32)), .val (.int (Int32.ofNat (kd a))), .val (.int (Int32.ofNat (kd b))), .val (.int (Int32.ofNat (kd c))), .val (.int (Int32.ofNat (kd d))), .val (.int (Int32.ofNat (gp a).length)), .val (.int (Int32.ofNat (gp b).length)), .val (.int (Int32.ofNat (gp c).length)), .val (.int (Int32.ofNat (gp d).length)), .unset, .unset, .unset, .unset, .unset, .unset, .unset, .unset, .unset] at_95 rfl rfl ?_
    refine C.iload 99 at_97 rfl rfl ?_
    refine C.iload 101 at_99 rfl rfl ?_
    refine C.iadd 102 at_101 rfl ?_
    refine C.iload 104 at_102 rfl rfl ?_
    refine C.iadd 105 at_104 rfl ?_
    refine C.iload 107 at_105 rfl rfl ?_
    refine C.iadd 108 at_107 rfl ?_
    have es : ((((Int32.ofNat (gp a).length) + (Int32.ofNat (gp b).length)) + (Int32.ofNat (gp c).length)) + (Int32.ofNat (gp d).length)) = Int32.ofNat ((gp a).length + ((gp b).length + ((gp c).length + ((gp d).length + (0))))) := by
      (rw [o_add, o_add, o_add]) <;> first | done | (congr 1 <;> omega)
    rw [es]
    refine C.istore 110 #[.val (.int a), .val (.int b), .val (.int c), .val (.int d), .val (.int cnt), .val (.int M), .val (.int (4 : Int32)), .val (.int (Int32.ofNat (kd a))), .val (.int (Int32.ofNat (kd b))), .val (.int (Int32.ofNat (kd c))), .val (.int (Int32.ofNat (kd d))), .val (.int (Int32.ofNat (gp a).length)), .val (.int (Int32.ofNat (gp b).length)), .val (.int (Int32.ofNat (gp c).length)), .val (.int (Int32.ofNat (gp d).length)), .val (.int (Int32.ofNat ((gp a).length + ((gp b).length + ((gp c).length + ((gp d).length + (0))))))), .unset, .unset, .unset, .unset, .unset, .unset, .unset, .unset] at_108 rfl rfl ?_
    refine C.iload 112 at_110 rfl rfl ?_
    refine C.newarray 114 8 at_112 rfl (tw 1) (o_nn (by omega)) (by rw [o_cl (by omega)]; omega) (by decide) (by decide) (by decide) ?_
    intro h1 E1 A0
    rw [o_cl (by omega)] at A0
    obtain ⟨bf, gbf⟩ : ∃ z, z = Z.heap.size := ⟨_, rfl⟩
    rw [← gbf] at A0 ⊢
    replace A0 : Al Z h1 bf .char (iv' [] ++ List.replicate ((gp a).length + ((gp b).length + ((gp c).length + ((gp d).length + (0))))) (.int 0)) := A0
    have z1 : Z.heap.size ≤ h1.size := E1.1
    show W h1 [bf] 1 8 114 #[.val (.int a), .val (.int b), .val (.int c), .val (.int d), .val (.int cnt), .val (.int M), .val (.int (4 : Int32)), .val (.int (Int32.ofNat (kd a))), .val (.int (Int32.ofNat (kd b))), .val (.int (Int32.ofNat (kd c))), .val (.int (Int32.ofNat (kd d))), .val (.int (Int32.ofNat (gp a).length)), .val (.int (Int32.ofNat (gp b).length)), .val (.int (Int32.ofNat (gp c).length)), .val (.int (Int32.ofNat (gp d).length)), .val (.int (Int32.ofNat ((gp a).length + ((gp b).length + ((gp c).length + ((gp d).length + (0))))))), .unset, .unset, .unset, .unset, .unset, .unset, .unset, .unset] [.ref bf]
    refine C.astore 116 #[.val (.int a), .val (.int b), .val (.int c), .val (.int d), .val (.int cnt), .val (.int M), .val (.int (4 : Int32)), .val (.int (Int32.ofNat (kd a))), .val (.int (Int32.ofNat (kd b))), .val (.int (Int32.ofNat (kd c))), .val (.int (Int32.ofNat (kd d))), .val (.int (Int32.ofNat (gp a).length)), .val (.int (Int32.ofNat (gp b).length)), .val (.int (Int32.ofNat (gp c).length)), .val (.int (Int32.ofNat (gp d).length)), .val (.int (Int32.ofNat ((gp a).length + ((gp b).length + ((gp c).length + ((gp d).length + (0))))))), .val (.ref bf), .unset, .unset, .unset, .unset, .unset, .unset, .unset] at_114 rfl rfl rfl ?_
    refine C.iconst 117 (0 : Int32) at_116 rfl rfl ?_
    refine C.istore 119 #[.val (.int a), .val (.int b), .val (.int c), .val (.int d), .val (.int cnt), .val (.int M), .val (.int (4 : Int32)), .val (.int (Int32.ofNat (kd a))), .val (.int (Int32.ofNat (kd b))), .val (.int (Int32.ofNat (kd c))), .val (.int (Int32.ofNat (kd d))), .val (.int (Int32.ofNat (gp a).length)), .val (.int (Int32.ofNat (gp b).length)), .val (.int (Int32.ofNat (gp c).length)), .val (.int (Int32.ofNat (gp d).length)), .val (.int (Int32.ofNat ((gp a).length + ((gp b).length + ((gp c).length + ((gp d).length + (0))))))), .val (.ref bf), .val (.int (0 : Int32)), .unset, .unset, .unset, .unset, .unset, .unset] at_117 rfl rfl ?_
    refine C.iload 121 at_119 rfl rfl ?_
    refine C.iconst 122 (1 : Int32) at_121 rfl rfl ?_
    refine C.icmpF 125 at_122 rfl (by decide) ?_
    refine C.aload 127 at_125 rfl rfl rfl ?_
    refine C.iload 129 at_127 rfl rfl ?_
    refine C.iloadN 130 at_129 rfl rfl ?_
    refine C.callS 133 (as := [.ref bf, .int (0 : Int32), .int a]) (rest := []) (rm := ⟨0, 0, 0, 0⟩) 0 at_130 rfl (tw 63) (tw 64) (tw 25) (tw 65) (by decide) (put l Z a0' hw hEL hSA h1 bf [] ((gp b).length + ((gp c).length + ((gp d).length + (0)))) a (by simp only [List.length_append, List.length_nil]; omega) A0) (by simp) pd13 rfl rfl (Nat.le_of_eq rfl) (by decide) (by decide) (by decide) (by decide) rfl ?_
    rintro v h2 ⟨rfl, K2, A2⟩
    have z2 : Z.heap.size ≤ h2.size := Nat.le_trans z1 K2.1
    show W h2 [bf] 1 8 133 #[.val (.int a), .val (.int b), .val (.int c), .val (.int d), .val (.int cnt), .val (.int M), .val (.int (4 : Int32)), .val (.int (Int32.ofNat (kd a))), .val (.int (Int32.ofNat (kd b))), .val (.int (Int32.ofNat (kd c))), .val (.int (Int32.ofNat (kd d))), .val (.int (Int32.ofNat (gp a).length)), .val (.int (Int32.ofNat (gp b).length)), .val (.int (Int32.ofNat (gp c).length)), .val (.int (Int32.ofNat (gp d).length)), .val (.int (Int32.ofNat ((gp a).length + ((gp b).length + ((gp c).length + ((gp d).length + (0))))))), .val (.ref bf), .val (.int (0 : Int32)), .unset, .unset, .unset, .unset, .unset, .unset] [.int (Int32.ofNat ([] ++ gp a).length)]
    refine C.istore 135 #[.val (.int a), .val (.int b), .val (.int c), .val (.int d), .val (.int cnt), .val (.int M), .val (.int (4 : Int32)), .val (.int (Int32.ofNat (kd a))), .val (.int (Int32.ofNat (kd b))), .val (.int (Int32.ofNat (kd c))), .val (.int (Int32.ofNat (kd d))), .val (.int (Int32.ofNat (gp a).length)), .val (.int (Int32.ofNat (gp b).length)), .val (.int (Int32.ofNat (gp c).length)), .val (.int (Int32.ofNat (gp d).length)), .val (.int (Int32.ofNat ((gp a).length + ((gp b).length + ((gp c).length + ((gp d).length + (0))))))), .val (.ref bf), .val (.int (Int32.ofNat ([] ++ gp a).length)), .unset, .unset, .unset, .unset, .unset, .unset] at_133 rfl rfl ?_
    refine C.iload 137 at_135 rfl rfl ?_
    refine C.iconst 138 (2 : Int32) at_137 rfl rfl ?_
    refine C.icmpF 141 at_138 rfl (by decide) ?_
    refine C.aload 143 at_141 rfl rfl rfl ?_
    refine C.iload 145 at_143 rfl rfl ?_
    refine C.iloadN 146 at_145 rfl rfl ?_
    refine C.callS 149 (as := [.ref bf, .int (Int32.ofNat ([] ++ gp a).length), .int b]) (rest := []) (rm := ⟨0, 0, 0, 0⟩) 0 at_146 rfl (tw 63) (tw 64) (tw 25) (tw 65) (by decide) (put l Z a0' hw hEL hSA h2 bf ([] ++ gp a) ((gp c).length + ((gp d).length + (0))) b (by simp only [List.length_append, List.length_nil]; omega) A2) (by simp) pd13 rfl rfl (Nat.le_of_eq rfl) (by decide) (by decide) (by decide) (by decide) rfl ?_
    rintro v h3 ⟨rfl, K3, A3⟩
    have z3 : Z.heap.size ≤ h3.size := Nat.le_trans z2 K3.1
    show W h3 [bf] 1 8 149 #[.val (.int a), .val (.int b), .val (.int c), .val (.int d), .val (.int cnt), .val (.int M), .val (.int (4 : Int32)), .val (.int (Int32.ofNat (kd a))), .val (.int (Int32.ofNat (kd b))), .val (.int (Int32.ofNat (kd c))), .val (.int (Int32.ofNat (kd d))), .val (.int (Int32.ofNat (gp a).length)), .val (.int (Int32.ofNat (gp b).length)), .val (.int (Int32.ofNat (gp c).length)), .val (.int (Int32.ofNat (gp d).length)), .val (.int (Int32.ofNat ((gp a).length + ((gp b).length + ((gp c).length + ((gp d).length + (0))))))), .val (.ref bf), .val (.int (Int32.ofNat ([] ++ gp a).length)), .unset, .unset, .unset, .unset, .unset, .unset] [.int (Int32.ofNat (([] ++ gp a) ++ gp b).length)]
    refine C.istore 151 #[.val (.int a), .val (.int b), .val (.int c), .val (.int d), .val (.int cnt), .val (.int M), .val (.int (4 : Int32)), .val (.int (Int32.ofNat (kd a))), .val (.int (Int32.ofNat (kd b))), .val (.int (Int32.ofNat (kd c))), .val (.int (Int32.ofNat (kd d))), .val (.int (Int32.ofNat (gp a).length)), .val (.int (Int32.ofNat (gp b).length)), .val (.int (Int32.ofNat (gp c).length)), .val (.int (Int32.ofNat (gp d).length)), .val (.int (Int32.ofNat ((gp a).length + ((gp b).length + ((gp c).length + ((gp d).length + (0))))))), .val (.ref bf), .val (.int (Int32.ofNat (([] ++ gp a) ++ gp b).length)), .unset, .unset, .unset, .unset, .unset, .unset] at_149 rfl rfl ?_
    refine C.iload 153 at_151 rfl rfl ?_
    refine C.iconst 154 (3 : Int32) at_153 rfl rfl ?_
    refine C.icmpF 157 at_154 rfl (by decide) ?_
    refine C.aload 159 at_157 rfl rfl rfl ?_
    refine C.iload 161 at_159 rfl rfl ?_
    refine C.iloadN 162 at_161 rfl rfl ?_
    refine C.callS 165 (as := [.ref bf, .int (Int32.ofNat (([] ++ gp a) ++ gp b).length), .int c]) (rest := []) (rm := ⟨0, 0, 0, 0⟩) 0 at_162 rfl (tw 63) (tw 64) (tw 25) (tw 65) (by decide) (put l Z a0' hw hEL hSA h3 bf (([] ++ gp a) ++ gp b) ((gp d).length + (0)) c (by simp only [List.length_append, List.length_nil]; omega) A3) (by simp) pd13 rfl rfl (Nat.le_of_eq rfl) (by decide) (by decide) (by decide) (by decide) rfl ?_
    rintro v h4 ⟨rfl, K4, A4⟩
    have z4 : Z.heap.size ≤ h4.size := Nat.le_trans z3 K4.1
    show W h4 [bf] 1 8 165 #[.val (.int a), .val (.int b), .val (.int c), .val (.int d), .val (.int cnt), .val (.int M), .val (.int (4 : Int32)), .val (.int (Int32.ofNat (kd a))), .val (.int (Int32.ofNat (kd b))), .val (.int (Int32.ofNat (kd c))), .val (.int (Int32.ofNat (kd d))), .val (.int (Int32.ofNat (gp a).length)), .val (.int (Int32.ofNat (gp b).length)), .val (.int (Int32.ofNat (gp c).length)), .val (.int (Int32.ofNat (gp d).length)), .val (.int (Int32.ofNat ((gp a).length + ((gp b).length + ((gp c).length + ((gp d).length + (0))))))), .val (.ref bf), .val (.int (Int32.ofNat (([] ++ gp a) ++ gp b).length)), .unset, .unset, .unset, .unset, .unset, .unset] [.int (Int32.ofNat ((([] ++ gp a) ++ gp b) ++ gp c).length)]
    refine C.istore 167 #[.val (.int a), .val (.int b), .val (.int c), .val (.int d), .val (.int cnt), .val (.int M), .val (.int (4 : Int32)), .val (.int (Int32.ofNat (kd a))), .val (.int (Int32.ofNat (kd b))), .val (.int (Int32.ofNat (kd c))), .val (.int (Int32.ofNat (kd d))), .val (.int (Int32.ofNat (gp a).length)), .val (.int (Int32.ofNat (gp b).length)), .val (.int (Int32.ofNat (gp c).length)), .val (.int (Int32.ofNat (gp d).length)), .val (.int (Int32.ofNat ((gp a).length + ((gp b).length + ((gp c).length + ((gp d).length + (0))))))), .val (.ref bf), .val (.int (Int32.ofNat ((([] ++ gp a) ++ gp b) ++ gp c).length)), .unset, .unset, .unset, .unset, .unset, .unset] at_165 rfl rfl ?_
    refine C.iload 169 at_167 rfl rfl ?_
    refine C.iconst 170 (4 : Int32) at_169 rfl rfl ?_
    refine C.icmpF 173 at_170 rfl (by decide) ?_
    refine C.aload 175 at_173 rfl rfl rfl ?_
    refine C.iload 177 at_175 rfl rfl ?_
    refine C.iloadN 178 at_177 rfl rfl ?_
    refine C.callS 181 (as := [.ref bf, .int (Int32.ofNat ((([] ++ gp a) ++ gp b) ++ gp c).length), .int d]) (rest := []) (rm := ⟨0, 0, 0, 0⟩) 0 at_178 rfl (tw 63) (tw 64) (tw 25) (tw 65) (by decide) (put l Z a0' hw hEL hSA h4 bf ((([] ++ gp a) ++ gp b) ++ gp c) (0) d (by simp only [List.length_append, List.length_nil]; omega) A4) (by simp) pd13 rfl rfl (Nat.le_of_eq rfl) (by decide) (by decide) (by decide) (by decide) rfl ?_
    rintro v h5 ⟨rfl, K5, A5⟩
    have z5 : Z.heap.size ≤ h5.size := Nat.le_trans z4 K5.1
    show W h5 [bf] 1 8 181 #[.val (.int a), .val (.int b), .val (.int c), .val (.int d), .val (.int cnt), .val (.int M), .val (.int (4 : Int32)), .val (.int (Int32.ofNat (kd a))), .val (.int (Int32.ofNat (kd b))), .val (.int (Int32.ofNat (kd c))), .val (.int (Int32.ofNat (kd d))), .val (.int (Int32.ofNat (gp a).length)), .val (.int (Int32.ofNat (gp b).length)), .val (.int (Int32.ofNat (gp c).length)), .val (.int (Int32.ofNat (gp d).length)), .val (.int (Int32.ofNat ((gp a).length + ((gp b).length + ((gp c).length + ((gp d).length + (0))))))), .val (.ref bf), .val (.int (Int32.ofNat ((([] ++ gp a) ++ gp b) ++ gp c).length)), .unset, .unset, .unset, .unset, .unset, .unset] [.int (Int32.ofNat (((([] ++ gp a) ++ gp b) ++ gp c) ++ gp d).length)]
    refine C.istore 183 #[.val (.int a), .val (.int b), .val (.int c), .val (.int d), .val (.int cnt), .val (.int M), .val (.int (4 : Int32)), .val (.int (Int32.ofNat (kd a))), .val (.int (Int32.ofNat (kd b))), .val (.int (Int32.ofNat (kd c))), .val (.int (Int32.ofNat (kd d))), .val (.int (Int32.ofNat (gp a).length)), .val (.int (Int32.ofNat (gp b).length)), .val (.int (Int32.ofNat (gp c).length)), .val (.int (Int32.ofNat (gp d).length)), .val (.int (Int32.ofNat ((gp a).length + ((gp b).length + ((gp c).length + ((gp d).length + (0))))))), .val (.ref bf), .val (.int (Int32.ofNat (((([] ++ gp a) ++ gp b) ++ gp c) ++ gp d).length)), .unset, .unset, .unset, .unset, .unset, .unset] at_181 rfl rfl ?_
    obtain ⟨gs, egs⟩ : ∃ gs : List (List Int32 × Nat), gs = [(gp a, kd a + 1), (gp b, kd b + 1), (gp c, kd c + 1), (gp d, kd d + 1)] := ⟨_, rfl⟩
    have hg : ∀ g ∈ gs, Wf g := by
      rw [egs]; intro g hg
      simp only [List.mem_cons, List.not_mem_nil, or_false] at hg; rcases hg with rfl | rfl | rfl | rfl <;> exact wf_gp _
    have hn8 : (flat gs).length ≤ 8 := by rw [egs]; simp only [flat, List.length_append, List.length_nil]; omega
    have AF : Al Z h5 bf .char (iv' (flat gs)) := by rw [egs]; simpa [flat] using A5
    refine C.new 186 at_183 rfl (tw 2) (tw 3) (tw 4) (by decide) (by decide) ?_
    intro h6 E6 X6 D6
    obtain ⟨b6, g6⟩ : ∃ z, z = h5.size := ⟨_, rfl⟩
    rw [← g6] at X6 ⊢
    rw [← g6] at D6
    have z6 : Z.heap.size ≤ h6.size := Nat.le_trans z5 E6.1
    have zb6 : Z.heap.size ≤ b6 := by rw [g6]; exact z5
    show W h6 [b6, bf] 2 12 186 #[.val (.int a), .val (.int b), .val (.int c), .val (.int d), .val (.int cnt), .val (.int M), .val (.int (4 : Int32)), .val (.int (Int32.ofNat (kd a))), .val (.int (Int32.ofNat (kd b))), .val (.int (Int32.ofNat (kd c))), .val (.int (Int32.ofNat (kd d))), .val (.int (Int32.ofNat (gp a).length)), .val (.int (Int32.ofNat (gp b).length)), .val (.int (Int32.ofNat (gp c).length)), .val (.int (Int32.ofNat (gp d).length)), .val (.int (Int32.ofNat ((gp a).length + ((gp b).length + ((gp c).length + ((gp d).length + (0))))))), .val (.ref bf), .val (.int (Int32.ofNat (((([] ++ gp a) ++ gp b) ++ gp c) ++ gp d).length)), .unset, .unset, .unset, .unset, .unset, .unset] [.ref b6]
    have NV : Fld Z h6 b6 "java/lang/String" "value" "[B" .null := D6 (Or.inr (hw _ (tw 17))) (ty := (.array .byte)) (by decide)
    have NC : Fld Z h6 b6 "java/lang/String" "coder" "B" (.int (0 : Int32)) := D6 (Or.inr (hw _ (tw 18))) (ty := .byte) (by decide)
    have X := X6
    refine C.dup 187 at_186 rfl rfl ?_
    refine C.aload 189 at_187 rfl rfl rfl ?_
    have h0 : (flat gs).length ≠ 0 := by rw [egs]; simp only [flat, List.length_append, List.length_nil]; omega
    refine C.callI 192 (a := b6) (as := [.ref bf]) (rest := [.ref b6]) (rm := ⟨5, 4, 24, 94⟩) 1 at_189 rfl rfl rfl (tw 5) (tw 6) (tw 4) (tw 7) (by decide) (si1 l Z a0' hw hEL hSA h6 b6 bf cpt SCP hcp SAD SHI SLO (flat gs) hn8 h0 (flat_ch gs hg) X NV NC (AF.ext E6)) (by simp) pd1 rfl rfl (Nat.le_of_eq rfl) (by decide) (by decide) (by decide) (by decide) rfl ?_
    rintro v h' ⟨tb, rfl, sn, K', T⟩
    show W h' [b6, bf] 6 36 192 #[.val (.int a), .val (.int b), .val (.int c), .val (.int d), .val (.int cnt), .val (.int M), .val (.int (4 : Int32)), .val (.int (Int32.ofNat (kd a))), .val (.int (Int32.ofNat (kd b))), .val (.int (Int32.ofNat (kd c))), .val (.int (Int32.ofNat (kd d))), .val (.int (Int32.ofNat (gp a).length)), .val (.int (Int32.ofNat (gp b).length)), .val (.int (Int32.ofNat (gp c).length)), .val (.int (Int32.ofNat (gp d).length)), .val (.int (Int32.ofNat ((gp a).length + ((gp b).length + ((gp c).length + ((gp d).length + (0))))))), .val (.ref bf), .val (.int (Int32.ofNat (((([] ++ gp a) ++ gp b) ++ gp c) ++ gp d).length)), .unset, .unset, .unset, .unset, .unset, .unset] [.ref b6]
    refine C.astore 194 #[.val (.int a), .val (.int b), .val (.int c), .val (.int d), .val (.int cnt), .val (.int M), .val (.int (4 : Int32)), .val (.int (Int32.ofNat (kd a))), .val (.int (Int32.ofNat (kd b))), .val (.int (Int32.ofNat (kd c))), .val (.int (Int32.ofNat (kd d))), .val (.int (Int32.ofNat (gp a).length)), .val (.int (Int32.ofNat (gp b).length)), .val (.int (Int32.ofNat (gp c).length)), .val (.int (Int32.ofNat (gp d).length)), .val (.int (Int32.ofNat ((gp a).length + ((gp b).length + ((gp c).length + ((gp d).length + (0))))))), .val (.ref bf), .val (.int (Int32.ofNat (((([] ++ gp a) ++ gp b) ++ gp c) ++ gp d).length)), .val (.ref b6), .unset, .unset, .unset, .unset, .unset] at_192 rfl rfl rfl ?_
    refine C.iconst 195 (0 : Int32) at_194 rfl rfl ?_
    refine C.istore 197 #[.val (.int a), .val (.int b), .val (.int c), .val (.int d), .val (.int cnt), .val (.int M), .val (.int (4 : Int32)), .val (.int (Int32.ofNat (kd a))), .val (.int (Int32.ofNat (kd b))), .val (.int (Int32.ofNat (kd c))), .val (.int (Int32.ofNat (kd d))), .val (.int (Int32.ofNat (gp a).length)), .val (.int (Int32.ofNat (gp b).length)), .val (.int (Int32.ofNat (gp c).length)), .val (.int (Int32.ofNat (gp d).length)), .val (.int (Int32.ofNat ((gp a).length + ((gp b).length + ((gp c).length + ((gp d).length + (0))))))), .val (.ref bf), .val (.int (Int32.ofNat (((([] ++ gp a) ++ gp b) ++ gp c) ++ gp d).length)), .val (.ref b6), .val (.int (0 : Int32)), .unset, .unset, .unset, .unset] at_195 rfl rfl ?_
    refine C.iload 199 at_197 rfl rfl ?_
    refine C.callS 202 (as := [.int (Int32.ofNat (kd a))]) (rest := []) (rm := ⟨0, 0, 0, 0⟩) 0 at_199 rfl (tw 23) (tw 24) (tw 25) (tw 26) (by decide) (kby l Z a0' hw hEL hSA h' a) (by simp) pd4 rfl rfl (Nat.le_of_eq rfl) (by decide) (by decide) (by decide) (by decide) rfl ?_
    refine same_intro ?_
    show W h' [b6, bf] 6 36 202 #[.val (.int a), .val (.int b), .val (.int c), .val (.int d), .val (.int cnt), .val (.int M), .val (.int (4 : Int32)), .val (.int (Int32.ofNat (kd a))), .val (.int (Int32.ofNat (kd b))), .val (.int (Int32.ofNat (kd c))), .val (.int (Int32.ofNat (kd d))), .val (.int (Int32.ofNat (gp a).length)), .val (.int (Int32.ofNat (gp b).length)), .val (.int (Int32.ofNat (gp c).length)), .val (.int (Int32.ofNat (gp d).length)), .val (.int (Int32.ofNat ((gp a).length + ((gp b).length + ((gp c).length + ((gp d).length + (0))))))), .val (.ref bf), .val (.int (Int32.ofNat (((([] ++ gp a) ++ gp b) ++ gp c) ++ gp d).length)), .val (.ref b6), .val (.int (0 : Int32)), .unset, .unset, .unset, .unset] [.int (Int32.ofNat (kd a + 1))]
    rw [show kd a + 1 = 0 + (kd a + 1) from (Nat.zero_add _).symm]
    refine C.istore 204 #[.val (.int a), .val (.int b), .val (.int c), .val (.int d), .val (.int cnt), .val (.int M), .val (.int (4 : Int32)), .val (.int (Int32.ofNat (kd a))), .val (.int (Int32.ofNat (kd b))), .val (.int (Int32.ofNat (kd c))), .val (.int (Int32.ofNat (kd d))), .val (.int (Int32.ofNat (gp a).length)), .val (.int (Int32.ofNat (gp b).length)), .val (.int (Int32.ofNat (gp c).length)), .val (.int (Int32.ofNat (gp d).length)), .val (.int (Int32.ofNat ((gp a).length + ((gp b).length + ((gp c).length + ((gp d).length + (0))))))), .val (.ref bf), .val (.int (Int32.ofNat (((([] ++ gp a) ++ gp b) ++ gp c) ++ gp d).length)), .val (.ref b6), .val (.int (0 : Int32)), .val (.int (Int32.ofNat (0 + (kd a + 1)))), .unset, .unset, .unset] at_202 rfl rfl ?_
    refine C.iload 206 at_204 rfl rfl ?_
    refine C.iconst 207 (1 : Int32) at_206 rfl rfl ?_
    refine C.icmpF 210 at_207 rfl (by decide) ?_
    refine C.iload 212 at_210 rfl rfl ?_
    refine C.iload 214 at_212 rfl rfl ?_
    by_cases p0 : M < Int32.ofNat (0 + (kd a + 1))
    · refine C.icmpT 311 at_214 rfl (tlt p0).2.2.1 ?_
      have hK : 0 = cut M 0 gs := by
        rw [egs, cut_y (u := 0) (g := (gp a, kd a + 1)) p0]
        first | done | rfl | (simp only []; omega) | omega
      exact tail gs hg hn8 0 hK h' _ b6 tb T _ _ _ _ _ _ _ _ _ _ _ _ _ _ _ _ _ _ _ _ _ (Or.inl rfl)
    · refine C.icmpF 217 at_214 rfl (flt p0).2.2.1 ?_
      refine C.iload 219 at_217 rfl rfl ?_
      refine C.istore 221 #[.val (.int a), .val (.int b), .val (.int c), .val (.int d), .val (.int cnt), .val (.int M), .val (.int (4 : Int32)), .val (.int (Int32.ofNat (kd a))), .val (.int (Int32.ofNat (kd b))), .val (.int (Int32.ofNat (kd c))), .val (.int (Int32.ofNat (kd d))), .val (.int (Int32.ofNat (gp a).length)), .val (.int (Int32.ofNat (gp b).length)), .val (.int (Int32.ofNat (gp c).length)), .val (.int (Int32.ofNat (gp d).length)), .val (.int (Int32.ofNat ((gp a).length + ((gp b).length + ((gp c).length + ((gp d).length + (0))))))), .val (.ref bf), .val (.int (Int32.ofNat (((([] ++ gp a) ++ gp b) ++ gp c) ++ gp d).length)), .val (.ref b6), .val (.int (Int32.ofNat (gp a).length)), .val (.int (Int32.ofNat (0 + (kd a + 1)))), .unset, .unset, .unset] at_219 rfl rfl ?_
      refine C.iload 223 at_221 rfl rfl ?_
      refine C.iload 225 at_223 rfl rfl ?_
      refine C.callS 228 (as := [.int (Int32.ofNat (kd b))]) (rest := [.int (Int32.ofNat (0 + (kd a + 1)))]) (rm := ⟨0, 0, 0, 0⟩) 1 at_225 rfl (tw 23) (tw 24) (tw 25) (tw 26) (by decide) (kby l Z a0' hw hEL hSA h' b) (by simp) pd4 rfl rfl (Nat.le_of_eq rfl) (by decide) (by decide) (by decide) (by decide) rfl ?_
      refine same_intro ?_
      show W h' [b6, bf] 6 36 228 #[.val (.int a), .val (.int b), .val (.int c), .val (.int d), .val (.int cnt), .val (.int M), .val (.int (4 : Int32)), .val (.int (Int32.ofNat (kd a))), .val (.int (Int32.ofNat (kd b))), .val (.int (Int32.ofNat (kd c))), .val (.int (Int32.ofNat (kd d))), .val (.int (Int32.ofNat (gp a).length)), .val (.int (Int32.ofNat (gp b).length)), .val (.int (Int32.ofNat (gp c).length)), .val (.int (Int32.ofNat (gp d).length)), .val (.int (Int32.ofNat ((gp a).length + ((gp b).length + ((gp c).length + ((gp d).length + (0))))))), .val (.ref bf), .val (.int (Int32.ofNat (((([] ++ gp a) ++ gp b) ++ gp c) ++ gp d).length)), .val (.ref b6), .val (.int (Int32.ofNat (gp a).length)), .val (.int (Int32.ofNat (0 + (kd a + 1)))), .unset, .unset, .unset] [.int (Int32.ofNat (kd b + 1)), .int (Int32.ofNat (0 + (kd a + 1)))]
      refine C.iadd 229 at_228 rfl ?_
      rw [o_add]
      refine C.istore 231 #[.val (.int a), .val (.int b), .val (.int c), .val (.int d), .val (.int cnt), .val (.int M), .val (.int (4 : Int32)), .val (.int (Int32.ofNat (kd a))), .val (.int (Int32.ofNat (kd b))), .val (.int (Int32.ofNat (kd c))), .val (.int (Int32.ofNat (kd d))), .val (.int (Int32.ofNat (gp a).length)), .val (.int (Int32.ofNat (gp b).length)), .val (.int (Int32.ofNat (gp c).length)), .val (.int (Int32.ofNat (gp d).length)), .val (.int (Int32.ofNat ((gp a).length + ((gp b).length + ((gp c).length + ((gp d).length + (0))))))), .val (.ref bf), .val (.int (Int32.ofNat (((([] ++ gp a) ++ gp b) ++ gp c) ++ gp d).length)), .val (.ref b6), .val (.int (Int32.ofNat (gp a).length)), .val (.int (Int32.ofNat (0 + (kd a + 1)))), .val (.int (Int32.ofNat ((0 + (kd a + 1)) + (kd b + 1)))), .unset, .unset] at_229 rfl rfl ?_
      refine C.iload 233 at_231 rfl rfl ?_
      refine C.iconst 234 (2 : Int32) at_233 rfl rfl ?_
      refine C.icmpF 237 at_234 rfl (by decide) ?_
      refine C.iload 239 at_237 rfl rfl ?_
      refine C.iload 241 at_239 rfl rfl ?_
      by_cases p1 : M < Int32.ofNat ((0 + (kd a + 1)) + (kd b + 1))
      · refine C.icmpT 311 at_241 rfl (tlt p1).2.2.1 ?_
        have hK : ((gp a).length) = cut M 0 gs := by
          rw [egs, cut_n (u := 0) (g := (gp a, kd a + 1)) p0, cut_y (u := (0 + (kd a + 1))) (g := (gp b, kd b + 1)) p1]
          first | done | rfl | (simp only []; omega) | omega
        exact tail gs hg hn8 ((gp a).length) hK h' _ b6 tb T _ _ _ _ _ _ _ _ _ _ _ _ _ _ _ _ _ _ _ _ _ (Or.inr ⟨_, rfl, rfl⟩)
      · refine C.icmpF 244 at_241 rfl (flt p1).2.2.1 ?_
        refine C.iload 246 at_244 rfl rfl ?_
        refine C.iload 248 at_246 rfl rfl ?_
        refine C.iadd 249 at_248 rfl ?_
        rw [o_add]
        refine C.istore 251 #[.val (.int a), .val (.int b), .val (.int c), .val (.int d), .val (.int cnt), .val (.int M), .val (.int (4 : Int32)), .val (.int (Int32.ofNat (kd a))), .val (.int (Int32.ofNat (kd b))), .val (.int (Int32.ofNat (kd c))), .val (.int (Int32.ofNat (kd d))), .val (.int (Int32.ofNat (gp a).length)), .val (.int (Int32.ofNat (gp b).length)), .val (.int (Int32.ofNat (gp c).length)), .val (.int (Int32.ofNat (gp d).length)), .val (.int (Int32.ofNat ((gp a).length + ((gp b).length + ((gp c).length + ((gp d).length + (0))))))), .val (.ref bf), .val (.int (Int32.ofNat (((([] ++ gp a) ++ gp b) ++ gp c) ++ gp d).length)), .val (.ref b6), .val (.int (Int32.ofNat ((gp a).length + (gp b).length))), .val (.int (Int32.ofNat (0 + (kd a + 1)))), .val (.int (Int32.ofNat ((0 + (kd a + 1)) + (kd b + 1)))), .unset, .unset] at_249 rfl rfl ?_
        refine C.iload 253 at_251 rfl rfl ?_
        refine C.iload 255 at_253 rfl rfl ?_
        refine C.callS 258 (as := [.int (Int32.ofNat (kd c))]) (rest := [.int (Int32.ofNat ((0 + (kd a + 1)) + (kd b + 1)))]) (rm := ⟨0, 0, 0, 0⟩) 1 at_255 rfl (tw 23) (tw 24) (tw 25) (tw 26) (by decide) (kby l Z a0' hw hEL hSA h' c) (by simp) pd4 rfl rfl (Nat.le_of_eq rfl) (by decide) (by decide) (by decide) (by decide) rfl ?_
        refine same_intro ?_
        show W h' [b6, bf] 6 36 258 #[.val (.int a), .val (.int b), .val (.int c), .val (.int d), .val (.int cnt), .val (.int M), .val (.int (4 : Int32)), .val (.int (Int32.ofNat (kd a))), .val (.int (Int32.ofNat (kd b))), .val (.int (Int32.ofNat (kd c))), .val (.int (Int32.ofNat (kd d))), .val (.int (Int32.ofNat (gp a).length)), .val (.int (Int32.ofNat (gp b).length)), .val (.int (Int32.ofNat (gp c).length)), .val (.int (Int32.ofNat (gp d).length)), .val (.int (Int32.ofNat ((gp a).length + ((gp b).length + ((gp c).length + ((gp d).length + (0))))))), .val (.ref bf), .val (.int (Int32.ofNat (((([] ++ gp a) ++ gp b) ++ gp c) ++ gp d).length)), .val (.ref b6), .val (.int (Int32.ofNat ((gp a).length + (gp b).length))), .val (.int (Int32.ofNat (0 + (kd a + 1)))), .val (.int (Int32.ofNat ((0 + (kd a + 1)) + (kd b + 1)))), .unset, .unset] [.int (Int32.ofNat (kd c + 1)), .int (Int32.ofNat ((0 + (kd a + 1)) + (kd b + 1)))]
        refine C.iadd 259 at_258 rfl ?_
        rw [o_add]
        refine C.istore 261 #[.val (.int a), .val (.int b), .val (.int c), .val (.int d), .val (.int cnt), .val (.int M), .val (.int (4 : Int32)), .val (.int (Int32.ofNat (kd a))), .val (.int (Int32.ofNat (kd b))), .val (.int (Int32.ofNat (kd c))), .val (.int (Int32.ofNat (kd d))), .val (.int (Int32.ofNat (gp a).length)), .val (.int (Int32.ofNat (gp b).length)), .val (.int (Int32.ofNat (gp c).length)), .val (.int (Int32.ofNat (gp d).length)), .val (.int (Int32.ofNat ((gp a).length + ((gp b).length + ((gp c).length + ((gp d).length + (0))))))), .val (.ref bf), .val (.int (Int32.ofNat (((([] ++ gp a) ++ gp b) ++ gp c) ++ gp d).length)), .val (.ref b6), .val (.int (Int32.ofNat ((gp a).length + (gp b).length))), .val (.int (Int32.ofNat (0 + (kd a + 1)))), .val (.int (Int32.ofNat ((0 + (kd a + 1)) + (kd b + 1)))), .val (.int (Int32.ofNat (((0 + (kd a + 1)) + (kd b + 1)) + (kd c + 1)))), .unset] at_259 rfl rfl ?_
        refine C.iload 263 at_261 rfl rfl ?_
        refine C.iconst 264 (3 : Int32) at_263 rfl rfl ?_
        refine C.icmpF 267 at_264 rfl (by decide) ?_
        refine C.iload 269 at_267 rfl rfl ?_
        refine C.iload 271 at_269 rfl rfl ?_
        by_cases p2 : M < Int32.ofNat (((0 + (kd a + 1)) + (kd b + 1)) + (kd c + 1))
        · refine C.icmpT 311 at_271 rfl (tlt p2).2.2.1 ?_
          have hK : ((gp a).length + (gp b).length) = cut M 0 gs := by
            rw [egs, cut_n (u := 0) (g := (gp a, kd a + 1)) p0, cut_n (u := (0 + (kd a + 1))) (g := (gp b, kd b + 1)) p1, cut_y (u := ((0 + (kd a + 1)) + (kd b + 1))) (g := (gp c, kd c + 1)) p2]
            first | done | rfl | (simp only []; omega) | omega
          exact tail gs hg hn8 ((gp a).length + (gp b).length) hK h' _ b6 tb T _ _ _ _ _ _ _ _ _ _ _ _ _ _ _ _ _ _ _ _ _ (Or.inr ⟨_, rfl, rfl⟩)
        · refine C.icmpF 274 at_271 rfl (flt p2).2.2.1 ?_
          refine C.iload 276 at_274 rfl rfl ?_
          refine C.iload 278 at_276 rfl rfl ?_
          refine C.iadd 279 at_278 rfl ?_
          rw [o_add]
          refine C.istore 281 #[.val (.int a), .val (.int b), .val (.int c), .val (.int d), .val (.int cnt), .val (.int M), .val (.int (4 : Int32)), .val (.int (Int32.ofNat (kd a))), .val (.int (Int32.ofNat (kd b))), .val (.int (Int32.ofNat (kd c))), .val (.int (Int32.ofNat (kd d))), .val (.int (Int32.ofNat (gp a).length)), .val (.int (Int32.ofNat (gp b).length)), .val (.int (Int32.ofNat (gp c).length)), .val (.int (Int32.ofNat (gp d).length)), .val (.int (Int32.ofNat ((gp a).length + ((gp b).length + ((gp c).length + ((gp d).length + (0))))))), .val (.ref bf), .val (.int (Int32.ofNat (((([] ++ gp a) ++ gp b) ++ gp c) ++ gp d).length)), .val (.ref b6), .val (.int (Int32.ofNat ((gp a).length + (gp b).length + (gp c).length))), .val (.int (Int32.ofNat (0 + (kd a + 1)))), .val (.int (Int32.ofNat ((0 + (kd a + 1)) + (kd b + 1)))), .val (.int (Int32.ofNat (((0 + (kd a + 1)) + (kd b + 1)) + (kd c + 1)))), .unset] at_279 rfl rfl ?_
          refine C.iload 283 at_281 rfl rfl ?_
          refine C.iload 285 at_283 rfl rfl ?_
          refine C.callS 288 (as := [.int (Int32.ofNat (kd d))]) (rest := [.int (Int32.ofNat (((0 + (kd a + 1)) + (kd b + 1)) + (kd c + 1)))]) (rm := ⟨0, 0, 0, 0⟩) 1 at_285 rfl (tw 23) (tw 24) (tw 25) (tw 26) (by decide) (kby l Z a0' hw hEL hSA h' d) (by simp) pd4 rfl rfl (Nat.le_of_eq rfl) (by decide) (by decide) (by decide) (by decide) rfl ?_
          refine same_intro ?_
          show W h' [b6, bf] 6 36 288 #[.val (.int a), .val (.int b), .val (.int c), .val (.int d), .val (.int cnt), .val (.int M), .val (.int (4 : Int32)), .val (.int (Int32.ofNat (kd a))), .val (.int (Int32.ofNat (kd b))), .val (.int (Int32.ofNat (kd c))), .val (.int (Int32.ofNat (kd d))), .val (.int (Int32.ofNat (gp a).length)), .val (.int (Int32.ofNat (gp b).length)), .val (.int (Int32.ofNat (gp c).length)), .val (.int (Int32.ofNat (gp d).length)), .val (.int (Int32.ofNat ((gp a).length + ((gp b).length + ((gp c).length + ((gp d).length + (0))))))), .val (.ref bf), .val (.int (Int32.ofNat (((([] ++ gp a) ++ gp b) ++ gp c) ++ gp d).length)), .val (.ref b6), .val (.int (Int32.ofNat ((gp a).length + (gp b).length + (gp c).length))), .val (.int (Int32.ofNat (0 + (kd a + 1)))), .val (.int (Int32.ofNat ((0 + (kd a + 1)) + (kd b + 1)))), .val (.int (Int32.ofNat (((0 + (kd a + 1)) + (kd b + 1)) + (kd c + 1)))), .unset] [.int (Int32.ofNat (kd d + 1)), .int (Int32.ofNat (((0 + (kd a + 1)) + (kd b + 1)) + (kd c + 1)))]
          refine C.iadd 289 at_288 rfl ?_
          rw [o_add]
          refine C.istore 291 #[.val (.int a), .val (.int b), .val (.int c), .val (.int d), .val (.int cnt), .val (.int M), .val (.int (4 : Int32)), .val (.int (Int32.ofNat (kd a))), .val (.int (Int32.ofNat (kd b))), .val (.int (Int32.ofNat (kd c))), .val (.int (Int32.ofNat (kd d))), .val (.int (Int32.ofNat (gp a).length)), .val (.int (Int32.ofNat (gp b).length)), .val (.int (Int32.ofNat (gp c).length)), .val (.int (Int32.ofNat (gp d).length)), .val (.int (Int32.ofNat ((gp a).length + ((gp b).length + ((gp c).length + ((gp d).length + (0))))))), .val (.ref bf), .val (.int (Int32.ofNat (((([] ++ gp a) ++ gp b) ++ gp c) ++ gp d).length)), .val (.ref b6), .val (.int (Int32.ofNat ((gp a).length + (gp b).length + (gp c).length))), .val (.int (Int32.ofNat (0 + (kd a + 1)))), .val (.int (Int32.ofNat ((0 + (kd a + 1)) + (kd b + 1)))), .val (.int (Int32.ofNat (((0 + (kd a + 1)) + (kd b + 1)) + (kd c + 1)))), .val (.int (Int32.ofNat ((((0 + (kd a + 1)) + (kd b + 1)) + (kd c + 1)) + (kd d + 1))))] at_289 rfl rfl ?_
          refine C.iload 293 at_291 rfl rfl ?_
          refine C.iconst 294 (4 : Int32) at_293 rfl rfl ?_
          refine C.icmpF 297 at_294 rfl (by decide) ?_
          refine C.iload 299 at_297 rfl rfl ?_
          refine C.iload 301 at_299 rfl rfl ?_
          by_cases p3 : M < Int32.ofNat ((((0 + (kd a + 1)) + (kd b + 1)) + (kd c + 1)) + (kd d + 1))
          · refine C.icmpT 311 at_301 rfl (tlt p3).2.2.1 ?_
            have hK : ((gp a).length + (gp b).length + (gp c).length) = cut M 0 gs := by
              rw [egs, cut_n (u := 0) (g := (gp a, kd a + 1)) p0, cut_n (u := (0 + (kd a + 1))) (g := (gp b, kd b + 1)) p1, cut_n (u := ((0 + (kd a + 1)) + (kd b + 1))) (g := (gp c, kd c + 1)) p2, cut_y (u := (((0 + (kd a + 1)) + (kd b + 1)) + (kd c + 1))) (g := (gp d, kd d + 1)) p3]
              first | done | rfl | (simp only []; omega) | omega
            exact tail gs hg hn8 ((gp a).length + (gp b).length + (gp c).length) hK h' _ b6 tb T _ _ _ _ _ _ _ _ _ _ _ _ _ _ _ _ _ _ _ _ _ (Or.inr ⟨_, rfl, rfl⟩)
          · refine C.icmpF 304 at_301 rfl (flt p3).2.2.1 ?_
            refine C.iload 306 at_304 rfl rfl ?_
            refine C.iload 308 at_306 rfl rfl ?_
            refine C.iadd 309 at_308 rfl ?_
            rw [o_add]
            refine C.istore 311 #[.val (.int a), .val (.int b), .val (.int c), .val (.int d), .val (.int cnt), .val (.int M), .val (.int (4 : Int32)), .val (.int (Int32.ofNat (kd a))), .val (.int (Int32.ofNat (kd b))), .val (.int (Int32.ofNat (kd c))), .val (.int (Int32.ofNat (kd d))), .val (.int (Int32.ofNat (gp a).length)), .val (.int (Int32.ofNat (gp b).length)), .val (.int (Int32.ofNat (gp c).length)), .val (.int (Int32.ofNat (gp d).length)), .val (.int (Int32.ofNat ((gp a).length + ((gp b).length + ((gp c).length + ((gp d).length + (0))))))), .val (.ref bf), .val (.int (Int32.ofNat (((([] ++ gp a) ++ gp b) ++ gp c) ++ gp d).length)), .val (.ref b6), .val (.int (Int32.ofNat ((gp a).length + (gp b).length + (gp c).length + (gp d).length))), .val (.int (Int32.ofNat (0 + (kd a + 1)))), .val (.int (Int32.ofNat ((0 + (kd a + 1)) + (kd b + 1)))), .val (.int (Int32.ofNat (((0 + (kd a + 1)) + (kd b + 1)) + (kd c + 1)))), .val (.int (Int32.ofNat ((((0 + (kd a + 1)) + (kd b + 1)) + (kd c + 1)) + (kd d + 1))))] at_309 rfl rfl ?_
            have hK : ((gp a).length + (gp b).length + (gp c).length + (gp d).length) = cut M 0 gs := by
              rw [egs, cut_n (u := 0) (g := (gp a, kd a + 1)) p0, cut_n (u := (0 + (kd a + 1))) (g := (gp b, kd b + 1)) p1, cut_n (u := ((0 + (kd a + 1)) + (kd b + 1))) (g := (gp c, kd c + 1)) p2, cut_n (u := (((0 + (kd a + 1)) + (kd b + 1)) + (kd c + 1))) (g := (gp d, kd d + 1)) p3, cut_nil]
              first | done | rfl | (simp only []; omega) | omega
            exact tail gs hg hn8 ((gp a).length + (gp b).length + (gp c).length + (gp d).length) hK h' _ b6 tb T _ _ _ _ _ _ _ _ _ _ _ _ _ _ _ _ _ _ _ _ _ (Or.inr ⟨_, rfl, rfl⟩)
  | k + 5, h => exact absurd h (by omega)
set_option maxRecDepth 65536 in
set_option maxHeartbeats 40000000 in
theorem comes_1 {Post : Tables → Env → Array Value → State → Outcome → State → Prop} (hpost : ∀ tb e args s v u, (limb_1_1.after args s (.returned v) u = true ∧ limb_1_2.after args s (.returned v) u = true ∧ True) → ReturnedEndW s (.returned v) u (Jvm.fieldLocs frame_1_writes args s ++ Jvm.arrayLocs frame_1_arrays args s ++ Jvm.staticLocs frame_1_statics s) 32 3264 → Post tb e args s (.returned v) u) :
    ArmFor flags0 classFile x code maxLocals ret World_1 tables_1 room_1 Calls_1 rest_1 Pre_1 Post := by
  intro l hfl _ _ p e ha hc hk s m args below hf hA hF happ hP
  obtain ⟨hcalls, hrest, hpre⟩ := hP
  obtain ⟨-, -, -, hnamed, -, -, -, hat⟩ := (Spec.applies_iff hf).mp happ
  obtain ⟨hg, hn⟩ := and_e (Cond.before_iff.mp (show (Jvm.Cond.and given_1 narrow_1).before args s = true from hpre))
  obtain ⟨h1, h2⟩ := and_e hg
  obtain ⟨w0, w1, w2, w3, w4, w5, rfl⟩ : ∃ w0 w1 w2 w3 w4 w5 : Value, args = #[w0, w1, w2, w3, w4, w5] := by
    have hs : args.size = 6 := by simpa [Cond.value, given_1] using h1
    obtain ⟨L⟩ := args
    match L, hs with
    | [w0, w1, w2, w3, w4, w5], _ => exact ⟨w0, w1, w2, w3, w4, w5, rfl⟩
  have hw := fun d (hd : d ∈ tables_1) => atoms_spec (ws := Jvm.Cond.code x code maxLocals ret :: tables_1) hat d (List.mem_cons_of_mem _ hd)
  have hfit : Fit s := fun {y c} hc i hi => by
    obtain ⟨ha, rfl⟩ := Array.getElem?_eq_some_iff.mp hc
    have q := List.all_eq_true.mp ((Array.all_eq_true_iff_forall_mem.mp hF) _ (Array.getElem_mem ha)) i (List.mem_range.mpr hi)
    simpa [Array.getElem?_eq_getElem hi] using q
  obtain ⟨q0, h2⟩ := and_e h2
  obtain ⟨i0, e0⟩ := is_v q0
  obtain rfl : w0 = (.int i0) := Option.some.inj e0
  obtain ⟨q1, h2⟩ := and_e h2
  obtain ⟨i1, e1⟩ := is_v q1
  obtain rfl : w1 = (.int i1) := Option.some.inj e1
  obtain ⟨q2, h2⟩ := and_e h2
  obtain ⟨i2, e2⟩ := is_v q2
  obtain rfl : w2 = (.int i2) := Option.some.inj e2
  obtain ⟨q3, h2⟩ := and_e h2
  obtain ⟨i3, e3⟩ := is_v q3
  obtain rfl : w3 = (.int i3) := Option.some.inj e3
  obtain ⟨q4, h2⟩ := and_e h2
  obtain ⟨i4, e4⟩ := is_v q4
  obtain rfl : w4 = (.int i4) := Option.some.inj e4
  obtain ⟨i5, e5⟩ := is_v h2
  obtain rfl : w5 = (.int i5) := Option.some.inj e5
  obtain ⟨hsets, hown0⟩ := atoms_of _ (rest_1_c_eq ▸ (show rest_1_c.before _ s = true from hrest))
  obtain ⟨cpt, ecp⟩ := is_v (Cond.before_iff.mp (hsets _ (List.mem_of_getElem? (i := 1) rfl)))
  have SCP := Sta.start ecp (Or.inl (hsets _ (List.mem_of_getElem? (i := 0) rfl)))
  have hcp := gotF (Cond.eq_ints ecp (Term.int_eval (0))) (not_v (Cond.before_iff.mp (hsets _ (List.mem_of_getElem? (i := 2) rfl))))
  have SAD := Sta.start (eqv_i (Term.int_eval (1)) (Cond.before_iff.mp (hsets _ (List.mem_of_getElem? (i := 12) rfl)))) (Or.inl (hsets _ (List.mem_of_getElem? (i := 11) rfl)))
  have SHI := Sta.start (eqv_i (Term.int_eval (0)) (Cond.before_iff.mp (hsets _ (List.mem_of_getElem? (i := 15) rfl)))) (Or.inl (hsets _ (List.mem_of_getElem? (i := 14) rfl)))
  have SLO := Sta.start (eqv_i (Term.int_eval (8)) (Cond.before_iff.mp (hsets _ (List.mem_of_getElem? (i := 18) rfl)))) (Or.inl (hsets _ (List.mem_of_getElem? (i := 17) rfl)))
  obtain ⟨sf, esf, hsf⟩ := isR_v (Cond.before_iff.mp (hsets _ (List.mem_of_getElem? (i := 8) rfl)))
  have SSF := Sta.start esf (Or.inl (hsets _ (List.mem_of_getElem? (i := 7) rfl)))
  have hEL : EW s #[.int i0, .int i1, .int i2, .int i3, .int i4, .int i5] EL0 := (EW.cons (text := "") (hw _ (tw 15)) (by decide) (EW.cons (text := "") (hw _ (tw 187)) (by decide) (EW.cons (text := "") (hw _ (tw 188)) (by decide) EW.nil)))
  have hSA : ∀ a ∈ Bundle.stringAtoms, a.before #[.int i0, .int i1, .int i2, .int i3, .int i4, .int i5] s = true := fun a ha => by
    simp only [Bundle.stringAtoms, List.mem_cons, List.not_mem_nil, or_false] at ha
    rcases ha with rfl | rfl | rfl | rfl | rfl | rfl | rfl
    · exact hw _ (tw 4)
    · exact hw _ (tw 3)
    · exact hw _ (tw 16)
    · exact hw _ (tw 17)
    · exact hw _ (tw 18)
    · exact hw _ (tw 19)
    · exact hw _ (tw 20)
  have hCH : CHv s EL0 s.vm s.heap := CHv.start hEL (fun p hp => hcalls.1 p hp) (hsets _ (List.mem_of_getElem? (i := 2) rfl)) (hw _ (tw 16)) (hw _ (tw 3))
  obtain ⟨n, o, h1, h2, h3, _, L, rfl, ⟨rfl, -, N⟩, -, -, hq⟩ := law_con l s _ hw hEL hSA i0 i1 i2 i3 i4 i5 cpt SCP hcp SAD SHI SLO sf hsf SSF ⟨Nat.le_refl _, fun _ _ q => q⟩ tables_1 p e ha hc hk s m _ below hf ((Spec.applies_iff_loose hf).mp happ).1 ⟨rfl, State.Warmed39.refl s, rfl, hCH, fun _ q => nomatch q⟩ trivial
  refine ⟨n, _, h1, h2, h3, hpost _ _ _ _ _ _ ⟨Cond.after_iff.mpr rfl, Cond.after_iff.mpr (eq_i res_at (Term.int_eval (1)) rfl), trivial⟩ ⟨hq.1, hq.2.1, hq.2.2.1, (hq.2.2.2.sift fun y hy => Or.inr (N y hy)).mono (by decide) (by decide)⟩⟩
theorem main_1_1 : Claimed_1_1 := comes_1 fun _ _ _ _ _ _ h hF => ⟨h.1, hF⟩
theorem main_1_2 : Claimed_1_2 := comes_1 fun _ _ _ _ _ _ h hF => ⟨h.2.1, hF⟩
end Jvm.Pilot.@@N@@
namespace Jvm.Pilot.@@N@@
open Jvm Jvm.ClassFile Sem Op Lib Jvm.Free Jvm.Stand Jvm.Pilot.@@N@@.Jvm.D
/-! MADE BY PROGRAM (witnessworld.py) out of the Statement's table words and the real class files: 25 classes; the members and pool entries that the words name. The judged class is class 1, her method 1. -/
namespace start1
open Jvm.ClassFile
def u (s : String) : CpInfo := .utf8 (stringToUtf16 s)
/-- a pool by its gaps: so many unusable entries, then the entry; so many at the end -/
def gap : Nat → List CpInfo → List CpInfo
  | 0, r => r
  | n + 1, r => .unusable :: gap n r
def poolList (es : List (Nat × CpInfo)) (last : Nat) : List CpInfo := es.foldr (fun e r => gap e.1 (e.2 :: r)) (gap last [])
def pool (es : List (Nat × CpInfo)) (last : Nat) : Array CpInfo := ⟨poolList es last⟩
def fileOf (pool : Array CpInfo) (this : Nat) (attrs : Array Attribute := #[]) (ms : Array MethodInfo := #[]) (fl : Nat := 33) (sup : Nat := 0) (ifs : Array Nat := #[]) (fds : Array FieldInfo := #[]) : ClassFile where
  minorVersion := 0
  majorVersion := 65
  constantPool := pool
  accessFlags := fl
  thisClass := this
  superClass := sup
  interfaces := ifs
  fields := fds
  methods := ms
  attributes := attrs
def plain (name : String) (sup : Option ClassId) : Class where
  name := name
  kind := .ordinary
  loader := none
  accessFlags := 33
  super := sup
  interfaces := #[]
  cf := none
  fields := #[]
  methods := #[]
  instanceTypes := #[]
  staticTypes := #[]
  resolved := #[]
  callSites := []
  init := .initialized
  statics := none
  mirror := none

def pool0 : Array CpInfo := pool [(5, u "<init>"), (0, u "()V"), (1, .class_ 10), (1, u "java/lang/Object")] 113

def k0c0 : Code := { maxStack := 0, maxLocals := 1, code := object_method_1_code, exceptionTable := #[], attributes := #[] }
def k0m0 : Method := { name := "<init>", desc := "()V", sig := { parameters := [], returnType := none }, accessFlags := 1, code := some k0c0 }
/-- java/lang/Object -/
def k0 : Class := { plain "java/lang/Object" none with
  accessFlags := 33
  interfaces := #[]
  cf := some (fileOf pool0 8 #[] #[{ accessFlags := 1, nameIndex := 5, descriptorIndex := 6, attributes := #[] }] 33 0 #[] #[])
  fields := #[]
  methods := #[k0m0]
  instanceTypes := #[]
  staticTypes := #[]
  resolved := Array.replicate 124 none
  statics := none }

def pool1 : Array CpInfo := pool [(2, .class_ 4), (1, u "java/lang/Object"), (0, u "<init>"), (0, u "()V"), (0, .integer 2147483647), (0, .methodref 9 10), (0, .class_ 11), (0, .nameAndType 12 13), (0, u "com/example/goneish/goneish/NameRuleCutToUtf8BytesPinLaw"), (0, u "chars"), (0, u "(I)I"), (0, .methodref 9 15), (0, .nameAndType 16 17), (0, u "put"), (0, u "([CII)I"), (0, .class_ 19), (0, u "java/lang/String"), (0, .methodref 18 21), (0, .nameAndType 5 22), (0, u "([C)V"), (0, .methodref 9 24), (0, .nameAndType 25 13), (0, u "bytes"), (0, .methodref 27 28), (0, .class_ 29), (0, .nameAndType 30 31), (0, u "com/example/goneish/goneish/NameRule"), (0, u "cutToUtf8Bytes"), (0, u "(Ljava/lang/String;I)Ljava/lang/String;"), (0, .methodref 18 33), (0, .nameAndType 34 35), (0, u "length"), (0, u "()I"), (0, .methodref 9 37), (0, .nameAndType 38 39), (0, u "same"), (0, u "(Ljava/lang/String;Ljava/lang/String;I)Z"), (0, .integer 61440), (0, .integer 55296), (0, .integer 1048576), (0, .integer 56320), (0, .methodref 18 45), (0, .nameAndType 46 47), (0, u "charAt"), (0, u "(I)C"), (2, u "law"), (0, u "(IIIIII)Z")] 5

def k1m0 : Method := { name := "<init>", desc := "()V", sig := { parameters := [], returnType := none }, accessFlags := 1, code := none }
def k1c1 : Code := { maxStack := 3, maxLocals := 24, code := code, exceptionTable := #[], attributes := #[] }
def k1m1 : Method := { name := "law", desc := "(IIIIII)Z", sig := { parameters := [.int, .int, .int, .int, .int, .int], returnType := some .boolean }, accessFlags := 9, code := some k1c1 }
def k1c2 : Code := { maxStack := 2, maxLocals := 1, code := method_3_code, exceptionTable := #[], attributes := #[] }
def k1m2 : Method := { name := "chars", desc := "(I)I", sig := { parameters := [.int], returnType := some .int }, accessFlags := 10, code := some k1c2 }
def k1c3 : Code := { maxStack := 2, maxLocals := 1, code := method_4_code, exceptionTable := #[], attributes := #[] }
def k1m3 : Method := { name := "bytes", desc := "(I)I", sig := { parameters := [.int], returnType := some .int }, accessFlags := 10, code := some k1c3 }
def k1c4 : Code := { maxStack := 5, maxLocals := 6, code := method_5_code, exceptionTable := #[], attributes := #[] }
def k1m4 : Method := { name := "put", desc := "([CII)I", sig := { parameters := [(.array .char), .int, .int], returnType := some .int }, accessFlags := 10, code := some k1c4 }
def k1c5 : Code := { maxStack := 3, maxLocals := 3, code := method_6_code, exceptionTable := #[], attributes := #[] }
def k1m5 : Method := { name := "same", desc := "(Ljava/lang/String;Ljava/lang/String;I)Z", sig := { parameters := [(.object "java/lang/String"), (.object "java/lang/String"), .int], returnType := some .boolean }, accessFlags := 10, code := some k1c5 }
/-- com/example/goneish/goneish/NameRuleCutToUtf8BytesPinLaw -/
def k1 : Class := { plain "com/example/goneish/goneish/NameRuleCutToUtf8BytesPinLaw" (some 0) with
  accessFlags := 49
  interfaces := #[]
  cf := some (fileOf pool1 9 #[] #[{ accessFlags := 1, nameIndex := 5, descriptorIndex := 6, attributes := #[] }, { accessFlags := 9, nameIndex := 50, descriptorIndex := 51, attributes := #[] }, { accessFlags := 10, nameIndex := 12, descriptorIndex := 13, attributes := #[] }, { accessFlags := 10, nameIndex := 25, descriptorIndex := 13, attributes := #[] }, { accessFlags := 10, nameIndex := 16, descriptorIndex := 17, attributes := #[] }, { accessFlags := 10, nameIndex := 38, descriptorIndex := 39, attributes := #[] }] 49 2 #[] #[])
  fields := #[]
  methods := #[k1m0, k1m1, k1m2, k1m3, k1m4, k1m5]
  instanceTypes := #[]
  staticTypes := #[]
  resolved := Array.replicate 57 none
  statics := none }

def pool2 : Array CpInfo := pool [(1, .class_ 2), (0, u "java/io/Serializable"), (0, .class_ 4), (0, u "java/lang/Object")] 2

/-- java/io/Serializable -/
def k2 : Class := { plain "java/io/Serializable" (some 0) with
  accessFlags := 1537
  interfaces := #[]
  cf := some (fileOf pool2 1 #[] #[] 1537 3 #[] #[])
  fields := #[]
  methods := #[]
  instanceTypes := #[]
  staticTypes := #[]
  resolved := Array.replicate 7 none
  statics := none }

def pool3 : Array CpInfo := pool [(1, .class_ 2), (0, u "java/lang/Comparable"), (0, .class_ 4), (0, u "java/lang/Object")] 7

/-- java/lang/Comparable -/
def k3 : Class := { plain "java/lang/Comparable" (some 0) with
  accessFlags := 1537
  interfaces := #[]
  cf := some (fileOf pool3 1 #[] #[] 1537 3 #[] #[])
  fields := #[]
  methods := #[]
  instanceTypes := #[]
  staticTypes := #[]
  resolved := Array.replicate 12 none
  statics := none }

def pool4 : Array CpInfo := pool [(2, .class_ 4), (1, u "java/lang/CharSequence"), (42, .class_ 48), (0, u "java/lang/CharSequence$1CodePointIterator"), (10, .class_ 60), (0, u "java/lang/CharSequence$1CharIterator"), (5, .class_ 67), (0, u "java/lang/Object")] 63

/-- java/lang/CharSequence -/
def k4 : Class := { plain "java/lang/CharSequence" (some 0) with
  accessFlags := 1537
  interfaces := #[]
  cf := some (fileOf pool4 2 #[.nestMembers #[47, 59]] #[] 1537 66 #[] #[])
  fields := #[]
  methods := #[]
  instanceTypes := #[]
  staticTypes := #[]
  resolved := Array.replicate 131 none
  statics := none }

def pool5 : Array CpInfo := pool [(1, .class_ 2), (0, u "java/lang/constant/Constable"), (0, .class_ 4), (0, u "java/lang/Object")] 6

/-- java/lang/constant/Constable -/
def k5 : Class := { plain "java/lang/constant/Constable" (some 0) with
  accessFlags := 1537
  interfaces := #[]
  cf := some (fileOf pool5 1 #[] #[] 1537 3 #[] #[])
  fields := #[]
  methods := #[]
  instanceTypes := #[]
  staticTypes := #[]
  resolved := Array.replicate 11 none
  statics := none }

def pool6 : Array CpInfo := pool [(1, .class_ 2), (0, u "java/lang/constant/ConstantDesc"), (0, .class_ 4), (0, u "java/lang/Object")] 32

/-- java/lang/constant/ConstantDesc -/
def k6 : Class := { plain "java/lang/constant/ConstantDesc" (some 0) with
  accessFlags := 1537
  interfaces := #[]
  cf := some (fileOf pool6 1 #[] #[] 1537 3 #[] #[])
  fields := #[]
  methods := #[]
  instanceTypes := #[]
  staticTypes := #[]
  resolved := Array.replicate 37 none
  statics := none }

def pool7 : Array CpInfo := pool [(1, .methodref 2 3), (0, .class_ 4), (0, .nameAndType 5 6), (0, u "java/lang/Object"), (0, u "<init>"), (0, u "()V"), (0, .string 8), (0, u ""), (0, .fieldref 10 11), (0, .class_ 12), (0, .nameAndType 13 14), (0, u "java/lang/String"), (0, u "value"), (0, u "[B"), (0, .fieldref 10 16), (0, .nameAndType 17 18), (0, u "coder"), (0, u "B"), (2, u "hash"), (0, u "I"), (2, u "hashIsZero"), (0, u "Z"), (0, .methodref 10 28), (0, .nameAndType 5 29), (0, u "([CIILjava/lang/Void;)V"), (6, u "checkBoundsOffCount"), (0, u "(III)I"), (0, .fieldref 10 39), (0, .nameAndType 40 26), (0, u "COMPACT_STRINGS"), (1, .class_ 44), (1, u "java/lang/StringUTF16"), (0, u "compress"), (1, .methodref 42 48), (0, .nameAndType 49 50), (0, u "coderFromArrayLen"), (0, u "([BI)B"), (46, u "([BII)I"), (9, .class_ 109), (1, u "java/lang/StringLatin1"), (32, u "()Z"), (34, .methodref 42 178), (0, .nameAndType 45 179), (0, u "([CII)[B"), (31, u "([BB)V"), (122, u "()I"), (0, .methodref 10 336), (0, .nameAndType 17 337), (0, u "()B"), (25, u "([BI)C"), (27, u "(II)V"), (35, u "(I)C"), (64, .methodref 10 493), (0, .nameAndType 494 142), (0, u "isLatin1"), (0, .methodref 107 496), (0, .nameAndType 497 363), (0, u "charAt"), (0, .methodref 42 496), (0, .methodref 10 500), (0, .nameAndType 501 391), (0, u "checkIndex"), (0, .methodref 42 503), (0, .nameAndType 504 97), (0, u "codePointAt"), (0, .methodref 10 506), (0, .nameAndType 507 334), (0, u "length"), (5, u "checkFromToIndex"), (7, .methodref 10 522), (0, .nameAndType 523 524), (0, u "checkBoundsBeginEnd"), (0, u "(III)V"), (50, .class_ 576), (0, u "java/lang/CharSequence"), (22, u "CASE_INSENSITIVE_ORDER"), (0, u "Ljava/util/Comparator;"), (82, u "substring"), (0, u "(II)Ljava/lang/String;"), (0, .methodref 107 686), (0, .nameAndType 687 688), (0, u "newString"), (0, u "([BII)Ljava/lang/String;"), (0, .methodref 42 686), (75, u "(I)I"), (244, u "([C)V"), (42, .fieldref 1054 1055), (0, .class_ 1056), (0, .nameAndType 1057 1058), (0, u "jdk/internal/util/Preconditions"), (0, u "SIOOBE_FORMATTER"), (0, u "Ljava/util/function/BiFunction;"), (0, .methodref 1054 1060), (0, .nameAndType 501 1061), (0, u "(IILjava/util/function/BiFunction;)I"), (0, .methodref 1054 1063), (0, .nameAndType 513 1064), (0, u "(IIILjava/util/function/BiFunction;)I"), (0, .methodref 1054 1066), (0, .nameAndType 1067 1064), (0, u "checkFromIndexSize"), (33, u "serialPersistentFields"), (0, u "[Ljava/io/ObjectStreamField;"), (0, .class_ 1104), (0, u "java/lang/String$CaseInsensitiveComparator"), (1, .class_ 1107), (0, u "java/io/Serializable"), (0, .class_ 1109), (0, u "java/lang/Comparable"), (0, .class_ 1111), (0, u "java/lang/constant/Constable"), (0, .class_ 1113), (0, u "java/lang/constant/ConstantDesc"), (2, u "serialVersionUID"), (0, u "J"), (3, u "REPL"), (0, u "C"), (2, u "LATIN1"), (1, u "UTF16")] 323

def k7m0 : Method := { name := "<init>", desc := "()V", sig := { parameters := [], returnType := none }, accessFlags := 1, code := none }
def k7c1 : Code := { maxStack := 5, maxLocals := 2, code := jdk_42_method_3_code, exceptionTable := #[], attributes := #[] }
def k7m1 : Method := { name := "<init>", desc := "([C)V", sig := { parameters := [(.array .char)], returnType := none }, accessFlags := 1, code := some k7c1 }
def k7c2 : Code := { maxStack := 2, maxLocals := 1, code := jdk_42_method_54_code, exceptionTable := #[], attributes := #[] }
def k7m2 : Method := { name := "length", desc := "()I", sig := { parameters := [], returnType := some .int }, accessFlags := 1, code := some k7c2 }
def k7c3 : Code := { maxStack := 2, maxLocals := 2, code := jdk_42_method_56_code, exceptionTable := #[], attributes := #[] }
def k7m3 : Method := { name := "charAt", desc := "(I)C", sig := { parameters := [.int], returnType := some .char }, accessFlags := 1, code := some k7c3 }
def k7c4 : Code := { maxStack := 3, maxLocals := 3, code := jdk_42_method_57_code, exceptionTable := #[], attributes := #[] }
def k7m4 : Method := { name := "codePointAt", desc := "(I)I", sig := { parameters := [.int], returnType := some .int }, accessFlags := 1, code := some k7c4 }
def k7c5 : Code := { maxStack := 3, maxLocals := 5, code := jdk_42_method_92_code, exceptionTable := #[], attributes := #[] }
def k7m5 : Method := { name := "substring", desc := "(II)Ljava/lang/String;", sig := { parameters := [.int, .int], returnType := some (.object "java/lang/String") }, accessFlags := 1, code := some k7c5 }
def k7c6 : Code := { maxStack := 4, maxLocals := 6, code := jdk_42_method_149_code, exceptionTable := #[], attributes := #[] }
def k7m6 : Method := { name := "<init>", desc := "([CIILjava/lang/Void;)V", sig := { parameters := [(.array .char), .int, .int, (.object "java/lang/Void")], returnType := none }, accessFlags := 2, code := some k7c6 }
def k7c7 : Code := { maxStack := 2, maxLocals := 3, code := jdk_42_method_151_code, exceptionTable := #[], attributes := #[] }
def k7m7 : Method := { name := "<init>", desc := "([BB)V", sig := { parameters := [(.array .byte), .byte], returnType := none }, accessFlags := 0, code := some k7c7 }
def k7c8 : Code := { maxStack := 1, maxLocals := 1, code := jdk_42_method_152_code, exceptionTable := #[], attributes := #[] }
def k7m8 : Method := { name := "coder", desc := "()B", sig := { parameters := [], returnType := some .byte }, accessFlags := 0, code := some k7c8 }
def k7c9 : Code := { maxStack := 1, maxLocals := 1, code := jdk_42_method_154_code, exceptionTable := #[], attributes := #[] }
def k7m9 : Method := { name := "isLatin1", desc := "()Z", sig := { parameters := [], returnType := some .boolean }, accessFlags := 0, code := some k7c9 }
def k7c10 : Code := { maxStack := 3, maxLocals := 2, code := jdk_42_method_155_code, exceptionTable := #[], attributes := #[] }
def k7m10 : Method := { name := "checkIndex", desc := "(II)V", sig := { parameters := [.int, .int], returnType := none }, accessFlags := 8, code := some k7c10 }
def k7c11 : Code := { maxStack := 4, maxLocals := 3, code := jdk_42_method_157_code, exceptionTable := #[], attributes := #[] }
def k7m11 : Method := { name := "checkBoundsOffCount", desc := "(III)I", sig := { parameters := [.int, .int, .int], returnType := some .int }, accessFlags := 8, code := some k7c11 }
def k7c12 : Code := { maxStack := 4, maxLocals := 3, code := jdk_42_method_158_code, exceptionTable := #[], attributes := #[] }
def k7m12 : Method := { name := "checkBoundsBeginEnd", desc := "(III)V", sig := { parameters := [.int, .int, .int], returnType := none }, accessFlags := 8, code := some k7c12 }
/-- java/lang/String -/
def k7 : Class := { plain "java/lang/String" (some 0) with
  accessFlags := 49
  interfaces := #[2, 3, 4, 5, 6]
  cf := some (fileOf pool7 10 #[.nestMembers #[1103]] #[{ accessFlags := 1, nameIndex := 5, descriptorIndex := 6, attributes := #[] }, { accessFlags := 1, nameIndex := 5, descriptorIndex := 1010, attributes := #[] }, { accessFlags := 1, nameIndex := 507, descriptorIndex := 334, attributes := #[] }, { accessFlags := 1, nameIndex := 497, descriptorIndex := 427, attributes := #[] }, { accessFlags := 1, nameIndex := 504, descriptorIndex := 765, attributes := #[] }, { accessFlags := 1, nameIndex := 683, descriptorIndex := 684, attributes := #[] }, { accessFlags := 2, nameIndex := 5, descriptorIndex := 29, attributes := #[] }, { accessFlags := 0, nameIndex := 5, descriptorIndex := 211, attributes := #[] }, { accessFlags := 0, nameIndex := 17, descriptorIndex := 337, attributes := #[] }, { accessFlags := 0, nameIndex := 494, descriptorIndex := 142, attributes := #[] }, { accessFlags := 8, nameIndex := 501, descriptorIndex := 391, attributes := #[] }, { accessFlags := 8, nameIndex := 36, descriptorIndex := 37, attributes := #[] }, { accessFlags := 8, nameIndex := 523, descriptorIndex := 524, attributes := #[] }] 49 2 #[1106, 1108, 575, 1110, 1112] #[{ accessFlags := 18, nameIndex := 13, descriptorIndex := 14, attributes := #[] }, { accessFlags := 18, nameIndex := 17, descriptorIndex := 18, attributes := #[] }, { accessFlags := 2, nameIndex := 21, descriptorIndex := 22, attributes := #[] }, { accessFlags := 2, nameIndex := 25, descriptorIndex := 26, attributes := #[] }, { accessFlags := 26, nameIndex := 1116, descriptorIndex := 1117, attributes := #[] }, { accessFlags := 24, nameIndex := 40, descriptorIndex := 26, attributes := #[] }, { accessFlags := 26, nameIndex := 1101, descriptorIndex := 1102, attributes := #[] }, { accessFlags := 26, nameIndex := 1121, descriptorIndex := 1122, attributes := #[] }, { accessFlags := 25, nameIndex := 599, descriptorIndex := 600, attributes := #[] }, { accessFlags := 24, nameIndex := 1125, descriptorIndex := 18, attributes := #[] }, { accessFlags := 24, nameIndex := 1127, descriptorIndex := 18, attributes := #[] }])
  fields := #[{ name := "value", type := (.array .byte), accessFlags := 18, slot := 0, constantValue := 0 }, { name := "coder", type := .byte, accessFlags := 18, slot := 1, constantValue := 0 }, { name := "hash", type := .int, accessFlags := 2, slot := 2, constantValue := 0 }, { name := "hashIsZero", type := .boolean, accessFlags := 2, slot := 3, constantValue := 0 }, { name := "serialVersionUID", type := .long, accessFlags := 26, slot := 0, constantValue := 0 }, { name := "COMPACT_STRINGS", type := .boolean, accessFlags := 24, slot := 1, constantValue := 0 }, { name := "serialPersistentFields", type := (.array (.object "java/io/ObjectStreamField")), accessFlags := 26, slot := 2, constantValue := 0 }, { name := "REPL", type := .char, accessFlags := 26, slot := 3, constantValue := 0 }, { name := "CASE_INSENSITIVE_ORDER", type := (.object "java/util/Comparator"), accessFlags := 25, slot := 4, constantValue := 0 }, { name := "LATIN1", type := .byte, accessFlags := 24, slot := 5, constantValue := 0 }, { name := "UTF16", type := .byte, accessFlags := 24, slot := 6, constantValue := 0 }]
  methods := #[k7m0, k7m1, k7m2, k7m3, k7m4, k7m5, k7m6, k7m7, k7m8, k7m9, k7m10, k7m11, k7m12]
  instanceTypes := #[(.array .byte), .byte, .int, .boolean]
  staticTypes := #[.long, .boolean, (.array (.object "java/io/ObjectStreamField")), .char, (.object "java/util/Comparator"), .byte, .byte]
  resolved := Array.replicate 1451 none
  statics := some 0 }

def pool8 : Array CpInfo := pool [(2, .class_ 4), (1, u "java/lang/Enum"), (0, u "name"), (0, u "Ljava/lang/String;"), (2, u "ordinal"), (0, u "I"), (1, .class_ 14), (1, u "java/lang/Object"), (4, u "hash"), (86, .class_ 108), (1, u "java/lang/Enum$EnumDesc"), (2, .class_ 112), (0, u "java/lang/constant/Constable"), (0, .class_ 114), (0, u "java/lang/Comparable"), (0, .class_ 116), (0, u "java/io/Serializable")] 87

/-- java/lang/Enum -/
def k8 : Class := { plain "java/lang/Enum" (some 0) with
  accessFlags := 1057
  interfaces := #[5, 3, 2]
  cf := some (fileOf pool8 2 #[.nestMembers #[106]] #[] 1057 12 #[111, 113, 115] #[{ accessFlags := 18, nameIndex := 5, descriptorIndex := 6, attributes := #[] }, { accessFlags := 18, nameIndex := 9, descriptorIndex := 10, attributes := #[] }, { accessFlags := 2, nameIndex := 19, descriptorIndex := 10, attributes := #[] }])
  fields := #[{ name := "name", type := (.object "java/lang/String"), accessFlags := 18, slot := 0, constantValue := 0 }, { name := "ordinal", type := .int, accessFlags := 18, slot := 1, constantValue := 0 }, { name := "hash", type := .int, accessFlags := 2, slot := 2, constantValue := 0 }]
  methods := #[]
  instanceTypes := #[(.object "java/lang/String"), .int, .int]
  staticTypes := #[]
  resolved := Array.replicate 204 none
  statics := none }

def pool9 : Array CpInfo := pool [(1, .class_ 2), (0, u "com/example/goneish/goneish/NameRule"), (2, u "H2"), (0, u "Lcom/example/goneish/goneish/NameRule;"), (2, u "POSTGRESQL"), (2, u "MARIADB_TABLE"), (2, u "MARIADB_COLUMN"), (2, u "MARIADB_WITH_QUERY"), (2, u "$VALUES"), (0, u "[Lcom/example/goneish/goneish/NameRule;"), (6, .class_ 31), (1, u "java/lang/Enum"), (12, .nameAndType 45 46), (0, u "length"), (0, u "()I"), (12, .methodref 60 44), (0, .class_ 61), (0, u "java/lang/String"), (0, .methodref 60 63), (0, .nameAndType 64 65), (0, u "codePointAt"), (0, u "(I)I"), (0, .integer 65536), (0, .methodref 68 69), (0, .class_ 70), (0, .nameAndType 71 65), (0, u "java/lang/Character"), (0, u "charCount"), (0, .methodref 60 73), (0, .nameAndType 74 75), (0, u "substring"), (0, u "(II)Ljava/lang/String;"), (0, .class_ 77), (0, u "com/example/goneish/goneish/NameRule$1"), (2, .class_ 81), (0, u "com/example/goneish/goneish/NameRule$2"), (2, .class_ 85), (0, u "com/example/goneish/goneish/NameRule$3"), (2, .class_ 89), (0, u "com/example/goneish/goneish/NameRule$4"), (2, .class_ 93), (0, u "com/example/goneish/goneish/NameRule$5"), (6, u "POSTGRESQL_NAME_BYTES"), (0, u "I"), (2, u "UNKNOWN_CHARACTER"), (13, u "cutToUtf8Bytes"), (0, u "(Ljava/lang/String;I)Ljava/lang/String;")] 7

def k9c0 : Code := { maxStack := 3, maxLocals := 5, code := prog_10_method_6_code, exceptionTable := #[], attributes := #[] }
def k9m0 : Method := { name := "cutToUtf8Bytes", desc := "(Ljava/lang/String;I)Ljava/lang/String;", sig := { parameters := [(.object "java/lang/String"), .int], returnType := some (.object "java/lang/String") }, accessFlags := 8, code := some k9c0 }
/-- com/example/goneish/goneish/NameRule -/
def k9 : Class := { plain "com/example/goneish/goneish/NameRule" (some 8) with
  accessFlags := 17441
  interfaces := #[]
  cf := some (fileOf pool9 1 #[.nestMembers #[92, 88, 84, 80, 76]] #[{ accessFlags := 8, nameIndex := 118, descriptorIndex := 119, attributes := #[] }] 17441 29 #[] #[{ accessFlags := 16409, nameIndex := 5, descriptorIndex := 6, attributes := #[] }, { accessFlags := 16409, nameIndex := 9, descriptorIndex := 6, attributes := #[] }, { accessFlags := 16409, nameIndex := 12, descriptorIndex := 6, attributes := #[] }, { accessFlags := 16409, nameIndex := 15, descriptorIndex := 6, attributes := #[] }, { accessFlags := 16409, nameIndex := 18, descriptorIndex := 6, attributes := #[] }, { accessFlags := 26, nameIndex := 100, descriptorIndex := 101, attributes := #[] }, { accessFlags := 26, nameIndex := 104, descriptorIndex := 101, attributes := #[] }, { accessFlags := 4122, nameIndex := 21, descriptorIndex := 22, attributes := #[] }])
  fields := #[{ name := "H2", type := (.object "com/example/goneish/goneish/NameRule"), accessFlags := 16409, slot := 0, constantValue := 0 }, { name := "POSTGRESQL", type := (.object "com/example/goneish/goneish/NameRule"), accessFlags := 16409, slot := 1, constantValue := 0 }, { name := "MARIADB_TABLE", type := (.object "com/example/goneish/goneish/NameRule"), accessFlags := 16409, slot := 2, constantValue := 0 }, { name := "MARIADB_COLUMN", type := (.object "com/example/goneish/goneish/NameRule"), accessFlags := 16409, slot := 3, constantValue := 0 }, { name := "MARIADB_WITH_QUERY", type := (.object "com/example/goneish/goneish/NameRule"), accessFlags := 16409, slot := 4, constantValue := 0 }, { name := "POSTGRESQL_NAME_BYTES", type := .int, accessFlags := 26, slot := 5, constantValue := 0 }, { name := "UNKNOWN_CHARACTER", type := .int, accessFlags := 26, slot := 6, constantValue := 0 }, { name := "$VALUES", type := (.array (.object "com/example/goneish/goneish/NameRule")), accessFlags := 4122, slot := 7, constantValue := 0 }]
  methods := #[k9m0]
  instanceTypes := #[(.object "java/lang/String"), .int, .int]
  staticTypes := #[(.object "com/example/goneish/goneish/NameRule"), (.object "com/example/goneish/goneish/NameRule"), (.object "com/example/goneish/goneish/NameRule"), (.object "com/example/goneish/goneish/NameRule"), (.object "com/example/goneish/goneish/NameRule"), .int, .int, (.array (.object "com/example/goneish/goneish/NameRule"))]
  resolved := Array.replicate 127 none
  statics := none }

def pool10 : Array CpInfo := pool [(2, .class_ 4), (1, u "java/lang/Object"), (0, u "<init>"), (0, u "()V"), (17, .class_ 26), (1, u "jdk/internal/util/Preconditions"), (6, u "checkIndex"), (13, u "checkFromToIndex"), (1, u "checkFromIndexSize"), (5, .class_ 56), (0, u "jdk/internal/util/Preconditions$4"), (57, .class_ 115), (0, u "jdk/internal/util/Preconditions$1"), (7, u "SIOOBE_FORMATTER"), (0, u "Ljava/util/function/BiFunction;"), (0, .class_ 126), (0, u "jdk/internal/util/Preconditions$2"), (3, u "AIOOBE_FORMATTER"), (0, .class_ 132), (0, u "jdk/internal/util/Preconditions$3"), (3, u "IOOBE_FORMATTER"), (41, u "(IILjava/util/function/BiFunction;)I"), (4, u "(IIILjava/util/function/BiFunction;)I")] 10

def k10m0 : Method := { name := "<init>", desc := "()V", sig := { parameters := [], returnType := none }, accessFlags := 1, code := none }
def k10c1 : Code := { maxStack := 3, maxLocals := 3, code := jdk_41_method_11_code, exceptionTable := #[], attributes := #[] }
def k10m1 : Method := { name := "checkIndex", desc := "(IILjava/util/function/BiFunction;)I", sig := { parameters := [.int, .int, (.object "java/util/function/BiFunction")], returnType := some .int }, accessFlags := 9, code := some k10c1 }
def k10c2 : Code := { maxStack := 4, maxLocals := 4, code := jdk_41_method_12_code, exceptionTable := #[], attributes := #[] }
def k10m2 : Method := { name := "checkFromToIndex", desc := "(IIILjava/util/function/BiFunction;)I", sig := { parameters := [.int, .int, .int, (.object "java/util/function/BiFunction")], returnType := some .int }, accessFlags := 9, code := some k10c2 }
def k10c3 : Code := { maxStack := 4, maxLocals := 4, code := jdk_41_method_13_code, exceptionTable := #[], attributes := #[] }
def k10m3 : Method := { name := "checkFromIndexSize", desc := "(IIILjava/util/function/BiFunction;)I", sig := { parameters := [.int, .int, .int, (.object "java/util/function/BiFunction")], returnType := some .int }, accessFlags := 9, code := some k10c3 }
/-- jdk/internal/util/Preconditions -/
def k10 : Class := { plain "jdk/internal/util/Preconditions" (some 0) with
  accessFlags := 33
  interfaces := #[]
  cf := some (fileOf pool10 24 #[.nestMembers #[55, 131, 125, 114]] #[{ accessFlags := 1, nameIndex := 5, descriptorIndex := 6, attributes := #[] }, { accessFlags := 9, nameIndex := 33, descriptorIndex := 178, attributes := #[] }, { accessFlags := 9, nameIndex := 47, descriptorIndex := 183, attributes := #[] }, { accessFlags := 9, nameIndex := 49, descriptorIndex := 183, attributes := #[] }] 33 2 #[] #[{ accessFlags := 25, nameIndex := 123, descriptorIndex := 124, attributes := #[] }, { accessFlags := 25, nameIndex := 130, descriptorIndex := 124, attributes := #[] }, { accessFlags := 25, nameIndex := 136, descriptorIndex := 124, attributes := #[] }])
  fields := #[{ name := "SIOOBE_FORMATTER", type := (.object "java/util/function/BiFunction"), accessFlags := 25, slot := 0, constantValue := 0 }, { name := "AIOOBE_FORMATTER", type := (.object "java/util/function/BiFunction"), accessFlags := 25, slot := 1, constantValue := 0 }, { name := "IOOBE_FORMATTER", type := (.object "java/util/function/BiFunction"), accessFlags := 25, slot := 2, constantValue := 0 }]
  methods := #[k10m0, k10m1, k10m2, k10m3]
  instanceTypes := #[]
  staticTypes := #[(.object "java/util/function/BiFunction"), (.object "java/util/function/BiFunction"), (.object "java/util/function/BiFunction")]
  resolved := Array.replicate 194 none
  statics := some 1 }

def pool11 : Array CpInfo := pool [(3, .class_ 4), (0, u "java/lang/String"), (1, .class_ 8), (1, u "java/lang/Object"), (0, u "<init>"), (0, u "()V"), (0, .methodref 12 13), (0, .class_ 14), (0, .nameAndType 15 16), (0, u "java/lang/StringUTF16"), (0, u "newBytesLength"), (0, u "(I)I"), (3, .integer 1073741823), (23, .fieldref 12 45), (0, .nameAndType 46 47), (0, u "$assertionsDisabled"), (0, u "Z"), (0, .methodref 12 49), (0, .nameAndType 50 51), (0, u "length"), (0, u "([B)I"), (7, .fieldref 12 60), (0, .nameAndType 61 62), (0, u "HI_BYTE_SHIFT"), (0, u "I"), (0, .fieldref 12 64), (0, .nameAndType 65 62), (0, u "LO_BYTE_SHIFT"), (1, .methodref 12 68), (0, .nameAndType 69 70), (0, u "checkIndex"), (0, u "(I[B)V"), (0, .methodref 12 72), (0, .nameAndType 73 74), (0, u "getChar"), (0, u "([BI)C"), (0, .methodref 76 77), (0, .class_ 78), (0, .nameAndType 79 80), (0, u "java/lang/Character"), (0, u "isHighSurrogate"), (0, u "(C)Z"), (0, .methodref 76 82), (0, .nameAndType 83 80), (0, u "isLowSurrogate"), (0, .methodref 76 85), (0, .nameAndType 86 87), (0, u "toCodePoint"), (0, u "(CC)I"), (0, .methodref 12 89), (0, .nameAndType 90 91), (0, u "codePointAt"), (0, u "([BIIZ)I"), (7, u "(II[B)V"), (7, .methodref 12 108), (0, .nameAndType 109 110), (0, u "newBytesFor"), (0, u "(I)[B"), (0, .methodref 12 112), (0, .nameAndType 113 114), (0, u "putChar"), (0, u "([BII)V"), (0, .methodref 12 116), (0, .nameAndType 117 118), (0, u "compress"), (0, u "([CI[BII)I"), (0, .methodref 12 120), (0, .nameAndType 121 122), (0, u "toBytes"), (0, u "([CII)[B"), (0, .methodref 12 124), (0, .nameAndType 117 125), (0, u "([BI[BII)I"), (0, .methodref 127 128), (0, .class_ 129), (0, .nameAndType 130 131), (0, u "java/util/Arrays"), (0, u "copyOfRange"), (0, u "([BII)[B"), (41, .methodref 12 174), (0, .nameAndType 175 99), (0, u "checkBoundsOffCount"), (74, u "([BII)I"), (0, .fieldref 3 252), (0, .nameAndType 253 47), (0, u "COMPACT_STRINGS"), (3, .methodref 12 258), (0, .nameAndType 117 131), (0, .methodref 12 260), (0, .nameAndType 261 262), (0, u "coderFromArrayLen"), (0, u "([BI)B"), (0, .methodref 3 264), (0, .nameAndType 9 265), (0, u "([BB)V"), (15, u "(III)I"), (13, .string 296), (0, u ""), (30, u "newString"), (0, u "([BII)Ljava/lang/String;"), (40, .class_ 371), (1, u "java/lang/StringUTF16$LinesSpliterator"), (20, u "charAt"), (21, .methodref 3 415), (0, .nameAndType 69 416), (0, u "(II)V"), (2, .methodref 3 420), (0, .nameAndType 175 281), (9, u "MAX_LENGTH"), (196, .class_ 628), (0, u "java/lang/StringUTF16$CodePointsSpliterator"), (0, .class_ 630), (0, u "java/lang/StringUTF16$CharsSpliterator")] 4

def k11m0 : Method := { name := "<init>", desc := "()V", sig := { parameters := [], returnType := none }, accessFlags := 0, code := none }
def k11c1 : Code := { maxStack := 1, maxLocals := 1, code := jdk_52_method_2_code, exceptionTable := #[], attributes := #[] }
def k11m1 : Method := { name := "newBytesFor", desc := "(I)[B", sig := { parameters := [.int], returnType := some (.array .byte) }, accessFlags := 9, code := some k11c1 }
def k11c2 : Code := { maxStack := 4, maxLocals := 1, code := jdk_52_method_3_code, exceptionTable := #[], attributes := #[] }
def k11m2 : Method := { name := "newBytesLength", desc := "(I)I", sig := { parameters := [.int], returnType := some .int }, accessFlags := 9, code := some k11c2 }
def k11c3 : Code := { maxStack := 4, maxLocals := 3, code := jdk_52_method_4_code, exceptionTable := #[], attributes := #[] }
def k11m3 : Method := { name := "putChar", desc := "([BII)V", sig := { parameters := [(.array .byte), .int, .int], returnType := none }, accessFlags := 8, code := some k11c3 }
def k11c4 : Code := { maxStack := 3, maxLocals := 2, code := jdk_52_method_5_code, exceptionTable := #[], attributes := #[] }
def k11m4 : Method := { name := "getChar", desc := "([BI)C", sig := { parameters := [(.array .byte), .int], returnType := some .char }, accessFlags := 8, code := some k11c4 }
def k11c5 : Code := { maxStack := 2, maxLocals := 1, code := jdk_52_method_6_code, exceptionTable := #[], attributes := #[] }
def k11m5 : Method := { name := "length", desc := "([B)I", sig := { parameters := [(.array .byte)], returnType := some .int }, accessFlags := 9, code := some k11c5 }
def k11c6 : Code := { maxStack := 2, maxLocals := 6, code := jdk_52_method_7_code, exceptionTable := #[], attributes := #[] }
def k11m6 : Method := { name := "codePointAt", desc := "([BIIZ)I", sig := { parameters := [(.array .byte), .int, .int, .boolean], returnType := some .int }, accessFlags := 10, code := some k11c6 }
def k11c7 : Code := { maxStack := 4, maxLocals := 3, code := jdk_52_method_8_code, exceptionTable := #[], attributes := #[] }
def k11m7 : Method := { name := "codePointAt", desc := "([BII)I", sig := { parameters := [(.array .byte), .int, .int], returnType := some .int }, accessFlags := 9, code := some k11c7 }
def k11c8 : Code := { maxStack := 4, maxLocals := 5, code := jdk_52_method_14_code, exceptionTable := #[], attributes := #[] }
def k11m8 : Method := { name := "toBytes", desc := "([CII)[B", sig := { parameters := [(.array .char), .int, .int], returnType := some (.array .byte) }, accessFlags := 9, code := some k11c8 }
def k11c9 : Code := { maxStack := 2, maxLocals := 2, code := jdk_52_method_15_code, exceptionTable := #[], attributes := #[] }
def k11m9 : Method := { name := "coderFromArrayLen", desc := "([BI)B", sig := { parameters := [(.array .byte), .int], returnType := some .byte }, accessFlags := 8, code := some k11c9 }
def k11c10 : Code := { maxStack := 5, maxLocals := 6, code := jdk_52_method_16_code, exceptionTable := #[], attributes := #[] }
def k11m10 : Method := { name := "compress", desc := "([CII)[B", sig := { parameters := [(.array .char), .int, .int], returnType := some (.array .byte) }, accessFlags := 9, code := some k11c10 }
def k11c11 : Code := { maxStack := 5, maxLocals := 6, code := jdk_52_method_17_code, exceptionTable := #[], attributes := #[] }
def k11m11 : Method := { name := "compress", desc := "([BII)[B", sig := { parameters := [(.array .byte), .int, .int], returnType := some (.array .byte) }, accessFlags := 9, code := some k11c11 }
def k11c12 : Code := { maxStack := 3, maxLocals := 7, code := jdk_52_method_21_code, exceptionTable := #[], attributes := #[] }
def k11m12 : Method := { name := "compress", desc := "([CI[BII)I", sig := { parameters := [(.array .char), .int, (.array .byte), .int, .int], returnType := some .int }, accessFlags := 9, code := some k11c12 }
def k11c13 : Code := { maxStack := 3, maxLocals := 7, code := jdk_52_method_22_code, exceptionTable := #[], attributes := #[] }
def k11m13 : Method := { name := "compress", desc := "([BI[BII)I", sig := { parameters := [(.array .byte), .int, (.array .byte), .int, .int], returnType := some .int }, accessFlags := 9, code := some k11c13 }
def k11c14 : Code := { maxStack := 6, maxLocals := 5, code := jdk_52_method_69_code, exceptionTable := #[], attributes := #[] }
def k11m14 : Method := { name := "newString", desc := "([BII)Ljava/lang/String;", sig := { parameters := [(.array .byte), .int, .int], returnType := some (.object "java/lang/String") }, accessFlags := 9, code := some k11c14 }
def k11c15 : Code := { maxStack := 2, maxLocals := 2, code := jdk_52_method_83_code, exceptionTable := #[], attributes := #[] }
def k11m15 : Method := { name := "charAt", desc := "([BI)C", sig := { parameters := [(.array .byte), .int], returnType := some .char }, accessFlags := 9, code := some k11c15 }
def k11c16 : Code := { maxStack := 2, maxLocals := 2, code := jdk_52_method_91_code, exceptionTable := #[], attributes := #[] }
def k11m16 : Method := { name := "checkIndex", desc := "(I[B)V", sig := { parameters := [.int, (.array .byte)], returnType := none }, accessFlags := 9, code := some k11c16 }
def k11c17 : Code := { maxStack := 3, maxLocals := 3, code := jdk_52_method_94_code, exceptionTable := #[], attributes := #[] }
def k11m17 : Method := { name := "checkBoundsOffCount", desc := "(II[B)V", sig := { parameters := [.int, .int, (.array .byte)], returnType := none }, accessFlags := 9, code := some k11c17 }
/-- java/lang/StringUTF16 -/
def k11 : Class := { plain "java/lang/StringUTF16" (some 0) with
  accessFlags := 48
  interfaces := #[]
  cf := some (fileOf pool11 12 #[.nestMembers #[627, 629, 369]] #[{ accessFlags := 0, nameIndex := 9, descriptorIndex := 10, attributes := #[] }, { accessFlags := 9, nameIndex := 109, descriptorIndex := 110, attributes := #[] }, { accessFlags := 9, nameIndex := 15, descriptorIndex := 16, attributes := #[] }, { accessFlags := 8, nameIndex := 113, descriptorIndex := 114, attributes := #[] }, { accessFlags := 8, nameIndex := 73, descriptorIndex := 74, attributes := #[] }, { accessFlags := 9, nameIndex := 50, descriptorIndex := 51, attributes := #[] }, { accessFlags := 10, nameIndex := 90, descriptorIndex := 91, attributes := #[] }, { accessFlags := 9, nameIndex := 90, descriptorIndex := 250, attributes := #[] }, { accessFlags := 9, nameIndex := 121, descriptorIndex := 122, attributes := #[] }, { accessFlags := 8, nameIndex := 261, descriptorIndex := 262, attributes := #[] }, { accessFlags := 9, nameIndex := 117, descriptorIndex := 122, attributes := #[] }, { accessFlags := 9, nameIndex := 117, descriptorIndex := 131, attributes := #[] }, { accessFlags := 9, nameIndex := 117, descriptorIndex := 118, attributes := #[] }, { accessFlags := 9, nameIndex := 117, descriptorIndex := 125, attributes := #[] }, { accessFlags := 9, nameIndex := 327, descriptorIndex := 328, attributes := #[] }, { accessFlags := 9, nameIndex := 392, descriptorIndex := 74, attributes := #[] }, { accessFlags := 9, nameIndex := 69, descriptorIndex := 70, attributes := #[] }, { accessFlags := 9, nameIndex := 175, descriptorIndex := 99, attributes := #[] }] 48 6 #[] #[{ accessFlags := 26, nameIndex := 61, descriptorIndex := 62, attributes := #[] }, { accessFlags := 26, nameIndex := 65, descriptorIndex := 62, attributes := #[] }, { accessFlags := 24, nameIndex := 430, descriptorIndex := 62, attributes := #[] }, { accessFlags := 4120, nameIndex := 46, descriptorIndex := 47, attributes := #[] }])
  fields := #[{ name := "HI_BYTE_SHIFT", type := .int, accessFlags := 26, slot := 0, constantValue := 0 }, { name := "LO_BYTE_SHIFT", type := .int, accessFlags := 26, slot := 1, constantValue := 0 }, { name := "MAX_LENGTH", type := .int, accessFlags := 24, slot := 2, constantValue := 0 }, { name := "$assertionsDisabled", type := .boolean, accessFlags := 4120, slot := 3, constantValue := 0 }]
  methods := #[k11m0, k11m1, k11m2, k11m3, k11m4, k11m5, k11m6, k11m7, k11m8, k11m9, k11m10, k11m11, k11m12, k11m13, k11m14, k11m15, k11m16, k11m17]
  instanceTypes := #[]
  staticTypes := #[.int, .int, .int, .boolean]
  resolved := Array.replicate 635 none
  statics := some 2 }

def pool12 : Array CpInfo := pool [(1, .class_ 2), (0, u "java/lang/Character"), (18, u "value"), (0, u "C"), (19, .class_ 44), (1, u "java/lang/Object"), (3, .class_ 50), (1, u "java/lang/Character$CharacterCache"), (22, .integer 65536), (1, .integer 55296), (0, .integer 56320), (0, .integer 57344), (2, u "isHighSurrogate"), (0, u "(C)Z"), (2, u "isLowSurrogate"), (0, .integer 4238353408), (12, u "toCodePoint"), (0, u "(CC)I"), (74, u "(I)I"), (109, u "$assertionsDisabled"), (0, u "Z"), (21, .class_ 309), (1, u "java/lang/Character$UnicodeBlock"), (73, u "TYPE"), (0, u "Ljava/lang/Class;"), (0, .class_ 386), (0, u "java/io/Serializable"), (0, .class_ 388), (0, u "java/lang/Comparable"), (0, .class_ 390), (0, u "java/lang/constant/Constable"), (0, u "MIN_RADIX"), (0, u "I"), (2, u "MAX_RADIX"), (1, u "MIN_VALUE"), (1, u "MAX_VALUE"), (3, u "UNASSIGNED"), (0, u "B"), (0, u "UPPERCASE_LETTER"), (1, u "LOWERCASE_LETTER"), (0, u "TITLECASE_LETTER"), (1, u "MODIFIER_LETTER"), (1, u "OTHER_LETTER"), (1, u "NON_SPACING_MARK"), (1, u "ENCLOSING_MARK"), (1, u "COMBINING_SPACING_MARK"), (1, u "DECIMAL_DIGIT_NUMBER"), (1, u "LETTER_NUMBER"), (1, u "OTHER_NUMBER"), (1, u "SPACE_SEPARATOR"), (1, u "LINE_SEPARATOR"), (1, u "PARAGRAPH_SEPARATOR"), (1, u "CONTROL"), (1, u "FORMAT"), (1, u "PRIVATE_USE"), (1, u "SURROGATE"), (1, u "DASH_PUNCTUATION"), (1, u "START_PUNCTUATION"), (1, u "END_PUNCTUATION"), (1, u "CONNECTOR_PUNCTUATION"), (1, u "OTHER_PUNCTUATION"), (1, u "MATH_SYMBOL"), (1, u "CURRENCY_SYMBOL"), (1, u "MODIFIER_SYMBOL"), (1, u "OTHER_SYMBOL"), (1, u "INITIAL_QUOTE_PUNCTUATION"), (1, u "FINAL_QUOTE_PUNCTUATION"), (1, u "ERROR"), (1, u "DIRECTIONALITY_UNDEFINED"), (0, u "DIRECTIONALITY_LEFT_TO_RIGHT"), (0, u "DIRECTIONALITY_RIGHT_TO_LEFT"), (0, u "DIRECTIONALITY_RIGHT_TO_LEFT_ARABIC"), (0, u "DIRECTIONALITY_EUROPEAN_NUMBER"), (0, u "DIRECTIONALITY_EUROPEAN_NUMBER_SEPARATOR"), (0, u "DIRECTIONALITY_EUROPEAN_NUMBER_TERMINATOR"), (0, u "DIRECTIONALITY_ARABIC_NUMBER"), (0, u "DIRECTIONALITY_COMMON_NUMBER_SEPARATOR"), (0, u "DIRECTIONALITY_NONSPACING_MARK"), (0, u "DIRECTIONALITY_BOUNDARY_NEUTRAL"), (0, u "DIRECTIONALITY_PARAGRAPH_SEPARATOR"), (0, u "DIRECTIONALITY_SEGMENT_SEPARATOR"), (0, u "DIRECTIONALITY_WHITESPACE"), (0, u "DIRECTIONALITY_OTHER_NEUTRALS"), (0, u "DIRECTIONALITY_LEFT_TO_RIGHT_EMBEDDING"), (0, u "DIRECTIONALITY_LEFT_TO_RIGHT_OVERRIDE"), (0, u "DIRECTIONALITY_RIGHT_TO_LEFT_EMBEDDING"), (0, u "DIRECTIONALITY_RIGHT_TO_LEFT_OVERRIDE"), (1, u "DIRECTIONALITY_POP_DIRECTIONAL_FORMAT"), (0, u "DIRECTIONALITY_LEFT_TO_RIGHT_ISOLATE"), (0, u "DIRECTIONALITY_RIGHT_TO_LEFT_ISOLATE"), (0, u "DIRECTIONALITY_FIRST_STRONG_ISOLATE"), (0, u "DIRECTIONALITY_POP_DIRECTIONAL_ISOLATE"), (0, u "MIN_HIGH_SURROGATE"), (0, u "MAX_HIGH_SURROGATE"), (1, u "MIN_LOW_SURROGATE"), (0, u "MAX_LOW_SURROGATE"), (1, u "MIN_SURROGATE"), (0, u "MAX_SURROGATE"), (0, u "MIN_SUPPLEMENTARY_CODE_POINT"), (0, u "MIN_CODE_POINT"), (0, u "MAX_CODE_POINT"), (1, u "serialVersionUID"), (0, u "J"), (2, u "SIZE"), (0, u "BYTES"), (29, u "charCount"), (58, .class_ 596), (0, u "java/lang/Character$UnicodeScript"), (0, .class_ 598), (0, u "java/lang/Character$Subset")] 5

def k12c0 : Code := { maxStack := 2, maxLocals := 1, code := jdk_89_method_14_code, exceptionTable := #[], attributes := #[] }
def k12m0 : Method := { name := "isHighSurrogate", desc := "(C)Z", sig := { parameters := [.char], returnType := some .boolean }, accessFlags := 9, code := some k12c0 }
def k12c1 : Code := { maxStack := 2, maxLocals := 1, code := jdk_89_method_15_code, exceptionTable := #[], attributes := #[] }
def k12m1 : Method := { name := "isLowSurrogate", desc := "(C)Z", sig := { parameters := [.char], returnType := some .boolean }, accessFlags := 9, code := some k12c1 }
def k12c2 : Code := { maxStack := 2, maxLocals := 1, code := jdk_89_method_18_code, exceptionTable := #[], attributes := #[] }
def k12m2 : Method := { name := "charCount", desc := "(I)I", sig := { parameters := [.int], returnType := some .int }, accessFlags := 9, code := some k12c2 }
def k12c3 : Code := { maxStack := 2, maxLocals := 2, code := jdk_89_method_19_code, exceptionTable := #[], attributes := #[] }
def k12m3 : Method := { name := "toCodePoint", desc := "(CC)I", sig := { parameters := [.char, .char], returnType := some .int }, accessFlags := 9, code := some k12c3 }
/-- java/lang/Character -/
def k12 : Class := { plain "java/lang/Character" (some 0) with
  accessFlags := 49
  interfaces := #[2, 3, 5]
  cf := some (fileOf pool12 1 #[.nestMembers #[48, 595, 307, 597]] #[{ accessFlags := 9, nameIndex := 80, descriptorIndex := 81, attributes := #[] }, { accessFlags := 9, nameIndex := 84, descriptorIndex := 81, attributes := #[] }, { accessFlags := 9, nameIndex := 536, descriptorIndex := 174, attributes := #[] }, { accessFlags := 9, nameIndex := 98, descriptorIndex := 99, attributes := #[] }] 49 42 #[385, 387, 389] #[{ accessFlags := 25, nameIndex := 391, descriptorIndex := 392, attributes := #[] }, { accessFlags := 25, nameIndex := 395, descriptorIndex := 392, attributes := #[] }, { accessFlags := 25, nameIndex := 397, descriptorIndex := 22, attributes := #[] }, { accessFlags := 25, nameIndex := 399, descriptorIndex := 22, attributes := #[] }, { accessFlags := 25, nameIndex := 383, descriptorIndex := 384, attributes := #[] }, { accessFlags := 25, nameIndex := 403, descriptorIndex := 404, attributes := #[] }, { accessFlags := 25, nameIndex := 405, descriptorIndex := 404, attributes := #[] }, { accessFlags := 25, nameIndex := 407, descriptorIndex := 404, attributes := #[] }, { accessFlags := 25, nameIndex := 408, descriptorIndex := 404, attributes := #[] }, { accessFlags := 25, nameIndex := 410, descriptorIndex := 404, attributes := #[] }, { accessFlags := 25, nameIndex := 412, descriptorIndex := 404, attributes := #[] }, { accessFlags := 25, nameIndex := 414, descriptorIndex := 404, attributes := #[] }, { accessFlags := 25, nameIndex := 416, descriptorIndex := 404, attributes := #[] }, { accessFlags := 25, nameIndex := 418, descriptorIndex := 404, attributes := #[] }, { accessFlags := 25, nameIndex := 420, descriptorIndex := 404, attributes := #[] }, { accessFlags := 25, nameIndex := 422, descriptorIndex := 404, attributes := #[] }, { accessFlags := 25, nameIndex := 424, descriptorIndex := 404, attributes := #[] }, { accessFlags := 25, nameIndex := 426, descriptorIndex := 404, attributes := #[] }, { accessFlags := 25, nameIndex := 428, descriptorIndex := 404, attributes := #[] }, { accessFlags := 25, nameIndex := 430, descriptorIndex := 404, attributes := #[] }, { accessFlags := 25, nameIndex := 432, descriptorIndex := 404, attributes := #[] }, { accessFlags := 25, nameIndex := 434, descriptorIndex := 404, attributes := #[] }, { accessFlags := 25, nameIndex := 436, descriptorIndex := 404, attributes := #[] }, { accessFlags := 25, nameIndex := 438, descriptorIndex := 404, attributes := #[] }, { accessFlags := 25, nameIndex := 440, descriptorIndex := 404, attributes := #[] }, { accessFlags := 25, nameIndex := 442, descriptorIndex := 404, attributes := #[] }, { accessFlags := 25, nameIndex := 444, descriptorIndex := 404, attributes := #[] }, { accessFlags := 25, nameIndex := 446, descriptorIndex := 404, attributes := #[] }, { accessFlags := 25, nameIndex := 448, descriptorIndex := 404, attributes := #[] }, { accessFlags := 25, nameIndex := 450, descriptorIndex := 404, attributes := #[] }, { accessFlags := 25, nameIndex := 452, descriptorIndex := 404, attributes := #[] }, { accessFlags := 25, nameIndex := 454, descriptorIndex := 404, attributes := #[] }, { accessFlags := 25, nameIndex := 456, descriptorIndex := 404, attributes := #[] }, { accessFlags := 25, nameIndex := 458, descriptorIndex := 404, attributes := #[] }, { accessFlags := 25, nameIndex := 460, descriptorIndex := 404, attributes := #[] }, { accessFlags := 24, nameIndex := 462, descriptorIndex := 392, attributes := #[] }, { accessFlags := 25, nameIndex := 464, descriptorIndex := 404, attributes := #[] }, { accessFlags := 25, nameIndex := 465, descriptorIndex := 404, attributes := #[] }, { accessFlags := 25, nameIndex := 466, descriptorIndex := 404, attributes := #[] }, { accessFlags := 25, nameIndex := 467, descriptorIndex := 404, attributes := #[] }, { accessFlags := 25, nameIndex := 468, descriptorIndex := 404, attributes := #[] }, { accessFlags := 25, nameIndex := 469, descriptorIndex := 404, attributes := #[] }, { accessFlags := 25, nameIndex := 470, descriptorIndex := 404, attributes := #[] }, { accessFlags := 25, nameIndex := 471, descriptorIndex := 404, attributes := #[] }, { accessFlags := 25, nameIndex := 472, descriptorIndex := 404, attributes := #[] }, { accessFlags := 25, nameIndex := 473, descriptorIndex := 404, attributes := #[] }, { accessFlags := 25, nameIndex := 474, descriptorIndex := 404, attributes := #[] }, { accessFlags := 25, nameIndex := 475, descriptorIndex := 404, attributes := #[] }, { accessFlags := 25, nameIndex := 476, descriptorIndex := 404, attributes := #[] }, { accessFlags := 25, nameIndex := 477, descriptorIndex := 404, attributes := #[] }, { accessFlags := 25, nameIndex := 478, descriptorIndex := 404, attributes := #[] }, { accessFlags := 25, nameIndex := 479, descriptorIndex := 404, attributes := #[] }, { accessFlags := 25, nameIndex := 480, descriptorIndex := 404, attributes := #[] }, { accessFlags := 25, nameIndex := 481, descriptorIndex := 404, attributes := #[] }, { accessFlags := 25, nameIndex := 482, descriptorIndex := 404, attributes := #[] }, { accessFlags := 25, nameIndex := 484, descriptorIndex := 404, attributes := #[] }, { accessFlags := 25, nameIndex := 485, descriptorIndex := 404, attributes := #[] }, { accessFlags := 25, nameIndex := 486, descriptorIndex := 404, attributes := #[] }, { accessFlags := 25, nameIndex := 487, descriptorIndex := 404, attributes := #[] }, { accessFlags := 25, nameIndex := 488, descriptorIndex := 404, attributes := #[] }, { accessFlags := 25, nameIndex := 489, descriptorIndex := 22, attributes := #[] }, { accessFlags := 25, nameIndex := 490, descriptorIndex := 22, attributes := #[] }, { accessFlags := 25, nameIndex := 492, descriptorIndex := 22, attributes := #[] }, { accessFlags := 25, nameIndex := 493, descriptorIndex := 22, attributes := #[] }, { accessFlags := 25, nameIndex := 495, descriptorIndex := 22, attributes := #[] }, { accessFlags := 25, nameIndex := 496, descriptorIndex := 22, attributes := #[] }, { accessFlags := 25, nameIndex := 497, descriptorIndex := 392, attributes := #[] }, { accessFlags := 25, nameIndex := 498, descriptorIndex := 392, attributes := #[] }, { accessFlags := 25, nameIndex := 499, descriptorIndex := 392, attributes := #[] }, { accessFlags := 18, nameIndex := 21, descriptorIndex := 22, attributes := #[] }, { accessFlags := 26, nameIndex := 501, descriptorIndex := 502, attributes := #[] }, { accessFlags := 25, nameIndex := 505, descriptorIndex := 392, attributes := #[] }, { accessFlags := 25, nameIndex := 506, descriptorIndex := 392, attributes := #[] }, { accessFlags := 4120, nameIndex := 284, descriptorIndex := 285, attributes := #[] }])
  fields := #[{ name := "MIN_RADIX", type := .int, accessFlags := 25, slot := 0, constantValue := 0 }, { name := "MAX_RADIX", type := .int, accessFlags := 25, slot := 1, constantValue := 0 }, { name := "MIN_VALUE", type := .char, accessFlags := 25, slot := 2, constantValue := 0 }, { name := "MAX_VALUE", type := .char, accessFlags := 25, slot := 3, constantValue := 0 }, { name := "TYPE", type := (.object "java/lang/Class"), accessFlags := 25, slot := 4, constantValue := 0 }, { name := "UNASSIGNED", type := .byte, accessFlags := 25, slot := 5, constantValue := 0 }, { name := "UPPERCASE_LETTER", type := .byte, accessFlags := 25, slot := 6, constantValue := 0 }, { name := "LOWERCASE_LETTER", type := .byte, accessFlags := 25, slot := 7, constantValue := 0 }, { name := "TITLECASE_LETTER", type := .byte, accessFlags := 25, slot := 8, constantValue := 0 }, { name := "MODIFIER_LETTER", type := .byte, accessFlags := 25, slot := 9, constantValue := 0 }, { name := "OTHER_LETTER", type := .byte, accessFlags := 25, slot := 10, constantValue := 0 }, { name := "NON_SPACING_MARK", type := .byte, accessFlags := 25, slot := 11, constantValue := 0 }, { name := "ENCLOSING_MARK", type := .byte, accessFlags := 25, slot := 12, constantValue := 0 }, { name := "COMBINING_SPACING_MARK", type := .byte, accessFlags := 25, slot := 13, constantValue := 0 }, { name := "DECIMAL_DIGIT_NUMBER", type := .byte, accessFlags := 25, slot := 14, constantValue := 0 }, { name := "LETTER_NUMBER", type := .byte, accessFlags := 25, slot := 15, constantValue := 0 }, { name := "OTHER_NUMBER", type := .byte, accessFlags := 25, slot := 16, constantValue := 0 }, { name := "SPACE_SEPARATOR", type := .byte, accessFlags := 25, slot := 17, constantValue := 0 }, { name := "LINE_SEPARATOR", type := .byte, accessFlags := 25, slot := 18, constantValue := 0 }, { name := "PARAGRAPH_SEPARATOR", type := .byte, accessFlags := 25, slot := 19, constantValue := 0 }, { name := "CONTROL", type := .byte, accessFlags := 25, slot := 20, constantValue := 0 }, { name := "FORMAT", type := .byte, accessFlags := 25, slot := 21, constantValue := 0 }, { name := "PRIVATE_USE", type := .byte, accessFlags := 25, slot := 22, constantValue := 0 }, { name := "SURROGATE", type := .byte, accessFlags := 25, slot := 23, constantValue := 0 }, { name := "DASH_PUNCTUATION", type := .byte, accessFlags := 25, slot := 24, constantValue := 0 }, { name := "START_PUNCTUATION", type := .byte, accessFlags := 25, slot := 25, constantValue := 0 }, { name := "END_PUNCTUATION", type := .byte, accessFlags := 25, slot := 26, constantValue := 0 }, { name := "CONNECTOR_PUNCTUATION", type := .byte, accessFlags := 25, slot := 27, constantValue := 0 }, { name := "OTHER_PUNCTUATION", type := .byte, accessFlags := 25, slot := 28, constantValue := 0 }, { name := "MATH_SYMBOL", type := .byte, accessFlags := 25, slot := 29, constantValue := 0 }, { name := "CURRENCY_SYMBOL", type := .byte, accessFlags := 25, slot := 30, constantValue := 0 }, { name := "MODIFIER_SYMBOL", type := .byte, accessFlags := 25, slot := 31, constantValue := 0 }, { name := "OTHER_SYMBOL", type := .byte, accessFlags := 25, slot := 32, constantValue := 0 }, { name := "INITIAL_QUOTE_PUNCTUATION", type := .byte, accessFlags := 25, slot := 33, constantValue := 0 }, { name := "FINAL_QUOTE_PUNCTUATION", type := .byte, accessFlags := 25, slot := 34, constantValue := 0 }, { name := "ERROR", type := .int, accessFlags := 24, slot := 35, constantValue := 0 }, { name := "DIRECTIONALITY_UNDEFINED", type := .byte, accessFlags := 25, slot := 36, constantValue := 0 }, { name := "DIRECTIONALITY_LEFT_TO_RIGHT", type := .byte, accessFlags := 25, slot := 37, constantValue := 0 }, { name := "DIRECTIONALITY_RIGHT_TO_LEFT", type := .byte, accessFlags := 25, slot := 38, constantValue := 0 }, { name := "DIRECTIONALITY_RIGHT_TO_LEFT_ARABIC", type := .byte, accessFlags := 25, slot := 39, constantValue := 0 }, { name := "DIRECTIONALITY_EUROPEAN_NUMBER", type := .byte, accessFlags := 25, slot := 40, constantValue := 0 }, { name := "DIRECTIONALITY_EUROPEAN_NUMBER_SEPARATOR", type := .byte, accessFlags := 25, slot := 41, constantValue := 0 }, { name := "DIRECTIONALITY_EUROPEAN_NUMBER_TERMINATOR", type := .byte, accessFlags := 25, slot := 42, constantValue := 0 }, { name := "DIRECTIONALITY_ARABIC_NUMBER", type := .byte, accessFlags := 25, slot := 43, constantValue := 0 }, { name := "DIRECTIONALITY_COMMON_NUMBER_SEPARATOR", type := .byte, accessFlags := 25, slot := 44, constantValue := 0 }, { name := "DIRECTIONALITY_NONSPACING_MARK", type := .byte, accessFlags := 25, slot := 45, constantValue := 0 }, { name := "DIRECTIONALITY_BOUNDARY_NEUTRAL", type := .byte, accessFlags := 25, slot := 46, constantValue := 0 }, { name := "DIRECTIONALITY_PARAGRAPH_SEPARATOR", type := .byte, accessFlags := 25, slot := 47, constantValue := 0 }, { name := "DIRECTIONALITY_SEGMENT_SEPARATOR", type := .byte, accessFlags := 25, slot := 48, constantValue := 0 }, { name := "DIRECTIONALITY_WHITESPACE", type := .byte, accessFlags := 25, slot := 49, constantValue := 0 }, { name := "DIRECTIONALITY_OTHER_NEUTRALS", type := .byte, accessFlags := 25, slot := 50, constantValue := 0 }, { name := "DIRECTIONALITY_LEFT_TO_RIGHT_EMBEDDING", type := .byte, accessFlags := 25, slot := 51, constantValue := 0 }, { name := "DIRECTIONALITY_LEFT_TO_RIGHT_OVERRIDE", type := .byte, accessFlags := 25, slot := 52, constantValue := 0 }, { name := "DIRECTIONALITY_RIGHT_TO_LEFT_EMBEDDING", type := .byte, accessFlags := 25, slot := 53, constantValue := 0 }, { name := "DIRECTIONALITY_RIGHT_TO_LEFT_OVERRIDE", type := .byte, accessFlags := 25, slot := 54, constantValue := 0 }, { name := "DIRECTIONALITY_POP_DIRECTIONAL_FORMAT", type := .byte, accessFlags := 25, slot := 55, constantValue := 0 }, { name := "DIRECTIONALITY_LEFT_TO_RIGHT_ISOLATE", type := .byte, accessFlags := 25, slot := 56, constantValue := 0 }, { name := "DIRECTIONALITY_RIGHT_TO_LEFT_ISOLATE", type := .byte, accessFlags := 25, slot := 57, constantValue := 0 }, { name := "DIRECTIONALITY_FIRST_STRONG_ISOLATE", type := .byte, accessFlags := 25, slot := 58, constantValue := 0 }, { name := "DIRECTIONALITY_POP_DIRECTIONAL_ISOLATE", type := .byte, accessFlags := 25, slot := 59, constantValue := 0 }, { name := "MIN_HIGH_SURROGATE", type := .char, accessFlags := 25, slot := 60, constantValue := 0 }, { name := "MAX_HIGH_SURROGATE", type := .char, accessFlags := 25, slot := 61, constantValue := 0 }, { name := "MIN_LOW_SURROGATE", type := .char, accessFlags := 25, slot := 62, constantValue := 0 }, { name := "MAX_LOW_SURROGATE", type := .char, accessFlags := 25, slot := 63, constantValue := 0 }, { name := "MIN_SURROGATE", type := .char, accessFlags := 25, slot := 64, constantValue := 0 }, { name := "MAX_SURROGATE", type := .char, accessFlags := 25, slot := 65, constantValue := 0 }, { name := "MIN_SUPPLEMENTARY_CODE_POINT", type := .int, accessFlags := 25, slot := 66, constantValue := 0 }, { name := "MIN_CODE_POINT", type := .int, accessFlags := 25, slot := 67, constantValue := 0 }, { name := "MAX_CODE_POINT", type := .int, accessFlags := 25, slot := 68, constantValue := 0 }, { name := "value", type := .char, accessFlags := 18, slot := 0, constantValue := 0 }, { name := "serialVersionUID", type := .long, accessFlags := 26, slot := 69, constantValue := 0 }, { name := "SIZE", type := .int, accessFlags := 25, slot := 70, constantValue := 0 }, { name := "BYTES", type := .int, accessFlags := 25, slot := 71, constantValue := 0 }, { name := "$assertionsDisabled", type := .boolean, accessFlags := 4120, slot := 72, constantValue := 0 }]
  methods := #[k12m0, k12m1, k12m2, k12m3]
  instanceTypes := #[.char]
  staticTypes := #[.int, .int, .char, .char, (.object "java/lang/Class"), .byte, .byte, .byte, .byte, .byte, .byte, .byte, .byte, .byte, .byte, .byte, .byte, .byte, .byte, .byte, .byte, .byte, .byte, .byte, .byte, .byte, .byte, .byte, .byte, .byte, .byte, .byte, .byte, .byte, .byte, .int, .byte, .byte, .byte, .byte, .byte, .byte, .byte, .byte, .byte, .byte, .byte, .byte, .byte, .byte, .byte, .byte, .byte, .byte, .byte, .byte, .byte, .byte, .byte, .byte, .char, .char, .char, .char, .char, .char, .int, .int, .int, .long, .int, .int, .boolean]
  resolved := Array.replicate 604 none
  statics := none }

def pool13 : Array CpInfo := pool [(1, .class_ 2), (0, u "java/lang/String"), (1, .class_ 6), (1, u "java/lang/Object"), (0, u "<init>"), (0, u "()V"), (0, .methodref 1 10), (0, .nameAndType 11 12), (0, u "checkIndex"), (0, u "(II)V"), (1, .class_ 16), (1, u "java/lang/StringLatin1"), (36, u "([BI)C"), (58, .methodref 1 113), (0, .nameAndType 7 114), (0, u "([BB)V"), (6, u "$assertionsDisabled"), (0, u "Z"), (8, .class_ 133), (1, u "java/util/Arrays"), (17, .string 152), (0, u ""), (43, u "newString"), (0, u "([BII)Ljava/lang/String;"), (23, .class_ 223), (1, u "java/lang/StringLatin1$LinesSpliterator"), (8, .methodref 131 233), (0, .nameAndType 234 235), (0, u "copyOfRange"), (0, u "([BII)[B"), (16, u "charAt"), (137, .class_ 391), (0, u "java/lang/StringLatin1$CharsSpliterator")] 3

def k13m0 : Method := { name := "<init>", desc := "()V", sig := { parameters := [], returnType := none }, accessFlags := 0, code := none }
def k13c1 : Code := { maxStack := 2, maxLocals := 2, code := jdk_43_method_2_code, exceptionTable := #[], attributes := #[] }
def k13m1 : Method := { name := "charAt", desc := "([BI)C", sig := { parameters := [(.array .byte), .int], returnType := some .char }, accessFlags := 9, code := some k13c1 }
def k13c2 : Code := { maxStack := 6, maxLocals := 3, code := jdk_43_method_47_code, exceptionTable := #[], attributes := #[] }
def k13m2 : Method := { name := "newString", desc := "([BII)Ljava/lang/String;", sig := { parameters := [(.array .byte), .int, .int], returnType := some (.object "java/lang/String") }, accessFlags := 9, code := some k13c2 }
/-- java/lang/StringLatin1 -/
def k13 : Class := { plain "java/lang/StringLatin1" (some 0) with
  accessFlags := 48
  interfaces := #[]
  cf := some (fileOf pool13 14 #[.nestMembers #[390, 221]] #[{ accessFlags := 0, nameIndex := 7, descriptorIndex := 8, attributes := #[] }, { accessFlags := 9, nameIndex := 252, descriptorIndex := 53, attributes := #[] }, { accessFlags := 9, nameIndex := 196, descriptorIndex := 197, attributes := #[] }] 48 4 #[] #[{ accessFlags := 4120, nameIndex := 121, descriptorIndex := 122, attributes := #[] }])
  fields := #[{ name := "$assertionsDisabled", type := .boolean, accessFlags := 4120, slot := 0, constantValue := 0 }]
  methods := #[k13m0, k13m1, k13m2]
  instanceTypes := #[]
  staticTypes := #[.boolean]
  resolved := Array.replicate 395 none
  statics := none }

def pool14 : Array CpInfo := pool [(2, .class_ 4), (1, u "java/lang/Object"), (0, u "<init>"), (0, u "()V"), (7, .class_ 16), (1, u "java/util/Arrays"), (57, .class_ 76), (1, u "java/util/Arrays$NaturalOrder"), (36, .class_ 115), (1, u "java/util/Arrays$LegacyMergeSort"), (1, u "Z"), (21, u "copyOfRange"), (10, .methodref 151 152), (0, .class_ 153), (0, .nameAndType 154 155), (0, u "java/lang/System"), (0, u "arraycopy"), (0, u "(Ljava/lang/Object;ILjava/lang/Object;II)V"), (148, .methodref 305 306), (0, .class_ 307), (0, .nameAndType 308 309), (0, u "java/lang/Math"), (0, u "min"), (0, u "(II)I"), (29, .methodref 14 340), (0, .nameAndType 341 342), (0, u "copyOfRangeByte"), (0, u "([BII)[B"), (0, .methodref 14 344), (0, .nameAndType 345 346), (0, u "checkLength"), (0, u "(II)V"), (28, .class_ 376), (0, u "java/util/Arrays$ArrayList"), (68, u "$assertionsDisabled"), (269, u "MIN_ARRAY_SORT_GRAN"), (0, u "I"), (2, u "INSERTIONSORT_THRESHOLD"), (255, .class_ 976), (0, u "java/util/Arrays$ArrayItr")] 52

def k14m0 : Method := { name := "<init>", desc := "()V", sig := { parameters := [], returnType := none }, accessFlags := 2, code := none }
def k14c1 : Code := { maxStack := 4, maxLocals := 2, code := jdk_65_method_131_code, exceptionTable := #[], attributes := #[] }
def k14m1 : Method := { name := "checkLength", desc := "(II)V", sig := { parameters := [.int, .int], returnType := none }, accessFlags := 10, code := some k14c1 }
def k14c2 : Code := { maxStack := 3, maxLocals := 3, code := jdk_65_method_132_code, exceptionTable := #[], attributes := #[] }
def k14m2 : Method := { name := "copyOfRange", desc := "([BII)[B", sig := { parameters := [(.array .byte), .int, .int], returnType := some (.array .byte) }, accessFlags := 9, code := some k14c2 }
def k14c3 : Code := { maxStack := 6, maxLocals := 5, code := jdk_65_method_133_code, exceptionTable := #[], attributes := #[] }
def k14m3 : Method := { name := "copyOfRangeByte", desc := "([BII)[B", sig := { parameters := [(.array .byte), .int, .int], returnType := some (.array .byte) }, accessFlags := 10, code := some k14c3 }
/-- java/util/Arrays -/
def k14 : Class := { plain "java/util/Arrays" (some 0) with
  accessFlags := 49
  interfaces := #[]
  cf := some (fileOf pool14 14 #[.nestMembers #[975, 375, 113, 74]] #[{ accessFlags := 2, nameIndex := 5, descriptorIndex := 6, attributes := #[] }, { accessFlags := 10, nameIndex := 345, descriptorIndex := 346, attributes := #[] }, { accessFlags := 9, nameIndex := 139, descriptorIndex := 342, attributes := #[] }, { accessFlags := 10, nameIndex := 341, descriptorIndex := 342, attributes := #[] }] 49 2 #[] #[{ accessFlags := 26, nameIndex := 715, descriptorIndex := 716, attributes := #[] }, { accessFlags := 26, nameIndex := 719, descriptorIndex := 716, attributes := #[] }, { accessFlags := 4120, nameIndex := 445, descriptorIndex := 117, attributes := #[] }])
  fields := #[{ name := "MIN_ARRAY_SORT_GRAN", type := .int, accessFlags := 26, slot := 0, constantValue := 0 }, { name := "INSERTIONSORT_THRESHOLD", type := .int, accessFlags := 26, slot := 1, constantValue := 0 }, { name := "$assertionsDisabled", type := .boolean, accessFlags := 4120, slot := 2, constantValue := 0 }]
  methods := #[k14m0, k14m1, k14m2, k14m3]
  instanceTypes := #[]
  staticTypes := #[.int, .int, .boolean]
  resolved := Array.replicate 1029 none
  statics := none }

def pool15 : Array CpInfo := pool [(1, .class_ 2), (0, u "java/lang/Math"), (1, .class_ 6), (1, u "java/lang/Object"), (0, u "<init>"), (0, u "()V"), (89, .class_ 100), (1, u "java/lang/Math$RandomNumberGeneratorHolder"), (71, u "negativeZeroFloatBits"), (0, u "J"), (2, u "negativeZeroDoubleBits"), (24, u "min"), (43, u "$assertionsDisabled"), (0, u "Z"), (88, u "(II)I"), (2, u "twoToTheDoubleScaleDown"), (0, u "D"), (4, u "twoToTheDoubleScaleUp"), (9, u "E"), (3, u "PI"), (2, u "TAU"), (2, u "DEGREES_TO_RADIANS"), (0, u "RADIANS_TO_DEGREES")] 94

def k15m0 : Method := { name := "<init>", desc := "()V", sig := { parameters := [], returnType := none }, accessFlags := 2, code := none }
def k15c1 : Code := { maxStack := 2, maxLocals := 2, code := jdk_29_method_69_code, exceptionTable := #[], attributes := #[] }
def k15m1 : Method := { name := "min", desc := "(II)I", sig := { parameters := [.int, .int], returnType := some .int }, accessFlags := 9, code := some k15c1 }
/-- java/lang/Math -/
def k15 : Class := { plain "java/lang/Math" (some 0) with
  accessFlags := 49
  interfaces := #[]
  cf := some (fileOf pool15 1 #[.nestMembers #[98]] #[{ accessFlags := 2, nameIndex := 7, descriptorIndex := 8, attributes := #[] }, { accessFlags := 9, nameIndex := 201, descriptorIndex := 335, attributes := #[] }] 49 4 #[] #[{ accessFlags := 25, nameIndex := 354, descriptorIndex := 339, attributes := #[] }, { accessFlags := 25, nameIndex := 358, descriptorIndex := 339, attributes := #[] }, { accessFlags := 25, nameIndex := 361, descriptorIndex := 339, attributes := #[] }, { accessFlags := 26, nameIndex := 364, descriptorIndex := 339, attributes := #[] }, { accessFlags := 26, nameIndex := 365, descriptorIndex := 339, attributes := #[] }, { accessFlags := 26, nameIndex := 172, descriptorIndex := 173, attributes := #[] }, { accessFlags := 26, nameIndex := 176, descriptorIndex := 173, attributes := #[] }, { accessFlags := 8, nameIndex := 344, descriptorIndex := 339, attributes := #[] }, { accessFlags := 8, nameIndex := 338, descriptorIndex := 339, attributes := #[] }, { accessFlags := 4120, nameIndex := 245, descriptorIndex := 246, attributes := #[] }])
  fields := #[{ name := "E", type := .double, accessFlags := 25, slot := 0, constantValue := 0 }, { name := "PI", type := .double, accessFlags := 25, slot := 1, constantValue := 0 }, { name := "TAU", type := .double, accessFlags := 25, slot := 2, constantValue := 0 }, { name := "DEGREES_TO_RADIANS", type := .double, accessFlags := 26, slot := 3, constantValue := 0 }, { name := "RADIANS_TO_DEGREES", type := .double, accessFlags := 26, slot := 4, constantValue := 0 }, { name := "negativeZeroFloatBits", type := .long, accessFlags := 26, slot := 5, constantValue := 0 }, { name := "negativeZeroDoubleBits", type := .long, accessFlags := 26, slot := 6, constantValue := 0 }, { name := "twoToTheDoubleScaleUp", type := .double, accessFlags := 8, slot := 7, constantValue := 0 }, { name := "twoToTheDoubleScaleDown", type := .double, accessFlags := 8, slot := 8, constantValue := 0 }, { name := "$assertionsDisabled", type := .boolean, accessFlags := 4120, slot := 9, constantValue := 0 }]
  methods := #[k15m0, k15m1]
  instanceTypes := #[]
  staticTypes := #[.double, .double, .double, .double, .double, .long, .long, .double, .double, .boolean]
  resolved := Array.replicate 460 none
  statics := none }

def pool16 : Array CpInfo := pool [(2, .class_ 4), (1, u "java/lang/Object"), (0, u "<init>"), (0, u "()V"), (1, .class_ 10), (1, u "java/lang/System"), (0, u "allowSecurityManager"), (0, u "I"), (16, u "cons"), (0, u "Ljava/io/Console;"), (77, .class_ 110), (1, u "java/lang/System$CallersHolder"), (43, u "initialErrStream"), (0, u "Ljava/io/PrintStream;"), (19, u "security"), (0, u "Ljava/lang/SecurityManager;"), (31, .class_ 209), (0, u "java/lang/System$1"), (7, u "props"), (0, u "Ljava/util/Properties;"), (2, u "lineSeparator"), (0, u "Ljava/lang/String;"), (96, .class_ 321), (1, u "java/lang/System$LoggerFinder"), (5, .class_ 328), (0, u "java/lang/System$Logger"), (67, u "err"), (2, u "out"), (91, u "notSupportedJnuEncoding"), (15, u "in"), (17, u "initialIn"), (0, u "Ljava/io/InputStream;"), (35, u "bootLayer"), (0, u "Ljava/lang/ModuleLayer;"), (99, .class_ 664), (0, u "java/lang/System$2"), (9, u "NEVER"), (2, u "MAYBE"), (49, u "arraycopy"), (0, u "(Ljava/lang/Object;ILjava/lang/Object;II)V"), (72, .class_ 802), (0, u "java/lang/System$Logger$Level")] 31

def k16m0 : Method := { name := "<init>", desc := "()V", sig := { parameters := [], returnType := none }, accessFlags := 2, code := none }
def k16m1 : Method := { name := "arraycopy", desc := "(Ljava/lang/Object;ILjava/lang/Object;II)V", sig := { parameters := [(.object "java/lang/Object"), .int, (.object "java/lang/Object"), .int, .int], returnType := none }, accessFlags := 265, code := none }
/-- java/lang/System -/
def k16 : Class := { plain "java/lang/System" (some 0) with
  accessFlags := 49
  interfaces := #[]
  cf := some (fileOf pool16 8 #[.nestMembers #[319, 327, 801, 108, 663, 208]] #[{ accessFlags := 2, nameIndex := 5, descriptorIndex := 6, attributes := #[] }, { accessFlags := 265, nameIndex := 727, descriptorIndex := 728, attributes := #[] }] 49 2 #[] #[{ accessFlags := 25, nameIndex := 507, descriptorIndex := 526, attributes := #[] }, { accessFlags := 25, nameIndex := 399, descriptorIndex := 155, attributes := #[] }, { accessFlags := 25, nameIndex := 396, descriptorIndex := 155, attributes := #[] }, { accessFlags := 10, nameIndex := 525, descriptorIndex := 526, attributes := #[] }, { accessFlags := 26, nameIndex := 674, descriptorIndex := 12, attributes := #[] }, { accessFlags := 26, nameIndex := 677, descriptorIndex := 12, attributes := #[] }, { accessFlags := 10, nameIndex := 11, descriptorIndex := 12, attributes := #[] }, { accessFlags := 74, nameIndex := 175, descriptorIndex := 176, attributes := #[] }, { accessFlags := 10, nameIndex := 491, descriptorIndex := 222, attributes := #[] }, { accessFlags := 74, nameIndex := 29, descriptorIndex := 30, attributes := #[] }, { accessFlags := 74, nameIndex := 154, descriptorIndex := 155, attributes := #[] }, { accessFlags := 10, nameIndex := 217, descriptorIndex := 218, attributes := #[] }, { accessFlags := 10, nameIndex := 221, descriptorIndex := 222, attributes := #[] }, { accessFlags := 8, nameIndex := 562, descriptorIndex := 563, attributes := #[] }])
  fields := #[{ name := "in", type := (.object "java/io/InputStream"), accessFlags := 25, slot := 0, constantValue := 0 }, { name := "out", type := (.object "java/io/PrintStream"), accessFlags := 25, slot := 1, constantValue := 0 }, { name := "err", type := (.object "java/io/PrintStream"), accessFlags := 25, slot := 2, constantValue := 0 }, { name := "initialIn", type := (.object "java/io/InputStream"), accessFlags := 10, slot := 3, constantValue := 0 }, { name := "NEVER", type := .int, accessFlags := 26, slot := 4, constantValue := 0 }, { name := "MAYBE", type := .int, accessFlags := 26, slot := 5, constantValue := 0 }, { name := "allowSecurityManager", type := .int, accessFlags := 10, slot := 6, constantValue := 0 }, { name := "security", type := (.object "java/lang/SecurityManager"), accessFlags := 74, slot := 7, constantValue := 0 }, { name := "notSupportedJnuEncoding", type := (.object "java/lang/String"), accessFlags := 10, slot := 8, constantValue := 0 }, { name := "cons", type := (.object "java/io/Console"), accessFlags := 74, slot := 9, constantValue := 0 }, { name := "initialErrStream", type := (.object "java/io/PrintStream"), accessFlags := 74, slot := 10, constantValue := 0 }, { name := "props", type := (.object "java/util/Properties"), accessFlags := 10, slot := 11, constantValue := 0 }, { name := "lineSeparator", type := (.object "java/lang/String"), accessFlags := 10, slot := 12, constantValue := 0 }, { name := "bootLayer", type := (.object "java/lang/ModuleLayer"), accessFlags := 8, slot := 13, constantValue := 0 }]
  methods := #[k16m0, k16m1]
  instanceTypes := #[]
  staticTypes := #[(.object "java/io/InputStream"), (.object "java/io/PrintStream"), (.object "java/io/PrintStream"), (.object "java/io/InputStream"), .int, .int, .int, (.object "java/lang/SecurityManager"), (.object "java/lang/String"), (.object "java/io/Console"), (.object "java/io/PrintStream"), (.object "java/util/Properties"), (.object "java/lang/String"), (.object "java/lang/ModuleLayer")]
  resolved := Array.replicate 834 none
  statics := none }

def pool17 : Array CpInfo := pool [(9, u "<init>"), (6, .class_ 18), (1, u "java/lang/Object"), (0, u "()V"), (1, .class_ 23), (1, u "jdk/internal/util/ArraysSupport"), (0, u "LOG2_ARRAY_LONG_INDEX_SCALE"), (0, u "I"), (2, u "U"), (0, u "Ljdk/internal/misc/Unsafe;"), (8, u "BIG_ENDIAN"), (0, u "Z"), (8, u "LOG2_BYTE_BIT_SIZE"), (4, u "LOG2_ARRAY_INT_INDEX_SCALE"), (54, u "JLA"), (0, u "Ljdk/internal/access/JavaLangAccess;"), (11, u "LOG2_ARRAY_BOOLEAN_INDEX_SCALE"), (9, u "LOG2_ARRAY_BYTE_INDEX_SCALE"), (5, u "LOG2_ARRAY_CHAR_INDEX_SCALE"), (5, u "LOG2_ARRAY_SHORT_INDEX_SCALE"), (18, u "LOG2_ARRAY_FLOAT_INDEX_SCALE"), (24, u "LOG2_ARRAY_DOUBLE_INDEX_SCALE"), (89, u "T_BOOLEAN"), (2, u "T_CHAR"), (1, u "T_FLOAT"), (1, u "T_DOUBLE"), (1, u "T_BYTE"), (1, u "T_SHORT"), (1, u "T_INT"), (1, u "T_LONG"), (1, u "SOFT_MAX_ARRAY_LENGTH")] 83

def k17m0 : Method := { name := "<init>", desc := "()V", sig := { parameters := [], returnType := none }, accessFlags := 2, code := none }
/-- jdk/internal/util/ArraysSupport -/
def k17 : Class := { plain "jdk/internal/util/ArraysSupport" (some 0) with
  accessFlags := 33
  interfaces := #[]
  cf := some (fileOf pool17 21 #[] #[{ accessFlags := 2, nameIndex := 9, descriptorIndex := 19, attributes := #[] }] 33 16 #[] #[{ accessFlags := 24, nameIndex := 28, descriptorIndex := 29, attributes := #[] }, { accessFlags := 26, nameIndex := 38, descriptorIndex := 39, attributes := #[] }, { accessFlags := 25, nameIndex := 121, descriptorIndex := 25, attributes := #[] }, { accessFlags := 25, nameIndex := 131, descriptorIndex := 25, attributes := #[] }, { accessFlags := 25, nameIndex := 137, descriptorIndex := 25, attributes := #[] }, { accessFlags := 25, nameIndex := 143, descriptorIndex := 25, attributes := #[] }, { accessFlags := 25, nameIndex := 53, descriptorIndex := 25, attributes := #[] }, { accessFlags := 25, nameIndex := 24, descriptorIndex := 25, attributes := #[] }, { accessFlags := 25, nameIndex := 162, descriptorIndex := 25, attributes := #[] }, { accessFlags := 25, nameIndex := 187, descriptorIndex := 25, attributes := #[] }, { accessFlags := 26, nameIndex := 48, descriptorIndex := 25, attributes := #[] }, { accessFlags := 25, nameIndex := 277, descriptorIndex := 25, attributes := #[] }, { accessFlags := 25, nameIndex := 280, descriptorIndex := 25, attributes := #[] }, { accessFlags := 25, nameIndex := 282, descriptorIndex := 25, attributes := #[] }, { accessFlags := 25, nameIndex := 284, descriptorIndex := 25, attributes := #[] }, { accessFlags := 25, nameIndex := 286, descriptorIndex := 25, attributes := #[] }, { accessFlags := 25, nameIndex := 288, descriptorIndex := 25, attributes := #[] }, { accessFlags := 25, nameIndex := 290, descriptorIndex := 25, attributes := #[] }, { accessFlags := 25, nameIndex := 292, descriptorIndex := 25, attributes := #[] }, { accessFlags := 26, nameIndex := 108, descriptorIndex := 109, attributes := #[] }, { accessFlags := 25, nameIndex := 294, descriptorIndex := 25, attributes := #[] }])
  fields := #[{ name := "U", type := (.object "jdk/internal/misc/Unsafe"), accessFlags := 24, slot := 0, constantValue := 0 }, { name := "BIG_ENDIAN", type := .boolean, accessFlags := 26, slot := 1, constantValue := 0 }, { name := "LOG2_ARRAY_BOOLEAN_INDEX_SCALE", type := .int, accessFlags := 25, slot := 2, constantValue := 0 }, { name := "LOG2_ARRAY_BYTE_INDEX_SCALE", type := .int, accessFlags := 25, slot := 3, constantValue := 0 }, { name := "LOG2_ARRAY_CHAR_INDEX_SCALE", type := .int, accessFlags := 25, slot := 4, constantValue := 0 }, { name := "LOG2_ARRAY_SHORT_INDEX_SCALE", type := .int, accessFlags := 25, slot := 5, constantValue := 0 }, { name := "LOG2_ARRAY_INT_INDEX_SCALE", type := .int, accessFlags := 25, slot := 6, constantValue := 0 }, { name := "LOG2_ARRAY_LONG_INDEX_SCALE", type := .int, accessFlags := 25, slot := 7, constantValue := 0 }, { name := "LOG2_ARRAY_FLOAT_INDEX_SCALE", type := .int, accessFlags := 25, slot := 8, constantValue := 0 }, { name := "LOG2_ARRAY_DOUBLE_INDEX_SCALE", type := .int, accessFlags := 25, slot := 9, constantValue := 0 }, { name := "LOG2_BYTE_BIT_SIZE", type := .int, accessFlags := 26, slot := 10, constantValue := 0 }, { name := "T_BOOLEAN", type := .int, accessFlags := 25, slot := 11, constantValue := 0 }, { name := "T_CHAR", type := .int, accessFlags := 25, slot := 12, constantValue := 0 }, { name := "T_FLOAT", type := .int, accessFlags := 25, slot := 13, constantValue := 0 }, { name := "T_DOUBLE", type := .int, accessFlags := 25, slot := 14, constantValue := 0 }, { name := "T_BYTE", type := .int, accessFlags := 25, slot := 15, constantValue := 0 }, { name := "T_SHORT", type := .int, accessFlags := 25, slot := 16, constantValue := 0 }, { name := "T_INT", type := .int, accessFlags := 25, slot := 17, constantValue := 0 }, { name := "T_LONG", type := .int, accessFlags := 25, slot := 18, constantValue := 0 }, { name := "JLA", type := (.object "jdk/internal/access/JavaLangAccess"), accessFlags := 26, slot := 19, constantValue := 0 }, { name := "SOFT_MAX_ARRAY_LENGTH", type := .int, accessFlags := 25, slot := 20, constantValue := 0 }]
  methods := #[k17m0]
  instanceTypes := #[]
  staticTypes := #[(.object "jdk/internal/misc/Unsafe"), .boolean, .int, .int, .int, .int, .int, .int, .int, .int, .int, .int, .int, .int, .int, .int, .int, .int, .int, (.object "jdk/internal/access/JavaLangAccess"), .int]
  resolved := Array.replicate 378 none
  statics := none }

def pool18 : Array CpInfo := pool [(1, u "java/lang/Cloneable"), (0, .class_ 1), (0, u "java/lang/Object"), (0, .class_ 3)] 3

/-- java/lang/Cloneable -/
def k18 : Class := { plain "java/lang/Cloneable" (some 0) with
  accessFlags := 1537
  interfaces := #[]
  cf := some (fileOf pool18 2 #[] #[] 1537 4 #[] #[])
  fields := #[]
  methods := #[]
  instanceTypes := #[]
  staticTypes := #[]
  resolved := Array.replicate 8 none
  statics := none }

/-- the primitive byte -/
def k19 : Class := { plain "byte" none with kind := .primitive 'B', accessFlags := 0x411 }
/-- [B -/
def k20 : Class := { plain "[B" (some 0) with kind := .array 19 .byte, interfaces := #[18, 2], accessFlags := 1041 }

/-- the primitive char -/
def k21 : Class := { plain "char" none with kind := .primitive 'C', accessFlags := 0x411 }
/-- [C -/
def k22 : Class := { plain "[C" (some 0) with kind := .array 21 .char, interfaces := #[18, 2], accessFlags := 1041 }

/-- the primitive int -/
def k23 : Class := { plain "int" none with kind := .primitive 'I', accessFlags := 0x411 }
/-- [I -/
def k24 : Class := { plain "[I" (some 0) with kind := .array 23 .int, interfaces := #[18, 2], accessFlags := 1041 }

def heap : Heap := #[{ cls := 7, slots := #[.long 0, .int 1, .null, .int 0, .null, .int 0, .int 0], vm := .statics 7 },
  { cls := 10, slots := #[.null, .null, .null], vm := .statics 10 },
  { cls := 11, slots := #[.int 0, .int 8, .int 0, .int 1], vm := .statics 11 }]
def classes : Array Class := #[k0, k1, k2, k3, k4, k5, k6, k7, k8, k9, k10, k11, k12, k13, k14, k15, k16, k17, k18, k19, k20, k21, k22, k23, k24]
def interned : List (Array UInt16 × Addr) := []
def slotsUsed : Nat := 14
def theMethod : MethodId := ⟨1, 1⟩
def args0 : Array Value := #[.int 260, .int 1, .int 6, .int 7, .int 3, .int 4]
def aboutOver (below : List Frame) : State where
  vm := { classes := classes, interned := interned.toArray }
  heap := heap
  slotsUsed := slotsUsed
  threads := #[{ frames := .invoking theMethod args0 :: below }]
def below0 : List Frame := [.native { method := ⟨0, 0⟩, args := #[] }]
def about1 : State := aboutOver below0
def p0 : Program := .bare "" "" ""
def e0 : Env := launch0.env 0 0 0
theorem w_frames : about1.frames = Frame.invoking theMethod args0 :: below0 := rfl
set_option maxRecDepth 65536 in
theorem w_args : argsFit about1.vm theMethod args0 = true := by decide +kernel
set_option maxRecDepth 65536 in
theorem w_heap : heapFits about1 = true := by decide +kernel
set_option maxRecDepth 65536 in
theorem w_runnable : about1.curStatus? = some .runnable := by decide +kernel
set_option maxRecDepth 65536 in
theorem w_alone : about1.alone = true := by decide +kernel
set_option maxRecDepth 65536 in
theorem w_named : about1.methodNamed? x = some theMethod := by decide +kernel
set_option maxRecDepth 65536 in
theorem w_hears : about1.hears theMethod below0 = true := by decide +kernel
set_option maxRecDepth 65536 in
theorem w_ripe : about1.ripe theMethod args0 below0 = true := by decide +kernel
theorem w_running : about1.status = .running := rfl
set_option maxRecDepth 65536 in
theorem w_room : about1.hasRoom e0.platform room_1 = true :=
  launch0.hasRoom_least _ room_1 (by decide +kernel) (by decide +kernel) (by decide +kernel) (by decide +kernel) (by decide +kernel) (by decide +kernel)
theorem allAtoms_all (ts : List Jvm.Cond) (a : Array Jvm.Value) (st : Jvm.State) : (allAtoms ts).before a st = ts.all (fun c => c.before a st) := by
  induction ts with
  | nil => rfl
  | cons c t ih =>
    show (Jvm.Cond.and c (allAtoms t)).before a st = _
    rw [Jvm.Cond.before_and, ih, List.all_cons]
def words1 : List Jvm.Cond := Jvm.Cond.code x code maxLocals ret :: tables_1
/-- a 'code' word, met by the world's own term for the bytes: nothing is compared byte by byte -/
theorem code_word {y : MethodName} {bytes : ByteArray} {mx : Nat} {rt : Option FieldType} {a : Array Value} {s : State} {m : MethodId} {meth : Method} {c : Code} (h1 : s.methodNamed? y = some m) (h2 : s.vm.method? m = some meth) (h3 : meth.code = some c) (h4 : c.code = bytes)
    (h5 : (c.maxLocals == mx && c.exceptionTable.isEmpty && decide (c.maxStack ≤ mostOperands) && decide (meth.sig.returnType = rt) && !meth.locks && decide (parseMethodDescriptor y.desc = some meth.sig)) = true) : (Jvm.Cond.code y bytes mx rt).before a s = true := by
  simp only [Bool.and_eq_true, beq_iff_eq, Bool.not_eq_true', decide_eq_true_eq] at h5
  obtain ⟨⟨⟨⟨⟨g1, g2⟩, g3⟩, g4⟩, g5⟩, g6⟩ := h5
  simp [Cond.before, Cond.holds, Cond.value, h1, h2, h3, h4, g1, g2, g3, g4, g5, g6]
def isCode : Jvm.Cond → Bool
  | .code _ _ _ _ => true
  | _ => false
theorem all_split {L : List Jvm.Cond} {P : Jvm.Cond → Bool} (h1 : L.all (fun c => isCode c || P c) = true) (h2 : ∀ c ∈ L.filter isCode, P c = true) : L.all P = true := by
  refine List.all_eq_true.mpr fun c hc => ?_
  have h := List.all_eq_true.mp h1 c hc
  rcases Bool.eq_false_or_eq_true (isCode c) with hi | hi
  · exact h2 c (List.mem_filter.mpr ⟨hc, hi⟩)
  · simpa [hi] using h
set_option maxRecDepth 65536 in
theorem w_c0 : (Jvm.Cond.code x code maxLocals ret).before args0 about1 = true := code_word (m := ⟨1, 1⟩) (meth := k1m1) (c := k1c1) (by decide +kernel) rfl rfl rfl (by decide +kernel)
set_option maxRecDepth 65536 in
theorem w_c1 : (Jvm.Cond.code ({ cls := "java/lang/String", name := "<init>", desc := "([C)V" } : Jvm.MethodName) jdk_42_method_3_code (2 : Nat) (Option.none : Option Jvm.ClassFile.FieldType)).before args0 about1 = true := code_word (m := ⟨7, 1⟩) (meth := k7m1) (c := k7c1) (by decide +kernel) rfl rfl rfl (by decide +kernel)
set_option maxRecDepth 65536 in
theorem w_c2 : (Jvm.Cond.code ({ cls := "java/lang/String", name := "<init>", desc := "([CIILjava/lang/Void;)V" } : Jvm.MethodName) jdk_42_method_149_code (6 : Nat) (Option.none : Option Jvm.ClassFile.FieldType)).before args0 about1 = true := code_word (m := ⟨7, 6⟩) (meth := k7m6) (c := k7c6) (by decide +kernel) rfl rfl rfl (by decide +kernel)
set_option maxRecDepth 65536 in
theorem w_c3 : (Jvm.Cond.code ({ cls := "java/lang/Object", name := "<init>", desc := "()V" } : Jvm.MethodName) object_method_1_code (1 : Nat) (Option.none : Option Jvm.ClassFile.FieldType)).before args0 about1 = true := code_word (m := ⟨0, 0⟩) (meth := k0m0) (c := k0c0) (by decide +kernel) rfl rfl rfl (by decide +kernel)
set_option maxRecDepth 65536 in
theorem w_c4 : (Jvm.Cond.code ({ cls := "com/example/goneish/goneish/NameRuleCutToUtf8BytesPinLaw", name := "bytes", desc := "(I)I" } : Jvm.MethodName) method_4_code (1 : Nat) (Option.some Jvm.ClassFile.FieldType.int)).before args0 about1 = true := code_word (m := ⟨1, 3⟩) (meth := k1m3) (c := k1c3) (by decide +kernel) rfl rfl rfl (by decide +kernel)
set_option maxRecDepth 65536 in
theorem w_c5 : (Jvm.Cond.code ({ cls := "com/example/goneish/goneish/NameRule", name := "cutToUtf8Bytes", desc := "(Ljava/lang/String;I)Ljava/lang/String;" } : Jvm.MethodName) prog_10_method_6_code (5 : Nat) (Option.some (Jvm.ClassFile.FieldType.object "java/lang/String"))).before args0 about1 = true := code_word (m := ⟨9, 0⟩) (meth := k9m0) (c := k9c0) (by decide +kernel) rfl rfl rfl (by decide +kernel)
set_option maxRecDepth 65536 in
theorem w_c6 : (Jvm.Cond.code ({ cls := "java/lang/String", name := "length", desc := "()I" } : Jvm.MethodName) jdk_42_method_54_code (1 : Nat) (Option.some Jvm.ClassFile.FieldType.int)).before args0 about1 = true := code_word (m := ⟨7, 2⟩) (meth := k7m2) (c := k7c2) (by decide +kernel) rfl rfl rfl (by decide +kernel)
set_option maxRecDepth 65536 in
theorem w_c7 : (Jvm.Cond.code ({ cls := "java/lang/String", name := "coder", desc := "()B" } : Jvm.MethodName) jdk_42_method_152_code (1 : Nat) (Option.some Jvm.ClassFile.FieldType.byte)).before args0 about1 = true := code_word (m := ⟨7, 8⟩) (meth := k7m8) (c := k7c8) (by decide +kernel) rfl rfl rfl (by decide +kernel)
set_option maxRecDepth 65536 in
theorem w_c8 : (Jvm.Cond.code ({ cls := "java/lang/String", name := "substring", desc := "(II)Ljava/lang/String;" } : Jvm.MethodName) jdk_42_method_92_code (5 : Nat) (Option.some (Jvm.ClassFile.FieldType.object "java/lang/String"))).before args0 about1 = true := code_word (m := ⟨7, 5⟩) (meth := k7m5) (c := k7c5) (by decide +kernel) rfl rfl rfl (by decide +kernel)
set_option maxRecDepth 65536 in
theorem w_c9 : (Jvm.Cond.code ({ cls := "java/lang/String", name := "checkBoundsBeginEnd", desc := "(III)V" } : Jvm.MethodName) jdk_42_method_158_code (3 : Nat) (Option.none : Option Jvm.ClassFile.FieldType)).before args0 about1 = true := code_word (m := ⟨7, 12⟩) (meth := k7m12) (c := k7c12) (by decide +kernel) rfl rfl rfl (by decide +kernel)
set_option maxRecDepth 65536 in
theorem w_c10 : (Jvm.Cond.code ({ cls := "jdk/internal/util/Preconditions", name := "checkFromToIndex", desc := "(IIILjava/util/function/BiFunction;)I" } : Jvm.MethodName) jdk_41_method_12_code (4 : Nat) (Option.some Jvm.ClassFile.FieldType.int)).before args0 about1 = true := code_word (m := ⟨10, 2⟩) (meth := k10m2) (c := k10c2) (by decide +kernel) rfl rfl rfl (by decide +kernel)
set_option maxRecDepth 65536 in
theorem w_c11 : (Jvm.Cond.code ({ cls := "com/example/goneish/goneish/NameRuleCutToUtf8BytesPinLaw", name := "same", desc := "(Ljava/lang/String;Ljava/lang/String;I)Z" } : Jvm.MethodName) method_6_code (3 : Nat) (Option.some Jvm.ClassFile.FieldType.boolean)).before args0 about1 = true := code_word (m := ⟨1, 5⟩) (meth := k1m5) (c := k1c5) (by decide +kernel) rfl rfl rfl (by decide +kernel)
set_option maxRecDepth 65536 in
theorem w_c12 : (Jvm.Cond.code ({ cls := "com/example/goneish/goneish/NameRuleCutToUtf8BytesPinLaw", name := "chars", desc := "(I)I" } : Jvm.MethodName) method_3_code (1 : Nat) (Option.some Jvm.ClassFile.FieldType.int)).before args0 about1 = true := code_word (m := ⟨1, 2⟩) (meth := k1m2) (c := k1c2) (by decide +kernel) rfl rfl rfl (by decide +kernel)
set_option maxRecDepth 65536 in
theorem w_c13 : (Jvm.Cond.code ({ cls := "com/example/goneish/goneish/NameRuleCutToUtf8BytesPinLaw", name := "put", desc := "([CII)I" } : Jvm.MethodName) method_5_code (6 : Nat) (Option.some Jvm.ClassFile.FieldType.int)).before args0 about1 = true := code_word (m := ⟨1, 4⟩) (meth := k1m4) (c := k1c4) (by decide +kernel) rfl rfl rfl (by decide +kernel)
set_option maxRecDepth 65536 in
theorem w_c14 : (Jvm.Cond.code ({ cls := "java/lang/StringUTF16", name := "compress", desc := "([CII)[B" } : Jvm.MethodName) jdk_52_method_16_code (6 : Nat) (Option.some (Jvm.ClassFile.FieldType.array Jvm.ClassFile.FieldType.byte))).before args0 about1 = true := code_word (m := ⟨11, 10⟩) (meth := k11m10) (c := k11c10) (by decide +kernel) rfl rfl rfl (by decide +kernel)
set_option maxRecDepth 65536 in
theorem w_c15 : (Jvm.Cond.code ({ cls := "java/lang/StringUTF16", name := "compress", desc := "([CI[BII)I" } : Jvm.MethodName) jdk_52_method_21_code (7 : Nat) (Option.some Jvm.ClassFile.FieldType.int)).before args0 about1 = true := code_word (m := ⟨11, 12⟩) (meth := k11m12) (c := k11c12) (by decide +kernel) rfl rfl rfl (by decide +kernel)
set_option maxRecDepth 65536 in
theorem w_c16 : (Jvm.Cond.code ({ cls := "java/lang/StringUTF16", name := "toBytes", desc := "([CII)[B" } : Jvm.MethodName) jdk_52_method_14_code (5 : Nat) (Option.some (Jvm.ClassFile.FieldType.array Jvm.ClassFile.FieldType.byte))).before args0 about1 = true := code_word (m := ⟨11, 8⟩) (meth := k11m8) (c := k11c8) (by decide +kernel) rfl rfl rfl (by decide +kernel)
set_option maxRecDepth 65536 in
theorem w_c17 : (Jvm.Cond.code ({ cls := "java/lang/StringUTF16", name := "newBytesFor", desc := "(I)[B" } : Jvm.MethodName) jdk_52_method_2_code (1 : Nat) (Option.some (Jvm.ClassFile.FieldType.array Jvm.ClassFile.FieldType.byte))).before args0 about1 = true := code_word (m := ⟨11, 1⟩) (meth := k11m1) (c := k11c1) (by decide +kernel) rfl rfl rfl (by decide +kernel)
set_option maxRecDepth 65536 in
theorem w_c18 : (Jvm.Cond.code ({ cls := "java/lang/StringUTF16", name := "newBytesLength", desc := "(I)I" } : Jvm.MethodName) jdk_52_method_3_code (1 : Nat) (Option.some Jvm.ClassFile.FieldType.int)).before args0 about1 = true := code_word (m := ⟨11, 2⟩) (meth := k11m2) (c := k11c2) (by decide +kernel) rfl rfl rfl (by decide +kernel)
set_option maxRecDepth 65536 in
theorem w_c19 : (Jvm.Cond.code ({ cls := "java/lang/StringUTF16", name := "putChar", desc := "([BII)V" } : Jvm.MethodName) jdk_52_method_4_code (3 : Nat) (Option.none : Option Jvm.ClassFile.FieldType)).before args0 about1 = true := code_word (m := ⟨11, 3⟩) (meth := k11m3) (c := k11c3) (by decide +kernel) rfl rfl rfl (by decide +kernel)
set_option maxRecDepth 65536 in
theorem w_c20 : (Jvm.Cond.code ({ cls := "java/lang/StringUTF16", name := "getChar", desc := "([BI)C" } : Jvm.MethodName) jdk_52_method_5_code (2 : Nat) (Option.some Jvm.ClassFile.FieldType.char)).before args0 about1 = true := code_word (m := ⟨11, 4⟩) (meth := k11m4) (c := k11c4) (by decide +kernel) rfl rfl rfl (by decide +kernel)
set_option maxRecDepth 65536 in
theorem w_c21 : (Jvm.Cond.code ({ cls := "java/lang/StringUTF16", name := "coderFromArrayLen", desc := "([BI)B" } : Jvm.MethodName) jdk_52_method_15_code (2 : Nat) (Option.some Jvm.ClassFile.FieldType.byte)).before args0 about1 = true := code_word (m := ⟨11, 9⟩) (meth := k11m9) (c := k11c9) (by decide +kernel) rfl rfl rfl (by decide +kernel)
set_option maxRecDepth 65536 in
theorem w_c22 : (Jvm.Cond.code ({ cls := "java/lang/String", name := "codePointAt", desc := "(I)I" } : Jvm.MethodName) jdk_42_method_57_code (3 : Nat) (Option.some Jvm.ClassFile.FieldType.int)).before args0 about1 = true := code_word (m := ⟨7, 4⟩) (meth := k7m4) (c := k7c4) (by decide +kernel) rfl rfl rfl (by decide +kernel)
set_option maxRecDepth 65536 in
theorem w_c23 : (Jvm.Cond.code ({ cls := "java/lang/String", name := "isLatin1", desc := "()Z" } : Jvm.MethodName) jdk_42_method_154_code (1 : Nat) (Option.some Jvm.ClassFile.FieldType.boolean)).before args0 about1 = true := code_word (m := ⟨7, 9⟩) (meth := k7m9) (c := k7c9) (by decide +kernel) rfl rfl rfl (by decide +kernel)
set_option maxRecDepth 65536 in
theorem w_c24 : (Jvm.Cond.code ({ cls := "java/lang/String", name := "checkIndex", desc := "(II)V" } : Jvm.MethodName) jdk_42_method_155_code (2 : Nat) (Option.none : Option Jvm.ClassFile.FieldType)).before args0 about1 = true := code_word (m := ⟨7, 10⟩) (meth := k7m10) (c := k7c10) (by decide +kernel) rfl rfl rfl (by decide +kernel)
set_option maxRecDepth 65536 in
theorem w_c25 : (Jvm.Cond.code ({ cls := "jdk/internal/util/Preconditions", name := "checkIndex", desc := "(IILjava/util/function/BiFunction;)I" } : Jvm.MethodName) jdk_41_method_11_code (3 : Nat) (Option.some Jvm.ClassFile.FieldType.int)).before args0 about1 = true := code_word (m := ⟨10, 1⟩) (meth := k10m1) (c := k10c1) (by decide +kernel) rfl rfl rfl (by decide +kernel)
set_option maxRecDepth 65536 in
theorem w_c26 : (Jvm.Cond.code ({ cls := "java/lang/StringUTF16", name := "codePointAt", desc := "([BII)I" } : Jvm.MethodName) jdk_52_method_8_code (3 : Nat) (Option.some Jvm.ClassFile.FieldType.int)).before args0 about1 = true := code_word (m := ⟨11, 7⟩) (meth := k11m7) (c := k11c7) (by decide +kernel) rfl rfl rfl (by decide +kernel)
set_option maxRecDepth 65536 in
theorem w_c27 : (Jvm.Cond.code ({ cls := "java/lang/StringUTF16", name := "codePointAt", desc := "([BIIZ)I" } : Jvm.MethodName) jdk_52_method_7_code (6 : Nat) (Option.some Jvm.ClassFile.FieldType.int)).before args0 about1 = true := code_word (m := ⟨11, 6⟩) (meth := k11m6) (c := k11c6) (by decide +kernel) rfl rfl rfl (by decide +kernel)
set_option maxRecDepth 65536 in
theorem w_c28 : (Jvm.Cond.code ({ cls := "java/lang/Character", name := "isHighSurrogate", desc := "(C)Z" } : Jvm.MethodName) jdk_89_method_14_code (1 : Nat) (Option.some Jvm.ClassFile.FieldType.boolean)).before args0 about1 = true := code_word (m := ⟨12, 0⟩) (meth := k12m0) (c := k12c0) (by decide +kernel) rfl rfl rfl (by decide +kernel)
set_option maxRecDepth 65536 in
theorem w_c29 : (Jvm.Cond.code ({ cls := "java/lang/Character", name := "charCount", desc := "(I)I" } : Jvm.MethodName) jdk_89_method_18_code (1 : Nat) (Option.some Jvm.ClassFile.FieldType.int)).before args0 about1 = true := code_word (m := ⟨12, 2⟩) (meth := k12m2) (c := k12c2) (by decide +kernel) rfl rfl rfl (by decide +kernel)
set_option maxRecDepth 65536 in
theorem w_c30 : (Jvm.Cond.code ({ cls := "java/lang/StringUTF16", name := "newString", desc := "([BII)Ljava/lang/String;" } : Jvm.MethodName) jdk_52_method_69_code (5 : Nat) (Option.some (Jvm.ClassFile.FieldType.object "java/lang/String"))).before args0 about1 = true := code_word (m := ⟨11, 14⟩) (meth := k11m14) (c := k11c14) (by decide +kernel) rfl rfl rfl (by decide +kernel)
set_option maxRecDepth 65536 in
theorem w_c31 : (Jvm.Cond.code ({ cls := "java/lang/StringUTF16", name := "compress", desc := "([BII)[B" } : Jvm.MethodName) jdk_52_method_17_code (6 : Nat) (Option.some (Jvm.ClassFile.FieldType.array Jvm.ClassFile.FieldType.byte))).before args0 about1 = true := code_word (m := ⟨11, 11⟩) (meth := k11m11) (c := k11c11) (by decide +kernel) rfl rfl rfl (by decide +kernel)
set_option maxRecDepth 65536 in
theorem w_c32 : (Jvm.Cond.code ({ cls := "java/lang/StringUTF16", name := "compress", desc := "([BI[BII)I" } : Jvm.MethodName) jdk_52_method_22_code (7 : Nat) (Option.some Jvm.ClassFile.FieldType.int)).before args0 about1 = true := code_word (m := ⟨11, 13⟩) (meth := k11m13) (c := k11c13) (by decide +kernel) rfl rfl rfl (by decide +kernel)
set_option maxRecDepth 65536 in
theorem w_c33 : (Jvm.Cond.code ({ cls := "java/lang/StringUTF16", name := "checkBoundsOffCount", desc := "(II[B)V" } : Jvm.MethodName) jdk_52_method_94_code (3 : Nat) (Option.none : Option Jvm.ClassFile.FieldType)).before args0 about1 = true := code_word (m := ⟨11, 17⟩) (meth := k11m17) (c := k11c17) (by decide +kernel) rfl rfl rfl (by decide +kernel)
set_option maxRecDepth 65536 in
theorem w_c34 : (Jvm.Cond.code ({ cls := "java/lang/StringUTF16", name := "length", desc := "([B)I" } : Jvm.MethodName) jdk_52_method_6_code (1 : Nat) (Option.some Jvm.ClassFile.FieldType.int)).before args0 about1 = true := code_word (m := ⟨11, 5⟩) (meth := k11m5) (c := k11c5) (by decide +kernel) rfl rfl rfl (by decide +kernel)
set_option maxRecDepth 65536 in
theorem w_c35 : (Jvm.Cond.code ({ cls := "java/lang/String", name := "checkBoundsOffCount", desc := "(III)I" } : Jvm.MethodName) jdk_42_method_157_code (3 : Nat) (Option.some Jvm.ClassFile.FieldType.int)).before args0 about1 = true := code_word (m := ⟨7, 11⟩) (meth := k7m11) (c := k7c11) (by decide +kernel) rfl rfl rfl (by decide +kernel)
set_option maxRecDepth 65536 in
theorem w_c36 : (Jvm.Cond.code ({ cls := "jdk/internal/util/Preconditions", name := "checkFromIndexSize", desc := "(IIILjava/util/function/BiFunction;)I" } : Jvm.MethodName) jdk_41_method_13_code (4 : Nat) (Option.some Jvm.ClassFile.FieldType.int)).before args0 about1 = true := code_word (m := ⟨10, 3⟩) (meth := k10m3) (c := k10c3) (by decide +kernel) rfl rfl rfl (by decide +kernel)
set_option maxRecDepth 65536 in
theorem w_c37 : (Jvm.Cond.code ({ cls := "java/lang/String", name := "<init>", desc := "([BB)V" } : Jvm.MethodName) jdk_42_method_151_code (3 : Nat) (Option.none : Option Jvm.ClassFile.FieldType)).before args0 about1 = true := code_word (m := ⟨7, 7⟩) (meth := k7m7) (c := k7c7) (by decide +kernel) rfl rfl rfl (by decide +kernel)
set_option maxRecDepth 65536 in
theorem w_c38 : (Jvm.Cond.code ({ cls := "java/lang/String", name := "charAt", desc := "(I)C" } : Jvm.MethodName) jdk_42_method_56_code (2 : Nat) (Option.some Jvm.ClassFile.FieldType.char)).before args0 about1 = true := code_word (m := ⟨7, 3⟩) (meth := k7m3) (c := k7c3) (by decide +kernel) rfl rfl rfl (by decide +kernel)
set_option maxRecDepth 65536 in
theorem w_c39 : (Jvm.Cond.code ({ cls := "java/lang/StringLatin1", name := "charAt", desc := "([BI)C" } : Jvm.MethodName) jdk_43_method_2_code (2 : Nat) (Option.some Jvm.ClassFile.FieldType.char)).before args0 about1 = true := code_word (m := ⟨13, 1⟩) (meth := k13m1) (c := k13c1) (by decide +kernel) rfl rfl rfl (by decide +kernel)
set_option maxRecDepth 65536 in
theorem w_c40 : (Jvm.Cond.code ({ cls := "java/lang/StringUTF16", name := "charAt", desc := "([BI)C" } : Jvm.MethodName) jdk_52_method_83_code (2 : Nat) (Option.some Jvm.ClassFile.FieldType.char)).before args0 about1 = true := code_word (m := ⟨11, 15⟩) (meth := k11m15) (c := k11c15) (by decide +kernel) rfl rfl rfl (by decide +kernel)
set_option maxRecDepth 65536 in
theorem w_c41 : (Jvm.Cond.code ({ cls := "java/lang/StringUTF16", name := "checkIndex", desc := "(I[B)V" } : Jvm.MethodName) jdk_52_method_91_code (2 : Nat) (Option.none : Option Jvm.ClassFile.FieldType)).before args0 about1 = true := code_word (m := ⟨11, 16⟩) (meth := k11m16) (c := k11c16) (by decide +kernel) rfl rfl rfl (by decide +kernel)
set_option maxRecDepth 65536 in
theorem w_c42 : (Jvm.Cond.code ({ cls := "java/lang/Character", name := "isLowSurrogate", desc := "(C)Z" } : Jvm.MethodName) jdk_89_method_15_code (1 : Nat) (Option.some Jvm.ClassFile.FieldType.boolean)).before args0 about1 = true := code_word (m := ⟨12, 1⟩) (meth := k12m1) (c := k12c1) (by decide +kernel) rfl rfl rfl (by decide +kernel)
set_option maxRecDepth 65536 in
theorem w_c43 : (Jvm.Cond.code ({ cls := "java/lang/Character", name := "toCodePoint", desc := "(CC)I" } : Jvm.MethodName) jdk_89_method_19_code (2 : Nat) (Option.some Jvm.ClassFile.FieldType.int)).before args0 about1 = true := code_word (m := ⟨12, 3⟩) (meth := k12m3) (c := k12c3) (by decide +kernel) rfl rfl rfl (by decide +kernel)
set_option maxRecDepth 65536 in
theorem w_c44 : (Jvm.Cond.code ({ cls := "java/lang/StringLatin1", name := "newString", desc := "([BII)Ljava/lang/String;" } : Jvm.MethodName) jdk_43_method_47_code (3 : Nat) (Option.some (Jvm.ClassFile.FieldType.object "java/lang/String"))).before args0 about1 = true := code_word (m := ⟨13, 2⟩) (meth := k13m2) (c := k13c2) (by decide +kernel) rfl rfl rfl (by decide +kernel)
set_option maxRecDepth 65536 in
theorem w_c45 : (Jvm.Cond.code ({ cls := "java/util/Arrays", name := "copyOfRange", desc := "([BII)[B" } : Jvm.MethodName) jdk_65_method_132_code (3 : Nat) (Option.some (Jvm.ClassFile.FieldType.array Jvm.ClassFile.FieldType.byte))).before args0 about1 = true := code_word (m := ⟨14, 2⟩) (meth := k14m2) (c := k14c2) (by decide +kernel) rfl rfl rfl (by decide +kernel)
set_option maxRecDepth 65536 in
theorem w_c46 : (Jvm.Cond.code ({ cls := "java/util/Arrays", name := "copyOfRangeByte", desc := "([BII)[B" } : Jvm.MethodName) jdk_65_method_133_code (5 : Nat) (Option.some (Jvm.ClassFile.FieldType.array Jvm.ClassFile.FieldType.byte))).before args0 about1 = true := code_word (m := ⟨14, 3⟩) (meth := k14m3) (c := k14c3) (by decide +kernel) rfl rfl rfl (by decide +kernel)
set_option maxRecDepth 65536 in
theorem w_c47 : (Jvm.Cond.code ({ cls := "java/util/Arrays", name := "checkLength", desc := "(II)V" } : Jvm.MethodName) jdk_65_method_131_code (2 : Nat) (Option.none : Option Jvm.ClassFile.FieldType)).before args0 about1 = true := code_word (m := ⟨14, 1⟩) (meth := k14m1) (c := k14c1) (by decide +kernel) rfl rfl rfl (by decide +kernel)
set_option maxRecDepth 65536 in
theorem w_c48 : (Jvm.Cond.code ({ cls := "java/lang/Math", name := "min", desc := "(II)I" } : Jvm.MethodName) jdk_29_method_69_code (2 : Nat) (Option.some Jvm.ClassFile.FieldType.int)).before args0 about1 = true := code_word (m := ⟨15, 1⟩) (meth := k15m1) (c := k15c1) (by decide +kernel) rfl rfl rfl (by decide +kernel)
def codes1 : List Jvm.Cond := [Jvm.Cond.code x code maxLocals ret, Jvm.Cond.code ({ cls := "java/lang/String", name := "<init>", desc := "([C)V" } : Jvm.MethodName) jdk_42_method_3_code (2 : Nat) (Option.none : Option Jvm.ClassFile.FieldType), Jvm.Cond.code ({ cls := "java/lang/String", name := "<init>", desc := "([CIILjava/lang/Void;)V" } : Jvm.MethodName) jdk_42_method_149_code (6 : Nat) (Option.none : Option Jvm.ClassFile.FieldType), Jvm.Cond.code ({ cls := "java/lang/Object", name := "<init>", desc := "()V" } : Jvm.MethodName) object_method_1_code (1 : Nat) (Option.none : Option Jvm.ClassFile.FieldType), Jvm.Cond.code ({ cls := "com/example/goneish/goneish/NameRuleCutToUtf8BytesPinLaw", name := "bytes", desc := "(I)I" } : Jvm.MethodName) method_4_code (1 : Nat) (Option.some Jvm.ClassFile.FieldType.int), Jvm.Cond.code ({ cls := "com/example/goneish/goneish/NameRule", name := "cutToUtf8Bytes", desc := "(Ljava/lang/String;I)Ljava/lang/String;" } : Jvm.MethodName) prog_10_method_6_code (5 : Nat) (Option.some (Jvm.ClassFile.FieldType.object "java/lang/String")), Jvm.Cond.code ({ cls := "java/lang/String", name := "length", desc := "()I" } : Jvm.MethodName) jdk_42_method_54_code (1 : Nat) (Option.some Jvm.ClassFile.FieldType.int), Jvm.Cond.code ({ cls := "java/lang/String", name := "coder", desc := "()B" } : Jvm.MethodName) jdk_42_method_152_code (1 : Nat) (Option.some Jvm.ClassFile.FieldType.byte), Jvm.Cond.code ({ cls := "java/lang/String", name := "substring", desc := "(II)Ljava/lang/String;" } : Jvm.MethodName) jdk_42_method_92_code (5 : Nat) (Option.some (Jvm.ClassFile.FieldType.object "java/lang/String")), Jvm.Cond.code ({ cls := "java/lang/String", name := "checkBoundsBeginEnd", desc := "(III)V" } : Jvm.MethodName) jdk_42_method_158_code (3 : Nat) (Option.none : Option Jvm.ClassFile.FieldType), Jvm.Cond.code ({ cls := "jdk/internal/util/Preconditions", name := "checkFromToIndex", desc := "(IIILjava/util/function/BiFunction;)I" } : Jvm.MethodName) jdk_41_method_12_code (4 : Nat) (Option.some Jvm.ClassFile.FieldType.int), Jvm.Cond.code ({ cls := "com/example/goneish/goneish/NameRuleCutToUtf8BytesPinLaw", name := "same", desc := "(Ljava/lang/String;Ljava/lang/String;I)Z" } : Jvm.MethodName) method_6_code (3 : Nat) (Option.some Jvm.ClassFile.FieldType.boolean), Jvm.Cond.code ({ cls := "com/example/goneish/goneish/NameRuleCutToUtf8BytesPinLaw", name := "chars", desc := "(I)I" } : Jvm.MethodName) method_3_code (1 : Nat) (Option.some Jvm.ClassFile.FieldType.int), Jvm.Cond.code ({ cls := "com/example/goneish/goneish/NameRuleCutToUtf8BytesPinLaw", name := "put", desc := "([CII)I" } : Jvm.MethodName) method_5_code (6 : Nat) (Option.some Jvm.ClassFile.FieldType.int), Jvm.Cond.code ({ cls := "java/lang/StringUTF16", name := "compress", desc := "([CII)[B" } : Jvm.MethodName) jdk_52_method_16_code (6 : Nat) (Option.some (Jvm.ClassFile.FieldType.array Jvm.ClassFile.FieldType.byte)), Jvm.Cond.code ({ cls := "java/lang/StringUTF16", name := "compress", desc := "([CI[BII)I" } : Jvm.MethodName) jdk_52_method_21_code (7 : Nat) (Option.some Jvm.ClassFile.FieldType.int), Jvm.Cond.code ({ cls := "java/lang/StringUTF16", name := "toBytes", desc := "([CII)[B" } : Jvm.MethodName) jdk_52_method_14_code (5 : Nat) (Option.some (Jvm.ClassFile.FieldType.array Jvm.ClassFile.FieldType.byte)), Jvm.Cond.code ({ cls := "java/lang/StringUTF16", name := "newBytesFor", desc := "(I)[B" } : Jvm.MethodName) jdk_52_method_2_code (1 : Nat) (Option.some (Jvm.ClassFile.FieldType.array Jvm.ClassFile.FieldType.byte)), Jvm.Cond.code ({ cls := "java/lang/StringUTF16", name := "newBytesLength", desc := "(I)I" } : Jvm.MethodName) jdk_52_method_3_code (1 : Nat) (Option.some Jvm.ClassFile.FieldType.int), Jvm.Cond.code ({ cls := "java/lang/StringUTF16", name := "putChar", desc := "([BII)V" } : Jvm.MethodName) jdk_52_method_4_code (3 : Nat) (Option.none : Option Jvm.ClassFile.FieldType), Jvm.Cond.code ({ cls := "java/lang/StringUTF16", name := "getChar", desc := "([BI)C" } : Jvm.MethodName) jdk_52_method_5_code (2 : Nat) (Option.some Jvm.ClassFile.FieldType.char), Jvm.Cond.code ({ cls := "java/lang/StringUTF16", name := "coderFromArrayLen", desc := "([BI)B" } : Jvm.MethodName) jdk_52_method_15_code (2 : Nat) (Option.some Jvm.ClassFile.FieldType.byte), Jvm.Cond.code ({ cls := "java/lang/String", name := "codePointAt", desc := "(I)I" } : Jvm.MethodName) jdk_42_method_57_code (3 : Nat) (Option.some Jvm.ClassFile.FieldType.int), Jvm.Cond.code ({ cls := "java/lang/String", name := "isLatin1", desc := "()Z" } : Jvm.MethodName) jdk_42_method_154_code (1 : Nat) (Option.some Jvm.ClassFile.FieldType.boolean), Jvm.Cond.code ({ cls := "java/lang/String", name := "checkIndex", desc := "(II)V" } : Jvm.MethodName) jdk_42_method_155_code (2 : Nat) (Option.none : Option Jvm.ClassFile.FieldType), Jvm.Cond.code ({ cls := "jdk/internal/util/Preconditions", name := "checkIndex", desc := "(IILjava/util/function/BiFunction;)I" } : Jvm.MethodName) jdk_41_method_11_code (3 : Nat) (Option.some Jvm.ClassFile.FieldType.int), Jvm.Cond.code ({ cls := "java/lang/StringUTF16", name := "codePointAt", desc := "([BII)I" } : Jvm.MethodName) jdk_52_method_8_code (3 : Nat) (Option.some Jvm.ClassFile.FieldType.int), Jvm.Cond.code ({ cls := "java/lang/StringUTF16", name := "codePointAt", desc := "([BIIZ)I" } : Jvm.MethodName) jdk_52_method_7_code (6 : Nat) (Option.some Jvm.ClassFile.FieldType.int), Jvm.Cond.code ({ cls := "java/lang/Character", name := "isHighSurrogate", desc := "(C)Z" } : Jvm.MethodName) jdk_89_method_14_code (1 : Nat) (Option.some Jvm.ClassFile.FieldType.boolean), Jvm.Cond.code ({ cls := "java/lang/Character", name := "charCount", desc := "(I)I" } : Jvm.MethodName) jdk_89_method_18_code (1 : Nat) (Option.some Jvm.ClassFile.FieldType.int), Jvm.Cond.code ({ cls := "java/lang/StringUTF16", name := "newString", desc := "([BII)Ljava/lang/String;" } : Jvm.MethodName) jdk_52_method_69_code (5 : Nat) (Option.some (Jvm.ClassFile.FieldType.object "java/lang/String")), Jvm.Cond.code ({ cls := "java/lang/StringUTF16", name := "compress", desc := "([BII)[B" } : Jvm.MethodName) jdk_52_method_17_code (6 : Nat) (Option.some (Jvm.ClassFile.FieldType.array Jvm.ClassFile.FieldType.byte)), Jvm.Cond.code ({ cls := "java/lang/StringUTF16", name := "compress", desc := "([BI[BII)I" } : Jvm.MethodName) jdk_52_method_22_code (7 : Nat) (Option.some Jvm.ClassFile.FieldType.int), Jvm.Cond.code ({ cls := "java/lang/StringUTF16", name := "checkBoundsOffCount", desc := "(II[B)V" } : Jvm.MethodName) jdk_52_method_94_code (3 : Nat) (Option.none : Option Jvm.ClassFile.FieldType), Jvm.Cond.code ({ cls := "java/lang/StringUTF16", name := "length", desc := "([B)I" } : Jvm.MethodName) jdk_52_method_6_code (1 : Nat) (Option.some Jvm.ClassFile.FieldType.int), Jvm.Cond.code ({ cls := "java/lang/String", name := "checkBoundsOffCount", desc := "(III)I" } : Jvm.MethodName) jdk_42_method_157_code (3 : Nat) (Option.some Jvm.ClassFile.FieldType.int), Jvm.Cond.code ({ cls := "jdk/internal/util/Preconditions", name := "checkFromIndexSize", desc := "(IIILjava/util/function/BiFunction;)I" } : Jvm.MethodName) jdk_41_method_13_code (4 : Nat) (Option.some Jvm.ClassFile.FieldType.int), Jvm.Cond.code ({ cls := "java/lang/String", name := "<init>", desc := "([BB)V" } : Jvm.MethodName) jdk_42_method_151_code (3 : Nat) (Option.none : Option Jvm.ClassFile.FieldType), Jvm.Cond.code ({ cls := "java/lang/String", name := "charAt", desc := "(I)C" } : Jvm.MethodName) jdk_42_method_56_code (2 : Nat) (Option.some Jvm.ClassFile.FieldType.char), Jvm.Cond.code ({ cls := "java/lang/StringLatin1", name := "charAt", desc := "([BI)C" } : Jvm.MethodName) jdk_43_method_2_code (2 : Nat) (Option.some Jvm.ClassFile.FieldType.char), Jvm.Cond.code ({ cls := "java/lang/StringUTF16", name := "charAt", desc := "([BI)C" } : Jvm.MethodName) jdk_52_method_83_code (2 : Nat) (Option.some Jvm.ClassFile.FieldType.char), Jvm.Cond.code ({ cls := "java/lang/StringUTF16", name := "checkIndex", desc := "(I[B)V" } : Jvm.MethodName) jdk_52_method_91_code (2 : Nat) (Option.none : Option Jvm.ClassFile.FieldType), Jvm.Cond.code ({ cls := "java/lang/Character", name := "isLowSurrogate", desc := "(C)Z" } : Jvm.MethodName) jdk_89_method_15_code (1 : Nat) (Option.some Jvm.ClassFile.FieldType.boolean), Jvm.Cond.code ({ cls := "java/lang/Character", name := "toCodePoint", desc := "(CC)I" } : Jvm.MethodName) jdk_89_method_19_code (2 : Nat) (Option.some Jvm.ClassFile.FieldType.int), Jvm.Cond.code ({ cls := "java/lang/StringLatin1", name := "newString", desc := "([BII)Ljava/lang/String;" } : Jvm.MethodName) jdk_43_method_47_code (3 : Nat) (Option.some (Jvm.ClassFile.FieldType.object "java/lang/String")), Jvm.Cond.code ({ cls := "java/util/Arrays", name := "copyOfRange", desc := "([BII)[B" } : Jvm.MethodName) jdk_65_method_132_code (3 : Nat) (Option.some (Jvm.ClassFile.FieldType.array Jvm.ClassFile.FieldType.byte)), Jvm.Cond.code ({ cls := "java/util/Arrays", name := "copyOfRangeByte", desc := "([BII)[B" } : Jvm.MethodName) jdk_65_method_133_code (5 : Nat) (Option.some (Jvm.ClassFile.FieldType.array Jvm.ClassFile.FieldType.byte)), Jvm.Cond.code ({ cls := "java/util/Arrays", name := "checkLength", desc := "(II)V" } : Jvm.MethodName) jdk_65_method_131_code (2 : Nat) (Option.none : Option Jvm.ClassFile.FieldType), Jvm.Cond.code ({ cls := "java/lang/Math", name := "min", desc := "(II)I" } : Jvm.MethodName) jdk_29_method_69_code (2 : Nat) (Option.some Jvm.ClassFile.FieldType.int)]
set_option maxRecDepth 65536 in
theorem codes_eq : words1.filter isCode = codes1 := rfl
theorem w_codes : ∀ c ∈ words1.filter isCode, c.before args0 about1 = true := by
  rw [codes_eq]
  intro c hc
  simp only [codes1, List.mem_cons, List.not_mem_nil, or_false] at hc
  rcases hc with rfl | rfl | rfl | rfl | rfl | rfl | rfl | rfl | rfl | rfl | rfl | rfl | rfl | rfl | rfl | rfl | rfl | rfl | rfl | rfl | rfl | rfl | rfl | rfl | rfl | rfl | rfl | rfl | rfl | rfl | rfl | rfl | rfl | rfl | rfl | rfl | rfl | rfl | rfl | rfl | rfl | rfl | rfl | rfl | rfl | rfl | rfl | rfl | rfl
  · exact w_c0
  · exact w_c1
  · exact w_c2
  · exact w_c3
  · exact w_c4
  · exact w_c5
  · exact w_c6
  · exact w_c7
  · exact w_c8
  · exact w_c9
  · exact w_c10
  · exact w_c11
  · exact w_c12
  · exact w_c13
  · exact w_c14
  · exact w_c15
  · exact w_c16
  · exact w_c17
  · exact w_c18
  · exact w_c19
  · exact w_c20
  · exact w_c21
  · exact w_c22
  · exact w_c23
  · exact w_c24
  · exact w_c25
  · exact w_c26
  · exact w_c27
  · exact w_c28
  · exact w_c29
  · exact w_c30
  · exact w_c31
  · exact w_c32
  · exact w_c33
  · exact w_c34
  · exact w_c35
  · exact w_c36
  · exact w_c37
  · exact w_c38
  · exact w_c39
  · exact w_c40
  · exact w_c41
  · exact w_c42
  · exact w_c43
  · exact w_c44
  · exact w_c45
  · exact w_c46
  · exact w_c47
  · exact w_c48
set_option maxRecDepth 65536 in
theorem w_t1 : (words1.take 24).all (fun c => isCode c || c.before args0 about1) = true := by decide +kernel
set_option maxRecDepth 65536 in
theorem w_t2 : ((words1.drop 24).take 24).all (fun c => isCode c || c.before args0 about1) = true := by decide +kernel
set_option maxRecDepth 65536 in
theorem w_t3 : (((words1.drop 24).drop 24).take 24).all (fun c => isCode c || c.before args0 about1) = true := by decide +kernel
set_option maxRecDepth 65536 in
theorem w_t4 : ((((words1.drop 24).drop 24).drop 24).take 24).all (fun c => isCode c || c.before args0 about1) = true := by decide +kernel
set_option maxRecDepth 65536 in
theorem w_t5 : (((((words1.drop 24).drop 24).drop 24).drop 24).take 24).all (fun c => isCode c || c.before args0 about1) = true := by decide +kernel
set_option maxRecDepth 65536 in
theorem w_t6 : ((((((words1.drop 24).drop 24).drop 24).drop 24).drop 24).take 24).all (fun c => isCode c || c.before args0 about1) = true := by decide +kernel
set_option maxRecDepth 65536 in
theorem w_t7 : (((((((words1.drop 24).drop 24).drop 24).drop 24).drop 24).drop 24).take 24).all (fun c => isCode c || c.before args0 about1) = true := by decide +kernel
set_option maxRecDepth 65536 in
theorem w_t8 : ((((((((words1.drop 24).drop 24).drop 24).drop 24).drop 24).drop 24).drop 24).take 24).all (fun c => isCode c || c.before args0 about1) = true := by decide +kernel
set_option maxRecDepth 65536 in
theorem w_t9 : ((((((((words1.drop 24).drop 24).drop 24).drop 24).drop 24).drop 24).drop 24).drop 24).all (fun c => isCode c || c.before args0 about1) = true := by decide +kernel
theorem w_tables : (allAtoms (Jvm.Cond.code x code maxLocals ret :: tables_1)).before args0 about1 = true := by
  rw [allAtoms_all]
  show words1.all (fun c => c.before args0 about1) = true
  refine all_split ?_ w_codes
  rw [← List.take_append_drop 24 words1, List.all_append, w_t1, ← List.take_append_drop 24 (words1.drop 24), List.all_append, w_t2, ← List.take_append_drop 24 ((words1.drop 24).drop 24), List.all_append, w_t3, ← List.take_append_drop 24 (((words1.drop 24).drop 24).drop 24), List.all_append, w_t4, ← List.take_append_drop 24 ((((words1.drop 24).drop 24).drop 24).drop 24), List.all_append, w_t5, ← List.take_append_drop 24 (((((words1.drop 24).drop 24).drop 24).drop 24).drop 24), List.all_append, w_t6, ← List.take_append_drop 24 ((((((words1.drop 24).drop 24).drop 24).drop 24).drop 24).drop 24), List.all_append, w_t7, ← List.take_append_drop 24 (((((((words1.drop 24).drop 24).drop 24).drop 24).drop 24).drop 24).drop 24), List.all_append, w_t8, w_t9]
  rfl
set_option maxRecDepth 65536 in
theorem w_rest : rest_1_c.before args0 about1 = true := by decide +kernel
set_option maxRecDepth 65536 in
theorem w_case : (Jvm.Cond.and given_1 narrow_1).before args0 about1 = true := by decide +kernel
set_option maxRecDepth 65536 in
theorem w_consts : constsHeld consts_1 about1 := Jvm.Lit.constsHeldB_iff.mp (by decide +kernel)
theorem w_applies : (headSpec (Jvm.Cond.code x code maxLocals ret :: tables_1) room_1).applies x e0.platform about1 = true :=
  (Spec.applies_iff w_frames).mpr ⟨w_running, w_runnable, w_alone, w_named, w_hears, w_ripe, w_room, w_tables⟩
theorem atStart : AtStart classFile x code maxLocals ret World_1 tables_1 room_1 Calls_1 rest_1 Pre_1 launch0 p0 e0 about1 theMethod args0 below0 :=
  ⟨lists_1, trivial, launch0.admits_env _ _ _, launch0.least_env, fairChoices_fair.cas, fairChoices_fair.clock, w_frames, w_args, w_heap, w_applies, ⟨w_consts, trivial⟩, w_rest, w_case⟩
end start1
theorem witness_1 : WitnessClaimed_1 := ⟨start1.p0, start1.e0, start1.about1, start1.theMethod, start1.args0, start1.below0, start1.atStart⟩
end Jvm.Pilot.@@N@@
