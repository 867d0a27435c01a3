import JvmDerived
import JvmDerived.Pilot.@@N@@Statement
import JvmDerived.Pilot.@@N@@Code
set_option linter.unusedVariables false
set_option linter.unusedSimpArgs false
namespace Jvm.Pilot.@@N@@
open Jvm Jvm.ClassFile Sem Op Lib Jvm.Free Jvm.Stand Jvm.LawKit Jvm.RoadKit Bundle Jvm.Pilot.@@N@@.Jvm.D
/-! THE WALK, SAID FORWARD: `G w Q h k n pc Ls st` says: from every point of the walk `w` whose heap is h, with k cells and n slots made, standing at pc with the locals Ls and the stack st, the run ends in a return that meets Q. One law a step carries G from the next point back to this one. -/
abbrev Wk := Program × Launch × Env × Room × State × MethodId × Array Value × List Frame × Method × Code × Nat
abbrev Wk.p (w : Wk) : Program := w.1
abbrev Wk.l (w : Wk) : Launch := w.2.1
abbrev Wk.e (w : Wk) : Env := w.2.2.1
abbrev Wk.R (w : Wk) : Room := w.2.2.2.1
abbrev Wk.s (w : Wk) : State := w.2.2.2.2.1
abbrev Wk.m (w : Wk) : MethodId := w.2.2.2.2.2.1
abbrev Wk.args (w : Wk) : Array Value := w.2.2.2.2.2.2.1
abbrev Wk.below (w : Wk) : List Frame := w.2.2.2.2.2.2.2.1
abbrev Wk.meth (w : Wk) : Method := w.2.2.2.2.2.2.2.2.1
abbrev Wk.c (w : Wk) : Code := w.2.2.2.2.2.2.2.2.2.1
abbrev Wk.n0 (w : Wk) : Nat := w.2.2.2.2.2.2.2.2.2.2
def Cx (w : Wk) (l : Launch) (Z : State) (own : String) (bytes : ByteArray) (mx : Nat) (rt : Option FieldType) (nm : String) (rm : Room) (n0 : Nat) : Prop :=
  w.l = l ∧ w.p.tables.exec = Jvm.exec ∧ Z.Warmed39 w.s.vm ∧ w.c.code = bytes ∧ w.c.maxLocals = mx ∧ w.s.vm.findClass own = some w.m.cls ∧ w.meth.sig.returnType = rt ∧ w.meth.locks = false ∧ w.meth.name = nm ∧ w.R = rm ∧ w.n0 = n0
def Ends (w : Wk) (Q : Option Value → Heap → Prop) (A : State) : Prop :=
  ∃ s₂ o, Steps w.p.tables w.e w.below A s₂ ∧ s₂.status = .running ∧ Ended s₂ w.below o ∧ ∃ v L, o = .returned v ∧ (Q v s₂.heap ∧ Fr w.n0 L) ∧ FrameEnd w.s o s₂ L w.R.cells w.R.slots
def G (w : Wk) (Q : Option Value → Heap → Prop) (h : Heap) (k n pc : Nat) (Ls : Array Slot) (st : List Value) : Prop :=
  ∀ (T : State) (locs : List Loc), Stand w.p w.l w.e w.R w.s w.m w.args w.below w.meth w.c T locs k n → T.heap = h → Fr w.n0 locs → Ends w Q (T.setTop (mkF w.m pc Ls st))
def Con (l : Launch) (Z : State) (y : MethodName) (bytes : ByteArray) (mx : Nat) (rt : Option FieldType) (rm : Room) (as : Array Value) (h : Heap) (n0 : Nat) (Q : Option Value → Heap → Prop) : Prop :=
  ∀ ws, MetFree l y (head1 (Jvm.Cond.code y bytes mx rt :: ws) rm) (fun a U => a = as ∧ Z.Warmed39 U.vm ∧ U.heap = h) (fun _ _ _ _ _ => True) (fun _ U o U' => ∃ v L, o = .returned v ∧ (Q v U'.heap ∧ Fr n0 L) ∧ FrameEnd U o U' L rm.cells rm.slots)
def psh (v : Option Value) (st : List Value) : List Value := match v with | none => st | some x => x :: st
theorem psh_eq (v : Option Value) (st : List Value) : v.toList ++ st = psh v st := by cases v <;> rfl
section Gs
variable {w : Wk} {l : Launch} {Z : State} {own : String} {bytes : ByteArray} {mx : Nat} {rt : Option FieldType} {nm : String} {rm : Room} {n0 : Nat} {Q : Option Value → Heap → Prop} {h : Heap} {k n pc pc' : Nat} {Ls Ls' : Array Slot} {st rest : List Value} {a0 : Array Value} {t : FieldType} {k' n' : Nat}
theorem Con.mk {y : MethodName} {as : Array Value} (hp : plainFor y = true) (hef : ∀ m, entryFrame m as mx = mkF m 0 Ls []) (body : ∀ w : Wk, Cx w l Z y.cls bytes mx rt y.name rm n0 → G w Q h 0 0 0 Ls []) : Con l Z y bytes mx rt rm as h n0 Q := by
  intro ws
  refine MetFree.of_bodySF hp hisR ?_
  intro p e s m args below meth c s₁ Bd hml0 hP hK
  obtain ⟨rfl, hZ, hh⟩ := hP
  have X0 : Stand p l e rm s m args below meth c s₁ [] 0 0 := Stand.of_body Bd
  have e0 : s₁.heap = h := by rw [← hh, Bd.state]; rfl
  obtain ⟨s₂, o, h1, h2, h3, h4⟩ := body (p, l, e, rm, s, m, args, below, meth, c, n0) ⟨rfl, Bd.exec, hZ, Bd.bytes, hml0, findClass_of_methodNamed Bd.named, Bd.returns, Bd.notSynchronized, (name_of_methodNamed Bd.named Bd.method).1, rfl, rfl⟩ s₁ [] X0 e0 (Fr.nil n0)
  exact ⟨s₂, o, castTop (hef m) h1, h2, h3, h4⟩
theorem Cx.ex (C : Cx w l Z own bytes mx rt nm rm n0) : w.p.tables.exec = Jvm.exec := C.2.1
theorem Cx.hZ (C : Cx w l Z own bytes mx rt nm rm n0) : Z.Warmed39 w.s.vm := C.2.2.1
theorem Cx.dec (C : Cx w l Z own bytes mx rt nm rm n0) {r : Except DecodeError (Instr × Nat)} (hd : decode bytes pc = r) : decode w.c.code pc = r := hb C.2.2.2.1 hd
theorem Cx.ow (C : Cx w l Z own bytes mx rt nm rm n0) : w.s.vm.findClass own = some w.m.cls := C.2.2.2.2.2.1
theorem Cx.ml (C : Cx w l Z own bytes mx rt nm rm n0) : w.c.maxLocals = mx := C.2.2.2.2.1
theorem Cx.ret (C : Cx w l Z own bytes mx rt nm rm n0) : w.meth.sig.returnType = rt := C.2.2.2.2.2.2.1
theorem Cx.lk (C : Cx w l Z own bytes mx rt nm rm n0) : w.meth.locks = false := C.2.2.2.2.2.2.2.1
theorem Cx.mn (C : Cx w l Z own bytes mx rt nm rm n0) : w.meth.name = nm := C.2.2.2.2.2.2.2.2.1
theorem Cx.ro (C : Cx w l Z own bytes mx rt nm rm n0) : w.R = rm := C.2.2.2.2.2.2.2.2.2.1
theorem Cx.nn (C : Cx w l Z own bytes mx rt nm rm n0) : w.n0 = n0 := C.2.2.2.2.2.2.2.2.2.2
theorem G.adv (st' : ∀ T locs, Stand w.p w.l w.e w.R w.s w.m w.args w.below w.meth w.c T locs k n → T.heap = h → ∀ t, Steps w.p.tables w.e w.below (T.setTop (mkF w.m pc' Ls' rest)) t → Steps w.p.tables w.e w.below (T.setTop (mkF w.m pc Ls st)) t) (g : G w Q h k n pc' Ls' rest) : G w Q h k n pc Ls st :=
  fun T locs X eT N => let ⟨s₂, o, h1, h2⟩ := g T locs X eT N; ⟨s₂, o, st' T locs X eT _ h1, h2⟩
theorem G.to {T T' : State} {locs' : List Loc} {h' : Heap} {k' n' : Nat} (X' : Stand w.p w.l w.e w.R w.s w.m w.args w.below w.meth w.c T' locs' k' n') (eT : T'.heap = h') (N : Fr w.n0 locs') (s' : ∀ t, Steps w.p.tables w.e w.below (T'.setTop (mkF w.m pc' Ls' rest)) t → Steps w.p.tables w.e w.below (T.setTop (mkF w.m pc Ls st)) t) (g : G w Q h' k' n' pc' Ls' rest) : Ends w Q (T.setTop (mkF w.m pc Ls st)) :=
  let ⟨s₂, o, h1, h2⟩ := g T' locs' X' eT N; ⟨s₂, o, s' _ h1, h2⟩
theorem G.more (hk : k ≤ k') (hn : n ≤ n') (g : G w Q h k' n' pc Ls st) : G w Q h k n pc Ls st := fun T locs X eT N => g T locs (X.more hk hn) eT N
/-! plain steps -/
theorem g_aloadN (C : Cx w l Z own bytes mx rt nm rm n0) {i : Fin 4} {v : Value} (hd : decode bytes pc = .ok (.aload_n i, 1)) (hl : Ls[i.val]? = some (.val v)) (hv : v.isRef = true) (hp : pc + 1 = pc') (g : G w Q h k n pc' Ls (v :: st)) : G w Q h k n pc Ls st := by
  subst hp; exact g.adv fun T locs X _ t r => XS.aloadN X.here C.ex rfl (C.dec hd) hl hv r
theorem g_aload (C : Cx w l Z own bytes mx rt nm rm n0) {i : Nat} {v : Value} (hd : decode bytes pc = .ok (.aload i, 2)) (hl : Ls[i]? = some (.val v)) (hv : v.isRef = true) (hp : pc + 2 = pc') (g : G w Q h k n pc' Ls (v :: st)) : G w Q h k n pc Ls st := by
  subst hp; exact g.adv fun T locs X _ t r => XS.aload X.here C.ex rfl (C.dec hd) hl hv r
theorem g_iloadN (C : Cx w l Z own bytes mx rt nm rm n0) {i : Fin 4} {v : Int32} (hd : decode bytes pc = .ok (.iload_n i, 1)) (hl : Ls[i.val]? = some (.val (.int v))) (hp : pc + 1 = pc') (g : G w Q h k n pc' Ls (.int v :: st)) : G w Q h k n pc Ls st := by
  subst hp; exact g.adv fun T locs X _ t r => XS.iloadN X.here C.ex rfl (C.dec hd) hl r
theorem g_iload (C : Cx w l Z own bytes mx rt nm rm n0) {i : Nat} {v : Int32} (hd : decode bytes pc = .ok (.iload i, 2)) (hl : Ls[i]? = some (.val (.int v))) (hp : pc + 2 = pc') (g : G w Q h k n pc' Ls (.int v :: st)) : G w Q h k n pc Ls st := by
  subst hp; exact g.adv fun T locs X _ t r => XS.iload X.here C.ex rfl (C.dec hd) hl r
theorem g_lloadN (C : Cx w l Z own bytes mx rt nm rm n0) {i : Fin 4} {v : Int64} (hd : decode bytes pc = .ok (.lload_n i, 1)) (hl : Ls[i.val]? = some (.val (.long v))) (hp : pc + 1 = pc') (g : G w Q h k n pc' Ls (.long v :: st)) : G w Q h k n pc Ls st := by
  subst hp; exact g.adv fun T locs X _ t r => XS.lloadN X.here C.ex rfl (C.dec hd) hl r
theorem g_lload (C : Cx w l Z own bytes mx rt nm rm n0) {i : Nat} {v : Int64} (hd : decode bytes pc = .ok (.lload i, 2)) (hl : Ls[i]? = some (.val (.long v))) (hp : pc + 2 = pc') (g : G w Q h k n pc' Ls (.long v :: st)) : G w Q h k n pc Ls st := by
  subst hp; exact g.adv fun T locs X _ t r => XS.lload X.here C.ex rfl (C.dec hd) hl r
theorem g_istoreN (C : Cx w l Z own bytes mx rt nm rm n0) {i : Fin 4} {x : Int32} (hd : decode bytes pc = .ok (.istore_n i, 1)) (hs : st = .int x :: rest) (hl : storeLocals Ls i.val (.int x) = some Ls') (hp : pc + 1 = pc') (g : G w Q h k n pc' Ls' rest) : G w Q h k n pc Ls st := by
  subst hp; exact g.adv fun T locs X _ t r => XS.istoreN X.here C.ex rfl (C.dec hd) hs hl r
theorem g_istore (C : Cx w l Z own bytes mx rt nm rm n0) {i : Nat} {x : Int32} (hd : decode bytes pc = .ok (.istore i, 2)) (hs : st = .int x :: rest) (hl : storeLocals Ls i (.int x) = some Ls') (hp : pc + 2 = pc') (g : G w Q h k n pc' Ls' rest) : G w Q h k n pc Ls st := by
  subst hp; exact g.adv fun T locs X _ t r => XS.istore X.here C.ex rfl (C.dec hd) hs hl r
theorem g_lstoreN (C : Cx w l Z own bytes mx rt nm rm n0) {i : Fin 4} {x : Int64} (hd : decode bytes pc = .ok (.lstore_n i, 1)) (hs : st = .long x :: rest) (hl : storeLocals Ls i.val (.long x) = some Ls') (hp : pc + 1 = pc') (g : G w Q h k n pc' Ls' rest) : G w Q h k n pc Ls st := by
  subst hp; exact g.adv fun T locs X _ t r => XS.lstoreN X.here C.ex rfl (C.dec hd) hs hl r
theorem g_lstore (C : Cx w l Z own bytes mx rt nm rm n0) {i : Nat} {x : Int64} (hd : decode bytes pc = .ok (.lstore i, 2)) (hs : st = .long x :: rest) (hl : storeLocals Ls i (.long x) = some Ls') (hp : pc + 2 = pc') (g : G w Q h k n pc' Ls' rest) : G w Q h k n pc Ls st := by
  subst hp; exact g.adv fun T locs X _ t r => XS.lstore X.here C.ex rfl (C.dec hd) hs hl r
theorem g_astoreN (C : Cx w l Z own bytes mx rt nm rm n0) {i : Fin 4} {x : Value} (hd : decode bytes pc = .ok (.astore_n i, 1)) (hs : st = x :: rest) (hv : x.isRef = true) (hl : storeLocals Ls i.val x = some Ls') (hp : pc + 1 = pc') (g : G w Q h k n pc' Ls' rest) : G w Q h k n pc Ls st := by
  subst hp; exact g.adv fun T locs X _ t r => XS.astoreN X.here C.ex rfl (C.dec hd) hs hv hl r
theorem g_astore (C : Cx w l Z own bytes mx rt nm rm n0) {i : Nat} {x : Value} (hd : decode bytes pc = .ok (.astore i, 2)) (hs : st = x :: rest) (hv : x.isRef = true) (hl : storeLocals Ls i x = some Ls') (hp : pc + 2 = pc') (g : G w Q h k n pc' Ls' rest) : G w Q h k n pc Ls st := by
  subst hp; exact g.adv fun T locs X _ t r => XS.astore X.here C.ex rfl (C.dec hd) hs hv hl r
theorem g_iinc (C : Cx w l Z own bytes mx rt nm rm n0) {i : Nat} {cst : Int} {x : Int32} (hd : decode bytes pc = .ok (.iinc i cst, 3)) (hl : Ls[i]? = some (.val (.int x))) (hl' : storeLocals Ls i (.int (x + Int32.ofInt cst)) = some Ls') (hp : pc + 3 = pc') (g : G w Q h k n pc' Ls' st) : G w Q h k n pc Ls st := by
  subst hp; exact g.adv fun T locs X _ t r => XS.iinc X.here C.ex rfl (C.dec hd) hl hl' r
theorem g_iconst (C : Cx w l Z own bytes mx rt nm rm n0) {i : Int} {v : Int32} (hd : decode bytes pc = .ok (.iconst i, 1)) (hv : Int32.ofInt i = v) (hp : pc + 1 = pc') (g : G w Q h k n pc' Ls (.int v :: st)) : G w Q h k n pc Ls st := by
  subst hp hv; exact g.adv fun T locs X _ t r => XS.iconst X.here C.ex rfl (C.dec hd) r
theorem g_bipush (C : Cx w l Z own bytes mx rt nm rm n0) {i : Int} {v : Int32} (hd : decode bytes pc = .ok (.bipush i, 2)) (hv : (Int8.ofInt i).toInt32 = v) (hp : pc + 2 = pc') (g : G w Q h k n pc' Ls (.int v :: st)) : G w Q h k n pc Ls st := by
  subst hp hv; exact g.adv fun T locs X _ t r => XS.bipush X.here C.ex rfl (C.dec hd) r
theorem g_sipush (C : Cx w l Z own bytes mx rt nm rm n0) {i : Int} {v : Int32} (hd : decode bytes pc = .ok (.sipush i, 3)) (hv : (Int16.ofInt i).toInt32 = v) (hp : pc + 3 = pc') (g : G w Q h k n pc' Ls (.int v :: st)) : G w Q h k n pc Ls st := by
  subst hp hv; exact g.adv fun T locs X _ t r => XS.sipush X.here C.ex rfl (C.dec hd) r
theorem g_lconst (C : Cx w l Z own bytes mx rt nm rm n0) {i : Fin 2} {v : Int64} (hd : decode bytes pc = .ok (.lconst i, 1)) (hv : Int64.ofNat i.val = v) (hp : pc + 1 = pc') (g : G w Q h k n pc' Ls (.long v :: st)) : G w Q h k n pc Ls st := by
  subst hp hv; exact g.adv fun T locs X _ t r => XS.lconst X.here C.ex rfl (C.dec hd) r
theorem g_aconstNull (C : Cx w l Z own bytes mx rt nm rm n0) (hd : decode bytes pc = .ok (.aconst_null, 1)) (hp : pc + 1 = pc') (g : G w Q h k n pc' Ls (.null :: st)) : G w Q h k n pc Ls st := by
  subst hp; exact g.adv fun T locs X _ t r => XS.aconstNull X.here C.ex rfl (C.dec hd) r
theorem g_ldcInt (C : Cx w l Z own bytes mx rt nm rm n0) {i : Nat} {v : Int32} (hw : (Jvm.Cond.constant own i v).before a0 Z = true) (hd : decode bytes pc = .ok (.ldc i, 2)) (hp : pc + 2 = pc') (g : G w Q h k n pc' Ls (.int v :: st)) : G w Q h k n pc Ls st := by
  subst hp; exact g.adv fun T locs X _ t r => X.ldcInt C.ex C.ow (mvT C.hZ hw) (g := mkF w.m pc Ls st) rfl (C.dec hd) t r
theorem g_ldc2Long (C : Cx w l Z own bytes mx rt nm rm n0) {i : Nat} {v : Int64} (hw : (Jvm.Cond.constantLong own i v).before a0 Z = true) (hd : decode bytes pc = .ok (.ldc2_w i, 3)) (hp : pc + 3 = pc') (g : G w Q h k n pc' Ls (.long v :: st)) : G w Q h k n pc Ls st := by
  subst hp; exact g.adv fun T locs X _ t r => X.ldc2Long C.ex C.ow (mvT C.hZ hw) (g := mkF w.m pc Ls st) rfl (C.dec hd) t r
theorem g_iadd (C : Cx w l Z own bytes mx rt nm rm n0) {x y : Int32} (hd : decode bytes pc = .ok (.iadd, 1)) (hs : st = .int y :: .int x :: rest) (hp : pc + 1 = pc') (g : G w Q h k n pc' Ls (.int (x + y) :: rest)) : G w Q h k n pc Ls st := by
  subst hp; exact g.adv fun T locs X _ t r => XS.iadd X.here C.ex rfl (C.dec hd) hs r
theorem g_isub (C : Cx w l Z own bytes mx rt nm rm n0) {x y : Int32} (hd : decode bytes pc = .ok (.isub, 1)) (hs : st = .int y :: .int x :: rest) (hp : pc + 1 = pc') (g : G w Q h k n pc' Ls (.int (x - y) :: rest)) : G w Q h k n pc Ls st := by
  subst hp; exact g.adv fun T locs X _ t r => XS.isub X.here C.ex rfl (C.dec hd) hs r
theorem g_imul (C : Cx w l Z own bytes mx rt nm rm n0) {x y : Int32} (hd : decode bytes pc = .ok (.imul, 1)) (hs : st = .int y :: .int x :: rest) (hp : pc + 1 = pc') (g : G w Q h k n pc' Ls (.int (x * y) :: rest)) : G w Q h k n pc Ls st := by
  subst hp; exact g.adv fun T locs X _ t r => XS.imul X.here C.ex rfl (C.dec hd) hs r
theorem g_iand (C : Cx w l Z own bytes mx rt nm rm n0) {x y : Int32} (hd : decode bytes pc = .ok (.iand, 1)) (hs : st = .int y :: .int x :: rest) (hp : pc + 1 = pc') (g : G w Q h k n pc' Ls (.int (x &&& y) :: rest)) : G w Q h k n pc Ls st := by
  subst hp; exact g.adv fun T locs X _ t r => XS.iand X.here C.ex rfl (C.dec hd) hs r
theorem g_ior (C : Cx w l Z own bytes mx rt nm rm n0) {x y : Int32} (hd : decode bytes pc = .ok (.ior, 1)) (hs : st = .int y :: .int x :: rest) (hp : pc + 1 = pc') (g : G w Q h k n pc' Ls (.int (x ||| y) :: rest)) : G w Q h k n pc Ls st := by
  subst hp; exact g.adv fun T locs X _ t r => XS.ior X.here C.ex rfl (C.dec hd) hs r
theorem g_ixor (C : Cx w l Z own bytes mx rt nm rm n0) {x y : Int32} (hd : decode bytes pc = .ok (.ixor, 1)) (hs : st = .int y :: .int x :: rest) (hp : pc + 1 = pc') (g : G w Q h k n pc' Ls (.int (x ^^^ y) :: rest)) : G w Q h k n pc Ls st := by
  subst hp; exact g.adv fun T locs X _ t r => XS.ixor X.here C.ex rfl (C.dec hd) hs r
theorem g_ladd (C : Cx w l Z own bytes mx rt nm rm n0) {x y : Int64} (hd : decode bytes pc = .ok (.ladd, 1)) (hs : st = .long y :: .long x :: rest) (hp : pc + 1 = pc') (g : G w Q h k n pc' Ls (.long (x + y) :: rest)) : G w Q h k n pc Ls st := by
  subst hp; exact g.adv fun T locs X _ t r => XS.ladd X.here C.ex rfl (C.dec hd) hs r
theorem g_lsub (C : Cx w l Z own bytes mx rt nm rm n0) {x y : Int64} (hd : decode bytes pc = .ok (.lsub, 1)) (hs : st = .long y :: .long x :: rest) (hp : pc + 1 = pc') (g : G w Q h k n pc' Ls (.long (x - y) :: rest)) : G w Q h k n pc Ls st := by
  subst hp; exact g.adv fun T locs X _ t r => XS.lsub X.here C.ex rfl (C.dec hd) hs r
theorem g_lmul (C : Cx w l Z own bytes mx rt nm rm n0) {x y : Int64} (hd : decode bytes pc = .ok (.lmul, 1)) (hs : st = .long y :: .long x :: rest) (hp : pc + 1 = pc') (g : G w Q h k n pc' Ls (.long (x * y) :: rest)) : G w Q h k n pc Ls st := by
  subst hp; exact g.adv fun T locs X _ t r => XS.lmul X.here C.ex rfl (C.dec hd) hs r
theorem g_land (C : Cx w l Z own bytes mx rt nm rm n0) {x y : Int64} (hd : decode bytes pc = .ok (.land, 1)) (hs : st = .long y :: .long x :: rest) (hp : pc + 1 = pc') (g : G w Q h k n pc' Ls (.long (x &&& y) :: rest)) : G w Q h k n pc Ls st := by
  subst hp; exact g.adv fun T locs X _ t r => XS.land X.here C.ex rfl (C.dec hd) hs r
theorem g_lor (C : Cx w l Z own bytes mx rt nm rm n0) {x y : Int64} (hd : decode bytes pc = .ok (.lor, 1)) (hs : st = .long y :: .long x :: rest) (hp : pc + 1 = pc') (g : G w Q h k n pc' Ls (.long (x ||| y) :: rest)) : G w Q h k n pc Ls st := by
  subst hp; exact g.adv fun T locs X _ t r => XS.lor X.here C.ex rfl (C.dec hd) hs r
theorem g_lxor (C : Cx w l Z own bytes mx rt nm rm n0) {x y : Int64} (hd : decode bytes pc = .ok (.lxor, 1)) (hs : st = .long y :: .long x :: rest) (hp : pc + 1 = pc') (g : G w Q h k n pc' Ls (.long (x ^^^ y) :: rest)) : G w Q h k n pc Ls st := by
  subst hp; exact g.adv fun T locs X _ t r => XS.lxor X.here C.ex rfl (C.dec hd) hs r
theorem g_ishl (C : Cx w l Z own bytes mx rt nm rm n0) {x y : Int32} (hd : decode bytes pc = .ok (.ishl, 1)) (hs : st = .int y :: .int x :: rest) (hp : pc + 1 = pc') (g : G w Q h k n pc' Ls (.int (x <<< (y &&& 31)) :: rest)) : G w Q h k n pc Ls st := by
  subst hp; exact g.adv fun T locs X _ t r => XS.ishl X.here C.ex rfl (C.dec hd) hs r
theorem g_ishr (C : Cx w l Z own bytes mx rt nm rm n0) {x y : Int32} (hd : decode bytes pc = .ok (.ishr, 1)) (hs : st = .int y :: .int x :: rest) (hp : pc + 1 = pc') (g : G w Q h k n pc' Ls (.int (x >>> (y &&& 31)) :: rest)) : G w Q h k n pc Ls st := by
  subst hp; exact g.adv fun T locs X _ t r => XS.ishr X.here C.ex rfl (C.dec hd) hs r
theorem g_iushr (C : Cx w l Z own bytes mx rt nm rm n0) {x y : Int32} (hd : decode bytes pc = .ok (.iushr, 1)) (hs : st = .int y :: .int x :: rest) (hp : pc + 1 = pc') (g : G w Q h k n pc' Ls (.int ((x.toUInt32 >>> (y &&& 31).toUInt32).toInt32) :: rest)) : G w Q h k n pc Ls st := by
  subst hp; exact g.adv fun T locs X _ t r => XS.iushr X.here C.ex rfl (C.dec hd) hs r
theorem g_ineg (C : Cx w l Z own bytes mx rt nm rm n0) {x : Int32} (hd : decode bytes pc = .ok (.ineg, 1)) (hs : st = .int x :: rest) (hp : pc + 1 = pc') (g : G w Q h k n pc' Ls (.int (-x) :: rest)) : G w Q h k n pc Ls st := by
  subst hp; exact g.adv fun T locs X _ t r => XS.ineg X.here C.ex rfl (C.dec hd) hs r
theorem g_lneg (C : Cx w l Z own bytes mx rt nm rm n0) {x : Int64} (hd : decode bytes pc = .ok (.lneg, 1)) (hs : st = .long x :: rest) (hp : pc + 1 = pc') (g : G w Q h k n pc' Ls (.long (-x) :: rest)) : G w Q h k n pc Ls st := by
  subst hp; exact g.adv fun T locs X _ t r => XS.lneg X.here C.ex rfl (C.dec hd) hs r
theorem g_i2l (C : Cx w l Z own bytes mx rt nm rm n0) {x : Int32} (hd : decode bytes pc = .ok (.i2l, 1)) (hs : st = .int x :: rest) (hp : pc + 1 = pc') (g : G w Q h k n pc' Ls (.long x.toInt64 :: rest)) : G w Q h k n pc Ls st := by
  subst hp; exact g.adv fun T locs X _ t r => XS.i2l X.here C.ex rfl (C.dec hd) hs r
theorem g_l2i (C : Cx w l Z own bytes mx rt nm rm n0) {x : Int64} (hd : decode bytes pc = .ok (.l2i, 1)) (hs : st = .long x :: rest) (hp : pc + 1 = pc') (g : G w Q h k n pc' Ls (.int x.toInt32 :: rest)) : G w Q h k n pc Ls st := by
  subst hp; exact g.adv fun T locs X _ t r => XS.l2i X.here C.ex rfl (C.dec hd) hs r
theorem g_i2b (C : Cx w l Z own bytes mx rt nm rm n0) {x : Int32} (hd : decode bytes pc = .ok (.i2b, 1)) (hs : st = .int x :: rest) (hp : pc + 1 = pc') (g : G w Q h k n pc' Ls (.int x.toInt8.toInt32 :: rest)) : G w Q h k n pc Ls st := by
  subst hp; exact g.adv fun T locs X _ t r => XS.i2b X.here C.ex rfl (C.dec hd) hs r
theorem g_i2s (C : Cx w l Z own bytes mx rt nm rm n0) {x : Int32} (hd : decode bytes pc = .ok (.i2s, 1)) (hs : st = .int x :: rest) (hp : pc + 1 = pc') (g : G w Q h k n pc' Ls (.int x.toInt16.toInt32 :: rest)) : G w Q h k n pc Ls st := by
  subst hp; exact g.adv fun T locs X _ t r => XS.i2s X.here C.ex rfl (C.dec hd) hs r
theorem g_i2c (C : Cx w l Z own bytes mx rt nm rm n0) {x : Int32} (hd : decode bytes pc = .ok (.i2c, 1)) (hs : st = .int x :: rest) (hp : pc + 1 = pc') (g : G w Q h k n pc' Ls (.int x.toUInt32.toUInt16.toUInt32.toInt32 :: rest)) : G w Q h k n pc Ls st := by
  subst hp; exact g.adv fun T locs X _ t r => XS.i2c X.here C.ex rfl (C.dec hd) hs r
theorem g_irem (C : Cx w l Z own bytes mx rt nm rm n0) {x y : Int32} (hd : decode bytes pc = .ok (.irem, 1)) (hs : st = .int y :: .int x :: rest) (hy : y ≠ 0) (hp : pc + 1 = pc') (g : G w Q h k n pc' Ls (.int (x % y) :: rest)) : G w Q h k n pc Ls st := by
  subst hp; exact g.adv fun T locs X _ t r => iremM (g := mkF w.m pc Ls st) X C.ex rfl (C.dec hd) hs hy r
theorem g_idiv (C : Cx w l Z own bytes mx rt nm rm n0) {x y : Int32} (hd : decode bytes pc = .ok (.idiv, 1)) (hs : st = .int y :: .int x :: rest) (hy : y ≠ 0) (hp : pc + 1 = pc') (g : G w Q h k n pc' Ls (.int (x / y) :: rest)) : G w Q h k n pc Ls st := by
  subst hp; exact g.adv fun T locs X _ t r => XS.idiv X.here C.ex rfl (C.dec hd) hs hy r
theorem g_ldiv (C : Cx w l Z own bytes mx rt nm rm n0) {x y : Int64} (hd : decode bytes pc = .ok (.ldiv, 1)) (hs : st = .long y :: .long x :: rest) (hy : y ≠ 0) (hp : pc + 1 = pc') (g : G w Q h k n pc' Ls (.long (x / y) :: rest)) : G w Q h k n pc Ls st := by
  subst hp; exact g.adv fun T locs X _ t r => XS.ldiv X.here C.ex rfl (C.dec hd) hs hy r
theorem g_lrem (C : Cx w l Z own bytes mx rt nm rm n0) {x y : Int64} (hd : decode bytes pc = .ok (.lrem, 1)) (hs : st = .long y :: .long x :: rest) (hy : y ≠ 0) (hp : pc + 1 = pc') (g : G w Q h k n pc' Ls (.long (x - (x / y) * y) :: rest)) : G w Q h k n pc Ls st := by
  subst hp; exact g.adv fun T locs X _ t r => XS.lrem X.here C.ex rfl (C.dec hd) hs hy r
theorem g_lcmp (C : Cx w l Z own bytes mx rt nm rm n0) {x y : Int64} (hd : decode bytes pc = .ok (.lcmp, 1)) (hs : st = .long y :: .long x :: rest) (hp : pc + 1 = pc') (g : G w Q h k n pc' Ls (.int (lcmpW x y) :: rest)) : G w Q h k n pc Ls st := by
  subst hp; exact g.adv fun T locs X _ t r => XS.lcmp X.here C.ex rfl (C.dec hd) hs r
theorem g_dup (C : Cx w l Z own bytes mx rt nm rm n0) {x : Value} (hd : decode bytes pc = .ok (.dup, 1)) (hs : st = x :: rest) (hc : x.category = 1) (hp : pc + 1 = pc') (g : G w Q h k n pc' Ls (x :: x :: rest)) : G w Q h k n pc Ls st := by
  subst hp; exact g.adv fun T locs X _ t r => XS.dup X.here C.ex rfl (C.dec hd) hs hc r
theorem g_pop (C : Cx w l Z own bytes mx rt nm rm n0) {x : Value} (hd : decode bytes pc = .ok (.pop, 1)) (hs : st = x :: rest) (hc : x.category = 1) (hp : pc + 1 = pc') (g : G w Q h k n pc' Ls rest) : G w Q h k n pc Ls st := by
  subst hp; exact g.adv fun T locs X _ t r => XS.pop X.here C.ex rfl (C.dec hd) hs hc r
theorem g_dup_x1 (C : Cx w l Z own bytes mx rt nm rm n0) {x y : Value} (hd : decode bytes pc = .ok (.dup_x1, 1)) (hs : st = x :: y :: rest) (hc : x.category = 1) (hc' : y.category = 1) (hp : pc + 1 = pc') (g : G w Q h k n pc' Ls (x :: y :: x :: rest)) : G w Q h k n pc Ls st := by
  subst hp; exact g.adv fun T locs X _ t r => XS.dupX1 X.here C.ex rfl (C.dec hd) hs hc hc' r
theorem g_dup2 (C : Cx w l Z own bytes mx rt nm rm n0) {x y : Value} (hd : decode bytes pc = .ok (.dup2, 1)) (hs : st = x :: y :: rest) (hc : x.category = 1) (hc' : y.category = 1) (hp : pc + 1 = pc') (g : G w Q h k n pc' Ls (x :: y :: x :: y :: rest)) : G w Q h k n pc Ls st := by
  subst hp; exact g.adv fun T locs X _ t r => XT.dup2 X.here C.ex rfl (C.dec hd) hs hc hc' r
theorem g_dup2L (C : Cx w l Z own bytes mx rt nm rm n0) {x : Int64} (hd : decode bytes pc = .ok (.dup2, 1)) (hs : st = .long x :: rest) (hp : pc + 1 = pc') (g : G w Q h k n pc' Ls (.long x :: .long x :: rest)) : G w Q h k n pc Ls st := by
  subst hp; exact g.adv fun T locs X _ t r => XT.dup2L X.here C.ex rfl (C.dec hd) hs r
theorem g_pop2L (C : Cx w l Z own bytes mx rt nm rm n0) {x : Int64} (hd : decode bytes pc = .ok (.pop2, 1)) (hs : st = .long x :: rest) (hp : pc + 1 = pc') (g : G w Q h k n pc' Ls rest) : G w Q h k n pc Ls st := by
  subst hp hs; exact g.adv fun T locs X _ t r => by
    have hx := C.ex
    have hd' := C.dec hd
    show Steps w.p.tables w.e w.below (T.setTop { method := w.m, pc := pc, locals := Ls, stack := _ :: rest, locked := none }) _
    jvm_step X.here [X.here.top, hx, hd', Value.category]
    exact r
theorem g_dup2_x2L (C : Cx w l Z own bytes mx rt nm rm n0) {x : Int64} {y : Int32} {z : Addr} (hd : decode bytes pc = .ok (.dup2_x2, 1)) (hs : st = .long x :: .int y :: .ref z :: rest) (hp : pc + 1 = pc') (g : G w Q h k n pc' Ls (.long x :: .int y :: .ref z :: .long x :: rest)) : G w Q h k n pc Ls st := by
  subst hp hs; exact g.adv fun T locs X _ t r => by
    have hx := C.ex
    have hd' := C.dec hd
    show Steps w.p.tables w.e w.below (T.setTop { method := w.m, pc := pc, locals := Ls, stack := _ :: _ :: _ :: rest, locked := none }) _
    jvm_step X.here [X.here.top, hx, hd', Value.category]
    exact r
theorem g_goto (C : Cx w l Z own bytes mx rt nm rm n0) {o : Int} (hd : decode bytes pc = .ok (.goto o, 3)) (ho : 0 ≤ (pc : Int) + o) (hp : ((pc : Int) + o).toNat = pc') (g : G w Q h k n pc' Ls st) : G w Q h k n pc Ls st :=
  g.adv fun T locs X _ t r => XS.goto X.here C.ex rfl (pc0 := pc) rfl (C.dec hd) ho hp r
theorem g_ifY (C : Cx w l Z own bytes mx rt nm rm n0) {cd : ClassFile.Cond} {o : Int} {x : Int32} (hd : decode bytes pc = .ok (.ifCond cd o, 3)) (hs : st = .int x :: rest) (hc : if_icmp.holds cd x 0 = true) (ho : 0 ≤ (pc : Int) + o) (hp : ((pc : Int) + o).toNat = pc') (g : G w Q h k n pc' Ls rest) : G w Q h k n pc Ls st :=
  g.adv fun T locs X _ t r => XS.ifYes X.here C.ex rfl (pc0 := pc) rfl (C.dec hd) hs ((if0 _ _).trans hc) ho hp r
theorem g_ifN (C : Cx w l Z own bytes mx rt nm rm n0) {cd : ClassFile.Cond} {o : Int} {x : Int32} (hd : decode bytes pc = .ok (.ifCond cd o, 3)) (hs : st = .int x :: rest) (hc : if_icmp.holds cd x 0 = false) (hp : pc + 3 = pc') (g : G w Q h k n pc' Ls rest) : G w Q h k n pc Ls st := by
  subst hp; exact g.adv fun T locs X _ t r => XS.ifNo X.here C.ex rfl (C.dec hd) hs ((if0 _ _).trans hc) r
theorem g_icY (C : Cx w l Z own bytes mx rt nm rm n0) {cd : ClassFile.Cond} {o : Int} {x y : Int32} (hd : decode bytes pc = .ok (.if_icmp cd o, 3)) (hs : st = .int y :: .int x :: rest) (hc : if_icmp.holds cd x y = true) (ho : 0 ≤ (pc : Int) + o) (hp : ((pc : Int) + o).toNat = pc') (g : G w Q h k n pc' Ls rest) : G w Q h k n pc Ls st :=
  g.adv fun T locs X _ t r => XS.icmpYes X.here C.ex rfl (pc0 := pc) rfl (C.dec hd) hs hc ho hp r
theorem g_icN (C : Cx w l Z own bytes mx rt nm rm n0) {cd : ClassFile.Cond} {o : Int} {x y : Int32} (hd : decode bytes pc = .ok (.if_icmp cd o, 3)) (hs : st = .int y :: .int x :: rest) (hc : if_icmp.holds cd x y = false) (hp : pc + 3 = pc') (g : G w Q h k n pc' Ls rest) : G w Q h k n pc Ls st := by
  subst hp; exact g.adv fun T locs X _ t r => XS.icmpNo X.here C.ex rfl (C.dec hd) hs hc r
/-- what a branch says, in plain words -/
def says (cd : ClassFile.Cond) (x y : Int32) : Prop := match cd with | .lt => x < y | .ge => ¬ x < y | .gt => y < x | .le => ¬ y < x | .eq => x = y | .ne => ¬ x = y
theorem says_t {cd : ClassFile.Cond} {x y : Int32} (q : says cd x y) : if_icmp.holds cd x y = true := by
  cases cd
  · exact (teq q).1
  · exact (feq q).2
  · exact (tlt q).1
  · exact (flt q).2.1
  · exact (tlt q).2.2.1
  · exact (flt q).2.2.2
theorem says_f {cd : ClassFile.Cond} {x y : Int32} (q : ¬ says cd x y) : if_icmp.holds cd x y = false := by
  cases cd
  · exact (feq q).1
  · exact (teq (Decidable.not_not.mp q)).2
  · exact (flt q).1
  · exact (tlt (Decidable.not_not.mp q)).2.1
  · exact (flt q).2.2.1
  · exact (tlt (Decidable.not_not.mp q)).2.2.2
theorem g_icB (C : Cx w l Z own bytes mx rt nm rm n0) {cd : ClassFile.Cond} {o : Int} {x y : Int32} {pcT : Nat} (hd : decode bytes pc = .ok (.if_icmp cd o, 3)) (hs : st = .int y :: .int x :: rest) (ho : 0 ≤ (pc : Int) + o) (hT : ((pc : Int) + o).toNat = pcT) (hp : pc + 3 = pc') (gy : says cd x y → G w Q h k n pcT Ls rest) (gn : ¬ says cd x y → G w Q h k n pc' Ls rest) : G w Q h k n pc Ls st := by
  by_cases q : says cd x y
  · exact g_icY C hd hs (says_t q) ho hT (gy q)
  · exact g_icN C hd hs (says_f q) hp (gn q)
theorem g_ifB (C : Cx w l Z own bytes mx rt nm rm n0) {cd : ClassFile.Cond} {o : Int} {x : Int32} {pcT : Nat} (hd : decode bytes pc = .ok (.ifCond cd o, 3)) (hs : st = .int x :: rest) (ho : 0 ≤ (pc : Int) + o) (hT : ((pc : Int) + o).toNat = pcT) (hp : pc + 3 = pc') (gy : says cd x 0 → G w Q h k n pcT Ls rest) (gn : ¬ says cd x 0 → G w Q h k n pc' Ls rest) : G w Q h k n pc Ls st := by
  by_cases q : says cd x 0
  · exact g_ifY C hd hs (says_t q) ho hT (gy q)
  · exact g_ifN C hd hs (says_f q) hp (gn q)
theorem g_ifnullY (C : Cx w l Z own bytes mx rt nm rm n0) {o : Int} (hd : decode bytes pc = .ok (.ifnull o, 3)) (hs : st = .null :: rest) (ho : 0 ≤ (pc : Int) + o) (hp : ((pc : Int) + o).toNat = pc') (g : G w Q h k n pc' Ls rest) : G w Q h k n pc Ls st :=
  g.adv fun T locs X _ t r => XS.ifnullYes X.here C.ex rfl (pc0 := pc) rfl (C.dec hd) hs ho hp r
theorem g_ifnullN (C : Cx w l Z own bytes mx rt nm rm n0) {o : Int} {b : Addr} (hd : decode bytes pc = .ok (.ifnull o, 3)) (hs : st = .ref b :: rest) (hp : pc + 3 = pc') (g : G w Q h k n pc' Ls rest) : G w Q h k n pc Ls st := by
  subst hp; exact g.adv fun T locs X _ t r => XS.ifnullNo X.here C.ex rfl (C.dec hd) hs r
theorem g_ifnonnullY (C : Cx w l Z own bytes mx rt nm rm n0) {o : Int} {b : Addr} (hd : decode bytes pc = .ok (.ifnonnull o, 3)) (hs : st = .ref b :: rest) (ho : 0 ≤ (pc : Int) + o) (hp : ((pc : Int) + o).toNat = pc') (g : G w Q h k n pc' Ls rest) : G w Q h k n pc Ls st :=
  g.adv fun T locs X _ t r => XS.ifnonnullYes X.here C.ex rfl (pc0 := pc) rfl (C.dec hd) hs ho hp r
theorem g_ifnonnullN (C : Cx w l Z own bytes mx rt nm rm n0) {o : Int} (hd : decode bytes pc = .ok (.ifnonnull o, 3)) (hs : st = .null :: rest) (hp : pc + 3 = pc') (g : G w Q h k n pc' Ls rest) : G w Q h k n pc Ls st := by
  subst hp; exact g.adv fun T locs X _ t r => XS.ifnonnullNo X.here C.ex rfl (C.dec hd) hs r
theorem g_acmp (C : Cx w l Z own bytes mx rt nm rm n0) {cd : ACond} {o : Int} {x y : Value} {same : Bool} (hd : decode bytes pc = .ok (.if_acmp cd o, 3)) (hs : st = y :: x :: rest) (h1 : x.isRef = true) (h2 : y.isRef = true) (hq : decide (x = y) = same) (ho : 0 ≤ (pc : Int) + o) (hp : pc' = if acV cd same = true then ((pc : Int) + o).toNat else pc + 3) (g : G w Q h k n pc' Ls rest) : G w Q h k n pc Ls st :=
  g.adv fun T locs X _ t r => Jvm.RoadKit.acmp (g := mkF w.m pc Ls st) X C.ex rfl h1 h2 (pc0 := pc) rfl (C.dec hd) hs hq ho hp r
theorem g_tsw (C : Cx w l Z own bytes mx rt nm rm n0) {df lo hi : Int} {offs : Array Int} {len : Nat} {o : Int} {i : Int32} (hd : decode bytes pc = .ok (.tableswitch df lo hi offs, len)) (hs : st = .int i :: rest) (hin : ¬ (i.toInt < lo ∨ i.toInt > hi)) (hoff : offs[(i.toInt - lo).toNat]? = some o) (ho : 0 ≤ (pc : Int) + o) (hp : ((pc : Int) + o).toNat = pc') (g : G w Q h k n pc' Ls rest) : G w Q h k n pc Ls st :=
  g.adv fun T locs X _ t r => XS.tswIn X.here C.ex rfl (pc0 := pc) rfl (C.dec hd) hs hin hoff ho hp r
theorem g_tswOut (C : Cx w l Z own bytes mx rt nm rm n0) {df lo hi : Int} {offs : Array Int} {len : Nat} {i : Int32} (hd : decode bytes pc = .ok (.tableswitch df lo hi offs, len)) (hs : st = .int i :: rest) (hin : i.toInt < lo ∨ i.toInt > hi) (ho : 0 ≤ (pc : Int) + df) (hp : ((pc : Int) + df).toNat = pc') (g : G w Q h k n pc' Ls rest) : G w Q h k n pc Ls st :=
  g.adv fun T locs X _ t r => XS.tswOut X.here C.ex rfl (pc0 := pc) rfl (C.dec hd) hs hin ho hp r
/-! the heap and the tables -/
theorem g_getF (C : Cx w l Z own bytes mx rt nm rm n0) {R0 O f d : String} {i : Nat} {a : Addr} {v : Value} (hw : (Jvm.Cond.fieldLink own i R0 f d).before a0 Z = true) (via : Via Z R0 O f d) (hd : decode bytes pc = .ok (.getfield i, 3)) (hs : st = .ref a :: rest) (F : Fld Z h a O f d v) (hp : pc + 3 = pc') (g : G w Q h k n pc' Ls (v :: rest)) : G w Q h k n pc Ls st := by
  subst hp; intro T locs X eT N
  obtain ⟨T', X', e', s'⟩ := getF X C.ex C.hZ C.ow (host := "") (Or.inl hw) via eT F (g := mkF w.m pc Ls st) rfl hs (C.dec hd)
  exact G.to X' e' N s' g
theorem g_getFN (C : Cx w l Z own bytes mx rt nm rm n0) {R0 O f d host : String} {i : Nat} {a : Addr} {v : Value} (hw : (Jvm.Cond.fieldLinkNest own i R0 f d host).before a0 Z = true) (via : Via Z R0 O f d) (hd : decode bytes pc = .ok (.getfield i, 3)) (hs : st = .ref a :: rest) (F : Fld Z h a O f d v) (hp : pc + 3 = pc') (g : G w Q h k n pc' Ls (v :: rest)) : G w Q h k n pc Ls st := by
  subst hp; intro T locs X eT N
  obtain ⟨T', X', e', s'⟩ := getF X C.ex C.hZ C.ow (Or.inr hw) via eT F (g := mkF w.m pc Ls st) rfl hs (C.dec hd)
  exact G.to X' e' N s' g
theorem g_getS (C : Cx w l Z own bytes mx rt nm rm n0) {R0 O f d : String} {i : Nat} {v : Value} (hw : (Jvm.Cond.fieldLink own i R0 f d).before a0 Z = true) (via : Via Z R0 O f d) (hd : decode bytes pc = .ok (.getstatic i, 3)) (F : Sta Z h O f d v) (hp : pc + 3 = pc') (g : G w Q h k n pc' Ls (v :: st)) : G w Q h k n pc Ls st := by
  subst hp; intro T locs X eT N
  obtain ⟨T', X', e', s'⟩ := getS2 X C.ex C.hZ C.ow (host := "") (Or.inl hw) via eT F (g := mkF w.m pc Ls st) rfl (C.dec hd)
  exact G.to X' e' N s' g
theorem g_getSN (C : Cx w l Z own bytes mx rt nm rm n0) {R0 O f d host : String} {i : Nat} {v : Value} (hw : (Jvm.Cond.fieldLinkNest own i R0 f d host).before a0 Z = true) (via : Via Z R0 O f d) (hd : decode bytes pc = .ok (.getstatic i, 3)) (F : Sta Z h O f d v) (hp : pc + 3 = pc') (g : G w Q h k n pc' Ls (v :: st)) : G w Q h k n pc Ls st := by
  subst hp; intro T locs X eT N
  obtain ⟨T', X', e', s'⟩ := getS2 X C.ex C.hZ C.ow (Or.inr hw) via eT F (g := mkF w.m pc Ls st) rfl (C.dec hd)
  exact G.to X' e' N s' g
theorem fr_snoc {L : List Loc} {a : Addr} {sl k : Nat} (N : Fr k L) (q : k ≤ a) : Fr k (L ++ [⟨a, sl⟩]) := N.app fun y hy => by cases List.mem_singleton.mp hy; exact q
theorem g_putF (C : Cx w l Z own bytes mx rt nm rm n0) {R0 O f d K : String} {i kk : Nat} {ty : FieldType} {a : Addr} {v old : Value} (hw : (Jvm.Cond.fieldLink own i R0 f d).before a0 Z = true) (via : Via Z R0 O f d) (hd : decode bytes pc = .ok (.putfield i, 3)) (hs : st = v :: .ref a :: rest) (F : Fld Z h a O f d old) (E : Exa Z h a K) (La : (Jvm.Cond.lays K O f d).before a0 Z = true ∨ ((Jvm.Cond.laysFinal K O f d).before a0 Z = true ∧ own = O ∧ nm = "<init>")) (wi : (Jvm.Cond.instantiable K kk).before a0 Z = true) (hty : parseFieldDescriptor d = some ty) (hn : narrow ty v = v) (hf : fits ty v = true) (ge : n0 ≤ a) (hp : pc + 3 = pc')
    (g : ∀ h', Wr h h' a (Jvm.RoadKit.slotOf Z O f d) v → G w Q h' k n pc' Ls rest) : G w Q h k n pc Ls st := by
  subst hp; intro T locs X eT N
  obtain ⟨T', h', X', e', W, s'⟩ := putF X C.ex C.hZ C.ow (host := "") (Or.inl hw) via eT F E (La.imp id fun q => ⟨q.1, q.2.1, C.mn.trans q.2.2⟩) wi hty hn hf (g := mkF w.m pc Ls st) rfl hs (C.dec hd)
  exact G.to X' e' (fr_snoc N (C.nn ▸ ge)) s' (g h' W)
theorem g_putFN (C : Cx w l Z own bytes mx rt nm rm n0) {R0 O f d K : String} {i kk : Nat} {ty : FieldType} {a : Addr} {v v' old : Value} (hw : (Jvm.Cond.fieldLink own i R0 f d).before a0 Z = true) (via : Via Z R0 O f d) (hd : decode bytes pc = .ok (.putfield i, 3)) (hs : st = v :: .ref a :: rest) (F : Fld Z h a O f d old) (E : Exa Z h a K) (La : (Jvm.Cond.lays K O f d).before a0 Z = true ∨ ((Jvm.Cond.laysFinal K O f d).before a0 Z = true ∧ own = O ∧ nm = "<init>")) (wi : (Jvm.Cond.instantiable K kk).before a0 Z = true) (hty : parseFieldDescriptor d = some ty) (hn : narrow ty v = v') (hf : fits ty v' = true) (ge : n0 ≤ a) (hp : pc + 3 = pc')
    (g : ∀ h', Wr h h' a (Jvm.RoadKit.slotOf Z O f d) v' → G w Q h' k n pc' Ls rest) : G w Q h k n pc Ls st := by
  subst hp; intro T locs X eT N
  obtain ⟨T', h', X', e', W, s'⟩ := putFN X C.ex C.hZ C.ow hw via eT F E (La.imp id fun q => ⟨q.1, q.2.1, C.mn.trans q.2.2⟩) wi hty hn hf (g := mkF w.m pc Ls st) rfl hs (C.dec hd)
  exact G.to X' e' (fr_snoc N (C.nn ▸ ge)) s' (g h' W)
theorem g_new (C : Cx w l Z own bytes mx rt nm rm n0) {K : String} {i ns : Nat} (hw : (Jvm.Cond.classLink own i K).before a0 Z = true) (wi : (Jvm.Cond.instantiable K ns).before a0 Z = true) (wz : (Jvm.Cond.initialized K).before a0 Z = true) (hd : decode bytes pc = .ok (.new i, 3)) (hc : k' ≤ rm.cells) (hl : n' ≤ rm.slots) (ek : k + 1 = k') (en : n + ns = n') (hp : pc + 3 = pc')
    (g : ∀ h' a, a = h.size → Ext h h' → Exa Z h' a K → (∀ {O f d : String} {ty : FieldType}, Laid Z a0 K O f d → parseFieldDescriptor d = some ty → Fld Z h' a O f d (defaultValue ty)) → G w Q h' k' n' pc' Ls (.ref a :: st)) : G w Q h k n pc Ls st := by
  subst hp ek en; intro T locs X eT N
  obtain ⟨T', h', X', e', E, A, D, -, s'⟩ := newO X C.ex C.hZ C.ow hw wi wz eT (g := mkF w.m pc Ls st) rfl (C.dec hd) (by rw [C.ro]; exact hc) (by rw [C.ro]; exact hl)
  exact G.to X' e' N s' (g h' _ rfl E A D)
theorem g_initO (C : Cx w l Z own bytes mx rt nm rm n0) {i : Nat} {a : Addr} (hw : (Jvm.Cond.methodLink own i Lib.objectInit).before a0 Z = true) (w2 : (Jvm.Cond.instanceMethod Lib.objectInit).before a0 Z = true) (w3 : (Jvm.Cond.code Lib.objectInit ⟨#[0xb1]⟩ 1 none).before a0 Z = true) (hd : decode bytes pc = .ok (.invokespecial i, 3)) (hs : st = .ref a :: rest) (hz : Ls.size = mx) (hf : 1 ≤ rm.frames) (hl : (rest.map fun v => v.category).sum + 12 ≤ rm.locals) (hp : pc + 3 = pc') (g : G w Q h k n pc' Ls rest) : G w Q h k n pc Ls st := by
  subst hp; intro T locs X eT N
  obtain ⟨T', X', e', s'⟩ := initO X C.ex C.hZ C.ow hw w2 w3 eT (g := mkF w.m pc Ls st) rfl (hz.trans C.ml.symm) hs (C.dec hd) (by rw [C.ro]; exact hf) (W := (rest.map fun v => v.category).sum) (by show 2 * 0 + _ ≤ _; omega) (by rw [C.ro]; exact hl)
  exact G.to X' e' N s' g
theorem g_cast (C : Cx w l Z own bytes mx rt nm rm n0) {K : String} {i : Nat} {a : Addr} (hw : (Jvm.Cond.classLink own i K).before a0 Z = true) (hd : decode bytes pc = .ok (.checkcast i, 3)) (hs : st = .ref a :: rest) (F : Ins Z h a K true) (hp : pc + 3 = pc') (g : G w Q h k n pc' Ls st) : G w Q h k n pc Ls st := by
  subst hp; intro T locs X eT N
  obtain ⟨T', X', e', s'⟩ := castY X C.ex C.hZ C.ow hw eT F (g := mkF w.m pc Ls st) rfl hs (C.dec hd)
  exact G.to X' e' N s' g
theorem g_instY (C : Cx w l Z own bytes mx rt nm rm n0) {K : String} {i : Nat} {a : Addr} (hw : (Jvm.Cond.classLink own i K).before a0 Z = true) (hd : decode bytes pc = .ok (.instanceof i, 3)) (hs : st = .ref a :: rest) (F : Ins Z h a K true) (hp : pc + 3 = pc') (g : G w Q h k n pc' Ls (.int 1 :: rest)) : G w Q h k n pc Ls st := by
  subst hp; intro T locs X eT N
  obtain ⟨T', X', e', s'⟩ := instY X C.ex C.hZ C.ow hw eT F (g := mkF w.m pc Ls st) rfl hs (C.dec hd)
  exact G.to X' e' N s' g
theorem g_instN (C : Cx w l Z own bytes mx rt nm rm n0) {K B : String} {i : Nat} {a : Addr} (hw : (Jvm.Cond.classLink own i K).before a0 Z = true) (hd : decode bytes pc = .ok (.instanceof i, 3)) (hs : st = .ref a :: rest) (E : Exa Z h a B) (F : ∃ c t, Z.vm.findClass B = some c ∧ Z.vm.findClass K = some t ∧ Z.vm.assignable c t = false) (hp : pc + 3 = pc') (g : G w Q h k n pc' Ls (.int 0 :: rest)) : G w Q h k n pc Ls st := by
  subst hp; intro T locs X eT N
  obtain ⟨T', X', e', s'⟩ := instNo X C.ex C.hZ C.ow hw eT E F (g := mkF w.m pc Ls st) rfl hs (C.dec hd)
  exact G.to X' e' N s' g
theorem g_newP (C : Cx w l Z own bytes mx rt nm rm n0) {aty : ArrayType} {z : Int32} {cap : Nat} (hw : (Jvm.Cond.arrayClass (newarray.typeOf aty)).before a0 Z = true) (hd : decode bytes pc = .ok (.newarray aty, 2)) (hs : st = .int z :: rest) (hn : ¬ z < 0) (hcap : z.toNatClampNeg ≤ cap) (hb' : cap * 8 ≤ 536870912) (hc : k' ≤ rm.cells) (hl : n' ≤ rm.slots) (ek : k + 1 = k') (en : n + cap = n') (hp : pc + 2 = pc')
    (g : ∀ h' a kA, a = h.size → Ext h h' → Arv Z h' a kA (newarray.typeOf aty) z [] (defaultValue (newarray.typeOf aty)) → G w Q h' k' n' pc' Ls (.ref a :: rest)) : G w Q h k n pc Ls st := by
  subst hp ek en; intro T locs X eT N
  obtain ⟨T', h', kA, X', e', E, A, s'⟩ := newP X C.ex C.hZ hw eT (g := mkF w.m pc Ls st) rfl (C.dec hd) hs hn hcap hb' (by rw [C.ro]; exact hc) (by rw [C.ro]; exact hl)
  exact G.to X' e' N s' (g h' _ kA rfl E (Arv.new A hn))
theorem g_newR (C : Cx w l Z own bytes mx rt nm rm n0) {K : String} {i : Nat} {z : Int32} {cap : Nat} (hw : (Jvm.Cond.classLink own i K).before a0 Z = true) (w2 : (Jvm.Cond.arrayOver (.object K)).before a0 Z = true) (hd : decode bytes pc = .ok (.anewarray i, 3)) (hs : st = .int z :: rest) (hn : ¬ z < 0) (hcap : z.toNatClampNeg ≤ cap) (hb' : cap * 8 ≤ 536870912) (hc : k' ≤ rm.cells) (hl : n' ≤ rm.slots) (ek : k + 1 = k') (en : n + cap = n') (hp : pc + 3 = pc')
    (g : ∀ h' a kA, a = h.size → Ext h h' → Arv Z h' a kA (.object K) z [] .null → Ovr Z kA K → G w Q h' k' n' pc' Ls (.ref a :: rest)) : G w Q h k n pc Ls st := by
  subst hp ek en; intro T locs X eT N
  obtain ⟨T', h', kA, X', e', E, A, O, s'⟩ := newR X C.ex C.hZ C.ow hw w2 eT (g := mkF w.m pc Ls st) rfl (C.dec hd) hs hn hcap hb' (by rw [C.ro]; exact hc) (by rw [C.ro]; exact hl)
  exact G.to X' e' N s' (g h' _ kA rfl E (Arv.new A hn) O)
theorem g_newPE (C : Cx w l Z own bytes mx rt nm rm n0) {aty : ArrayType} {z : Int32} {cap : Nat} {ad : String} (hw : (Jvm.Cond.arrayClass (newarray.typeOf aty)).before a0 Z = true) (had : "[" ++ (newarray.typeOf aty).toString = ad) (hd : decode bytes pc = .ok (.newarray aty, 2)) (hs : st = .int z :: rest) (hn : ¬ z < 0) (hcap : z.toNatClampNeg ≤ cap) (hb' : cap * 8 ≤ 536870912) (hc : k' ≤ rm.cells) (hl : n' ≤ rm.slots) (ek : k + 1 = k') (en : n + cap = n') (hp : pc + 2 = pc')
    (g : ∀ h' a kA, a = h.size → Ext h h' → Arv Z h' a kA (newarray.typeOf aty) z [] (defaultValue (newarray.typeOf aty)) → Exa Z h' a ad → G w Q h' k' n' pc' Ls (.ref a :: rest)) : G w Q h k n pc Ls st := by
  subst hp ek en; intro T locs X eT N
  obtain ⟨T', h', kA, X', e', E, A, B, s'⟩ := newPE X C.ex C.hZ hw eT (g := mkF w.m pc Ls st) rfl (C.dec hd) hs hn hcap hb' (by rw [C.ro]; exact hc) (by rw [C.ro]; exact hl) had
  exact G.to X' e' N s' (g h' _ kA rfl E (Arv.new A hn) B)
theorem g_newRA (C : Cx w l Z own bytes mx rt nm rm n0) {K ad : String} {i : Nat} {ty : FieldType} {z : Int32} {cap : Nat} (hC : (FieldType.array ty).toString = K) (had : "[" ++ K = ad) (hw : (Jvm.Cond.classLink own i K).before a0 Z = true) (w2 : (Jvm.Cond.arrayOver (.array ty)).before a0 Z = true) (hd : decode bytes pc = .ok (.anewarray i, 3)) (hs : st = .int z :: rest) (hn : ¬ z < 0) (hcap : z.toNatClampNeg ≤ cap) (hb' : cap * 8 ≤ 536870912) (hc : k' ≤ rm.cells) (hl : n' ≤ rm.slots) (ek : k + 1 = k') (en : n + cap = n') (hp : pc + 3 = pc')
    (g : ∀ h' a kA, a = h.size → Ext h h' → Arv Z h' a kA (.array ty) z [] .null → Exa Z h' a ad → OvrA Z kA ty K → G w Q h' k' n' pc' Ls (.ref a :: rest)) : G w Q h k n pc Ls st := by
  subst hp ek en; intro T locs X eT N
  obtain ⟨T', h', kA, X', e', E, A, B, O, s'⟩ := newRA X C.ex C.hZ C.ow hC hw w2 eT (g := mkF w.m pc Ls st) rfl (C.dec hd) hs hn hcap hb' (by rw [C.ro]; exact hc) (by rw [C.ro]; exact hl) had
  exact G.to X' e' N s' (g h' _ kA rfl E (Arv.new A hn) B O)
theorem stoA {h : Heap} {a y : Addr} {kA : ClassId} {t0 ty : FieldType} {K : String} {z : Int32} {vs : List Value} {dv : Value} (A : Arv Z h a kA t0 z vs dv) (O : OvrA Z kA ty K) (E : Exa Z h y K) : Sto Z h a (.ref y) := by
  obtain ⟨c, Ar, q, -⟩ := A; exact Sto.ofVA Ar q O (Ins.self E)
theorem stoR {h : Heap} {a y : Addr} {kA : ClassId} {t0 : FieldType} {K : String} {z : Int32} {vs : List Value} {dv : Value} (A : Arv Z h a kA t0 z vs dv) (O : Ovr Z kA K) (I : Ins Z h y K true) : Sto Z h a (.ref y) := by
  obtain ⟨c, Ar, q, -⟩ := A; exact Sto.ofV Ar q O I
theorem g_cpA (C : Cx w l Z own bytes mx rt nm rm n0) {i : Nat} {a b : Addr} {k1 k2 : ClassId} {ty ty' : FieldType} {z z' sp dp nn : Int32} {vs vd us : List Value} {dv dd : Value}
    (w1 : (Jvm.Cond.methodLink own i Jvm.Stand.acN).before a0 Z = true) (w2 : (Jvm.Cond.native Jvm.Stand.acN).before a0 Z = true) (w3 : (Jvm.Cond.static Jvm.Stand.acN).before a0 Z = true) (w4 : (Jvm.Cond.initialized "java/lang/System").before a0 Z = true)
    (hd : decode bytes pc = .ok (.invokestatic i, 3)) (hs : st = .int nn :: .int dp :: .ref b :: .int sp :: .ref a :: rest) (hz : Ls.size = mx) (A : Arv Z h a k1 ty z vs dv) (B : Arv Z h b k2 ty' z' vd dd) (hty : (ty = ty' ∧ refKind ty = false) ∨ (refKind ty = true ∧ refKind ty' = true ∧ StoL Z h b us))
    (h1 : ¬ sp < 0) (h2 : ¬ dp < 0) (h3 : ¬ nn < 0) (h4 : sp.toNatClampNeg + nn.toNatClampNeg ≤ z.toNatClampNeg) (h5 : dp.toNatClampNeg + nn.toNatClampNeg ≤ z'.toNatClampNeg) (hus : us = (List.range nn.toNatClampNeg).map fun i => vs.getD (sp.toNatClampNeg + i) dv) (hlen : dp.toNatClampNeg + nn.toNatClampNeg ≤ vd.length) (ge : n0 ≤ b)
    (hf : 1 ≤ rm.frames) (hlo : (rest.map fun v => v.category).sum + (nativeFrameWords "java/lang/System" "arraycopy" 5 + 11) ≤ rm.locals) (hp : pc + 3 = pc')
    (g : ∀ h', Keep h h' [b] → Arv Z h' b k2 ty' z' (vd.take dp.toNatClampNeg ++ us ++ vd.drop (dp.toNatClampNeg + nn.toNatClampNeg)) dd → G w Q h' k n pc' Ls rest) : G w Q h k n pc Ls st := by
  subst hp; intro T locs X eT N
  obtain ⟨T', h', L, X', e', N', K, A', s'⟩ := cpA X C.ex C.hZ C.ow w1 w2 w3 w4 eT A B hty h1 h2 h3 h4 h5 hus hlen (n0 := w.n0) N (C.nn ▸ ge) (g := mkF w.m pc Ls st) rfl (hz.trans C.ml.symm) hs (C.dec hd) (by rw [C.ro]; exact hf) (W := (rest.map fun v => v.category).sum) (by show 2 * 0 + _ ≤ _; omega) (by rw [C.ro]; exact hlo)
  exact G.to X' e' N' s' (g h' K A')
/-! arrays by their values: an array fact (Arv) with a list of all its values -/
theorem arv_inb {a : Addr} {kA : ClassId} {ty : FieldType} {z j : Int32} {vs : List Value} {dv : Value} (A : Arv Z h a kA ty z vs dv) (q1 : ¬ j < 0) (q2 : j < z) : ∃ cl, Arr Z h a cl ty ∧ ¬ (j < 0 ∨ cl.slots.size ≤ j.toNatClampNeg) ∧ cl.slots[j.toNatClampNeg]? = some (vs.getD j.toNatClampNeg dv) := by
  obtain ⟨cl, Ar, -, S, -, H, -⟩ := A
  have hi := inb_of S ⟨q1, q2⟩
  exact ⟨cl, Ar, hi, H.at hi rfl⟩
theorem arv_put {h' : Heap} {a : Addr} {kA : ClassId} {ty : FieldType} {z j : Int32} {vs : List Value} {dv v : Value} (A : Arv Z h a kA ty z vs dv) (hv : fits ty v = true) (W : Wr h h' a j.toNatClampNeg v) {i : Nat} (hj : j.toNatClampNeg = i) (hi : i < vs.length) : Arv Z h' a kA ty z (vs.set i v) dv := by
  obtain ⟨cl, Ar, q1, S, q3, H, F⟩ := A
  exact Arv.set Ar q1 S q3 H F hv W i hj hi

theorem g_iaload (C : Cx w l Z own bytes mx rt nm rm n0) {a : Addr} {kA : ClassId} {z j : Int32} {vs : List Value} {dv : Value} {x : Int32} (hd : decode bytes pc = .ok (.iaload, 1)) (hs : st = .int j :: .ref a :: rest) (A : Arv Z h a kA .int z vs dv) (q1 : ¬ j < 0) (q2 : j < z) (hv : vs.getD j.toNatClampNeg dv = .int x) (hp : pc + 1 = pc') (g : G w Q h k n pc' Ls (.int x :: rest)) : G w Q h k n pc Ls st := by
  subst hp; intro T locs X eT N
  obtain ⟨cl, Ar, hi, hg⟩ := arv_inb A q1 q2
  rw [hv] at hg
  exact G.to X eT N (fun t r => X.iaload C.ex (j := j) (v := .int x) (by rw [eT]; exact Ar.1) (State.isArrayOf_alike C.hZ.alike Ar.2.1) Ar.2.2 hi hg (g := mkF w.m pc Ls st) rfl hs (C.dec hd) _ r) g
theorem g_laload (C : Cx w l Z own bytes mx rt nm rm n0) {a : Addr} {kA : ClassId} {z j : Int32} {vs : List Value} {dv : Value} {x : Int64} (hd : decode bytes pc = .ok (.laload, 1)) (hs : st = .int j :: .ref a :: rest) (A : Arv Z h a kA .long z vs dv) (q1 : ¬ j < 0) (q2 : j < z) (hv : vs.getD j.toNatClampNeg dv = .long x) (hp : pc + 1 = pc') (g : G w Q h k n pc' Ls (.long x :: rest)) : G w Q h k n pc Ls st := by
  subst hp; intro T locs X eT N
  obtain ⟨cl, Ar, hi, hg⟩ := arv_inb A q1 q2
  rw [hv] at hg
  exact G.to X eT N (fun t r => X.laload C.ex (j := j) (v := .long x) (by rw [eT]; exact Ar.1) (State.isArrayOf_alike C.hZ.alike Ar.2.1) Ar.2.2 hi hg (g := mkF w.m pc Ls st) rfl hs (C.dec hd) _ r) g
theorem g_baload (C : Cx w l Z own bytes mx rt nm rm n0) {a : Addr} {kA : ClassId} {z j : Int32} {vs : List Value} {dv : Value} {x : Int32} (hd : decode bytes pc = .ok (.baload, 1)) (hs : st = .int j :: .ref a :: rest) (A : Arv Z h a kA .byte z vs dv) (q1 : ¬ j < 0) (q2 : j < z) (hv : vs.getD j.toNatClampNeg dv = .int x) (hp : pc + 1 = pc') (g : G w Q h k n pc' Ls (.int x :: rest)) : G w Q h k n pc Ls st := by
  subst hp; intro T locs X eT N
  obtain ⟨cl, Ar, hi, hg⟩ := arv_inb A q1 q2
  rw [hv] at hg
  exact G.to X eT N (fun t r => X.baloadBytes C.ex (j := j) (v := .int x) (by rw [eT]; exact Ar.1) (State.isArrayOf_alike C.hZ.alike Ar.2.1) Ar.2.2 hi hg (g := mkF w.m pc Ls st) rfl hs (C.dec hd) _ r) g
theorem g_aaload (C : Cx w l Z own bytes mx rt nm rm n0) {a : Addr} {kA : ClassId} {ty : FieldType} {z j : Int32} {vs : List Value} {dv x : Value} (hd : decode bytes pc = .ok (.aaload, 1)) (hs : st = .int j :: .ref a :: rest) (A : Arv Z h a kA ty z vs dv) (hty : ty.isReference = true) (q1 : ¬ j < 0) (q2 : j < z) (hv : vs.getD j.toNatClampNeg dv = x) (hp : pc + 1 = pc') (g : G w Q h k n pc' Ls (x :: rest)) : G w Q h k n pc Ls st := by
  subst hp; intro T locs X eT N
  obtain ⟨cl, Ar, hi, hg⟩ := arv_inb A q1 q2
  rw [hv] at hg
  exact G.to X eT N (fun t r => X.aaload C.ex (j := j) (v := x) (by rw [eT]; exact Ar.1) (State.isArrayOf_alike C.hZ.alike Ar.2.1) hty Ar.2.2 hi hg (g := mkF w.m pc Ls st) rfl hs (C.dec hd) _ r) g
theorem g_alen (C : Cx w l Z own bytes mx rt nm rm n0) {a : Addr} {kA : ClassId} {ty : FieldType} {z : Int32} {vs : List Value} {dv : Value} (hd : decode bytes pc = .ok (.arraylength, 1)) (hs : st = .ref a :: rest) (A : Arv Z h a kA ty z vs dv) (hp : pc + 1 = pc') (g : G w Q h k n pc' Ls (.int z :: rest)) : G w Q h k n pc Ls st := by
  subst hp; intro T locs X eT N
  obtain ⟨cl, Ar, -, S, q3, -, -⟩ := A
  exact G.to X eT N (fun t r => X.arraylength C.ex (by rw [eT]; exact Ar.1) (State.isArrayOf_alike C.hZ.alike Ar.2.1) (g := mkF w.m pc Ls st) rfl hs (C.dec hd) _ (by rw [len_of S q3]; exact r)) g

theorem g_iastore (C : Cx w l Z own bytes mx rt nm rm n0) {a : Addr} {kA : ClassId} {z j : Int32} {vs : List Value} {dv : Value} {x : Int32} (hd : decode bytes pc = .ok (.iastore, 1)) (hs : st = .int x :: .int j :: .ref a :: rest) (A : Arv Z h a kA .int z vs dv) (q1 : ¬ j < 0) (q2 : j < z) (ge : n0 ≤ a) (hp : pc + 1 = pc')
    (g : ∀ h', Wr h h' a j.toNatClampNeg (.int x) → G w Q h' k n pc' Ls rest) : G w Q h k n pc Ls st := by
  subst hp; intro T locs X eT N
  obtain ⟨cl, Ar, hi, -⟩ := arv_inb A q1 q2
  obtain ⟨T', h', X', e', W, s'⟩ := stI X C.ex C.hZ eT Ar (j := j) hi (g := mkF w.m pc Ls st) rfl hs (C.dec hd)
  exact G.to X' e' (fr_snoc N (C.nn ▸ ge)) s' (g h' W)
theorem g_lastore (C : Cx w l Z own bytes mx rt nm rm n0) {a : Addr} {kA : ClassId} {z j : Int32} {vs : List Value} {dv : Value} {x : Int64} (hd : decode bytes pc = .ok (.lastore, 1)) (hs : st = .long x :: .int j :: .ref a :: rest) (A : Arv Z h a kA .long z vs dv) (q1 : ¬ j < 0) (q2 : j < z) (ge : n0 ≤ a) (hp : pc + 1 = pc')
    (g : ∀ h', Wr h h' a j.toNatClampNeg (.long x) → G w Q h' k n pc' Ls rest) : G w Q h k n pc Ls st := by
  subst hp; intro T locs X eT N
  obtain ⟨cl, Ar, hi, -⟩ := arv_inb A q1 q2
  obtain ⟨T', h', X', e', W, s'⟩ := stJ X C.ex C.hZ eT Ar (j := j) hi (g := mkF w.m pc Ls st) rfl hs (C.dec hd)
  exact G.to X' e' (fr_snoc N (C.nn ▸ ge)) s' (g h' W)
theorem g_bastore (C : Cx w l Z own bytes mx rt nm rm n0) {a : Addr} {kA : ClassId} {z j : Int32} {vs : List Value} {dv : Value} {x : Int32} (hd : decode bytes pc = .ok (.bastore, 1)) (hs : st = .int x :: .int j :: .ref a :: rest) (A : Arv Z h a kA .byte z vs dv) (q1 : ¬ j < 0) (q2 : j < z) (ge : n0 ≤ a) (hp : pc + 1 = pc')
    (g : ∀ h', Wr h h' a j.toNatClampNeg (.int (nar .byte x)) → G w Q h' k n pc' Ls rest) : G w Q h k n pc Ls st := by
  subst hp; intro T locs X eT N
  obtain ⟨cl, Ar, hi, -⟩ := arv_inb A q1 q2
  obtain ⟨T', h', X', e', W, s'⟩ := stB X C.ex C.hZ eT Ar (j := j) hi (g := mkF w.m pc Ls st) rfl hs (C.dec hd)
  exact G.to X' e' (fr_snoc N (C.nn ▸ ge)) s' (g h' W)
theorem g_aastore (C : Cx w l Z own bytes mx rt nm rm n0) {a : Addr} {kA : ClassId} {ty : FieldType} {z j : Int32} {vs : List Value} {dv x : Value} (hd : decode bytes pc = .ok (.aastore, 1)) (hs : st = x :: .int j :: .ref a :: rest) (A : Arv Z h a kA ty z vs dv) (hty : ty.isReference = true) (F : Sto Z h a x) (q1 : ¬ j < 0) (q2 : j < z) (ge : n0 ≤ a) (hp : pc + 1 = pc')
    (g : ∀ h', Wr h h' a j.toNatClampNeg x → G w Q h' k n pc' Ls rest) : G w Q h k n pc Ls st := by
  subst hp; intro T locs X eT N
  obtain ⟨cl, Ar, hi, -⟩ := arv_inb A q1 q2
  obtain ⟨T', h', X', e', W, s'⟩ := stR X C.ex C.hZ eT Ar (j := j) hi hty F (g := mkF w.m pc Ls st) rfl hs (C.dec hd)
  exact G.to X' e' (fr_snoc N (C.nn ▸ ge)) s' (g h' W)
/-! returns -/
theorem g_ret (C : Cx w l Z own bytes mx (some t) nm rm n0) {v : Value} {i : Instr} (hd : decode bytes pc = .ok (i, 1)) (hs : st = v :: rest) (hn : narrow t v = v)
    (hi : (i = .ireturn ∧ (t = .int ∨ t = .boolean ∨ t = .byte ∨ t = .char ∨ t = .short) ∧ ∃ z, v = .int z) ∨ (i = .lreturn ∧ t = .long ∧ ∃ z, v = .long z) ∨ (i = .dreturn ∧ t = .double ∧ ∃ z, v = .double z) ∨ (i = .freturn ∧ t = .float ∧ ∃ z, v = .float z) ∨ (i = .areturn ∧ t.isReference = true ∧ v.isRef = true))
    (hk : k ≤ rm.cells) (hnn : n ≤ rm.slots) (q : Q (some v) h) : G w Q h k n pc Ls st := by
  subst hs; intro T locs X eT N
  obtain ⟨fs, hr, hrun, hended, hW, hsame⟩ := X.leave (v := some v) (fun h => by rw [C.ret] at h; cases h) C.lk
  exact ⟨_, _, retOut X C.ex C.ret hn hi (C.dec hd) hr, hrun, hended, _, locs, rfl, ⟨by show Q _ T.heap; rw [eT]; exact q, N⟩, ⟨_, rfl⟩, hW, hsame.mono (by rw [C.ro]; exact hk) (by rw [C.ro]; exact hnn)⟩
theorem g_ireturn (C : Cx w l Z own bytes mx (some .int) nm rm n0) {z : Int32} (hd : decode bytes pc = .ok (.ireturn, 1)) (hs : st = .int z :: rest) (hk : k ≤ rm.cells) (hnn : n ≤ rm.slots) (q : Q (some (.int z)) h) : G w Q h k n pc Ls st :=
  g_ret C hd hs rfl (Or.inl ⟨rfl, Or.inl rfl, z, rfl⟩) hk hnn q
theorem g_zreturn (C : Cx w l Z own bytes mx (some .boolean) nm rm n0) {z : Int32} (hd : decode bytes pc = .ok (.ireturn, 1)) (hs : st = .int z :: rest) (hn : narrow .boolean (.int z) = .int z) (hk : k ≤ rm.cells) (hnn : n ≤ rm.slots) (q : Q (some (.int z)) h) : G w Q h k n pc Ls st :=
  g_ret C hd hs hn (Or.inl ⟨rfl, Or.inr (Or.inl rfl), z, rfl⟩) hk hnn q
theorem g_breturn (C : Cx w l Z own bytes mx (some .byte) nm rm n0) {z : Int32} (hd : decode bytes pc = .ok (.ireturn, 1)) (hs : st = .int z :: rest) (hn : narrow .byte (.int z) = .int z) (hk : k ≤ rm.cells) (hnn : n ≤ rm.slots) (q : Q (some (.int z)) h) : G w Q h k n pc Ls st :=
  g_ret C hd hs hn (Or.inl ⟨rfl, Or.inr (Or.inr (Or.inl rfl)), z, rfl⟩) hk hnn q
theorem g_lreturn (C : Cx w l Z own bytes mx (some .long) nm rm n0) {z : Int64} (hd : decode bytes pc = .ok (.lreturn, 1)) (hs : st = .long z :: rest) (hk : k ≤ rm.cells) (hnn : n ≤ rm.slots) (q : Q (some (.long z)) h) : G w Q h k n pc Ls st :=
  g_ret C hd hs rfl (Or.inr (Or.inl ⟨rfl, rfl, z, rfl⟩)) hk hnn q
theorem g_areturn (C : Cx w l Z own bytes mx (some t) nm rm n0) {v : Value} (hd : decode bytes pc = .ok (.areturn, 1)) (hs : st = v :: rest) (ht : t.isReference = true) (hv : v.isRef = true) (hn : narrow t v = v) (hk : k ≤ rm.cells) (hnn : n ≤ rm.slots) (q : Q (some v) h) : G w Q h k n pc Ls st :=
  g_ret C hd hs hn (Or.inr (Or.inr (Or.inr (Or.inr ⟨rfl, ht, hv⟩)))) hk hnn q
theorem g_return (C : Cx w l Z own bytes mx none nm rm n0) (hd : decode bytes pc = .ok (.return_, 1)) (hs : st = []) (hk : k ≤ rm.cells) (hnn : n ≤ rm.slots) (q : Q none h) : G w Q h k n pc Ls st := by
  subst hs; intro T locs X eT N
  obtain ⟨fs, hr, hrun, hended, hW, hsame⟩ := X.leave (v := none) (fun _ => rfl) C.lk
  exact ⟨_, _, X.returnOut C.ex C.ret (C.dec hd) hr, hrun, hended, _, locs, rfl, ⟨by show Q _ T.heap; rw [eT]; exact q, N⟩, ⟨_, rfl⟩, hW, hsame.mono (by rw [C.ro]; exact hk) (by rw [C.ro]; exact hnn)⟩
/-! calls by the callee's contract -/
theorem g_fin {rm' : Room} {Q' : Option Value → Heap → Prop} {T : State} {locs : List Loc} {as : Array Value} {v : Option Value} {B : Pt} {A : Pt} (C : Cx w l Z own bytes mx rt nm rm n0) (hA : A.locs = locs ∧ A.cells = k ∧ A.slots = n)
    (X' : Stand w.p w.l w.e w.R w.s w.m w.args w.below w.meth w.c B.U B.locs B.cells B.slots) (hQ : ∃ L, (Q' v B.U.heap ∧ Fr n0 L) ∧ B.locs = A.locs ++ L ∧ B.cells = A.cells + rm'.cells ∧ B.slots = A.slots + rm'.slots) (N : Fr w.n0 locs)
    (g : ∀ v h', Q' v h' → G w Q h' (k + rm'.cells) (n + rm'.slots) pc' Ls (psh v rest)) (s' : ∀ t, Steps w.p.tables w.e w.below (B.U.setTop (mkF w.m pc' Ls (v.toList ++ rest))) t → Steps w.p.tables w.e w.below (T.setTop (mkF w.m pc Ls st)) t) : Ends w Q (T.setTop (mkF w.m pc Ls st)) := by
  obtain ⟨T', L', k', n'⟩ := B
  obtain ⟨L, ⟨hq, hL⟩, e1, e2, e3⟩ := hQ
  obtain ⟨a1, a2, a3⟩ := hA
  dsimp only [Pt.U, Pt.locs, Pt.cells, Pt.slots] at X' hq e1 e2 e3 s' a1 a2 a3
  subst a1 a2 a3 e1 e2 e3
  rw [psh_eq] at s'
  exact G.to X' rfl (N.app (C.nn ▸ hL)) s' (g v _ hq)
theorem g_callS (C : Cx w l Z own bytes mx rt nm rm n0) {y : MethodName} {i mL : Nat} {bs : ByteArray} {rt' : Option FieldType} {rm' : Room} {Q' : Option Value → Heap → Prop} {argsL : List Value} {ps : List FieldType} {r : Option FieldType}
    (w1 : (Jvm.Cond.methodLink own i y).before a0 Z = true) (w2 : (Jvm.Cond.static y).before a0 Z = true) (w3 : (Jvm.Cond.initialized y.cls).before a0 Z = true) (w4 : (Jvm.Cond.code y bs mL rt').before a0 Z = true) (hy : y.cls ≠ "java/lang/invoke/MethodHandle" ∧ y.cls ≠ "java/lang/invoke/VarHandle")
    (hd : decode bytes pc = .ok (.invokestatic i, 3)) (pd : parseMethodDescriptor y.desc = some ⟨ps, r⟩) (hlen : argsL.length = ps.length) (hst : st = argsL.reverse ++ rest) (hz : Ls.size = mx)
    (K : Con l Z y bs mL rt' rm' argsL.toArray h n0 Q') (hf : rm'.frames + 1 ≤ rm.frames) (hl : (rest.map fun v => v.category).sum + (mL + 11) + rm'.locals ≤ rm.locals) (hc : k' ≤ rm.cells) (hn : n' ≤ rm.slots) (ek : k + rm'.cells = k') (en : n + rm'.slots = n') (hp : pc + 3 = pc')
    (g : ∀ v h', Q' v h' → G w Q h' k' n' pc' Ls (psh v rest)) : G w Q h k n pc Ls st := by
  subst hp ek en; intro T locs X eT N
  have hl0 : w.l = l := C.1
  subst hl0
  obtain ⟨v, vm₁, B, -, X', hQ, s'⟩ := Jvm.LawKit.callS X C.ex C.ow (mvT C.hZ w1) (mvT C.hZ w2) (mvT C.hZ w3) (mvT C.hZ w4) hy (backOf (W := (rest.map fun v => v.category).sum) (Q := fun v h L => Q' v h ∧ Fr n0 L) (K []) C.hZ w4 w3 (by rw [C.ro]; exact hf) (by rw [C.ro]; exact hl)) (g := mkF w.m pc Ls st) rfl (hz.trans C.ml.symm) (argsL := argsL) (rest := rest) (lenOf pd hlen) hst (by show 2 * 0 + _ ≤ _; omega) (C.dec hd) (fun _ _ => ⟨rfl, eT, by rw [C.ro]; exact hc, by rw [C.ro]; exact hn⟩)
  exact g_fin (T := T) (as := argsL.toArray) (A := (⟨T.setVm vm₁, locs, k, n⟩ : Pt)) C ⟨rfl, rfl, rfl⟩ X' hQ N g s'
theorem g_special (C : Cx w l Z own bytes mx rt nm rm n0) {y : MethodName} {i mL : Nat} {bs : ByteArray} {rm' : Room} {Q' : Option Value → Heap → Prop} {a : Addr} {argsL : List Value} {ps : List FieldType} {r : Option FieldType}
    (w1 : (Jvm.Cond.methodLink own i y).before a0 Z = true) (w2 : (Jvm.Cond.instanceMethod y).before a0 Z = true) (w3 : (Jvm.Cond.initialized y.cls).before a0 Z = true) (w4 : (Jvm.Cond.code y bs mL none).before a0 Z = true) (hy : y.cls ≠ "java/lang/invoke/MethodHandle" ∧ y.cls ≠ "java/lang/invoke/VarHandle") (hy1 : y.name = "<init>")
    (hd : decode bytes pc = .ok (.invokespecial i, 3)) (pd : parseMethodDescriptor y.desc = some ⟨ps, r⟩) (hlen : argsL.length = ps.length) (hst : st = argsL.reverse ++ .ref a :: rest) (hz : Ls.size = mx)
    (K : Con l Z y bs mL none rm' (.ref a :: argsL).toArray h n0 Q') (hf : rm'.frames + 1 ≤ rm.frames) (hl : (rest.map fun v => v.category).sum + (mL + 11) + rm'.locals ≤ rm.locals) (hc : k' ≤ rm.cells) (hn : n' ≤ rm.slots) (ek : k + rm'.cells = k') (en : n + rm'.slots = n') (hp : pc + 3 = pc')
    (g : ∀ v h', Q' v h' → G w Q h' k' n' pc' Ls (psh v rest)) : G w Q h k n pc Ls st := by
  subst hp ek en; intro T locs X eT N
  have hl0 : w.l = l := C.1
  subst hl0
  obtain ⟨v, vm₁, B, -, X', hQ, s'⟩ := X.specialBack C.ex hy1 C.ow (mvT C.hZ w1) (mvT C.hZ w2) (mvT C.hZ w4) hy (backOf (W := (rest.map fun v => v.category).sum) (Q := fun v h L => Q' v h ∧ Fr n0 L) (K []) C.hZ w4 w3 (by rw [C.ro]; exact hf) (by rw [C.ro]; exact hl)) (g := mkF w.m pc Ls st) rfl (hz.trans C.ml.symm) (Steps.refl _) (a := a) (argsL := argsL) (rest := rest) (lenOf pd hlen) hst (by show 2 * 0 + _ ≤ _; omega) (C.dec hd) (fun _ _ => ⟨rfl, eT, by rw [C.ro]; exact hc, by rw [C.ro]; exact hn⟩)
  exact g_fin (T := T) (as := argsL.toArray) (A := (⟨T.setVm vm₁, locs, k, n⟩ : Pt)) C ⟨rfl, rfl, rfl⟩ X' hQ N g (fun t r => s'.trans r)
theorem g_virtual (C : Cx w l Z own bytes mx rt nm rm n0) {y z : MethodName} {B : String} {i mL : Nat} {bs : ByteArray} {rt' : Option FieldType} {rm' : Room} {Q' : Option Value → Heap → Prop} {a : Addr} {argsL : List Value} {ps : List FieldType} {r : Option FieldType}
    (w1 : (Jvm.Cond.methodLink own i y).before a0 Z = true) (w2 : (Jvm.Cond.declares y).before a0 Z = true) (nf : ∀ {s : State}, Z.Warmed39 s.vm → NotFace s y) (ws : (Jvm.Cond.selects B y z).before a0 Z = true) (w5 : (Jvm.Cond.instanceMethod z).before a0 Z = true) (w3 : (Jvm.Cond.initialized z.cls).before a0 Z = true) (w4 : (Jvm.Cond.code z bs mL rt').before a0 Z = true) (hy : y.cls ≠ "java/lang/invoke/MethodHandle" ∧ y.cls ≠ "java/lang/invoke/VarHandle")
    (hd : decode bytes pc = .ok (.invokevirtual i, 3)) (pd : parseMethodDescriptor y.desc = some ⟨ps, r⟩) (hlen : argsL.length = ps.length) (hst : st = argsL.reverse ++ .ref a :: rest) (hz : Ls.size = mx) (E : Exa Z h a B)
    (K : Con l Z z bs mL rt' rm' (.ref a :: argsL).toArray h n0 Q') (hf : rm'.frames + 1 ≤ rm.frames) (hl : (rest.map fun v => v.category).sum + (mL + 11) + rm'.locals ≤ rm.locals) (hc : k' ≤ rm.cells) (hn : n' ≤ rm.slots) (ek : k + rm'.cells = k') (en : n + rm'.slots = n') (hp : pc + 3 = pc')
    (g : ∀ v h', Q' v h' → G w Q h' k' n' pc' Ls (psh v rest)) : G w Q h k n pc Ls st := by
  subst hp ek en; intro T locs X eT N
  have hl0 : w.l = l := C.1
  subst hl0
  obtain ⟨cq, kq, q1, q2, q3⟩ := isOf C.hZ eT E
  obtain ⟨v, vm₁, B, -, X', hQ, s'⟩ := X.virtualBack C.ex C.ow (mvT C.hZ w1) (mvT C.hZ w2) (nf C.hZ) (mvT C.hZ ws) (mvT C.hZ w5) hy (backOf (W := (rest.map fun v => v.category).sum) (Q := fun v h L => Q' v h ∧ Fr n0 L) (K []) C.hZ w4 w3 (by rw [C.ro]; exact hf) (by rw [C.ro]; exact hl)) q1 q3 (g := mkF w.m pc Ls st) rfl (hz.trans C.ml.symm) (Steps.refl _) (argsL := argsL) (rest := rest) (lenOf pd hlen) hst (by show 2 * 0 + _ ≤ _; omega) (C.dec hd) (fun _ _ => ⟨rfl, eT, by rw [C.ro]; exact hc, by rw [C.ro]; exact hn⟩)
  exact g_fin (T := T) (as := argsL.toArray) (A := (⟨T.setVm vm₁, locs, k, n⟩ : Pt)) C ⟨rfl, rfl, rfl⟩ X' hQ N g (fun t r => s'.trans r)
theorem nfSel {y : MethodName} {B : String} (ws : (Jvm.Cond.selects B y y).before a0 Z = true) : ∀ {s : State}, Z.Warmed39 s.vm → NotFace s y := fun hZ => notFace_of_selects (args := #[]) (mvT hZ ws)
theorem g_virtualUp (C : Cx w l Z own bytes mx rt nm rm n0) {y z : MethodName} {B owner : String} {i mL : Nat} {bs : ByteArray} {rt' : Option FieldType} {rm' : Room} {Q' : Option Value → Heap → Prop} {a : Addr} {argsL : List Value} {ps : List FieldType} {r : Option FieldType}
    (w1 : (Jvm.Cond.methodLink own i y).before a0 Z = true) (wm : (Jvm.Cond.sameMethod y.cls owner y.name y.desc).before a0 Z = true) (w2 : (Jvm.Cond.declares ⟨owner, y.name, y.desc⟩).before a0 Z = true) (ho : owner ≠ "java/lang/invoke/MethodHandle" ∧ owner ≠ "java/lang/invoke/VarHandle") (ws : (Jvm.Cond.selects B y z).before a0 Z = true) (w5 : (Jvm.Cond.instanceMethod z).before a0 Z = true) (w3 : (Jvm.Cond.initialized z.cls).before a0 Z = true) (w4 : (Jvm.Cond.code z bs mL rt').before a0 Z = true)
    (hd : decode bytes pc = .ok (.invokevirtual i, 3)) (pd : parseMethodDescriptor y.desc = some ⟨ps, r⟩) (hlen : argsL.length = ps.length) (hst : st = argsL.reverse ++ .ref a :: rest) (hz : Ls.size = mx) (E : Exa Z h a B)
    (K : Con l Z z bs mL rt' rm' (.ref a :: argsL).toArray h n0 Q') (hf : rm'.frames + 1 ≤ rm.frames) (hl : (rest.map fun v => v.category).sum + (mL + 11) + rm'.locals ≤ rm.locals) (hc : k' ≤ rm.cells) (hn : n' ≤ rm.slots) (ek : k + rm'.cells = k') (en : n + rm'.slots = n') (hp : pc + 3 = pc')
    (g : ∀ v h', Q' v h' → G w Q h' k' n' pc' Ls (psh v rest)) : G w Q h k n pc Ls st := by
  subst hp ek en; intro T locs X eT N
  have hl0 : w.l = l := C.1
  subst hl0
  obtain ⟨cq, kq, q1, q2, q3⟩ := isOf C.hZ eT E
  obtain ⟨v, vm₁, B, -, X', hQ, s'⟩ := X.virtualBackUp C.ex C.ow (mvT C.hZ w1) (mvT C.hZ wm) (mvT C.hZ w2) ho (mvT C.hZ ws) (mvT C.hZ w5) (backOf (W := (rest.map fun v => v.category).sum) (Q := fun v h L => Q' v h ∧ Fr n0 L) (K []) C.hZ w4 w3 (by rw [C.ro]; exact hf) (by rw [C.ro]; exact hl)) q1 q3 (g := mkF w.m pc Ls st) rfl (hz.trans C.ml.symm) (Steps.refl _) (argsL := argsL) (rest := rest) (lenOf pd hlen) hst (by show 2 * 0 + _ ≤ _; omega) (C.dec hd) (fun _ _ => ⟨rfl, eT, by rw [C.ro]; exact hc, by rw [C.ro]; exact hn⟩)
  exact g_fin (T := T) (as := argsL.toArray) (A := (⟨T.setVm vm₁, locs, k, n⟩ : Pt)) C ⟨rfl, rfl, rfl⟩ X' hQ N g (fun t r => s'.trans r)
theorem g_interface (C : Cx w l Z own bytes mx rt nm rm n0) {y z : MethodName} {B : String} {count : Nat} {i mL : Nat} {bs : ByteArray} {rt' : Option FieldType} {rm' : Room} {Q' : Option Value → Heap → Prop} {a : Addr} {argsL : List Value} {ps : List FieldType} {r : Option FieldType}
    (w1 : (Jvm.Cond.methodLink own i y).before a0 Z = true) (w2 : (Jvm.Cond.declares y).before a0 Z = true) (wf : (Jvm.Cond.interfaceMethod y.cls y.cls y.name y.desc).before a0 Z = true) (hfa : ((Jvm.Cond.interfaceMethod y.cls y.cls y.name y.desc).onTables && (Jvm.Cond.interfaceMethod y.cls y.cls y.name y.desc).keepsFace) = true) (ws : (Jvm.Cond.selects B y z).before a0 Z = true) (w5 : (Jvm.Cond.instanceMethod z).before a0 Z = true) (wp : (Jvm.Cond.publicMethod z).before a0 Z = true) (wu : (Jvm.Cond.unhidden B y.name y.desc).before a0 Z = true) (wk : (Jvm.Cond.castable B y.cls).before a0 Z = true) (w3 : (Jvm.Cond.initialized z.cls).before a0 Z = true) (w4 : (Jvm.Cond.code z bs mL rt').before a0 Z = true) (hy : y.cls ≠ "java/lang/invoke/MethodHandle" ∧ y.cls ≠ "java/lang/invoke/VarHandle")
    (hd : decode bytes pc = .ok (.invokeinterface i count, 5)) (pd : parseMethodDescriptor y.desc = some ⟨ps, r⟩) (hlen : argsL.length = ps.length) (hst : st = argsL.reverse ++ .ref a :: rest) (hz : Ls.size = mx) (E : Exa Z h a B)
    (K : Con l Z z bs mL rt' rm' (.ref a :: argsL).toArray h n0 Q') (hf : rm'.frames + 1 ≤ rm.frames) (hl : (rest.map fun v => v.category).sum + (mL + 11) + rm'.locals ≤ rm.locals) (hc : k' ≤ rm.cells) (hn : n' ≤ rm.slots) (ek : k + rm'.cells = k') (en : n + rm'.slots = n') (hp : pc + 5 = pc')
    (g : ∀ v h', Q' v h' → G w Q h' k' n' pc' Ls (psh v rest)) : G w Q h k n pc Ls st := by
  subst hp ek en; intro T locs X eT N
  have hl0 : w.l = l := C.1
  subst hl0
  obtain ⟨cq, kq, q1, q2, q3⟩ := isOf C.hZ eT E
  obtain ⟨v, vm₁, B, -, X', hQ, s'⟩ := X.interfaceBack C.ex C.ow (mvT C.hZ w1) (mvT C.hZ w2) (mvT C.hZ wf hfa) (mvT C.hZ ws) (mvT C.hZ w5) (mvT C.hZ wp) (mvT C.hZ wu) (mvT C.hZ wk) hy (backOf (W := (rest.map fun v => v.category).sum) (Q := fun v h L => Q' v h ∧ Fr n0 L) (K []) C.hZ w4 w3 (by rw [C.ro]; exact hf) (by rw [C.ro]; exact hl)) q1 q2 q3 (g := mkF w.m pc Ls st) rfl (hz.trans C.ml.symm) (Steps.refl _) (argsL := argsL) (rest := rest) (lenOf pd hlen) hst (by show 2 * 0 + _ ≤ _; omega) (C.dec hd) (fun _ _ => ⟨rfl, eT, by rw [C.ro]; exact hc, by rw [C.ro]; exact hn⟩)
  exact g_fin (T := T) (as := argsL.toArray) (A := (⟨T.setVm vm₁, locs, k, n⟩ : Pt)) C ⟨rfl, rfl, rfl⟩ X' hQ N g (fun t r => s'.trans r)
theorem g_private (C : Cx w l Z own bytes mx rt nm rm n0) {y : MethodName} {B : String} {kk i mL : Nat} {bs : ByteArray} {rt' : Option FieldType} {rm' : Room} {Q' : Option Value → Heap → Prop} {a : Addr} {argsL : List Value} {ps : List FieldType} {r : Option FieldType}
    (w1 : (Jvm.Cond.methodLink own i y).before a0 Z = true) (w5 : (Jvm.Cond.instanceMethod y).before a0 Z = true) (wi : (Jvm.Cond.instantiable y.cls kk).before a0 Z = true) (wp : (Jvm.Cond.privateMethod y).before a0 Z = true) (w3 : (Jvm.Cond.initialized y.cls).before a0 Z = true) (w4 : (Jvm.Cond.code y bs mL rt').before a0 Z = true) (hy : y.cls ≠ "java/lang/invoke/MethodHandle" ∧ y.cls ≠ "java/lang/invoke/VarHandle")
    (hd : decode bytes pc = .ok (.invokevirtual i, 3)) (pd : parseMethodDescriptor y.desc = some ⟨ps, r⟩) (hlen : argsL.length = ps.length) (hst : st = argsL.reverse ++ .ref a :: rest) (hz : Ls.size = mx) (E : Exa Z h a B)
    (K : Con l Z y bs mL rt' rm' (.ref a :: argsL).toArray h n0 Q') (hf : rm'.frames + 1 ≤ rm.frames) (hl : (rest.map fun v => v.category).sum + (mL + 11) + rm'.locals ≤ rm.locals) (hc : k' ≤ rm.cells) (hn : n' ≤ rm.slots) (ek : k + rm'.cells = k') (en : n + rm'.slots = n') (hp : pc + 3 = pc')
    (g : ∀ v h', Q' v h' → G w Q h' k' n' pc' Ls (psh v rest)) : G w Q h k n pc Ls st := by
  subst hp ek en; intro T locs X eT N
  have hl0 : w.l = l := C.1
  subst hl0
  obtain ⟨cq, q1, q2⟩ := E.cell
  have wi' : (Jvm.Cond.instantiable y.cls kk).before w.args w.s = true := mvT C.hZ wi
  obtain ⟨c2, k2, i1, i2, -, i4, -⟩ := Cond.instantiable_spec wi'
  have hni : k2.isInterface = false := (Bool.or_eq_false_iff.mp i4).1
  have hpv := Cond.privateMethod_at (mvP C.hZ wp (args := w.args))
  obtain ⟨v, vm₁, B, -, X', hQ, s'⟩ := X.privateBack C.ex C.ow (mvT C.hZ w1) (mvT C.hZ w5) (selects_self_of_private i1 i2 hni hpv (mvT C.hZ w5) hy) hpv (mvT C.hZ w4) hy (backOf (W := (rest.map fun v => v.category).sum) (Q := fun v h L => Q' v h ∧ Fr n0 L) (K []) C.hZ w4 w3 (by rw [C.ro]; exact hf) (by rw [C.ro]; exact hl)) (g := mkF w.m pc Ls st) rfl (hz.trans C.ml.symm) (Steps.refl _) (a := a) (by rw [eT]; exact q1) q2 (argsL := argsL) (rest := rest) (lenOf pd hlen) hst (by show 2 * 0 + _ ≤ _; omega) (C.dec hd) (fun _ _ => ⟨rfl, eT, by rw [C.ro]; exact hc, by rw [C.ro]; exact hn⟩)
  exact g_fin (T := T) (as := argsL.toArray) (A := (⟨T.setVm vm₁, locs, k, n⟩ : Pt)) C ⟨rfl, rfl, rfl⟩ X' hQ N g (fun t r => s'.trans r)
theorem g_lswHit (C : Cx w l Z own bytes mx rt nm rm n0) {df : Int} {prs : Array (Int × Int)} {len : Nat} {a o : Int} {i : Int32} (hd : decode bytes pc = .ok (.lookupswitch df prs, len)) (hs : st = .int i :: rest) (hso : (prs.toList.zip (prs.toList.drop 1)).all (fun (a, next) => a.1 < next.1) = true) (hf : prs.find? (·.1 == i.toInt) = some (a, o)) (ho : 0 ≤ (pc : Int) + o) (hp : ((pc : Int) + o).toNat = pc') (g : G w Q h k n pc' Ls rest) : G w Q h k n pc Ls st := by
  subst hp; exact g.adv fun T locs X _ t r => X.lookupswitchHit C.ex (g := mkF w.m pc Ls st) rfl hs (C.dec hd) hso hf ho t r
theorem g_lswMiss (C : Cx w l Z own bytes mx rt nm rm n0) {df : Int} {prs : Array (Int × Int)} {len : Nat} {i : Int32} (hd : decode bytes pc = .ok (.lookupswitch df prs, len)) (hs : st = .int i :: rest) (hso : (prs.toList.zip (prs.toList.drop 1)).all (fun (a, next) => a.1 < next.1) = true) (hf : prs.find? (·.1 == i.toInt) = none) (ho : 0 ≤ (pc : Int) + df) (hp : ((pc : Int) + df).toNat = pc') (g : G w Q h k n pc' Ls rest) : G w Q h k n pc Ls st := by
  subst hp; exact g.adv fun T locs X _ t r => X.lookupswitchMiss C.ex (g := mkF w.m pc Ls st) rfl hs (C.dec hd) hso hf ho t r
end Gs
theorem wd {Z : State} {a0 : Array Value} (hw : ∀ d ∈ tables_1, d.before a0 Z = true) (i : Nat) {d : Jvm.Cond} (e : tables_1[i]? = some d) : d.before a0 Z = true := hw _ (List.mem_of_getElem? e)
theorem own_fldInt {args : Array Value} {s : State} {t : Term} {a : Addr} {C f d : String} {k : Int32} (ev : t.eval args s none [] s = some (.ref a)) (h : (Jvm.Cond.eq (.field t C f d) (.int k)).value args s none s [] = some true) : Fld s s.heap a C f d (.int k) := by
  obtain ⟨x, y, hx, hy, k1, k2⟩ := cmp_v (Or.inl h)
  cases (Term.int_eval k).symm.trans hy
  obtain ⟨z, rfl⟩ : ∃ z, x = .int z := by simpa [Kin] using k2
  have e : z = k := by simpa [Jvm.Cond.value, hx, hy] using h
  subst e
  rw [fld_at ev] at hx
  exact Fld.start hx
theorem own_fldLong {args : Array Value} {s : State} {t : Term} {a : Addr} {C f d : String} {k : Int64} (ev : t.eval args s none [] s = some (.ref a)) (h : (Jvm.Cond.eq (.field t C f d) (.long k)).value args s none s [] = some true) : Fld s s.heap a C f d (.long k) := by
  obtain ⟨x, y, hx, hy, k1, k2⟩ := cmp_v (Or.inl h)
  cases (long_at k).symm.trans hy
  obtain ⟨z, rfl⟩ : ∃ z, x = .long z := by simpa [Kin] using k2
  have e : z = k := by simpa [Jvm.Cond.value, hx, hy] using h
  subst e
  rw [fld_at ev] at hx
  exact Fld.start hx
theorem own_staLong {args : Array Value} {s : State} {t : Term} {k : Int64} (h : (Jvm.Cond.eq t (.long k)).value args s none s [] = some true) : t.eval args s none [] s = some (.long k) := by
  obtain ⟨x, y, hx, hy, k1, k2⟩ := cmp_v (Or.inl h)
  cases (long_at k).symm.trans hy
  obtain ⟨z, rfl⟩ : ∃ z, x = .long z := by simpa [Kin] using k2
  have e : z = k := by simpa [Jvm.Cond.value, hx, hy] using h
  subst e
  exact hx
theorem own_staInt {args : Array Value} {s : State} {t : Term} {k : Int32} (h : (Jvm.Cond.eq t (.int k)).value args s none s [] = some true) : t.eval args s none [] s = some (.int k) := by
  obtain ⟨x, y, hx, hy, k1, k2⟩ := cmp_v (Or.inl h)
  cases (Term.int_eval k).symm.trans hy
  obtain ⟨z, rfl⟩ : ∃ z, x = .int z := by simpa [Kin] using k2
  have e : z = k := by simpa [Jvm.Cond.value, hx, hy] using h
  subst e
  exact hx
theorem own_ine {i j : Int32} (h : i ≠ j) : (Value.int i) ≠ .int j := fun q => h (by injection q)
theorem own_mask31 (x : Int32) : 0 ≤ (x &&& 2147483647).toInt ∧ (x &&& 2147483647).toInt < 2147483648 := by
  have := c_mask x 2147483647 31 (by decide) (by decide)
  rw [this]; omega
/-! an array of which only the length is told -/
def Len (Z : State) (h : Heap) (a : Addr) (ty : FieldType) (z : Int32) : Prop := ∃ c, Arr Z h a c ty ∧ c.slots.size = z.toNatClampNeg ∧ ¬ z < 0
section Lens
variable {Z : State} {h h' : Heap} {a b : Addr} {ty : FieldType} {z : Int32} {sl : Nat} {v : Value} {ws : List Addr}
theorem Len.of {kA : ClassId} {vs : List Value} {dv : Value} (A : Arv Z h a kA ty z vs dv) : Len Z h a ty z := by
  obtain ⟨c, Ar, -, S, q, -, -⟩ := A; exact ⟨c, Ar, S, q⟩
theorem Len.ext (F : Len Z h a ty z) (E : Ext h h') : Len Z h' a ty z := by obtain ⟨c, A, r⟩ := F; exact ⟨c, A.ext E, r⟩
theorem Len.wr (F : Len Z h a ty z) (W : Wr h h' b sl v) : Len Z h' a ty z := by
  obtain ⟨c, A, S, q⟩ := F
  by_cases e : a = b
  · subst e; exact ⟨_, A.same W, by rw [sz_set]; exact S, q⟩
  · exact ⟨c, A.other W e, S, q⟩
theorem Len.keep (F : Len Z h a ty z) (K : Keep h h' ws) (q : a ∉ ws) : Len Z h' a ty z := by
  obtain ⟨c, A, r⟩ := F; exact ⟨c, ⟨K.2.1 a c A.1 q, A.2⟩, r⟩
theorem Len.lt (F : Len Z h a ty z) : a < h.size := by obtain ⟨c, A, -⟩ := F; exact A.lt
variable {w : Wk} {l : Launch} {own : String} {bytes : ByteArray} {mx : Nat} {rt : Option FieldType} {nm : String} {rm : Room} {n0 : Nat} {Q : Option Value → Heap → Prop} {k n pc pc' : Nat} {Ls : Array Slot} {st rest : List Value}
theorem g_iastoreL (C : Cx w l Z own bytes mx rt nm rm n0) {j x : Int32} (hd : decode bytes pc = .ok (.iastore, 1)) (hs : st = .int x :: .int j :: .ref a :: rest) (A : Len Z h a .int z) (q1 : ¬ j < 0) (q2 : j < z) (ge : n0 ≤ a) (hp : pc + 1 = pc')
    (g : ∀ h', Wr h h' a j.toNatClampNeg (.int x) → G w Q h' k n pc' Ls rest) : G w Q h k n pc Ls st := by
  subst hp; intro T locs X eT N
  obtain ⟨cl, Ar, S, -⟩ := A
  obtain ⟨T', h', X', e', W, s'⟩ := stI X C.ex C.hZ eT Ar (j := j) (inb_of S ⟨q1, q2⟩) (g := mkF w.m pc Ls st) rfl hs (C.dec hd)
  exact G.to X' e' (fr_snoc N (C.nn ▸ ge)) s' (g h' W)
end Lens

def En (Z : State) (s_ZERO : Addr) : Prop := (Sta Z Z.heap "java/time/Duration" "ZERO" "Ljava/time/Duration;" (.ref s_ZERO)) ∧ (Exa Z Z.heap s_ZERO "java/time/Duration") ∧ (Fld Z Z.heap s_ZERO "java/time/Duration" "seconds" "J" (.long (0 : Int64))) ∧ (Fld Z Z.heap s_ZERO "java/time/Duration" "nanos" "I" (.int (0 : Int32)))
def VD (Z : State) (h : Heap) (a : Addr) (v0 : Value) (v1 : Int32) (v2 : Value) : Prop := Exa Z h a "com/example/request_throttle/requestthrottle/Verdict" ∧ Fld Z h a "com/example/request_throttle/requestthrottle/Verdict" "_remaining" "[I" v0 ∧ Fld Z h a "com/example/request_throttle/requestthrottle/Verdict" "_refusing" "I" (.int v1) ∧ Fld Z h a "com/example/request_throttle/requestthrottle/Verdict" "_retryAfter" "Ljava/time/Duration;" v2
theorem d7_0 : decode jdk_35_method_42_code 0 = .ok (.lload_n 0, 1) := by decide +kernel
theorem d7_1 : decode jdk_35_method_42_code 1 = .ok (.lload_n 2, 1) := by decide +kernel
theorem d7_2 : decode jdk_35_method_42_code 2 = .ok (.lcmp, 1) := by decide +kernel
theorem d7_3 : decode jdk_35_method_42_code 3 = .ok (.ifCond .ge 7, 3) := by decide +kernel
theorem d7_10 : decode jdk_35_method_42_code 10 = .ok (.lload_n 0, 1) := by decide +kernel
theorem d7_11 : decode jdk_35_method_42_code 11 = .ok (.lload_n 2, 1) := by decide +kernel
theorem d7_12 : decode jdk_35_method_42_code 12 = .ok (.lcmp, 1) := by decide +kernel
theorem d7_13 : decode jdk_35_method_42_code 13 = .ok (.ifCond .ne 7, 3) := by decide +kernel
theorem d7_16 : decode jdk_35_method_42_code 16 = .ok (.iconst 0, 1) := by decide +kernel
theorem d7_17 : decode jdk_35_method_42_code 17 = .ok (.goto 4, 3) := by decide +kernel
theorem d7_21 : decode jdk_35_method_42_code 21 = .ok (.ireturn, 1) := by decide +kernel
theorem pn_2 : plainName "java/lang/Long" = true := by first | (simp [plainName, overriddenIn]; done) | decide +kernel
set_option maxRecDepth 65536 in
set_option maxHeartbeats 40000000 in
theorem cmp00 (l : Launch) (Z : State) (a0 : Array Value) (hw : ∀ d ∈ tables_1, d.before a0 Z = true) (n0 : Nat) (h : Heap) (O : Old Z n0 h) (s_ZERO : Addr) (H : En Z s_ZERO) : Con l Z (⟨"java/lang/Long", "compare", "(JJ)I"⟩ : MethodName) jdk_35_method_42_code 4 (some .int) ({ frames := 0, cells := 0, slots := 0, locals := 0 } : Room) #[(.long (0 : Int64)), (.long (0 : Int64))] h n0 (fun v h' => v = some (.int (0 : Int32)) ∧ h' = h) := by
  refine Con.mk (Ls := #[.val (.long (0 : Int64)), .second, .val (.long (0 : Int64)), .second]) (plainFor_of_name pn_2) (fun m => by first | (simp [entryFrame, mkF, argsToLocals, Value.category]; done) | rfl) (fun w C => ?_)
  replace C : Cx w l Z "java/lang/Long" jdk_35_method_42_code 4 (some .int) "compare" ({ frames := 0, cells := 0, slots := 0, locals := 0 } : Room) n0 := C
  obtain ⟨S_ZERO, E_ZERO, F_ZERO_seconds, F_ZERO_nanos⟩ := id H
  refine g_lloadN C (pc' := 1) d7_0 rfl rfl ?_
  refine g_lloadN C (pc' := 2) d7_1 rfl rfl ?_
  refine g_lcmp C (pc' := 3) d7_2 rfl rfl ?_
  rw [show (lcmpW (0 : Int64) (0 : Int64)) = (0 : Int32) from by decide]
  refine g_ifY C (pc' := 10) d7_3 rfl (by decide) (by decide) rfl ?_
  refine g_lloadN C (pc' := 11) d7_10 rfl rfl ?_
  refine g_lloadN C (pc' := 12) d7_11 rfl rfl ?_
  refine g_lcmp C (pc' := 13) d7_12 rfl rfl ?_
  rw [show (lcmpW (0 : Int64) (0 : Int64)) = (0 : Int32) from by decide]
  refine g_ifN C (pc' := 16) d7_13 rfl (by decide) rfl ?_
  refine g_iconst C (pc' := 17) (v := (0 : Int32)) d7_16 (by decide) rfl ?_
  refine g_goto C (pc' := 21) d7_17 (by decide) rfl ?_
  exact g_ireturn C d7_21 rfl (Nat.le_of_ble_eq_true rfl) (Nat.le_of_ble_eq_true rfl) (⟨rfl, rfl⟩)
theorem d6_0 : decode jdk_2316_method_66_code 0 = .ok (.aload_n 0, 1) := by decide +kernel
theorem d6_1 : decode jdk_2316_method_66_code 1 = .ok (.getfield 221, 3) := by decide +kernel
theorem d6_4 : decode jdk_2316_method_66_code 4 = .ok (.aload_n 1, 1) := by decide +kernel
theorem d6_5 : decode jdk_2316_method_66_code 5 = .ok (.getfield 221, 3) := by decide +kernel
theorem d6_8 : decode jdk_2316_method_66_code 8 = .ok (.invokestatic 416, 3) := by decide +kernel
theorem pd_6 : parseMethodDescriptor "(JJ)I" = some ⟨[.long, .long], some .int⟩ := by decide +kernel
theorem d6_11 : decode jdk_2316_method_66_code 11 = .ok (.istore_n 2, 1) := by decide +kernel
theorem d6_12 : decode jdk_2316_method_66_code 12 = .ok (.iload_n 2, 1) := by decide +kernel
theorem d6_13 : decode jdk_2316_method_66_code 13 = .ok (.ifCond .eq 5, 3) := by decide +kernel
theorem d6_18 : decode jdk_2316_method_66_code 18 = .ok (.aload_n 0, 1) := by decide +kernel
theorem d6_19 : decode jdk_2316_method_66_code 19 = .ok (.getfield 224, 3) := by decide +kernel
theorem d6_22 : decode jdk_2316_method_66_code 22 = .ok (.aload_n 1, 1) := by decide +kernel
theorem d6_23 : decode jdk_2316_method_66_code 23 = .ok (.getfield 224, 3) := by decide +kernel
theorem d6_26 : decode jdk_2316_method_66_code 26 = .ok (.isub, 1) := by decide +kernel
theorem d6_27 : decode jdk_2316_method_66_code 27 = .ok (.ireturn, 1) := by decide +kernel
theorem pn_4 : plainName "java/time/Duration" = true := by first | (simp [plainName, overriddenIn]; done) | decide +kernel
set_option maxRecDepth 65536 in
set_option maxHeartbeats 40000000 in
theorem cmpT (l : Launch) (Z : State) (a0 : Array Value) (hw : ∀ d ∈ tables_1, d.before a0 Z = true) (n0 : Nat) (h : Heap) (O : Old Z n0 h) (s_ZERO : Addr) (H : En Z s_ZERO) : Con l Z (⟨"java/time/Duration", "compareTo", "(Ljava/time/Duration;)I"⟩ : MethodName) jdk_2316_method_66_code 3 (some .int) ({ frames := 1, cells := 0, slots := 0, locals := 15 } : Room) #[(.ref s_ZERO), (.ref s_ZERO)] h n0 (fun v h' => v = some (.int (0 : Int32)) ∧ h' = h) := by
  refine Con.mk (Ls := #[.val (.ref s_ZERO), .val (.ref s_ZERO), .unset]) (plainFor_of_name pn_4) (fun m => by first | (simp [entryFrame, mkF, argsToLocals, Value.category]; done) | rfl) (fun w C => ?_)
  replace C : Cx w l Z "java/time/Duration" jdk_2316_method_66_code 3 (some .int) "compareTo" ({ frames := 1, cells := 0, slots := 0, locals := 15 } : Room) n0 := C
  obtain ⟨S_ZERO, E_ZERO, F_ZERO_seconds, F_ZERO_nanos⟩ := id H
  refine g_aloadN C (pc' := 1) d6_0 rfl rfl rfl ?_
  refine g_getF C (pc' := 4) (wd hw 38 rfl) Via.refl d6_1 rfl (F_ZERO_seconds.ext O.2) rfl ?_
  refine g_aloadN C (pc' := 5) d6_4 rfl rfl rfl ?_
  refine g_getF C (pc' := 8) (wd hw 38 rfl) Via.refl d6_5 rfl (F_ZERO_seconds.ext O.2) rfl ?_
  refine g_callS C (pc' := 11) (k' := 0) (n' := 0) (argsL := [(.long (0 : Int64)), (.long (0 : Int64))]) (rest := []) (wd hw 40 rfl) (wd hw 41 rfl) (wd hw 42 rfl) (wd hw 43 rfl) (by decide) d6_8 pd_6 rfl rfl rfl (cmp00 l Z a0 hw n0 h O s_ZERO H) (Nat.le_of_ble_eq_true rfl) (Nat.le_of_ble_eq_true rfl) (Nat.le_of_ble_eq_true rfl) (Nat.le_of_ble_eq_true rfl) rfl rfl rfl (fun v2 h1 q3 => ?_)
  obtain ⟨rfl, eh1⟩ := q3
  subst h1
  show G w _ h 0 0 11 #[.val (.ref s_ZERO), .val (.ref s_ZERO), .unset] [(.int (0 : Int32))]
  refine g_istoreN C (pc' := 12) (Ls' := #[.val (.ref s_ZERO), .val (.ref s_ZERO), .val (.int (0 : Int32))]) d6_11 rfl rfl rfl ?_
  refine g_iloadN C (pc' := 13) d6_12 rfl rfl ?_
  refine g_ifY C (pc' := 18) d6_13 rfl (by decide) (by decide) rfl ?_
  refine g_aloadN C (pc' := 19) d6_18 rfl rfl rfl ?_
  refine g_getF C (pc' := 22) (wd hw 44 rfl) Via.refl d6_19 rfl (F_ZERO_nanos.ext O.2) rfl ?_
  refine g_aloadN C (pc' := 23) d6_22 rfl rfl rfl ?_
  refine g_getF C (pc' := 26) (wd hw 44 rfl) Via.refl d6_23 rfl (F_ZERO_nanos.ext O.2) rfl ?_
  refine g_isub C (pc' := 27) d6_26 rfl rfl ?_
  rw [show ((0 : Int32) - (0 : Int32)) = (0 : Int32) from by decide]
  exact g_ireturn C d6_27 rfl (Nat.le_of_ble_eq_true rfl) (Nat.le_of_ble_eq_true rfl) (⟨rfl, rfl⟩)
theorem d1_0 : decode prog_24_method_1_code 0 = .ok (.aload_n 0, 1) := by decide +kernel
theorem d1_1 : decode prog_24_method_1_code 1 = .ok (.invokespecial 1, 3) := by decide +kernel
theorem d1_4 : decode prog_24_method_1_code 4 = .ok (.aload_n 0, 1) := by decide +kernel
theorem d1_5 : decode prog_24_method_1_code 5 = .ok (.iconst (-1), 1) := by decide +kernel
theorem d1_6 : decode prog_24_method_1_code 6 = .ok (.putfield 7, 3) := by decide +kernel
theorem d1_9 : decode prog_24_method_1_code 9 = .ok (.aload_n 0, 1) := by decide +kernel
theorem d1_10 : decode prog_24_method_1_code 10 = .ok (.getstatic 13, 3) := by decide +kernel
theorem d1_13 : decode prog_24_method_1_code 13 = .ok (.putfield 19, 3) := by decide +kernel
theorem d1_16 : decode prog_24_method_1_code 16 = .ok (.aload_n 0, 1) := by decide +kernel
theorem d1_17 : decode prog_24_method_1_code 17 = .ok (.iload_n 1, 1) := by decide +kernel
theorem d1_18 : decode prog_24_method_1_code 18 = .ok (.newarray .int, 2) := by decide +kernel
theorem d1_20 : decode prog_24_method_1_code 20 = .ok (.putfield 22, 3) := by decide +kernel
theorem d1_23 : decode prog_24_method_1_code 23 = .ok (.return_, 1) := by decide +kernel
theorem pn_0 : plainName "com/example/request_throttle/requestthrottle/Verdict" = true := by first | (simp [plainName, overriddenIn]; done) | decide +kernel
set_option maxRecDepth 65536 in
set_option maxHeartbeats 40000000 in
theorem vinit (l : Launch) (Z : State) (a0 : Array Value) (hw : ∀ d ∈ tables_1, d.before a0 Z = true) (n0 : Nat) (h : Heap) (O : Old Z n0 h) (s_ZERO : Addr) (H : En Z s_ZERO) (a : Addr) (ga : n0 ≤ a) (n : Int32) (hn1 : ¬ n < 0) (hn2 : n.toNatClampNeg ≤ 3) (P : VD Z h a .null (0 : Int32) .null) : Con l Z (⟨"com/example/request_throttle/requestthrottle/Verdict", "<init>", "(I)V"⟩ : MethodName) prog_24_method_1_code 2 none ({ frames := 1, cells := 1, slots := 3, locals := 12 } : Room) #[(.ref a), (.int n)] h n0 (fun v h' => v = none ∧ ∃ r, n0 ≤ r ∧ a ≠ r ∧ Keep h h' [a] ∧ VD Z h' a (.ref r) (-1 : Int32) (.ref s_ZERO) ∧ Len Z h' r .int n) := by
  refine Con.mk (Ls := #[.val (.ref a), .val (.int n)]) (plainFor_of_name pn_0) (fun m => by first | (simp [entryFrame, mkF, argsToLocals, Value.category]; done) | rfl) (fun w C => ?_)
  replace C : Cx w l Z "com/example/request_throttle/requestthrottle/Verdict" prog_24_method_1_code 2 none "<init>" ({ frames := 1, cells := 1, slots := 3, locals := 12 } : Room) n0 := C
  obtain ⟨S_ZERO, E_ZERO, F_ZERO_seconds, F_ZERO_nanos⟩ := id H
  obtain ⟨E_a, F__remaining_a, F__refusing_a, F__retryAfter_a⟩ := P
  refine g_aloadN C (pc' := 1) d1_0 rfl rfl rfl ?_
  refine g_initO C (pc' := 4) (wd hw 6 rfl) (wd hw 7 rfl) (wd hw 8 rfl) d1_1 rfl rfl (Nat.le_of_ble_eq_true rfl) (Nat.le_of_ble_eq_true rfl) rfl ?_
  refine g_aloadN C (pc' := 5) d1_4 rfl rfl rfl ?_
  refine g_iconst C (pc' := 6) (v := (-1 : Int32)) d1_5 (by decide) rfl ?_
  refine g_putF C (pc' := 9) (ty := .int) (wd hw 9 rfl) Via.refl d1_6 rfl F__refusing_a E_a (Or.inl (wd hw 10 rfl)) (wd hw 1 rfl) (by decide) rfl rfl ga rfl (fun h4 W5 => ?_)
  have f6 := O.wr W5 ga
  have f7 := E_a.wr W5
  have f8 := F__remaining_a.other W5 (Or.inr (slot_ne (Or.inr (wd hw 17 rfl)) (Or.inl (wd hw 10 rfl)) (by decide) (t := (.array .int)) (t' := .int) (by decide) (by decide)))
  have f9 := F__refusing_a.same W5
  have f10 := F__retryAfter_a.other W5 (Or.inr (slot_ne (Or.inl (wd hw 14 rfl)) (Or.inl (wd hw 10 rfl)) (by decide) (t := (.object "java/time/Duration")) (t' := .int) (by decide) (by decide)))
  have f11 := (Keep.refl h [a]).wr W5 (Or.inl (List.mem_of_getElem? (i := 0) rfl))
  refine g_aloadN C (pc' := 10) d1_9 rfl rfl rfl ?_
  refine g_getS C (pc' := 13) (wd hw 11 rfl) Via.refl d1_10 (S_ZERO.ext f6.2) rfl ?_
  refine g_putF C (pc' := 16) (ty := (.object "java/time/Duration")) (wd hw 13 rfl) Via.refl d1_13 rfl f10 f7 (Or.inl (wd hw 14 rfl)) (wd hw 1 rfl) (by decide) rfl rfl ga rfl (fun h12 W13 => ?_)
  have f14 := f6.wr W13 ga
  have f15 := f7.wr W13
  have f16 := f8.other W13 (Or.inr (slot_ne (Or.inr (wd hw 17 rfl)) (Or.inl (wd hw 14 rfl)) (by decide) (t := (.array .int)) (t' := (.object "java/time/Duration")) (by decide) (by decide)))
  have f17 := f9.other W13 (Or.inr (slot_ne (Or.inl (wd hw 10 rfl)) (Or.inl (wd hw 14 rfl)) (by decide) (t := .int) (t' := (.object "java/time/Duration")) (by decide) (by decide)))
  have f18 := f10.same W13
  have f19 := f11.wr W13 (Or.inl (List.mem_of_getElem? (i := 0) rfl))
  refine g_aloadN C (pc' := 17) d1_16 rfl rfl rfl ?_
  refine g_iloadN C (pc' := 18) d1_17 rfl rfl ?_
  refine g_newP C (pc' := 20) (k' := 1) (n' := 3) (cap := 3) (wd hw 15 rfl) d1_18 rfl hn1 hn2 (by decide) (by decide) (by decide) rfl rfl rfl (fun h20 b21 kA22 ex23 E24 A25 => ?_)
  have ne_a_b21 : a ≠ b21 := Nat.ne_of_lt (by rw [ex23]; exact f15.lt)
  have ge_b21 : n0 ≤ b21 := by rw [ex23]; exact f14.1 ▸ f14.2.1
  have sz_b21 : h.size ≤ b21 := by rw [ex23]; exact f19.1
  have f26 := f14.ext E24
  have f27 := f15.ext E24
  have f28 := f16.ext E24
  have f29 := f17.ext E24
  have f30 := f18.ext E24
  have f31 := f19.ext E24
  refine g_putF C (pc' := 23) (ty := (.array .int)) (wd hw 16 rfl) Via.refl d1_20 rfl f28 f27 (Or.inr ⟨(wd hw 17 rfl), rfl, rfl⟩) (wd hw 1 rfl) (by decide) rfl rfl ga rfl (fun h32 W33 => ?_)
  have f34 := f26.wr W33 ga
  have f35 := f27.wr W33
  have f36 := f28.same W33
  have f37 := f29.other W33 (Or.inr (slot_ne (Or.inl (wd hw 10 rfl)) (Or.inr (wd hw 17 rfl)) (by decide) (t := .int) (t' := (.array .int)) (by decide) (by decide)))
  have f38 := f30.other W33 (Or.inr (slot_ne (Or.inl (wd hw 14 rfl)) (Or.inr (wd hw 17 rfl)) (by decide) (t := (.object "java/time/Duration")) (t' := (.array .int)) (by decide) (by decide)))
  have f39 := f31.wr W33 (Or.inl (List.mem_of_getElem? (i := 0) rfl))
  have f40 := A25.other W33 (Ne.symm ne_a_b21)
  exact g_return C d1_23 rfl (Nat.le_of_ble_eq_true rfl) (Nat.le_of_ble_eq_true rfl) (⟨rfl, b21, ge_b21, ne_a_b21, f39, ⟨f35, f36, f37, f38⟩, Len.of f40⟩)
theorem d3_0 : decode prog_24_method_3_code 0 = .ok (.aload_n 0, 1) := by decide +kernel
theorem d3_1 : decode prog_24_method_3_code 1 = .ok (.getfield 7, 3) := by decide +kernel
theorem d3_4 : decode prog_24_method_3_code 4 = .ok (.ifCond .ge 7, 3) := by decide +kernel
theorem d3_7 : decode prog_24_method_3_code 7 = .ok (.iconst 1, 1) := by decide +kernel
theorem d3_8 : decode prog_24_method_3_code 8 = .ok (.goto 4, 3) := by decide +kernel
theorem d3_12 : decode prog_24_method_3_code 12 = .ok (.ireturn, 1) := by decide +kernel
set_option maxRecDepth 65536 in
set_option maxHeartbeats 40000000 in
theorem vroom_1 (l : Launch) (Z : State) (a0 : Array Value) (hw : ∀ d ∈ tables_1, d.before a0 Z = true) (n0 : Nat) (h : Heap) (O : Old Z n0 h) (s_ZERO : Addr) (H : En Z s_ZERO) (a : Addr) (r rf : Value) (i : Int32) (hi : i < 0) (P : VD Z h a r i rf) : Con l Z (⟨"com/example/request_throttle/requestthrottle/Verdict", "room", "()Z"⟩ : MethodName) prog_24_method_3_code 1 (some .boolean) ({ frames := 0, cells := 0, slots := 0, locals := 0 } : Room) #[(.ref a)] h n0 (fun v h' => v = some (.int (1 : Int32)) ∧ h' = h) := by
  refine Con.mk (Ls := #[.val (.ref a)]) (plainFor_of_name pn_0) (fun m => by first | (simp [entryFrame, mkF, argsToLocals, Value.category]; done) | rfl) (fun w C => ?_)
  replace C : Cx w l Z "com/example/request_throttle/requestthrottle/Verdict" prog_24_method_3_code 1 (some .boolean) "room" ({ frames := 0, cells := 0, slots := 0, locals := 0 } : Room) n0 := C
  obtain ⟨S_ZERO, E_ZERO, F_ZERO_seconds, F_ZERO_nanos⟩ := id H
  obtain ⟨E_a, F__remaining_a, F__refusing_a, F__retryAfter_a⟩ := P
  refine g_aloadN C (pc' := 1) d3_0 rfl rfl rfl ?_
  refine g_getF C (pc' := 4) (wd hw 9 rfl) Via.refl d3_1 rfl F__refusing_a rfl ?_
  refine g_ifN C (pc' := 7) d3_4 rfl (says_f (cd := .ge) (fun q => q hi)) rfl ?_
  refine g_iconst C (pc' := 8) (v := (1 : Int32)) d3_7 (by decide) rfl ?_
  refine g_goto C (pc' := 12) d3_8 (by decide) rfl ?_
  exact g_zreturn C d3_12 rfl rfl (Nat.le_of_ble_eq_true rfl) (Nat.le_of_ble_eq_true rfl) (⟨rfl, rfl⟩)
theorem d3_11 : decode prog_24_method_3_code 11 = .ok (.iconst 0, 1) := by decide +kernel
set_option maxRecDepth 65536 in
set_option maxHeartbeats 40000000 in
theorem vroom_0 (l : Launch) (Z : State) (a0 : Array Value) (hw : ∀ d ∈ tables_1, d.before a0 Z = true) (n0 : Nat) (h : Heap) (O : Old Z n0 h) (s_ZERO : Addr) (H : En Z s_ZERO) (a : Addr) (r rf : Value) (i : Int32) (hi : ¬ i < 0) (P : VD Z h a r i rf) : Con l Z (⟨"com/example/request_throttle/requestthrottle/Verdict", "room", "()Z"⟩ : MethodName) prog_24_method_3_code 1 (some .boolean) ({ frames := 0, cells := 0, slots := 0, locals := 0 } : Room) #[(.ref a)] h n0 (fun v h' => v = some (.int (0 : Int32)) ∧ h' = h) := by
  refine Con.mk (Ls := #[.val (.ref a)]) (plainFor_of_name pn_0) (fun m => by first | (simp [entryFrame, mkF, argsToLocals, Value.category]; done) | rfl) (fun w C => ?_)
  replace C : Cx w l Z "com/example/request_throttle/requestthrottle/Verdict" prog_24_method_3_code 1 (some .boolean) "room" ({ frames := 0, cells := 0, slots := 0, locals := 0 } : Room) n0 := C
  obtain ⟨S_ZERO, E_ZERO, F_ZERO_seconds, F_ZERO_nanos⟩ := id H
  obtain ⟨E_a, F__remaining_a, F__refusing_a, F__retryAfter_a⟩ := P
  refine g_aloadN C (pc' := 1) d3_0 rfl rfl rfl ?_
  refine g_getF C (pc' := 4) (wd hw 9 rfl) Via.refl d3_1 rfl F__refusing_a rfl ?_
  refine g_ifY C (pc' := 11) d3_4 rfl (says_t (cd := .ge) (hi)) (by decide) rfl ?_
  refine g_iconst C (pc' := 12) (v := (0 : Int32)) d3_11 (by decide) rfl ?_
  exact g_zreturn C d3_12 rfl rfl (Nat.le_of_ble_eq_true rfl) (Nat.le_of_ble_eq_true rfl) (⟨rfl, rfl⟩)
theorem d4_0 : decode prog_24_method_6_code 0 = .ok (.aload_n 0, 1) := by decide +kernel
theorem d4_1 : decode prog_24_method_6_code 1 = .ok (.getfield 19, 3) := by decide +kernel
theorem d4_4 : decode prog_24_method_6_code 4 = .ok (.areturn, 1) := by decide +kernel
set_option maxRecDepth 65536 in
set_option maxHeartbeats 40000000 in
theorem retry (l : Launch) (Z : State) (a0 : Array Value) (hw : ∀ d ∈ tables_1, d.before a0 Z = true) (n0 : Nat) (h : Heap) (O : Old Z n0 h) (s_ZERO : Addr) (H : En Z s_ZERO) (a r : Addr) (i : Int32) (P : VD Z h a (.ref r) i (.ref s_ZERO)) : Con l Z (⟨"com/example/request_throttle/requestthrottle/Verdict", "retryAfter", "()Ljava/time/Duration;"⟩ : MethodName) prog_24_method_6_code 1 (some (.object "java/time/Duration")) ({ frames := 0, cells := 0, slots := 0, locals := 0 } : Room) #[(.ref a)] h n0 (fun v h' => v = some (.ref s_ZERO) ∧ h' = h) := by
  refine Con.mk (Ls := #[.val (.ref a)]) (plainFor_of_name pn_0) (fun m => by first | (simp [entryFrame, mkF, argsToLocals, Value.category]; done) | rfl) (fun w C => ?_)
  replace C : Cx w l Z "com/example/request_throttle/requestthrottle/Verdict" prog_24_method_6_code 1 (some (.object "java/time/Duration")) "retryAfter" ({ frames := 0, cells := 0, slots := 0, locals := 0 } : Room) n0 := C
  obtain ⟨S_ZERO, E_ZERO, F_ZERO_seconds, F_ZERO_nanos⟩ := id H
  obtain ⟨E_a, F__remaining_a, F__refusing_a, F__retryAfter_a⟩ := P
  refine g_aloadN C (pc' := 1) d4_0 rfl rfl rfl ?_
  refine g_getF C (pc' := 4) (wd hw 13 rfl) Via.refl d4_1 rfl F__retryAfter_a rfl ?_
  exact g_areturn C d4_4 rfl rfl rfl rfl (Nat.le_of_ble_eq_true rfl) (Nat.le_of_ble_eq_true rfl) (⟨rfl, rfl⟩)
theorem d5_0 : decode prog_24_method_2_code 0 = .ok (.aload_n 0, 1) := by decide +kernel
theorem d5_1 : decode prog_24_method_2_code 1 = .ok (.getfield 22, 3) := by decide +kernel
theorem d5_4 : decode prog_24_method_2_code 4 = .ok (.iload_n 1, 1) := by decide +kernel
theorem d5_5 : decode prog_24_method_2_code 5 = .ok (.iload_n 3, 1) := by decide +kernel
theorem d5_6 : decode prog_24_method_2_code 6 = .ok (.iastore, 1) := by decide +kernel
theorem d5_7 : decode prog_24_method_2_code 7 = .ok (.iload_n 2, 1) := by decide +kernel
theorem d5_8 : decode prog_24_method_2_code 8 = .ok (.ifCond .ne 33, 3) := by decide +kernel
theorem d5_41 : decode prog_24_method_2_code 41 = .ok (.return_, 1) := by decide +kernel
set_option maxRecDepth 65536 in
set_option maxHeartbeats 40000000 in
theorem rec1 (l : Launch) (Z : State) (a0 : Array Value) (hw : ∀ d ∈ tables_1, d.before a0 Z = true) (n0 : Nat) (h : Heap) (O : Old Z n0 h) (s_ZERO : Addr) (H : En Z s_ZERO) (a r : Addr) (ga : n0 ≤ a) (gr : n0 ≤ r) (nar : a ≠ r) (i j m n : Int32) (q1 : ¬ j < 0) (q2 : j < n) (P : VD Z h a (.ref r) i (.ref s_ZERO)) (LN : Len Z h r .int n) : Con l Z (⟨"com/example/request_throttle/requestthrottle/Verdict", "record", "(IZILjava/time/Duration;)V"⟩ : MethodName) prog_24_method_2_code 5 none ({ frames := 0, cells := 0, slots := 0, locals := 0 } : Room) #[(.ref a), (.int j), (.int (1 : Int32)), (.int m), (.ref s_ZERO)] h n0 (fun v h' => v = none ∧ Keep h h' [a, r] ∧ VD Z h' a (.ref r) i (.ref s_ZERO) ∧ Len Z h' r .int n) := by
  refine Con.mk (Ls := #[.val (.ref a), .val (.int j), .val (.int (1 : Int32)), .val (.int m), .val (.ref s_ZERO)]) (plainFor_of_name pn_0) (fun m => by first | (simp [entryFrame, mkF, argsToLocals, Value.category]; done) | rfl) (fun w C => ?_)
  replace C : Cx w l Z "com/example/request_throttle/requestthrottle/Verdict" prog_24_method_2_code 5 none "record" ({ frames := 0, cells := 0, slots := 0, locals := 0 } : Room) n0 := C
  obtain ⟨S_ZERO, E_ZERO, F_ZERO_seconds, F_ZERO_nanos⟩ := id H
  obtain ⟨E_a, F__remaining_a, F__refusing_a, F__retryAfter_a⟩ := P
  refine g_aloadN C (pc' := 1) d5_0 rfl rfl rfl ?_
  refine g_getF C (pc' := 4) (wd hw 16 rfl) Via.refl d5_1 rfl F__remaining_a rfl ?_
  refine g_iloadN C (pc' := 5) d5_4 rfl rfl ?_
  refine g_iloadN C (pc' := 6) d5_5 rfl rfl ?_
  refine g_iastoreL C (pc' := 7) d5_6 rfl LN q1 q2 gr rfl (fun h41 W42 => ?_)
  have f43 := O.wr W42 gr
  have f44 := E_a.wr W42
  have f45 := F__remaining_a.other W42 (Or.inl nar)
  have f46 := F__refusing_a.other W42 (Or.inl nar)
  have f47 := F__retryAfter_a.other W42 (Or.inl nar)
  have f48 := (Keep.refl h [a, r]).wr W42 (Or.inl (List.mem_of_getElem? (i := 1) rfl))
  have f49 := LN.wr W42
  refine g_iloadN C (pc' := 8) d5_7 rfl rfl ?_
  refine g_ifY C (pc' := 41) d5_8 rfl (by decide) (by decide) rfl ?_
  exact g_return C d5_41 rfl (Nat.le_of_ble_eq_true rfl) (Nat.le_of_ble_eq_true rfl) (⟨rfl, f48, ⟨f44, f45, f46, f47⟩, f49⟩)
theorem d5_11 : decode prog_24_method_2_code 11 = .ok (.aload_n 0, 1) := by decide +kernel
theorem d5_12 : decode prog_24_method_2_code 12 = .ok (.getfield 7, 3) := by decide +kernel
theorem d5_15 : decode prog_24_method_2_code 15 = .ok (.ifCond .ge 8, 3) := by decide +kernel
theorem d5_18 : decode prog_24_method_2_code 18 = .ok (.aload_n 0, 1) := by decide +kernel
theorem d5_19 : decode prog_24_method_2_code 19 = .ok (.iload_n 1, 1) := by decide +kernel
theorem d5_20 : decode prog_24_method_2_code 20 = .ok (.putfield 7, 3) := by decide +kernel
theorem d5_23 : decode prog_24_method_2_code 23 = .ok (.aload 4, 2) := by decide +kernel
theorem d5_25 : decode prog_24_method_2_code 25 = .ok (.aload_n 0, 1) := by decide +kernel
theorem d5_26 : decode prog_24_method_2_code 26 = .ok (.getfield 19, 3) := by decide +kernel
theorem d5_29 : decode prog_24_method_2_code 29 = .ok (.invokevirtual 26, 3) := by decide +kernel
theorem pd_5 : parseMethodDescriptor "(Ljava/time/Duration;)I" = some ⟨[(.object "java/time/Duration")], some .int⟩ := by decide +kernel
theorem d5_32 : decode prog_24_method_2_code 32 = .ok (.ifCond .le 9, 3) := by decide +kernel
set_option maxRecDepth 65536 in
set_option maxHeartbeats 40000000 in
theorem rec0n (l : Launch) (Z : State) (a0 : Array Value) (hw : ∀ d ∈ tables_1, d.before a0 Z = true) (n0 : Nat) (h : Heap) (O : Old Z n0 h) (s_ZERO : Addr) (H : En Z s_ZERO) (a r : Addr) (ga : n0 ≤ a) (gr : n0 ≤ r) (nar : a ≠ r) (i j m n : Int32) (hi : i < 0) (q1 : ¬ j < 0) (q2 : j < n) (P : VD Z h a (.ref r) i (.ref s_ZERO)) (LN : Len Z h r .int n) : Con l Z (⟨"com/example/request_throttle/requestthrottle/Verdict", "record", "(IZILjava/time/Duration;)V"⟩ : MethodName) prog_24_method_2_code 5 none ({ frames := 2, cells := 0, slots := 0, locals := 29 } : Room) #[(.ref a), (.int j), (.int (0 : Int32)), (.int m), (.ref s_ZERO)] h n0 (fun v h' => v = none ∧ Keep h h' [a, r] ∧ VD Z h' a (.ref r) j (.ref s_ZERO) ∧ Len Z h' r .int n) := by
  refine Con.mk (Ls := #[.val (.ref a), .val (.int j), .val (.int (0 : Int32)), .val (.int m), .val (.ref s_ZERO)]) (plainFor_of_name pn_0) (fun m => by first | (simp [entryFrame, mkF, argsToLocals, Value.category]; done) | rfl) (fun w C => ?_)
  replace C : Cx w l Z "com/example/request_throttle/requestthrottle/Verdict" prog_24_method_2_code 5 none "record" ({ frames := 2, cells := 0, slots := 0, locals := 29 } : Room) n0 := C
  obtain ⟨S_ZERO, E_ZERO, F_ZERO_seconds, F_ZERO_nanos⟩ := id H
  obtain ⟨E_a, F__remaining_a, F__refusing_a, F__retryAfter_a⟩ := P
  refine g_aloadN C (pc' := 1) d5_0 rfl rfl rfl ?_
  refine g_getF C (pc' := 4) (wd hw 16 rfl) Via.refl d5_1 rfl F__remaining_a rfl ?_
  refine g_iloadN C (pc' := 5) d5_4 rfl rfl ?_
  refine g_iloadN C (pc' := 6) d5_5 rfl rfl ?_
  refine g_iastoreL C (pc' := 7) d5_6 rfl LN q1 q2 gr rfl (fun h50 W51 => ?_)
  have f52 := O.wr W51 gr
  have f53 := E_a.wr W51
  have f54 := F__remaining_a.other W51 (Or.inl nar)
  have f55 := F__refusing_a.other W51 (Or.inl nar)
  have f56 := F__retryAfter_a.other W51 (Or.inl nar)
  have f57 := (Keep.refl h [a, r]).wr W51 (Or.inl (List.mem_of_getElem? (i := 1) rfl))
  have f58 := LN.wr W51
  refine g_iloadN C (pc' := 8) d5_7 rfl rfl ?_
  refine g_ifN C (pc' := 11) d5_8 rfl (by decide) rfl ?_
  refine g_aloadN C (pc' := 12) d5_11 rfl rfl rfl ?_
  refine g_getF C (pc' := 15) (wd hw 9 rfl) Via.refl d5_12 rfl f55 rfl ?_
  refine g_ifN C (pc' := 18) d5_15 rfl (says_f (cd := .ge) (fun q => q hi)) rfl ?_
  refine g_aloadN C (pc' := 19) d5_18 rfl rfl rfl ?_
  refine g_iloadN C (pc' := 20) d5_19 rfl rfl ?_
  refine g_putF C (pc' := 23) (ty := .int) (wd hw 9 rfl) Via.refl d5_20 rfl f55 f53 (Or.inl (wd hw 10 rfl)) (wd hw 1 rfl) (by decide) rfl rfl ga rfl (fun h59 W60 => ?_)
  have f61 := f52.wr W60 ga
  have f62 := f53.wr W60
  have f63 := f54.other W60 (Or.inr (slot_ne (Or.inr (wd hw 17 rfl)) (Or.inl (wd hw 10 rfl)) (by decide) (t := (.array .int)) (t' := .int) (by decide) (by decide)))
  have f64 := f55.same W60
  have f65 := f56.other W60 (Or.inr (slot_ne (Or.inl (wd hw 14 rfl)) (Or.inl (wd hw 10 rfl)) (by decide) (t := (.object "java/time/Duration")) (t' := .int) (by decide) (by decide)))
  have f66 := f57.wr W60 (Or.inl (List.mem_of_getElem? (i := 0) rfl))
  have f67 := f58.wr W60
  refine g_aload C (pc' := 25) d5_23 rfl rfl rfl ?_
  refine g_aloadN C (pc' := 26) d5_25 rfl rfl rfl ?_
  refine g_getF C (pc' := 29) (wd hw 13 rfl) Via.refl d5_26 rfl f65 rfl ?_
  refine g_virtual C (pc' := 32) (k' := 0) (n' := 0) (argsL := [(.ref s_ZERO)]) (rest := []) (wd hw 33 rfl) (wd hw 34 rfl) (nfSel (wd hw 36 rfl)) (wd hw 36 rfl) (wd hw 35 rfl) (wd hw 12 rfl) (wd hw 37 rfl) (by decide) d5_29 pd_5 rfl rfl rfl (E_ZERO.ext f61.2) (cmpT l Z a0 hw n0 h59 f61 s_ZERO H) (Nat.le_of_ble_eq_true rfl) (Nat.le_of_ble_eq_true rfl) (Nat.le_of_ble_eq_true rfl) (Nat.le_of_ble_eq_true rfl) rfl rfl rfl (fun v69 h68 q70 => ?_)
  obtain ⟨rfl, eh68⟩ := q70
  subst h68
  show G w _ h59 0 0 32 #[.val (.ref a), .val (.int j), .val (.int (0 : Int32)), .val (.int m), .val (.ref s_ZERO)] [(.int (0 : Int32))]
  refine g_ifY C (pc' := 41) d5_32 rfl (by decide) (by decide) rfl ?_
  exact g_return C d5_41 rfl (Nat.le_of_ble_eq_true rfl) (Nat.le_of_ble_eq_true rfl) (⟨rfl, f66, ⟨f62, f63, f64, f65⟩, f67⟩)
set_option maxRecDepth 65536 in
set_option maxHeartbeats 40000000 in
theorem rec0p (l : Launch) (Z : State) (a0 : Array Value) (hw : ∀ d ∈ tables_1, d.before a0 Z = true) (n0 : Nat) (h : Heap) (O : Old Z n0 h) (s_ZERO : Addr) (H : En Z s_ZERO) (a r : Addr) (ga : n0 ≤ a) (gr : n0 ≤ r) (nar : a ≠ r) (i j m n : Int32) (hi : ¬ i < 0) (q1 : ¬ j < 0) (q2 : j < n) (P : VD Z h a (.ref r) i (.ref s_ZERO)) (LN : Len Z h r .int n) : Con l Z (⟨"com/example/request_throttle/requestthrottle/Verdict", "record", "(IZILjava/time/Duration;)V"⟩ : MethodName) prog_24_method_2_code 5 none ({ frames := 2, cells := 0, slots := 0, locals := 29 } : Room) #[(.ref a), (.int j), (.int (0 : Int32)), (.int m), (.ref s_ZERO)] h n0 (fun v h' => v = none ∧ Keep h h' [a, r] ∧ VD Z h' a (.ref r) i (.ref s_ZERO) ∧ Len Z h' r .int n) := by
  refine Con.mk (Ls := #[.val (.ref a), .val (.int j), .val (.int (0 : Int32)), .val (.int m), .val (.ref s_ZERO)]) (plainFor_of_name pn_0) (fun m => by first | (simp [entryFrame, mkF, argsToLocals, Value.category]; done) | rfl) (fun w C => ?_)
  replace C : Cx w l Z "com/example/request_throttle/requestthrottle/Verdict" prog_24_method_2_code 5 none "record" ({ frames := 2, cells := 0, slots := 0, locals := 29 } : Room) n0 := C
  obtain ⟨S_ZERO, E_ZERO, F_ZERO_seconds, F_ZERO_nanos⟩ := id H
  obtain ⟨E_a, F__remaining_a, F__refusing_a, F__retryAfter_a⟩ := P
  refine g_aloadN C (pc' := 1) d5_0 rfl rfl rfl ?_
  refine g_getF C (pc' := 4) (wd hw 16 rfl) Via.refl d5_1 rfl F__remaining_a rfl ?_
  refine g_iloadN C (pc' := 5) d5_4 rfl rfl ?_
  refine g_iloadN C (pc' := 6) d5_5 rfl rfl ?_
  refine g_iastoreL C (pc' := 7) d5_6 rfl LN q1 q2 gr rfl (fun h71 W72 => ?_)
  have f73 := O.wr W72 gr
  have f74 := E_a.wr W72
  have f75 := F__remaining_a.other W72 (Or.inl nar)
  have f76 := F__refusing_a.other W72 (Or.inl nar)
  have f77 := F__retryAfter_a.other W72 (Or.inl nar)
  have f78 := (Keep.refl h [a, r]).wr W72 (Or.inl (List.mem_of_getElem? (i := 1) rfl))
  have f79 := LN.wr W72
  refine g_iloadN C (pc' := 8) d5_7 rfl rfl ?_
  refine g_ifN C (pc' := 11) d5_8 rfl (by decide) rfl ?_
  refine g_aloadN C (pc' := 12) d5_11 rfl rfl rfl ?_
  refine g_getF C (pc' := 15) (wd hw 9 rfl) Via.refl d5_12 rfl f76 rfl ?_
  refine g_ifY C (pc' := 23) d5_15 rfl (says_t (cd := .ge) (hi)) (by decide) rfl ?_
  refine g_aload C (pc' := 25) d5_23 rfl rfl rfl ?_
  refine g_aloadN C (pc' := 26) d5_25 rfl rfl rfl ?_
  refine g_getF C (pc' := 29) (wd hw 13 rfl) Via.refl d5_26 rfl f77 rfl ?_
  refine g_virtual C (pc' := 32) (k' := 0) (n' := 0) (argsL := [(.ref s_ZERO)]) (rest := []) (wd hw 33 rfl) (wd hw 34 rfl) (nfSel (wd hw 36 rfl)) (wd hw 36 rfl) (wd hw 35 rfl) (wd hw 12 rfl) (wd hw 37 rfl) (by decide) d5_29 pd_5 rfl rfl rfl (E_ZERO.ext f73.2) (cmpT l Z a0 hw n0 h71 f73 s_ZERO H) (Nat.le_of_ble_eq_true rfl) (Nat.le_of_ble_eq_true rfl) (Nat.le_of_ble_eq_true rfl) (Nat.le_of_ble_eq_true rfl) rfl rfl rfl (fun v81 h80 q82 => ?_)
  obtain ⟨rfl, eh80⟩ := q82
  subst h80
  show G w _ h71 0 0 32 #[.val (.ref a), .val (.int j), .val (.int (0 : Int32)), .val (.int m), .val (.ref s_ZERO)] [(.int (0 : Int32))]
  refine g_ifY C (pc' := 41) d5_32 rfl (by decide) (by decide) rfl ?_
  exact g_return C d5_41 rfl (Nat.le_of_ble_eq_true rfl) (Nat.le_of_ble_eq_true rfl) (⟨rfl, f78, ⟨f74, f75, f76, f77⟩, f79⟩)
theorem own_n (x : Int32) : (1 : Int32) ≤ (1 : Int32) + (x &&& 3) % 3 ∧ (1 : Int32) + (x &&& 3) % 3 ≤ 3 := by
  have h1 := c_mask x 3 2 (by decide) (by decide)
  have h2 := (c_irem (x &&& 3) 3 3 (by decide)).1 (by rw [h1]; omega)
  have h3 := c_iadd 1 ((x &&& 3) % 3)
  have h4 := rng32 ((1 : Int32) + (x &&& 3) % 3)
  have e1 : (1 : Int32).toInt = 1 := by decide
  have e3 : (3 : Int32).toInt = 3 := by decide
  rw [Int32.le_iff_toInt_le, Int32.le_iff_toInt_le, e1, e3]
  rw [e1] at h3
  omega
theorem own_m (x : Int32) : (0 : Int32) ≤ ((x.toUInt32 >>> ((2 : Int32) &&& 31).toUInt32).toInt32 &&& 3) := by
  have h1 := c_mask ((x.toUInt32 >>> ((2 : Int32) &&& 31).toUInt32).toInt32) 3 2 (by decide) (by decide)
  have e0 : (0 : Int32).toInt = 0 := by decide
  rw [Int32.le_iff_toInt_le, e0, h1]; omega
theorem own_04 {n m : Int32} (h1 : n ≤ 3) (h2 : (0 : Int32) ≤ m) (h3 : ¬ n < m) : m = 0 ∨ m = 1 ∨ m = 2 ∨ m = 3 := by
  rw [Int32.le_iff_toInt_le] at h1 h2
  rw [Int32.lt_iff_toInt_lt] at h3
  have e0 : (0 : Int32).toInt = 0 := by decide
  have e1 : (1 : Int32).toInt = 1 := by decide
  have e2 : (2 : Int32).toInt = 2 := by decide
  have e3 : (3 : Int32).toInt = 3 := by decide
  simp only [← Int32.toInt_inj, e0, e1, e2, e3] at *
  omega
theorem own_lt {n m j : Int32} (h3 : ¬ n < m) (h : j < m) : j < n := by
  rw [Int32.lt_iff_toInt_lt] at *; omega
theorem own_nn {n : Int32} (h : (1 : Int32) ≤ n) : ¬ n < 0 := by
  rw [Int32.le_iff_toInt_le] at h
  rw [Int32.lt_iff_toInt_lt]
  have e0 : (0 : Int32).toInt = 0 := by decide
  have e1 : (1 : Int32).toInt = 1 := by decide
  omega
theorem own_n3 {n : Int32} (h0 : (1 : Int32) ≤ n) (h : n ≤ 3) : n.toNatClampNeg ≤ 3 := by
  have q := nat_of (own_nn h0)
  rw [Int32.le_iff_toInt_le] at h
  have e3 : (3 : Int32).toInt = 3 := by decide
  omega
theorem own_n0 {n : Int32} (h : (1 : Int32) ≤ n) : (0 : Int32) ≤ n := by
  rw [Int32.le_iff_toInt_le] at *
  have e0 : (0 : Int32).toInt = 0 := by decide
  have e1 : (1 : Int32).toInt = 1 := by decide
  omega
theorem own_irr {n : Int32} : ¬ n < n := by rw [Int32.lt_iff_toInt_lt]; omega
def LQ : Option Value → Heap → Prop := fun v _ => v = some (.int (1 : Int32))
theorem pd_0 : parseMethodDescriptor "(I)V" = some ⟨[.int], none⟩ := by decide +kernel
theorem pd_2 : parseMethodDescriptor "()Z" = some ⟨[], some .boolean⟩ := by decide +kernel
theorem pd_3 : parseMethodDescriptor "()Ljava/time/Duration;" = some ⟨[], some (.object "java/time/Duration")⟩ := by decide +kernel
theorem pd_4 : parseMethodDescriptor "(IZILjava/time/Duration;)V" = some ⟨[.int, .boolean, .int, (.object "java/time/Duration")], none⟩ := by decide +kernel
theorem pn_1 : plainName "com/example/request_throttle/requestthrottle/VerdictRoomPinLaw" = true := by first | (simp [plainName, overriddenIn]; done) | decide +kernel
set_option maxRecDepth 65536 in
set_option maxHeartbeats 40000000 in
theorem rm0 (l : Launch) (Z : State) (a0 : Array Value) (hw : ∀ d ∈ tables_1, d.before a0 Z = true) (n0 : Nat) (h : Heap) (O : Old Z n0 h) (s_ZERO : Addr) (H : En Z s_ZERO) (p0 : Int32) (p1 : Int32) (p2 : Int32) (p3 : Int32) (p4 : Int32) : Con l Z x code maxLocals ret room_1 #[(.int p0), (.int p1), (.int p2), (.int p3), (.int p4)] h n0 (LQ) := by
  refine Con.mk (Ls := #[.val (.int p0), .val (.int p1), .val (.int p2), .val (.int p3), .val (.int p4), .unset, .unset, .unset, .unset, .unset, .unset, .unset]) (plainFor_of_name pn_1) (fun m => by first | (simp [entryFrame, mkF, argsToLocals, Value.category, maxLocals]; done) | rfl) (fun w C => ?_)
  replace C : Cx w l Z "com/example/request_throttle/requestthrottle/VerdictRoomPinLaw" code 12 (some .boolean) "law" room_1 n0 := C
  obtain ⟨S_ZERO, E_ZERO, F_ZERO_seconds, F_ZERO_nanos⟩ := id H
  have J66 : ∀ (n m f0 f1 f2 : Int32) (hn1 : (1 : Int32) ≤ n) (hn2 : n ≤ 3) (hm1 : (0 : Int32) ≤ m) (hm2 : ¬ n < m) (hf0 : f0 = 0 ∨ f0 = 1) (hf1 : f1 = 0 ∨ f1 = 1) (hf2 : f2 = 0 ∨ f2 = 1), G w LQ h 0 0 66 #[.val (.int p0), .val (.int p1), .val (.int p2), .val (.int p3), .val (.int p4), .val (.int n), .val (.int m), .val (.int f0), .val (.int f1), .val (.int f2), .unset, .unset] [] := by
    intro n m f0 f1 f2 hn1 hn2 hm1 hm2 hf0 hf1 hf2
    refine g_new C (pc' := 69) (k' := 1) (n' := 3) (wd hw 0 rfl) (wd hw 1 rfl) (wd hw 2 rfl) at_66 (by decide) (by decide) rfl rfl rfl (fun h83 b84 ex85 E86 A87 D88 => ?_)
    have ge_b84 : n0 ≤ b84 := by rw [ex85]; exact O.1 ▸ O.2.1
    have f89 := O.ext E86
    have F__refusing_b84 : Fld Z h83 b84 "com/example/request_throttle/requestthrottle/Verdict" "_refusing" "I" (.int (0 : Int32)) := D88 (Or.inl (wd hw 10 rfl)) (ty := .int) (by decide)
    have F__retryAfter_b84 : Fld Z h83 b84 "com/example/request_throttle/requestthrottle/Verdict" "_retryAfter" "Ljava/time/Duration;" .null := D88 (Or.inl (wd hw 14 rfl)) (ty := (.object "java/time/Duration")) (by decide)
    have F__remaining_b84 : Fld Z h83 b84 "com/example/request_throttle/requestthrottle/Verdict" "_remaining" "[I" .null := D88 (Or.inr (wd hw 17 rfl)) (ty := (.array .int)) (by decide)
    refine g_dup C (pc' := 70) at_69 rfl rfl rfl ?_
    refine g_iload C (pc' := 72) at_70 rfl rfl ?_
    have P90 : VD Z h83 b84 .null (0 : Int32) .null := ⟨A87, F__remaining_b84, F__refusing_b84, F__retryAfter_b84⟩
    refine g_special C (pc' := 75) (k' := 2) (n' := 6) (argsL := [(.int n)]) (rest := [(.ref b84)]) (wd hw 3 rfl) (wd hw 4 rfl) (wd hw 2 rfl) (wd hw 5 rfl) (by decide) rfl at_72 pd_0 rfl rfl rfl (vinit l Z a0 hw n0 h83 f89 s_ZERO H b84 ge_b84 n (own_nn hn1) (own_n3 hn1 hn2) P90) (Nat.le_of_ble_eq_true rfl) (Nat.le_of_ble_eq_true rfl) (Nat.le_of_ble_eq_true rfl) (Nat.le_of_ble_eq_true rfl) rfl rfl rfl (fun v95 h94 q96 => ?_)
    obtain ⟨rfl, r, gr, nar, K91, P92, LN93⟩ := q96
    have f97 := f89.keep K91 (allS ge_b84 all0)
    have f98 := A87.keep K91
    show G w _ h94 2 6 75 #[.val (.int p0), .val (.int p1), .val (.int p2), .val (.int p3), .val (.int p4), .val (.int n), .val (.int m), .val (.int f0), .val (.int f1), .val (.int f2), .unset, .unset] [(.ref b84)]
    refine g_astore C (pc' := 77) (Ls' := #[.val (.int p0), .val (.int p1), .val (.int p2), .val (.int p3), .val (.int p4), .val (.int n), .val (.int m), .val (.int f0), .val (.int f1), .val (.int f2), .val (.ref b84), .unset]) at_75 rfl rfl rfl rfl ?_
    rcases own_04 hn2 hm1 hm2 with rfl | rfl | rfl | rfl
    · refine g_iload C (pc' := 79) at_77 rfl rfl ?_
      refine g_ifY C (pc' := 96) at_79 rfl (by decide) (by decide) rfl ?_
      refine g_iload C (pc' := 98) at_96 rfl rfl ?_
      refine g_iconst C (pc' := 99) (v := (1 : Int32)) at_98 (by decide) rfl ?_
      refine g_icY C (pc' := 116) at_99 rfl (by decide) (by decide) rfl ?_
      refine g_iload C (pc' := 118) at_116 rfl rfl ?_
      refine g_iconst C (pc' := 119) (v := (2 : Int32)) at_118 (by decide) rfl ?_
      refine g_icY C (pc' := 137) at_119 rfl (by decide) (by decide) rfl ?_
      refine g_iload C (pc' := 139) at_137 rfl rfl ?_
      refine g_ifY C (pc' := 147) at_139 rfl (by decide) (by decide) rfl ?_
      refine g_iload C (pc' := 149) at_147 rfl rfl ?_
      refine g_iconst C (pc' := 150) (v := (1 : Int32)) at_149 (by decide) rfl ?_
      refine g_icY C (pc' := 158) at_150 rfl (by decide) (by decide) rfl ?_
      refine g_iload C (pc' := 160) at_158 rfl rfl ?_
      refine g_iconst C (pc' := 161) (v := (2 : Int32)) at_160 (by decide) rfl ?_
      refine g_icY C (pc' := 173) at_161 rfl (by decide) (by decide) rfl ?_
      refine g_iconst C (pc' := 174) (v := (0 : Int32)) at_173 (by decide) rfl ?_
      refine g_istore C (pc' := 176) (Ls' := #[.val (.int p0), .val (.int p1), .val (.int p2), .val (.int p3), .val (.int p4), .val (.int n), .val (.int (0 : Int32)), .val (.int f0), .val (.int f1), .val (.int f2), .val (.ref b84), .val (.int (0 : Int32))]) at_174 rfl rfl rfl ?_
      refine g_aload C (pc' := 178) at_176 rfl rfl rfl ?_
      refine g_virtual C (pc' := 181) (k' := 2) (n' := 6) (argsL := []) (rest := []) (wd hw 18 rfl) (wd hw 19 rfl) (nfSel (wd hw 21 rfl)) (wd hw 21 rfl) (wd hw 20 rfl) (wd hw 2 rfl) (wd hw 22 rfl) (by decide) at_178 pd_2 rfl rfl rfl f98 (vroom_1 l Z a0 hw n0 h94 f97 s_ZERO H b84 (.ref r) (.ref s_ZERO) (-1 : Int32) (by decide) P92) (Nat.le_of_ble_eq_true rfl) (Nat.le_of_ble_eq_true rfl) (Nat.le_of_ble_eq_true rfl) (Nat.le_of_ble_eq_true rfl) rfl rfl rfl (fun v100 h99 q101 => ?_)
      obtain ⟨rfl, eh99⟩ := q101
      subst h99
      show G w _ h94 2 6 181 #[.val (.int p0), .val (.int p1), .val (.int p2), .val (.int p3), .val (.int p4), .val (.int n), .val (.int (0 : Int32)), .val (.int f0), .val (.int f1), .val (.int f2), .val (.ref b84), .val (.int (0 : Int32))] [(.int (1 : Int32))]
      refine g_iload C (pc' := 183) at_181 rfl rfl ?_
      refine g_ifN C (pc' := 186) at_183 rfl (by decide) rfl ?_
      refine g_iconst C (pc' := 187) (v := (1 : Int32)) at_186 (by decide) rfl ?_
      refine g_goto C (pc' := 191) at_187 (by decide) rfl ?_
      refine g_icN C (pc' := 194) at_191 rfl (by decide) rfl ?_
      refine g_iconst C (pc' := 195) (v := (1 : Int32)) at_194 (by decide) rfl ?_
      refine g_goto C (pc' := 199) at_195 (by decide) rfl ?_
      exact g_zreturn C at_199 rfl rfl (Nat.le_of_ble_eq_true rfl) (Nat.le_of_ble_eq_true rfl) (rfl)
    · rcases hf0 with rfl | rfl
      · refine g_iload C (pc' := 79) at_77 rfl rfl ?_
        refine g_ifN C (pc' := 82) at_79 rfl (by decide) rfl ?_
        refine g_aload C (pc' := 84) at_82 rfl rfl rfl ?_
        refine g_iconst C (pc' := 85) (v := (0 : Int32)) at_84 (by decide) rfl ?_
        refine g_iload C (pc' := 87) at_85 rfl rfl ?_
        refine g_iloadN C (pc' := 88) at_87 rfl rfl ?_
        refine g_aload C (pc' := 90) at_88 rfl rfl rfl ?_
        refine g_virtual C (pc' := 93) (k' := 2) (n' := 6) (argsL := []) (rest := [(.int p2), (.int (0 : Int32)), (.int (0 : Int32)), (.ref b84)]) (wd hw 23 rfl) (wd hw 24 rfl) (nfSel (wd hw 26 rfl)) (wd hw 26 rfl) (wd hw 25 rfl) (wd hw 2 rfl) (wd hw 27 rfl) (by decide) at_90 pd_3 rfl rfl rfl f98 (retry l Z a0 hw n0 h94 f97 s_ZERO H b84 r (-1 : Int32) P92) (Nat.le_of_ble_eq_true rfl) (Nat.le_of_ble_eq_true rfl) (Nat.le_of_ble_eq_true rfl) (Nat.le_of_ble_eq_true rfl) rfl rfl rfl (fun v103 h102 q104 => ?_)
        obtain ⟨rfl, eh102⟩ := q104
        subst h102
        show G w _ h94 2 6 93 #[.val (.int p0), .val (.int p1), .val (.int p2), .val (.int p3), .val (.int p4), .val (.int n), .val (.int (1 : Int32)), .val (.int (0 : Int32)), .val (.int f1), .val (.int f2), .val (.ref b84), .unset] [(.ref s_ZERO), (.int p2), (.int (0 : Int32)), (.int (0 : Int32)), (.ref b84)]
        refine g_virtual C (pc' := 96) (k' := 2) (n' := 6) (argsL := [(.int (0 : Int32)), (.int (0 : Int32)), (.int p2), (.ref s_ZERO)]) (rest := []) (wd hw 28 rfl) (wd hw 29 rfl) (nfSel (wd hw 31 rfl)) (wd hw 31 rfl) (wd hw 30 rfl) (wd hw 2 rfl) (wd hw 32 rfl) (by decide) at_93 pd_4 rfl rfl rfl f98 (rec0n l Z a0 hw n0 h94 f97 s_ZERO H b84 r ge_b84 gr nar (-1 : Int32) (0 : Int32) p2 n (by decide) (by decide) (own_lt hm2 (by decide)) P92 LN93) (Nat.le_of_ble_eq_true rfl) (Nat.le_of_ble_eq_true rfl) (Nat.le_of_ble_eq_true rfl) (Nat.le_of_ble_eq_true rfl) rfl rfl rfl (fun v109 h108 q110 => ?_)
        obtain ⟨rfl, K105, P106, LN107⟩ := q110
        have f111 := f97.keep K105 (allS ge_b84 (allS gr all0))
        have f112 := f98.keep K105
        show G w _ h108 2 6 96 #[.val (.int p0), .val (.int p1), .val (.int p2), .val (.int p3), .val (.int p4), .val (.int n), .val (.int (1 : Int32)), .val (.int (0 : Int32)), .val (.int f1), .val (.int f2), .val (.ref b84), .unset] []
        refine g_iload C (pc' := 98) at_96 rfl rfl ?_
        refine g_iconst C (pc' := 99) (v := (1 : Int32)) at_98 (by decide) rfl ?_
        refine g_icY C (pc' := 116) at_99 rfl (by decide) (by decide) rfl ?_
        refine g_iload C (pc' := 118) at_116 rfl rfl ?_
        refine g_iconst C (pc' := 119) (v := (2 : Int32)) at_118 (by decide) rfl ?_
        refine g_icY C (pc' := 137) at_119 rfl (by decide) (by decide) rfl ?_
        refine g_iload C (pc' := 139) at_137 rfl rfl ?_
        refine g_ifN C (pc' := 142) at_139 rfl (by decide) rfl ?_
        refine g_iload C (pc' := 144) at_142 rfl rfl ?_
        refine g_ifY C (pc' := 169) at_144 rfl (by decide) (by decide) rfl ?_
        refine g_iconst C (pc' := 170) (v := (1 : Int32)) at_169 (by decide) rfl ?_
        refine g_goto C (pc' := 174) at_170 (by decide) rfl ?_
        refine g_istore C (pc' := 176) (Ls' := #[.val (.int p0), .val (.int p1), .val (.int p2), .val (.int p3), .val (.int p4), .val (.int n), .val (.int (1 : Int32)), .val (.int (0 : Int32)), .val (.int f1), .val (.int f2), .val (.ref b84), .val (.int (1 : Int32))]) at_174 rfl rfl rfl ?_
        refine g_aload C (pc' := 178) at_176 rfl rfl rfl ?_
        refine g_virtual C (pc' := 181) (k' := 2) (n' := 6) (argsL := []) (rest := []) (wd hw 18 rfl) (wd hw 19 rfl) (nfSel (wd hw 21 rfl)) (wd hw 21 rfl) (wd hw 20 rfl) (wd hw 2 rfl) (wd hw 22 rfl) (by decide) at_178 pd_2 rfl rfl rfl f112 (vroom_0 l Z a0 hw n0 h108 f111 s_ZERO H b84 (.ref r) (.ref s_ZERO) (0 : Int32) (by decide) P106) (Nat.le_of_ble_eq_true rfl) (Nat.le_of_ble_eq_true rfl) (Nat.le_of_ble_eq_true rfl) (Nat.le_of_ble_eq_true rfl) rfl rfl rfl (fun v114 h113 q115 => ?_)
        obtain ⟨rfl, eh113⟩ := q115
        subst h113
        show G w _ h108 2 6 181 #[.val (.int p0), .val (.int p1), .val (.int p2), .val (.int p3), .val (.int p4), .val (.int n), .val (.int (1 : Int32)), .val (.int (0 : Int32)), .val (.int f1), .val (.int f2), .val (.ref b84), .val (.int (1 : Int32))] [(.int (0 : Int32))]
        refine g_iload C (pc' := 183) at_181 rfl rfl ?_
        refine g_ifY C (pc' := 190) at_183 rfl (by decide) (by decide) rfl ?_
        refine g_iconst C (pc' := 191) (v := (0 : Int32)) at_190 (by decide) rfl ?_
        refine g_icN C (pc' := 194) at_191 rfl (by decide) rfl ?_
        refine g_iconst C (pc' := 195) (v := (1 : Int32)) at_194 (by decide) rfl ?_
        refine g_goto C (pc' := 199) at_195 (by decide) rfl ?_
        exact g_zreturn C at_199 rfl rfl (Nat.le_of_ble_eq_true rfl) (Nat.le_of_ble_eq_true rfl) (rfl)
      · refine g_iload C (pc' := 79) at_77 rfl rfl ?_
        refine g_ifN C (pc' := 82) at_79 rfl (by decide) rfl ?_
        refine g_aload C (pc' := 84) at_82 rfl rfl rfl ?_
        refine g_iconst C (pc' := 85) (v := (0 : Int32)) at_84 (by decide) rfl ?_
        refine g_iload C (pc' := 87) at_85 rfl rfl ?_
        refine g_iloadN C (pc' := 88) at_87 rfl rfl ?_
        refine g_aload C (pc' := 90) at_88 rfl rfl rfl ?_
        refine g_virtual C (pc' := 93) (k' := 2) (n' := 6) (argsL := []) (rest := [(.int p2), (.int (1 : Int32)), (.int (0 : Int32)), (.ref b84)]) (wd hw 23 rfl) (wd hw 24 rfl) (nfSel (wd hw 26 rfl)) (wd hw 26 rfl) (wd hw 25 rfl) (wd hw 2 rfl) (wd hw 27 rfl) (by decide) at_90 pd_3 rfl rfl rfl f98 (retry l Z a0 hw n0 h94 f97 s_ZERO H b84 r (-1 : Int32) P92) (Nat.le_of_ble_eq_true rfl) (Nat.le_of_ble_eq_true rfl) (Nat.le_of_ble_eq_true rfl) (Nat.le_of_ble_eq_true rfl) rfl rfl rfl (fun v117 h116 q118 => ?_)
        obtain ⟨rfl, eh116⟩ := q118
        subst h116
        show G w _ h94 2 6 93 #[.val (.int p0), .val (.int p1), .val (.int p2), .val (.int p3), .val (.int p4), .val (.int n), .val (.int (1 : Int32)), .val (.int (1 : Int32)), .val (.int f1), .val (.int f2), .val (.ref b84), .unset] [(.ref s_ZERO), (.int p2), (.int (1 : Int32)), (.int (0 : Int32)), (.ref b84)]
        refine g_virtual C (pc' := 96) (k' := 2) (n' := 6) (argsL := [(.int (0 : Int32)), (.int (1 : Int32)), (.int p2), (.ref s_ZERO)]) (rest := []) (wd hw 28 rfl) (wd hw 29 rfl) (nfSel (wd hw 31 rfl)) (wd hw 31 rfl) (wd hw 30 rfl) (wd hw 2 rfl) (wd hw 32 rfl) (by decide) at_93 pd_4 rfl rfl rfl f98 (rec1 l Z a0 hw n0 h94 f97 s_ZERO H b84 r ge_b84 gr nar (-1 : Int32) (0 : Int32) p2 n (by decide) (own_lt hm2 (by decide)) P92 LN93) (Nat.le_of_ble_eq_true rfl) (Nat.le_of_ble_eq_true rfl) (Nat.le_of_ble_eq_true rfl) (Nat.le_of_ble_eq_true rfl) rfl rfl rfl (fun v123 h122 q124 => ?_)
        obtain ⟨rfl, K119, P120, LN121⟩ := q124
        have f125 := f97.keep K119 (allS ge_b84 (allS gr all0))
        have f126 := f98.keep K119
        show G w _ h122 2 6 96 #[.val (.int p0), .val (.int p1), .val (.int p2), .val (.int p3), .val (.int p4), .val (.int n), .val (.int (1 : Int32)), .val (.int (1 : Int32)), .val (.int f1), .val (.int f2), .val (.ref b84), .unset] []
        refine g_iload C (pc' := 98) at_96 rfl rfl ?_
        refine g_iconst C (pc' := 99) (v := (1 : Int32)) at_98 (by decide) rfl ?_
        refine g_icY C (pc' := 116) at_99 rfl (by decide) (by decide) rfl ?_
        refine g_iload C (pc' := 118) at_116 rfl rfl ?_
        refine g_iconst C (pc' := 119) (v := (2 : Int32)) at_118 (by decide) rfl ?_
        refine g_icY C (pc' := 137) at_119 rfl (by decide) (by decide) rfl ?_
        refine g_iload C (pc' := 139) at_137 rfl rfl ?_
        refine g_ifN C (pc' := 142) at_139 rfl (by decide) rfl ?_
        refine g_iload C (pc' := 144) at_142 rfl rfl ?_
        refine g_ifN C (pc' := 147) at_144 rfl (by decide) rfl ?_
        refine g_iload C (pc' := 149) at_147 rfl rfl ?_
        refine g_iconst C (pc' := 150) (v := (1 : Int32)) at_149 (by decide) rfl ?_
        refine g_icY C (pc' := 158) at_150 rfl (by decide) (by decide) rfl ?_
        refine g_iload C (pc' := 160) at_158 rfl rfl ?_
        refine g_iconst C (pc' := 161) (v := (2 : Int32)) at_160 (by decide) rfl ?_
        refine g_icY C (pc' := 173) at_161 rfl (by decide) (by decide) rfl ?_
        refine g_iconst C (pc' := 174) (v := (0 : Int32)) at_173 (by decide) rfl ?_
        refine g_istore C (pc' := 176) (Ls' := #[.val (.int p0), .val (.int p1), .val (.int p2), .val (.int p3), .val (.int p4), .val (.int n), .val (.int (1 : Int32)), .val (.int (1 : Int32)), .val (.int f1), .val (.int f2), .val (.ref b84), .val (.int (0 : Int32))]) at_174 rfl rfl rfl ?_
        refine g_aload C (pc' := 178) at_176 rfl rfl rfl ?_
        refine g_virtual C (pc' := 181) (k' := 2) (n' := 6) (argsL := []) (rest := []) (wd hw 18 rfl) (wd hw 19 rfl) (nfSel (wd hw 21 rfl)) (wd hw 21 rfl) (wd hw 20 rfl) (wd hw 2 rfl) (wd hw 22 rfl) (by decide) at_178 pd_2 rfl rfl rfl f126 (vroom_1 l Z a0 hw n0 h122 f125 s_ZERO H b84 (.ref r) (.ref s_ZERO) (-1 : Int32) (by decide) P120) (Nat.le_of_ble_eq_true rfl) (Nat.le_of_ble_eq_true rfl) (Nat.le_of_ble_eq_true rfl) (Nat.le_of_ble_eq_true rfl) rfl rfl rfl (fun v128 h127 q129 => ?_)
        obtain ⟨rfl, eh127⟩ := q129
        subst h127
        show G w _ h122 2 6 181 #[.val (.int p0), .val (.int p1), .val (.int p2), .val (.int p3), .val (.int p4), .val (.int n), .val (.int (1 : Int32)), .val (.int (1 : Int32)), .val (.int f1), .val (.int f2), .val (.ref b84), .val (.int (0 : Int32))] [(.int (1 : Int32))]
        refine g_iload C (pc' := 183) at_181 rfl rfl ?_
        refine g_ifN C (pc' := 186) at_183 rfl (by decide) rfl ?_
        refine g_iconst C (pc' := 187) (v := (1 : Int32)) at_186 (by decide) rfl ?_
        refine g_goto C (pc' := 191) at_187 (by decide) rfl ?_
        refine g_icN C (pc' := 194) at_191 rfl (by decide) rfl ?_
        refine g_iconst C (pc' := 195) (v := (1 : Int32)) at_194 (by decide) rfl ?_
        refine g_goto C (pc' := 199) at_195 (by decide) rfl ?_
        exact g_zreturn C at_199 rfl rfl (Nat.le_of_ble_eq_true rfl) (Nat.le_of_ble_eq_true rfl) (rfl)
    · rcases hf0 with rfl | rfl
      · rcases hf1 with rfl | rfl
        · refine g_iload C (pc' := 79) at_77 rfl rfl ?_
          refine g_ifN C (pc' := 82) at_79 rfl (by decide) rfl ?_
          refine g_aload C (pc' := 84) at_82 rfl rfl rfl ?_
          refine g_iconst C (pc' := 85) (v := (0 : Int32)) at_84 (by decide) rfl ?_
          refine g_iload C (pc' := 87) at_85 rfl rfl ?_
          refine g_iloadN C (pc' := 88) at_87 rfl rfl ?_
          refine g_aload C (pc' := 90) at_88 rfl rfl rfl ?_
          refine g_virtual C (pc' := 93) (k' := 2) (n' := 6) (argsL := []) (rest := [(.int p2), (.int (0 : Int32)), (.int (0 : Int32)), (.ref b84)]) (wd hw 23 rfl) (wd hw 24 rfl) (nfSel (wd hw 26 rfl)) (wd hw 26 rfl) (wd hw 25 rfl) (wd hw 2 rfl) (wd hw 27 rfl) (by decide) at_90 pd_3 rfl rfl rfl f98 (retry l Z a0 hw n0 h94 f97 s_ZERO H b84 r (-1 : Int32) P92) (Nat.le_of_ble_eq_true rfl) (Nat.le_of_ble_eq_true rfl) (Nat.le_of_ble_eq_true rfl) (Nat.le_of_ble_eq_true rfl) rfl rfl rfl (fun v131 h130 q132 => ?_)
          obtain ⟨rfl, eh130⟩ := q132
          subst h130
          show G w _ h94 2 6 93 #[.val (.int p0), .val (.int p1), .val (.int p2), .val (.int p3), .val (.int p4), .val (.int n), .val (.int (2 : Int32)), .val (.int (0 : Int32)), .val (.int (0 : Int32)), .val (.int f2), .val (.ref b84), .unset] [(.ref s_ZERO), (.int p2), (.int (0 : Int32)), (.int (0 : Int32)), (.ref b84)]
          refine g_virtual C (pc' := 96) (k' := 2) (n' := 6) (argsL := [(.int (0 : Int32)), (.int (0 : Int32)), (.int p2), (.ref s_ZERO)]) (rest := []) (wd hw 28 rfl) (wd hw 29 rfl) (nfSel (wd hw 31 rfl)) (wd hw 31 rfl) (wd hw 30 rfl) (wd hw 2 rfl) (wd hw 32 rfl) (by decide) at_93 pd_4 rfl rfl rfl f98 (rec0n l Z a0 hw n0 h94 f97 s_ZERO H b84 r ge_b84 gr nar (-1 : Int32) (0 : Int32) p2 n (by decide) (by decide) (own_lt hm2 (by decide)) P92 LN93) (Nat.le_of_ble_eq_true rfl) (Nat.le_of_ble_eq_true rfl) (Nat.le_of_ble_eq_true rfl) (Nat.le_of_ble_eq_true rfl) rfl rfl rfl (fun v137 h136 q138 => ?_)
          obtain ⟨rfl, K133, P134, LN135⟩ := q138
          have f139 := f97.keep K133 (allS ge_b84 (allS gr all0))
          have f140 := f98.keep K133
          show G w _ h136 2 6 96 #[.val (.int p0), .val (.int p1), .val (.int p2), .val (.int p3), .val (.int p4), .val (.int n), .val (.int (2 : Int32)), .val (.int (0 : Int32)), .val (.int (0 : Int32)), .val (.int f2), .val (.ref b84), .unset] []
          refine g_iload C (pc' := 98) at_96 rfl rfl ?_
          refine g_iconst C (pc' := 99) (v := (1 : Int32)) at_98 (by decide) rfl ?_
          refine g_icN C (pc' := 102) at_99 rfl (by decide) rfl ?_
          refine g_aload C (pc' := 104) at_102 rfl rfl rfl ?_
          refine g_iconst C (pc' := 105) (v := (1 : Int32)) at_104 (by decide) rfl ?_
          refine g_iload C (pc' := 107) at_105 rfl rfl ?_
          refine g_iloadN C (pc' := 108) at_107 rfl rfl ?_
          refine g_aload C (pc' := 110) at_108 rfl rfl rfl ?_
          refine g_virtual C (pc' := 113) (k' := 2) (n' := 6) (argsL := []) (rest := [(.int p3), (.int (0 : Int32)), (.int (1 : Int32)), (.ref b84)]) (wd hw 23 rfl) (wd hw 24 rfl) (nfSel (wd hw 26 rfl)) (wd hw 26 rfl) (wd hw 25 rfl) (wd hw 2 rfl) (wd hw 27 rfl) (by decide) at_110 pd_3 rfl rfl rfl f140 (retry l Z a0 hw n0 h136 f139 s_ZERO H b84 r (0 : Int32) P134) (Nat.le_of_ble_eq_true rfl) (Nat.le_of_ble_eq_true rfl) (Nat.le_of_ble_eq_true rfl) (Nat.le_of_ble_eq_true rfl) rfl rfl rfl (fun v142 h141 q143 => ?_)
          obtain ⟨rfl, eh141⟩ := q143
          subst h141
          show G w _ h136 2 6 113 #[.val (.int p0), .val (.int p1), .val (.int p2), .val (.int p3), .val (.int p4), .val (.int n), .val (.int (2 : Int32)), .val (.int (0 : Int32)), .val (.int (0 : Int32)), .val (.int f2), .val (.ref b84), .unset] [(.ref s_ZERO), (.int p3), (.int (0 : Int32)), (.int (1 : Int32)), (.ref b84)]
          refine g_virtual C (pc' := 116) (k' := 2) (n' := 6) (argsL := [(.int (1 : Int32)), (.int (0 : Int32)), (.int p3), (.ref s_ZERO)]) (rest := []) (wd hw 28 rfl) (wd hw 29 rfl) (nfSel (wd hw 31 rfl)) (wd hw 31 rfl) (wd hw 30 rfl) (wd hw 2 rfl) (wd hw 32 rfl) (by decide) at_113 pd_4 rfl rfl rfl f140 (rec0p l Z a0 hw n0 h136 f139 s_ZERO H b84 r ge_b84 gr nar (0 : Int32) (1 : Int32) p3 n (by decide) (by decide) (own_lt hm2 (by decide)) P134 LN135) (Nat.le_of_ble_eq_true rfl) (Nat.le_of_ble_eq_true rfl) (Nat.le_of_ble_eq_true rfl) (Nat.le_of_ble_eq_true rfl) rfl rfl rfl (fun v148 h147 q149 => ?_)
          obtain ⟨rfl, K144, P145, LN146⟩ := q149
          have f150 := f139.keep K144 (allS ge_b84 (allS gr all0))
          have f151 := f140.keep K144
          show G w _ h147 2 6 116 #[.val (.int p0), .val (.int p1), .val (.int p2), .val (.int p3), .val (.int p4), .val (.int n), .val (.int (2 : Int32)), .val (.int (0 : Int32)), .val (.int (0 : Int32)), .val (.int f2), .val (.ref b84), .unset] []
          refine g_iload C (pc' := 118) at_116 rfl rfl ?_
          refine g_iconst C (pc' := 119) (v := (2 : Int32)) at_118 (by decide) rfl ?_
          refine g_icY C (pc' := 137) at_119 rfl (by decide) (by decide) rfl ?_
          refine g_iload C (pc' := 139) at_137 rfl rfl ?_
          refine g_ifN C (pc' := 142) at_139 rfl (by decide) rfl ?_
          refine g_iload C (pc' := 144) at_142 rfl rfl ?_
          refine g_ifY C (pc' := 169) at_144 rfl (by decide) (by decide) rfl ?_
          refine g_iconst C (pc' := 170) (v := (1 : Int32)) at_169 (by decide) rfl ?_
          refine g_goto C (pc' := 174) at_170 (by decide) rfl ?_
          refine g_istore C (pc' := 176) (Ls' := #[.val (.int p0), .val (.int p1), .val (.int p2), .val (.int p3), .val (.int p4), .val (.int n), .val (.int (2 : Int32)), .val (.int (0 : Int32)), .val (.int (0 : Int32)), .val (.int f2), .val (.ref b84), .val (.int (1 : Int32))]) at_174 rfl rfl rfl ?_
          refine g_aload C (pc' := 178) at_176 rfl rfl rfl ?_
          refine g_virtual C (pc' := 181) (k' := 2) (n' := 6) (argsL := []) (rest := []) (wd hw 18 rfl) (wd hw 19 rfl) (nfSel (wd hw 21 rfl)) (wd hw 21 rfl) (wd hw 20 rfl) (wd hw 2 rfl) (wd hw 22 rfl) (by decide) at_178 pd_2 rfl rfl rfl f151 (vroom_0 l Z a0 hw n0 h147 f150 s_ZERO H b84 (.ref r) (.ref s_ZERO) (0 : Int32) (by decide) P145) (Nat.le_of_ble_eq_true rfl) (Nat.le_of_ble_eq_true rfl) (Nat.le_of_ble_eq_true rfl) (Nat.le_of_ble_eq_true rfl) rfl rfl rfl (fun v153 h152 q154 => ?_)
          obtain ⟨rfl, eh152⟩ := q154
          subst h152
          show G w _ h147 2 6 181 #[.val (.int p0), .val (.int p1), .val (.int p2), .val (.int p3), .val (.int p4), .val (.int n), .val (.int (2 : Int32)), .val (.int (0 : Int32)), .val (.int (0 : Int32)), .val (.int f2), .val (.ref b84), .val (.int (1 : Int32))] [(.int (0 : Int32))]
          refine g_iload C (pc' := 183) at_181 rfl rfl ?_
          refine g_ifY C (pc' := 190) at_183 rfl (by decide) (by decide) rfl ?_
          refine g_iconst C (pc' := 191) (v := (0 : Int32)) at_190 (by decide) rfl ?_
          refine g_icN C (pc' := 194) at_191 rfl (by decide) rfl ?_
          refine g_iconst C (pc' := 195) (v := (1 : Int32)) at_194 (by decide) rfl ?_
          refine g_goto C (pc' := 199) at_195 (by decide) rfl ?_
          exact g_zreturn C at_199 rfl rfl (Nat.le_of_ble_eq_true rfl) (Nat.le_of_ble_eq_true rfl) (rfl)
        · refine g_iload C (pc' := 79) at_77 rfl rfl ?_
          refine g_ifN C (pc' := 82) at_79 rfl (by decide) rfl ?_
          refine g_aload C (pc' := 84) at_82 rfl rfl rfl ?_
          refine g_iconst C (pc' := 85) (v := (0 : Int32)) at_84 (by decide) rfl ?_
          refine g_iload C (pc' := 87) at_85 rfl rfl ?_
          refine g_iloadN C (pc' := 88) at_87 rfl rfl ?_
          refine g_aload C (pc' := 90) at_88 rfl rfl rfl ?_
          refine g_virtual C (pc' := 93) (k' := 2) (n' := 6) (argsL := []) (rest := [(.int p2), (.int (0 : Int32)), (.int (0 : Int32)), (.ref b84)]) (wd hw 23 rfl) (wd hw 24 rfl) (nfSel (wd hw 26 rfl)) (wd hw 26 rfl) (wd hw 25 rfl) (wd hw 2 rfl) (wd hw 27 rfl) (by decide) at_90 pd_3 rfl rfl rfl f98 (retry l Z a0 hw n0 h94 f97 s_ZERO H b84 r (-1 : Int32) P92) (Nat.le_of_ble_eq_true rfl) (Nat.le_of_ble_eq_true rfl) (Nat.le_of_ble_eq_true rfl) (Nat.le_of_ble_eq_true rfl) rfl rfl rfl (fun v156 h155 q157 => ?_)
          obtain ⟨rfl, eh155⟩ := q157
          subst h155
          show G w _ h94 2 6 93 #[.val (.int p0), .val (.int p1), .val (.int p2), .val (.int p3), .val (.int p4), .val (.int n), .val (.int (2 : Int32)), .val (.int (0 : Int32)), .val (.int (1 : Int32)), .val (.int f2), .val (.ref b84), .unset] [(.ref s_ZERO), (.int p2), (.int (0 : Int32)), (.int (0 : Int32)), (.ref b84)]
          refine g_virtual C (pc' := 96) (k' := 2) (n' := 6) (argsL := [(.int (0 : Int32)), (.int (0 : Int32)), (.int p2), (.ref s_ZERO)]) (rest := []) (wd hw 28 rfl) (wd hw 29 rfl) (nfSel (wd hw 31 rfl)) (wd hw 31 rfl) (wd hw 30 rfl) (wd hw 2 rfl) (wd hw 32 rfl) (by decide) at_93 pd_4 rfl rfl rfl f98 (rec0n l Z a0 hw n0 h94 f97 s_ZERO H b84 r ge_b84 gr nar (-1 : Int32) (0 : Int32) p2 n (by decide) (by decide) (own_lt hm2 (by decide)) P92 LN93) (Nat.le_of_ble_eq_true rfl) (Nat.le_of_ble_eq_true rfl) (Nat.le_of_ble_eq_true rfl) (Nat.le_of_ble_eq_true rfl) rfl rfl rfl (fun v162 h161 q163 => ?_)
          obtain ⟨rfl, K158, P159, LN160⟩ := q163
          have f164 := f97.keep K158 (allS ge_b84 (allS gr all0))
          have f165 := f98.keep K158
          show G w _ h161 2 6 96 #[.val (.int p0), .val (.int p1), .val (.int p2), .val (.int p3), .val (.int p4), .val (.int n), .val (.int (2 : Int32)), .val (.int (0 : Int32)), .val (.int (1 : Int32)), .val (.int f2), .val (.ref b84), .unset] []
          refine g_iload C (pc' := 98) at_96 rfl rfl ?_
          refine g_iconst C (pc' := 99) (v := (1 : Int32)) at_98 (by decide) rfl ?_
          refine g_icN C (pc' := 102) at_99 rfl (by decide) rfl ?_
          refine g_aload C (pc' := 104) at_102 rfl rfl rfl ?_
          refine g_iconst C (pc' := 105) (v := (1 : Int32)) at_104 (by decide) rfl ?_
          refine g_iload C (pc' := 107) at_105 rfl rfl ?_
          refine g_iloadN C (pc' := 108) at_107 rfl rfl ?_
          refine g_aload C (pc' := 110) at_108 rfl rfl rfl ?_
          refine g_virtual C (pc' := 113) (k' := 2) (n' := 6) (argsL := []) (rest := [(.int p3), (.int (1 : Int32)), (.int (1 : Int32)), (.ref b84)]) (wd hw 23 rfl) (wd hw 24 rfl) (nfSel (wd hw 26 rfl)) (wd hw 26 rfl) (wd hw 25 rfl) (wd hw 2 rfl) (wd hw 27 rfl) (by decide) at_110 pd_3 rfl rfl rfl f165 (retry l Z a0 hw n0 h161 f164 s_ZERO H b84 r (0 : Int32) P159) (Nat.le_of_ble_eq_true rfl) (Nat.le_of_ble_eq_true rfl) (Nat.le_of_ble_eq_true rfl) (Nat.le_of_ble_eq_true rfl) rfl rfl rfl (fun v167 h166 q168 => ?_)
          obtain ⟨rfl, eh166⟩ := q168
          subst h166
          show G w _ h161 2 6 113 #[.val (.int p0), .val (.int p1), .val (.int p2), .val (.int p3), .val (.int p4), .val (.int n), .val (.int (2 : Int32)), .val (.int (0 : Int32)), .val (.int (1 : Int32)), .val (.int f2), .val (.ref b84), .unset] [(.ref s_ZERO), (.int p3), (.int (1 : Int32)), (.int (1 : Int32)), (.ref b84)]
          refine g_virtual C (pc' := 116) (k' := 2) (n' := 6) (argsL := [(.int (1 : Int32)), (.int (1 : Int32)), (.int p3), (.ref s_ZERO)]) (rest := []) (wd hw 28 rfl) (wd hw 29 rfl) (nfSel (wd hw 31 rfl)) (wd hw 31 rfl) (wd hw 30 rfl) (wd hw 2 rfl) (wd hw 32 rfl) (by decide) at_113 pd_4 rfl rfl rfl f165 (rec1 l Z a0 hw n0 h161 f164 s_ZERO H b84 r ge_b84 gr nar (0 : Int32) (1 : Int32) p3 n (by decide) (own_lt hm2 (by decide)) P159 LN160) (Nat.le_of_ble_eq_true rfl) (Nat.le_of_ble_eq_true rfl) (Nat.le_of_ble_eq_true rfl) (Nat.le_of_ble_eq_true rfl) rfl rfl rfl (fun v173 h172 q174 => ?_)
          obtain ⟨rfl, K169, P170, LN171⟩ := q174
          have f175 := f164.keep K169 (allS ge_b84 (allS gr all0))
          have f176 := f165.keep K169
          show G w _ h172 2 6 116 #[.val (.int p0), .val (.int p1), .val (.int p2), .val (.int p3), .val (.int p4), .val (.int n), .val (.int (2 : Int32)), .val (.int (0 : Int32)), .val (.int (1 : Int32)), .val (.int f2), .val (.ref b84), .unset] []
          refine g_iload C (pc' := 118) at_116 rfl rfl ?_
          refine g_iconst C (pc' := 119) (v := (2 : Int32)) at_118 (by decide) rfl ?_
          refine g_icY C (pc' := 137) at_119 rfl (by decide) (by decide) rfl ?_
          refine g_iload C (pc' := 139) at_137 rfl rfl ?_
          refine g_ifN C (pc' := 142) at_139 rfl (by decide) rfl ?_
          refine g_iload C (pc' := 144) at_142 rfl rfl ?_
          refine g_ifY C (pc' := 169) at_144 rfl (by decide) (by decide) rfl ?_
          refine g_iconst C (pc' := 170) (v := (1 : Int32)) at_169 (by decide) rfl ?_
          refine g_goto C (pc' := 174) at_170 (by decide) rfl ?_
          refine g_istore C (pc' := 176) (Ls' := #[.val (.int p0), .val (.int p1), .val (.int p2), .val (.int p3), .val (.int p4), .val (.int n), .val (.int (2 : Int32)), .val (.int (0 : Int32)), .val (.int (1 : Int32)), .val (.int f2), .val (.ref b84), .val (.int (1 : Int32))]) at_174 rfl rfl rfl ?_
          refine g_aload C (pc' := 178) at_176 rfl rfl rfl ?_
          refine g_virtual C (pc' := 181) (k' := 2) (n' := 6) (argsL := []) (rest := []) (wd hw 18 rfl) (wd hw 19 rfl) (nfSel (wd hw 21 rfl)) (wd hw 21 rfl) (wd hw 20 rfl) (wd hw 2 rfl) (wd hw 22 rfl) (by decide) at_178 pd_2 rfl rfl rfl f176 (vroom_0 l Z a0 hw n0 h172 f175 s_ZERO H b84 (.ref r) (.ref s_ZERO) (0 : Int32) (by decide) P170) (Nat.le_of_ble_eq_true rfl) (Nat.le_of_ble_eq_true rfl) (Nat.le_of_ble_eq_true rfl) (Nat.le_of_ble_eq_true rfl) rfl rfl rfl (fun v178 h177 q179 => ?_)
          obtain ⟨rfl, eh177⟩ := q179
          subst h177
          show G w _ h172 2 6 181 #[.val (.int p0), .val (.int p1), .val (.int p2), .val (.int p3), .val (.int p4), .val (.int n), .val (.int (2 : Int32)), .val (.int (0 : Int32)), .val (.int (1 : Int32)), .val (.int f2), .val (.ref b84), .val (.int (1 : Int32))] [(.int (0 : Int32))]
          refine g_iload C (pc' := 183) at_181 rfl rfl ?_
          refine g_ifY C (pc' := 190) at_183 rfl (by decide) (by decide) rfl ?_
          refine g_iconst C (pc' := 191) (v := (0 : Int32)) at_190 (by decide) rfl ?_
          refine g_icN C (pc' := 194) at_191 rfl (by decide) rfl ?_
          refine g_iconst C (pc' := 195) (v := (1 : Int32)) at_194 (by decide) rfl ?_
          refine g_goto C (pc' := 199) at_195 (by decide) rfl ?_
          exact g_zreturn C at_199 rfl rfl (Nat.le_of_ble_eq_true rfl) (Nat.le_of_ble_eq_true rfl) (rfl)
      · rcases hf1 with rfl | rfl
        · refine g_iload C (pc' := 79) at_77 rfl rfl ?_
          refine g_ifN C (pc' := 82) at_79 rfl (by decide) rfl ?_
          refine g_aload C (pc' := 84) at_82 rfl rfl rfl ?_
          refine g_iconst C (pc' := 85) (v := (0 : Int32)) at_84 (by decide) rfl ?_
          refine g_iload C (pc' := 87) at_85 rfl rfl ?_
          refine g_iloadN C (pc' := 88) at_87 rfl rfl ?_
          refine g_aload C (pc' := 90) at_88 rfl rfl rfl ?_
          refine g_virtual C (pc' := 93) (k' := 2) (n' := 6) (argsL := []) (rest := [(.int p2), (.int (1 : Int32)), (.int (0 : Int32)), (.ref b84)]) (wd hw 23 rfl) (wd hw 24 rfl) (nfSel (wd hw 26 rfl)) (wd hw 26 rfl) (wd hw 25 rfl) (wd hw 2 rfl) (wd hw 27 rfl) (by decide) at_90 pd_3 rfl rfl rfl f98 (retry l Z a0 hw n0 h94 f97 s_ZERO H b84 r (-1 : Int32) P92) (Nat.le_of_ble_eq_true rfl) (Nat.le_of_ble_eq_true rfl) (Nat.le_of_ble_eq_true rfl) (Nat.le_of_ble_eq_true rfl) rfl rfl rfl (fun v181 h180 q182 => ?_)
          obtain ⟨rfl, eh180⟩ := q182
          subst h180
          show G w _ h94 2 6 93 #[.val (.int p0), .val (.int p1), .val (.int p2), .val (.int p3), .val (.int p4), .val (.int n), .val (.int (2 : Int32)), .val (.int (1 : Int32)), .val (.int (0 : Int32)), .val (.int f2), .val (.ref b84), .unset] [(.ref s_ZERO), (.int p2), (.int (1 : Int32)), (.int (0 : Int32)), (.ref b84)]
          refine g_virtual C (pc' := 96) (k' := 2) (n' := 6) (argsL := [(.int (0 : Int32)), (.int (1 : Int32)), (.int p2), (.ref s_ZERO)]) (rest := []) (wd hw 28 rfl) (wd hw 29 rfl) (nfSel (wd hw 31 rfl)) (wd hw 31 rfl) (wd hw 30 rfl) (wd hw 2 rfl) (wd hw 32 rfl) (by decide) at_93 pd_4 rfl rfl rfl f98 (rec1 l Z a0 hw n0 h94 f97 s_ZERO H b84 r ge_b84 gr nar (-1 : Int32) (0 : Int32) p2 n (by decide) (own_lt hm2 (by decide)) P92 LN93) (Nat.le_of_ble_eq_true rfl) (Nat.le_of_ble_eq_true rfl) (Nat.le_of_ble_eq_true rfl) (Nat.le_of_ble_eq_true rfl) rfl rfl rfl (fun v187 h186 q188 => ?_)
          obtain ⟨rfl, K183, P184, LN185⟩ := q188
          have f189 := f97.keep K183 (allS ge_b84 (allS gr all0))
          have f190 := f98.keep K183
          show G w _ h186 2 6 96 #[.val (.int p0), .val (.int p1), .val (.int p2), .val (.int p3), .val (.int p4), .val (.int n), .val (.int (2 : Int32)), .val (.int (1 : Int32)), .val (.int (0 : Int32)), .val (.int f2), .val (.ref b84), .unset] []
          refine g_iload C (pc' := 98) at_96 rfl rfl ?_
          refine g_iconst C (pc' := 99) (v := (1 : Int32)) at_98 (by decide) rfl ?_
          refine g_icN C (pc' := 102) at_99 rfl (by decide) rfl ?_
          refine g_aload C (pc' := 104) at_102 rfl rfl rfl ?_
          refine g_iconst C (pc' := 105) (v := (1 : Int32)) at_104 (by decide) rfl ?_
          refine g_iload C (pc' := 107) at_105 rfl rfl ?_
          refine g_iloadN C (pc' := 108) at_107 rfl rfl ?_
          refine g_aload C (pc' := 110) at_108 rfl rfl rfl ?_
          refine g_virtual C (pc' := 113) (k' := 2) (n' := 6) (argsL := []) (rest := [(.int p3), (.int (0 : Int32)), (.int (1 : Int32)), (.ref b84)]) (wd hw 23 rfl) (wd hw 24 rfl) (nfSel (wd hw 26 rfl)) (wd hw 26 rfl) (wd hw 25 rfl) (wd hw 2 rfl) (wd hw 27 rfl) (by decide) at_110 pd_3 rfl rfl rfl f190 (retry l Z a0 hw n0 h186 f189 s_ZERO H b84 r (-1 : Int32) P184) (Nat.le_of_ble_eq_true rfl) (Nat.le_of_ble_eq_true rfl) (Nat.le_of_ble_eq_true rfl) (Nat.le_of_ble_eq_true rfl) rfl rfl rfl (fun v192 h191 q193 => ?_)
          obtain ⟨rfl, eh191⟩ := q193
          subst h191
          show G w _ h186 2 6 113 #[.val (.int p0), .val (.int p1), .val (.int p2), .val (.int p3), .val (.int p4), .val (.int n), .val (.int (2 : Int32)), .val (.int (1 : Int32)), .val (.int (0 : Int32)), .val (.int f2), .val (.ref b84), .unset] [(.ref s_ZERO), (.int p3), (.int (0 : Int32)), (.int (1 : Int32)), (.ref b84)]
          refine g_virtual C (pc' := 116) (k' := 2) (n' := 6) (argsL := [(.int (1 : Int32)), (.int (0 : Int32)), (.int p3), (.ref s_ZERO)]) (rest := []) (wd hw 28 rfl) (wd hw 29 rfl) (nfSel (wd hw 31 rfl)) (wd hw 31 rfl) (wd hw 30 rfl) (wd hw 2 rfl) (wd hw 32 rfl) (by decide) at_113 pd_4 rfl rfl rfl f190 (rec0n l Z a0 hw n0 h186 f189 s_ZERO H b84 r ge_b84 gr nar (-1 : Int32) (1 : Int32) p3 n (by decide) (by decide) (own_lt hm2 (by decide)) P184 LN185) (Nat.le_of_ble_eq_true rfl) (Nat.le_of_ble_eq_true rfl) (Nat.le_of_ble_eq_true rfl) (Nat.le_of_ble_eq_true rfl) rfl rfl rfl (fun v198 h197 q199 => ?_)
          obtain ⟨rfl, K194, P195, LN196⟩ := q199
          have f200 := f189.keep K194 (allS ge_b84 (allS gr all0))
          have f201 := f190.keep K194
          show G w _ h197 2 6 116 #[.val (.int p0), .val (.int p1), .val (.int p2), .val (.int p3), .val (.int p4), .val (.int n), .val (.int (2 : Int32)), .val (.int (1 : Int32)), .val (.int (0 : Int32)), .val (.int f2), .val (.ref b84), .unset] []
          refine g_iload C (pc' := 118) at_116 rfl rfl ?_
          refine g_iconst C (pc' := 119) (v := (2 : Int32)) at_118 (by decide) rfl ?_
          refine g_icY C (pc' := 137) at_119 rfl (by decide) (by decide) rfl ?_
          refine g_iload C (pc' := 139) at_137 rfl rfl ?_
          refine g_ifN C (pc' := 142) at_139 rfl (by decide) rfl ?_
          refine g_iload C (pc' := 144) at_142 rfl rfl ?_
          refine g_ifN C (pc' := 147) at_144 rfl (by decide) rfl ?_
          refine g_iload C (pc' := 149) at_147 rfl rfl ?_
          refine g_iconst C (pc' := 150) (v := (1 : Int32)) at_149 (by decide) rfl ?_
          refine g_icN C (pc' := 153) at_150 rfl (by decide) rfl ?_
          refine g_iload C (pc' := 155) at_153 rfl rfl ?_
          refine g_ifY C (pc' := 169) at_155 rfl (by decide) (by decide) rfl ?_
          refine g_iconst C (pc' := 170) (v := (1 : Int32)) at_169 (by decide) rfl ?_
          refine g_goto C (pc' := 174) at_170 (by decide) rfl ?_
          refine g_istore C (pc' := 176) (Ls' := #[.val (.int p0), .val (.int p1), .val (.int p2), .val (.int p3), .val (.int p4), .val (.int n), .val (.int (2 : Int32)), .val (.int (1 : Int32)), .val (.int (0 : Int32)), .val (.int f2), .val (.ref b84), .val (.int (1 : Int32))]) at_174 rfl rfl rfl ?_
          refine g_aload C (pc' := 178) at_176 rfl rfl rfl ?_
          refine g_virtual C (pc' := 181) (k' := 2) (n' := 6) (argsL := []) (rest := []) (wd hw 18 rfl) (wd hw 19 rfl) (nfSel (wd hw 21 rfl)) (wd hw 21 rfl) (wd hw 20 rfl) (wd hw 2 rfl) (wd hw 22 rfl) (by decide) at_178 pd_2 rfl rfl rfl f201 (vroom_0 l Z a0 hw n0 h197 f200 s_ZERO H b84 (.ref r) (.ref s_ZERO) (1 : Int32) (by decide) P195) (Nat.le_of_ble_eq_true rfl) (Nat.le_of_ble_eq_true rfl) (Nat.le_of_ble_eq_true rfl) (Nat.le_of_ble_eq_true rfl) rfl rfl rfl (fun v203 h202 q204 => ?_)
          obtain ⟨rfl, eh202⟩ := q204
          subst h202
          show G w _ h197 2 6 181 #[.val (.int p0), .val (.int p1), .val (.int p2), .val (.int p3), .val (.int p4), .val (.int n), .val (.int (2 : Int32)), .val (.int (1 : Int32)), .val (.int (0 : Int32)), .val (.int f2), .val (.ref b84), .val (.int (1 : Int32))] [(.int (0 : Int32))]
          refine g_iload C (pc' := 183) at_181 rfl rfl ?_
          refine g_ifY C (pc' := 190) at_183 rfl (by decide) (by decide) rfl ?_
          refine g_iconst C (pc' := 191) (v := (0 : Int32)) at_190 (by decide) rfl ?_
          refine g_icN C (pc' := 194) at_191 rfl (by decide) rfl ?_
          refine g_iconst C (pc' := 195) (v := (1 : Int32)) at_194 (by decide) rfl ?_
          refine g_goto C (pc' := 199) at_195 (by decide) rfl ?_
          exact g_zreturn C at_199 rfl rfl (Nat.le_of_ble_eq_true rfl) (Nat.le_of_ble_eq_true rfl) (rfl)
        · refine g_iload C (pc' := 79) at_77 rfl rfl ?_
          refine g_ifN C (pc' := 82) at_79 rfl (by decide) rfl ?_
          refine g_aload C (pc' := 84) at_82 rfl rfl rfl ?_
          refine g_iconst C (pc' := 85) (v := (0 : Int32)) at_84 (by decide) rfl ?_
          refine g_iload C (pc' := 87) at_85 rfl rfl ?_
          refine g_iloadN C (pc' := 88) at_87 rfl rfl ?_
          refine g_aload C (pc' := 90) at_88 rfl rfl rfl ?_
          refine g_virtual C (pc' := 93) (k' := 2) (n' := 6) (argsL := []) (rest := [(.int p2), (.int (1 : Int32)), (.int (0 : Int32)), (.ref b84)]) (wd hw 23 rfl) (wd hw 24 rfl) (nfSel (wd hw 26 rfl)) (wd hw 26 rfl) (wd hw 25 rfl) (wd hw 2 rfl) (wd hw 27 rfl) (by decide) at_90 pd_3 rfl rfl rfl f98 (retry l Z a0 hw n0 h94 f97 s_ZERO H b84 r (-1 : Int32) P92) (Nat.le_of_ble_eq_true rfl) (Nat.le_of_ble_eq_true rfl) (Nat.le_of_ble_eq_true rfl) (Nat.le_of_ble_eq_true rfl) rfl rfl rfl (fun v206 h205 q207 => ?_)
          obtain ⟨rfl, eh205⟩ := q207
          subst h205
          show G w _ h94 2 6 93 #[.val (.int p0), .val (.int p1), .val (.int p2), .val (.int p3), .val (.int p4), .val (.int n), .val (.int (2 : Int32)), .val (.int (1 : Int32)), .val (.int (1 : Int32)), .val (.int f2), .val (.ref b84), .unset] [(.ref s_ZERO), (.int p2), (.int (1 : Int32)), (.int (0 : Int32)), (.ref b84)]
          refine g_virtual C (pc' := 96) (k' := 2) (n' := 6) (argsL := [(.int (0 : Int32)), (.int (1 : Int32)), (.int p2), (.ref s_ZERO)]) (rest := []) (wd hw 28 rfl) (wd hw 29 rfl) (nfSel (wd hw 31 rfl)) (wd hw 31 rfl) (wd hw 30 rfl) (wd hw 2 rfl) (wd hw 32 rfl) (by decide) at_93 pd_4 rfl rfl rfl f98 (rec1 l Z a0 hw n0 h94 f97 s_ZERO H b84 r ge_b84 gr nar (-1 : Int32) (0 : Int32) p2 n (by decide) (own_lt hm2 (by decide)) P92 LN93) (Nat.le_of_ble_eq_true rfl) (Nat.le_of_ble_eq_true rfl) (Nat.le_of_ble_eq_true rfl) (Nat.le_of_ble_eq_true rfl) rfl rfl rfl (fun v212 h211 q213 => ?_)
          obtain ⟨rfl, K208, P209, LN210⟩ := q213
          have f214 := f97.keep K208 (allS ge_b84 (allS gr all0))
          have f215 := f98.keep K208
          show G w _ h211 2 6 96 #[.val (.int p0), .val (.int p1), .val (.int p2), .val (.int p3), .val (.int p4), .val (.int n), .val (.int (2 : Int32)), .val (.int (1 : Int32)), .val (.int (1 : Int32)), .val (.int f2), .val (.ref b84), .unset] []
          refine g_iload C (pc' := 98) at_96 rfl rfl ?_
          refine g_iconst C (pc' := 99) (v := (1 : Int32)) at_98 (by decide) rfl ?_
          refine g_icN C (pc' := 102) at_99 rfl (by decide) rfl ?_
          refine g_aload C (pc' := 104) at_102 rfl rfl rfl ?_
          refine g_iconst C (pc' := 105) (v := (1 : Int32)) at_104 (by decide) rfl ?_
          refine g_iload C (pc' := 107) at_105 rfl rfl ?_
          refine g_iloadN C (pc' := 108) at_107 rfl rfl ?_
          refine g_aload C (pc' := 110) at_108 rfl rfl rfl ?_
          refine g_virtual C (pc' := 113) (k' := 2) (n' := 6) (argsL := []) (rest := [(.int p3), (.int (1 : Int32)), (.int (1 : Int32)), (.ref b84)]) (wd hw 23 rfl) (wd hw 24 rfl) (nfSel (wd hw 26 rfl)) (wd hw 26 rfl) (wd hw 25 rfl) (wd hw 2 rfl) (wd hw 27 rfl) (by decide) at_110 pd_3 rfl rfl rfl f215 (retry l Z a0 hw n0 h211 f214 s_ZERO H b84 r (-1 : Int32) P209) (Nat.le_of_ble_eq_true rfl) (Nat.le_of_ble_eq_true rfl) (Nat.le_of_ble_eq_true rfl) (Nat.le_of_ble_eq_true rfl) rfl rfl rfl (fun v217 h216 q218 => ?_)
          obtain ⟨rfl, eh216⟩ := q218
          subst h216
          show G w _ h211 2 6 113 #[.val (.int p0), .val (.int p1), .val (.int p2), .val (.int p3), .val (.int p4), .val (.int n), .val (.int (2 : Int32)), .val (.int (1 : Int32)), .val (.int (1 : Int32)), .val (.int f2), .val (.ref b84), .unset] [(.ref s_ZERO), (.int p3), (.int (1 : Int32)), (.int (1 : Int32)), (.ref b84)]
          refine g_virtual C (pc' := 116) (k' := 2) (n' := 6) (argsL := [(.int (1 : Int32)), (.int (1 : Int32)), (.int p3), (.ref s_ZERO)]) (rest := []) (wd hw 28 rfl) (wd hw 29 rfl) (nfSel (wd hw 31 rfl)) (wd hw 31 rfl) (wd hw 30 rfl) (wd hw 2 rfl) (wd hw 32 rfl) (by decide) at_113 pd_4 rfl rfl rfl f215 (rec1 l Z a0 hw n0 h211 f214 s_ZERO H b84 r ge_b84 gr nar (-1 : Int32) (1 : Int32) p3 n (by decide) (own_lt hm2 (by decide)) P209 LN210) (Nat.le_of_ble_eq_true rfl) (Nat.le_of_ble_eq_true rfl) (Nat.le_of_ble_eq_true rfl) (Nat.le_of_ble_eq_true rfl) rfl rfl rfl (fun v223 h222 q224 => ?_)
          obtain ⟨rfl, K219, P220, LN221⟩ := q224
          have f225 := f214.keep K219 (allS ge_b84 (allS gr all0))
          have f226 := f215.keep K219
          show G w _ h222 2 6 116 #[.val (.int p0), .val (.int p1), .val (.int p2), .val (.int p3), .val (.int p4), .val (.int n), .val (.int (2 : Int32)), .val (.int (1 : Int32)), .val (.int (1 : Int32)), .val (.int f2), .val (.ref b84), .unset] []
          refine g_iload C (pc' := 118) at_116 rfl rfl ?_
          refine g_iconst C (pc' := 119) (v := (2 : Int32)) at_118 (by decide) rfl ?_
          refine g_icY C (pc' := 137) at_119 rfl (by decide) (by decide) rfl ?_
          refine g_iload C (pc' := 139) at_137 rfl rfl ?_
          refine g_ifN C (pc' := 142) at_139 rfl (by decide) rfl ?_
          refine g_iload C (pc' := 144) at_142 rfl rfl ?_
          refine g_ifN C (pc' := 147) at_144 rfl (by decide) rfl ?_
          refine g_iload C (pc' := 149) at_147 rfl rfl ?_
          refine g_iconst C (pc' := 150) (v := (1 : Int32)) at_149 (by decide) rfl ?_
          refine g_icN C (pc' := 153) at_150 rfl (by decide) rfl ?_
          refine g_iload C (pc' := 155) at_153 rfl rfl ?_
          refine g_ifN C (pc' := 158) at_155 rfl (by decide) rfl ?_
          refine g_iload C (pc' := 160) at_158 rfl rfl ?_
          refine g_iconst C (pc' := 161) (v := (2 : Int32)) at_160 (by decide) rfl ?_
          refine g_icY C (pc' := 173) at_161 rfl (by decide) (by decide) rfl ?_
          refine g_iconst C (pc' := 174) (v := (0 : Int32)) at_173 (by decide) rfl ?_
          refine g_istore C (pc' := 176) (Ls' := #[.val (.int p0), .val (.int p1), .val (.int p2), .val (.int p3), .val (.int p4), .val (.int n), .val (.int (2 : Int32)), .val (.int (1 : Int32)), .val (.int (1 : Int32)), .val (.int f2), .val (.ref b84), .val (.int (0 : Int32))]) at_174 rfl rfl rfl ?_
          refine g_aload C (pc' := 178) at_176 rfl rfl rfl ?_
          refine g_virtual C (pc' := 181) (k' := 2) (n' := 6) (argsL := []) (rest := []) (wd hw 18 rfl) (wd hw 19 rfl) (nfSel (wd hw 21 rfl)) (wd hw 21 rfl) (wd hw 20 rfl) (wd hw 2 rfl) (wd hw 22 rfl) (by decide) at_178 pd_2 rfl rfl rfl f226 (vroom_1 l Z a0 hw n0 h222 f225 s_ZERO H b84 (.ref r) (.ref s_ZERO) (-1 : Int32) (by decide) P220) (Nat.le_of_ble_eq_true rfl) (Nat.le_of_ble_eq_true rfl) (Nat.le_of_ble_eq_true rfl) (Nat.le_of_ble_eq_true rfl) rfl rfl rfl (fun v228 h227 q229 => ?_)
          obtain ⟨rfl, eh227⟩ := q229
          subst h227
          show G w _ h222 2 6 181 #[.val (.int p0), .val (.int p1), .val (.int p2), .val (.int p3), .val (.int p4), .val (.int n), .val (.int (2 : Int32)), .val (.int (1 : Int32)), .val (.int (1 : Int32)), .val (.int f2), .val (.ref b84), .val (.int (0 : Int32))] [(.int (1 : Int32))]
          refine g_iload C (pc' := 183) at_181 rfl rfl ?_
          refine g_ifN C (pc' := 186) at_183 rfl (by decide) rfl ?_
          refine g_iconst C (pc' := 187) (v := (1 : Int32)) at_186 (by decide) rfl ?_
          refine g_goto C (pc' := 191) at_187 (by decide) rfl ?_
          refine g_icN C (pc' := 194) at_191 rfl (by decide) rfl ?_
          refine g_iconst C (pc' := 195) (v := (1 : Int32)) at_194 (by decide) rfl ?_
          refine g_goto C (pc' := 199) at_195 (by decide) rfl ?_
          exact g_zreturn C at_199 rfl rfl (Nat.le_of_ble_eq_true rfl) (Nat.le_of_ble_eq_true rfl) (rfl)
    · rcases hf0 with rfl | rfl
      · rcases hf1 with rfl | rfl
        · rcases hf2 with rfl | rfl
          · refine g_iload C (pc' := 79) at_77 rfl rfl ?_
            refine g_ifN C (pc' := 82) at_79 rfl (by decide) rfl ?_
            refine g_aload C (pc' := 84) at_82 rfl rfl rfl ?_
            refine g_iconst C (pc' := 85) (v := (0 : Int32)) at_84 (by decide) rfl ?_
            refine g_iload C (pc' := 87) at_85 rfl rfl ?_
            refine g_iloadN C (pc' := 88) at_87 rfl rfl ?_
            refine g_aload C (pc' := 90) at_88 rfl rfl rfl ?_
            refine g_virtual C (pc' := 93) (k' := 2) (n' := 6) (argsL := []) (rest := [(.int p2), (.int (0 : Int32)), (.int (0 : Int32)), (.ref b84)]) (wd hw 23 rfl) (wd hw 24 rfl) (nfSel (wd hw 26 rfl)) (wd hw 26 rfl) (wd hw 25 rfl) (wd hw 2 rfl) (wd hw 27 rfl) (by decide) at_90 pd_3 rfl rfl rfl f98 (retry l Z a0 hw n0 h94 f97 s_ZERO H b84 r (-1 : Int32) P92) (Nat.le_of_ble_eq_true rfl) (Nat.le_of_ble_eq_true rfl) (Nat.le_of_ble_eq_true rfl) (Nat.le_of_ble_eq_true rfl) rfl rfl rfl (fun v231 h230 q232 => ?_)
            obtain ⟨rfl, eh230⟩ := q232
            subst h230
            show G w _ h94 2 6 93 #[.val (.int p0), .val (.int p1), .val (.int p2), .val (.int p3), .val (.int p4), .val (.int n), .val (.int (3 : Int32)), .val (.int (0 : Int32)), .val (.int (0 : Int32)), .val (.int (0 : Int32)), .val (.ref b84), .unset] [(.ref s_ZERO), (.int p2), (.int (0 : Int32)), (.int (0 : Int32)), (.ref b84)]
            refine g_virtual C (pc' := 96) (k' := 2) (n' := 6) (argsL := [(.int (0 : Int32)), (.int (0 : Int32)), (.int p2), (.ref s_ZERO)]) (rest := []) (wd hw 28 rfl) (wd hw 29 rfl) (nfSel (wd hw 31 rfl)) (wd hw 31 rfl) (wd hw 30 rfl) (wd hw 2 rfl) (wd hw 32 rfl) (by decide) at_93 pd_4 rfl rfl rfl f98 (rec0n l Z a0 hw n0 h94 f97 s_ZERO H b84 r ge_b84 gr nar (-1 : Int32) (0 : Int32) p2 n (by decide) (by decide) (own_lt hm2 (by decide)) P92 LN93) (Nat.le_of_ble_eq_true rfl) (Nat.le_of_ble_eq_true rfl) (Nat.le_of_ble_eq_true rfl) (Nat.le_of_ble_eq_true rfl) rfl rfl rfl (fun v237 h236 q238 => ?_)
            obtain ⟨rfl, K233, P234, LN235⟩ := q238
            have f239 := f97.keep K233 (allS ge_b84 (allS gr all0))
            have f240 := f98.keep K233
            show G w _ h236 2 6 96 #[.val (.int p0), .val (.int p1), .val (.int p2), .val (.int p3), .val (.int p4), .val (.int n), .val (.int (3 : Int32)), .val (.int (0 : Int32)), .val (.int (0 : Int32)), .val (.int (0 : Int32)), .val (.ref b84), .unset] []
            refine g_iload C (pc' := 98) at_96 rfl rfl ?_
            refine g_iconst C (pc' := 99) (v := (1 : Int32)) at_98 (by decide) rfl ?_
            refine g_icN C (pc' := 102) at_99 rfl (by decide) rfl ?_
            refine g_aload C (pc' := 104) at_102 rfl rfl rfl ?_
            refine g_iconst C (pc' := 105) (v := (1 : Int32)) at_104 (by decide) rfl ?_
            refine g_iload C (pc' := 107) at_105 rfl rfl ?_
            refine g_iloadN C (pc' := 108) at_107 rfl rfl ?_
            refine g_aload C (pc' := 110) at_108 rfl rfl rfl ?_
            refine g_virtual C (pc' := 113) (k' := 2) (n' := 6) (argsL := []) (rest := [(.int p3), (.int (0 : Int32)), (.int (1 : Int32)), (.ref b84)]) (wd hw 23 rfl) (wd hw 24 rfl) (nfSel (wd hw 26 rfl)) (wd hw 26 rfl) (wd hw 25 rfl) (wd hw 2 rfl) (wd hw 27 rfl) (by decide) at_110 pd_3 rfl rfl rfl f240 (retry l Z a0 hw n0 h236 f239 s_ZERO H b84 r (0 : Int32) P234) (Nat.le_of_ble_eq_true rfl) (Nat.le_of_ble_eq_true rfl) (Nat.le_of_ble_eq_true rfl) (Nat.le_of_ble_eq_true rfl) rfl rfl rfl (fun v242 h241 q243 => ?_)
            obtain ⟨rfl, eh241⟩ := q243
            subst h241
            show G w _ h236 2 6 113 #[.val (.int p0), .val (.int p1), .val (.int p2), .val (.int p3), .val (.int p4), .val (.int n), .val (.int (3 : Int32)), .val (.int (0 : Int32)), .val (.int (0 : Int32)), .val (.int (0 : Int32)), .val (.ref b84), .unset] [(.ref s_ZERO), (.int p3), (.int (0 : Int32)), (.int (1 : Int32)), (.ref b84)]
            refine g_virtual C (pc' := 116) (k' := 2) (n' := 6) (argsL := [(.int (1 : Int32)), (.int (0 : Int32)), (.int p3), (.ref s_ZERO)]) (rest := []) (wd hw 28 rfl) (wd hw 29 rfl) (nfSel (wd hw 31 rfl)) (wd hw 31 rfl) (wd hw 30 rfl) (wd hw 2 rfl) (wd hw 32 rfl) (by decide) at_113 pd_4 rfl rfl rfl f240 (rec0p l Z a0 hw n0 h236 f239 s_ZERO H b84 r ge_b84 gr nar (0 : Int32) (1 : Int32) p3 n (by decide) (by decide) (own_lt hm2 (by decide)) P234 LN235) (Nat.le_of_ble_eq_true rfl) (Nat.le_of_ble_eq_true rfl) (Nat.le_of_ble_eq_true rfl) (Nat.le_of_ble_eq_true rfl) rfl rfl rfl (fun v248 h247 q249 => ?_)
            obtain ⟨rfl, K244, P245, LN246⟩ := q249
            have f250 := f239.keep K244 (allS ge_b84 (allS gr all0))
            have f251 := f240.keep K244
            show G w _ h247 2 6 116 #[.val (.int p0), .val (.int p1), .val (.int p2), .val (.int p3), .val (.int p4), .val (.int n), .val (.int (3 : Int32)), .val (.int (0 : Int32)), .val (.int (0 : Int32)), .val (.int (0 : Int32)), .val (.ref b84), .unset] []
            refine g_iload C (pc' := 118) at_116 rfl rfl ?_
            refine g_iconst C (pc' := 119) (v := (2 : Int32)) at_118 (by decide) rfl ?_
            refine g_icN C (pc' := 122) at_119 rfl (by decide) rfl ?_
            refine g_aload C (pc' := 124) at_122 rfl rfl rfl ?_
            refine g_iconst C (pc' := 125) (v := (2 : Int32)) at_124 (by decide) rfl ?_
            refine g_iload C (pc' := 127) at_125 rfl rfl ?_
            refine g_iload C (pc' := 129) at_127 rfl rfl ?_
            refine g_aload C (pc' := 131) at_129 rfl rfl rfl ?_
            refine g_virtual C (pc' := 134) (k' := 2) (n' := 6) (argsL := []) (rest := [(.int p4), (.int (0 : Int32)), (.int (2 : Int32)), (.ref b84)]) (wd hw 23 rfl) (wd hw 24 rfl) (nfSel (wd hw 26 rfl)) (wd hw 26 rfl) (wd hw 25 rfl) (wd hw 2 rfl) (wd hw 27 rfl) (by decide) at_131 pd_3 rfl rfl rfl f251 (retry l Z a0 hw n0 h247 f250 s_ZERO H b84 r (0 : Int32) P245) (Nat.le_of_ble_eq_true rfl) (Nat.le_of_ble_eq_true rfl) (Nat.le_of_ble_eq_true rfl) (Nat.le_of_ble_eq_true rfl) rfl rfl rfl (fun v253 h252 q254 => ?_)
            obtain ⟨rfl, eh252⟩ := q254
            subst h252
            show G w _ h247 2 6 134 #[.val (.int p0), .val (.int p1), .val (.int p2), .val (.int p3), .val (.int p4), .val (.int n), .val (.int (3 : Int32)), .val (.int (0 : Int32)), .val (.int (0 : Int32)), .val (.int (0 : Int32)), .val (.ref b84), .unset] [(.ref s_ZERO), (.int p4), (.int (0 : Int32)), (.int (2 : Int32)), (.ref b84)]
            refine g_virtual C (pc' := 137) (k' := 2) (n' := 6) (argsL := [(.int (2 : Int32)), (.int (0 : Int32)), (.int p4), (.ref s_ZERO)]) (rest := []) (wd hw 28 rfl) (wd hw 29 rfl) (nfSel (wd hw 31 rfl)) (wd hw 31 rfl) (wd hw 30 rfl) (wd hw 2 rfl) (wd hw 32 rfl) (by decide) at_134 pd_4 rfl rfl rfl f251 (rec0p l Z a0 hw n0 h247 f250 s_ZERO H b84 r ge_b84 gr nar (0 : Int32) (2 : Int32) p4 n (by decide) (by decide) (own_lt hm2 (by decide)) P245 LN246) (Nat.le_of_ble_eq_true rfl) (Nat.le_of_ble_eq_true rfl) (Nat.le_of_ble_eq_true rfl) (Nat.le_of_ble_eq_true rfl) rfl rfl rfl (fun v259 h258 q260 => ?_)
            obtain ⟨rfl, K255, P256, LN257⟩ := q260
            have f261 := f250.keep K255 (allS ge_b84 (allS gr all0))
            have f262 := f251.keep K255
            show G w _ h258 2 6 137 #[.val (.int p0), .val (.int p1), .val (.int p2), .val (.int p3), .val (.int p4), .val (.int n), .val (.int (3 : Int32)), .val (.int (0 : Int32)), .val (.int (0 : Int32)), .val (.int (0 : Int32)), .val (.ref b84), .unset] []
            refine g_iload C (pc' := 139) at_137 rfl rfl ?_
            refine g_ifN C (pc' := 142) at_139 rfl (by decide) rfl ?_
            refine g_iload C (pc' := 144) at_142 rfl rfl ?_
            refine g_ifY C (pc' := 169) at_144 rfl (by decide) (by decide) rfl ?_
            refine g_iconst C (pc' := 170) (v := (1 : Int32)) at_169 (by decide) rfl ?_
            refine g_goto C (pc' := 174) at_170 (by decide) rfl ?_
            refine g_istore C (pc' := 176) (Ls' := #[.val (.int p0), .val (.int p1), .val (.int p2), .val (.int p3), .val (.int p4), .val (.int n), .val (.int (3 : Int32)), .val (.int (0 : Int32)), .val (.int (0 : Int32)), .val (.int (0 : Int32)), .val (.ref b84), .val (.int (1 : Int32))]) at_174 rfl rfl rfl ?_
            refine g_aload C (pc' := 178) at_176 rfl rfl rfl ?_
            refine g_virtual C (pc' := 181) (k' := 2) (n' := 6) (argsL := []) (rest := []) (wd hw 18 rfl) (wd hw 19 rfl) (nfSel (wd hw 21 rfl)) (wd hw 21 rfl) (wd hw 20 rfl) (wd hw 2 rfl) (wd hw 22 rfl) (by decide) at_178 pd_2 rfl rfl rfl f262 (vroom_0 l Z a0 hw n0 h258 f261 s_ZERO H b84 (.ref r) (.ref s_ZERO) (0 : Int32) (by decide) P256) (Nat.le_of_ble_eq_true rfl) (Nat.le_of_ble_eq_true rfl) (Nat.le_of_ble_eq_true rfl) (Nat.le_of_ble_eq_true rfl) rfl rfl rfl (fun v264 h263 q265 => ?_)
            obtain ⟨rfl, eh263⟩ := q265
            subst h263
            show G w _ h258 2 6 181 #[.val (.int p0), .val (.int p1), .val (.int p2), .val (.int p3), .val (.int p4), .val (.int n), .val (.int (3 : Int32)), .val (.int (0 : Int32)), .val (.int (0 : Int32)), .val (.int (0 : Int32)), .val (.ref b84), .val (.int (1 : Int32))] [(.int (0 : Int32))]
            refine g_iload C (pc' := 183) at_181 rfl rfl ?_
            refine g_ifY C (pc' := 190) at_183 rfl (by decide) (by decide) rfl ?_
            refine g_iconst C (pc' := 191) (v := (0 : Int32)) at_190 (by decide) rfl ?_
            refine g_icN C (pc' := 194) at_191 rfl (by decide) rfl ?_
            refine g_iconst C (pc' := 195) (v := (1 : Int32)) at_194 (by decide) rfl ?_
            refine g_goto C (pc' := 199) at_195 (by decide) rfl ?_
            exact g_zreturn C at_199 rfl rfl (Nat.le_of_ble_eq_true rfl) (Nat.le_of_ble_eq_true rfl) (rfl)
          · refine g_iload C (pc' := 79) at_77 rfl rfl ?_
            refine g_ifN C (pc' := 82) at_79 rfl (by decide) rfl ?_
            refine g_aload C (pc' := 84) at_82 rfl rfl rfl ?_
            refine g_iconst C (pc' := 85) (v := (0 : Int32)) at_84 (by decide) rfl ?_
            refine g_iload C (pc' := 87) at_85 rfl rfl ?_
            refine g_iloadN C (pc' := 88) at_87 rfl rfl ?_
            refine g_aload C (pc' := 90) at_88 rfl rfl rfl ?_
            refine g_virtual C (pc' := 93) (k' := 2) (n' := 6) (argsL := []) (rest := [(.int p2), (.int (0 : Int32)), (.int (0 : Int32)), (.ref b84)]) (wd hw 23 rfl) (wd hw 24 rfl) (nfSel (wd hw 26 rfl)) (wd hw 26 rfl) (wd hw 25 rfl) (wd hw 2 rfl) (wd hw 27 rfl) (by decide) at_90 pd_3 rfl rfl rfl f98 (retry l Z a0 hw n0 h94 f97 s_ZERO H b84 r (-1 : Int32) P92) (Nat.le_of_ble_eq_true rfl) (Nat.le_of_ble_eq_true rfl) (Nat.le_of_ble_eq_true rfl) (Nat.le_of_ble_eq_true rfl) rfl rfl rfl (fun v267 h266 q268 => ?_)
            obtain ⟨rfl, eh266⟩ := q268
            subst h266
            show G w _ h94 2 6 93 #[.val (.int p0), .val (.int p1), .val (.int p2), .val (.int p3), .val (.int p4), .val (.int n), .val (.int (3 : Int32)), .val (.int (0 : Int32)), .val (.int (0 : Int32)), .val (.int (1 : Int32)), .val (.ref b84), .unset] [(.ref s_ZERO), (.int p2), (.int (0 : Int32)), (.int (0 : Int32)), (.ref b84)]
            refine g_virtual C (pc' := 96) (k' := 2) (n' := 6) (argsL := [(.int (0 : Int32)), (.int (0 : Int32)), (.int p2), (.ref s_ZERO)]) (rest := []) (wd hw 28 rfl) (wd hw 29 rfl) (nfSel (wd hw 31 rfl)) (wd hw 31 rfl) (wd hw 30 rfl) (wd hw 2 rfl) (wd hw 32 rfl) (by decide) at_93 pd_4 rfl rfl rfl f98 (rec0n l Z a0 hw n0 h94 f97 s_ZERO H b84 r ge_b84 gr nar (-1 : Int32) (0 : Int32) p2 n (by decide) (by decide) (own_lt hm2 (by decide)) P92 LN93) (Nat.le_of_ble_eq_true rfl) (Nat.le_of_ble_eq_true rfl) (Nat.le_of_ble_eq_true rfl) (Nat.le_of_ble_eq_true rfl) rfl rfl rfl (fun v273 h272 q274 => ?_)
            obtain ⟨rfl, K269, P270, LN271⟩ := q274
            have f275 := f97.keep K269 (allS ge_b84 (allS gr all0))
            have f276 := f98.keep K269
            show G w _ h272 2 6 96 #[.val (.int p0), .val (.int p1), .val (.int p2), .val (.int p3), .val (.int p4), .val (.int n), .val (.int (3 : Int32)), .val (.int (0 : Int32)), .val (.int (0 : Int32)), .val (.int (1 : Int32)), .val (.ref b84), .unset] []
            refine g_iload C (pc' := 98) at_96 rfl rfl ?_
            refine g_iconst C (pc' := 99) (v := (1 : Int32)) at_98 (by decide) rfl ?_
            refine g_icN C (pc' := 102) at_99 rfl (by decide) rfl ?_
            refine g_aload C (pc' := 104) at_102 rfl rfl rfl ?_
            refine g_iconst C (pc' := 105) (v := (1 : Int32)) at_104 (by decide) rfl ?_
            refine g_iload C (pc' := 107) at_105 rfl rfl ?_
            refine g_iloadN C (pc' := 108) at_107 rfl rfl ?_
            refine g_aload C (pc' := 110) at_108 rfl rfl rfl ?_
            refine g_virtual C (pc' := 113) (k' := 2) (n' := 6) (argsL := []) (rest := [(.int p3), (.int (0 : Int32)), (.int (1 : Int32)), (.ref b84)]) (wd hw 23 rfl) (wd hw 24 rfl) (nfSel (wd hw 26 rfl)) (wd hw 26 rfl) (wd hw 25 rfl) (wd hw 2 rfl) (wd hw 27 rfl) (by decide) at_110 pd_3 rfl rfl rfl f276 (retry l Z a0 hw n0 h272 f275 s_ZERO H b84 r (0 : Int32) P270) (Nat.le_of_ble_eq_true rfl) (Nat.le_of_ble_eq_true rfl) (Nat.le_of_ble_eq_true rfl) (Nat.le_of_ble_eq_true rfl) rfl rfl rfl (fun v278 h277 q279 => ?_)
            obtain ⟨rfl, eh277⟩ := q279
            subst h277
            show G w _ h272 2 6 113 #[.val (.int p0), .val (.int p1), .val (.int p2), .val (.int p3), .val (.int p4), .val (.int n), .val (.int (3 : Int32)), .val (.int (0 : Int32)), .val (.int (0 : Int32)), .val (.int (1 : Int32)), .val (.ref b84), .unset] [(.ref s_ZERO), (.int p3), (.int (0 : Int32)), (.int (1 : Int32)), (.ref b84)]
            refine g_virtual C (pc' := 116) (k' := 2) (n' := 6) (argsL := [(.int (1 : Int32)), (.int (0 : Int32)), (.int p3), (.ref s_ZERO)]) (rest := []) (wd hw 28 rfl) (wd hw 29 rfl) (nfSel (wd hw 31 rfl)) (wd hw 31 rfl) (wd hw 30 rfl) (wd hw 2 rfl) (wd hw 32 rfl) (by decide) at_113 pd_4 rfl rfl rfl f276 (rec0p l Z a0 hw n0 h272 f275 s_ZERO H b84 r ge_b84 gr nar (0 : Int32) (1 : Int32) p3 n (by decide) (by decide) (own_lt hm2 (by decide)) P270 LN271) (Nat.le_of_ble_eq_true rfl) (Nat.le_of_ble_eq_true rfl) (Nat.le_of_ble_eq_true rfl) (Nat.le_of_ble_eq_true rfl) rfl rfl rfl (fun v284 h283 q285 => ?_)
            obtain ⟨rfl, K280, P281, LN282⟩ := q285
            have f286 := f275.keep K280 (allS ge_b84 (allS gr all0))
            have f287 := f276.keep K280
            show G w _ h283 2 6 116 #[.val (.int p0), .val (.int p1), .val (.int p2), .val (.int p3), .val (.int p4), .val (.int n), .val (.int (3 : Int32)), .val (.int (0 : Int32)), .val (.int (0 : Int32)), .val (.int (1 : Int32)), .val (.ref b84), .unset] []
            refine g_iload C (pc' := 118) at_116 rfl rfl ?_
            refine g_iconst C (pc' := 119) (v := (2 : Int32)) at_118 (by decide) rfl ?_
            refine g_icN C (pc' := 122) at_119 rfl (by decide) rfl ?_
            refine g_aload C (pc' := 124) at_122 rfl rfl rfl ?_
            refine g_iconst C (pc' := 125) (v := (2 : Int32)) at_124 (by decide) rfl ?_
            refine g_iload C (pc' := 127) at_125 rfl rfl ?_
            refine g_iload C (pc' := 129) at_127 rfl rfl ?_
            refine g_aload C (pc' := 131) at_129 rfl rfl rfl ?_
            refine g_virtual C (pc' := 134) (k' := 2) (n' := 6) (argsL := []) (rest := [(.int p4), (.int (1 : Int32)), (.int (2 : Int32)), (.ref b84)]) (wd hw 23 rfl) (wd hw 24 rfl) (nfSel (wd hw 26 rfl)) (wd hw 26 rfl) (wd hw 25 rfl) (wd hw 2 rfl) (wd hw 27 rfl) (by decide) at_131 pd_3 rfl rfl rfl f287 (retry l Z a0 hw n0 h283 f286 s_ZERO H b84 r (0 : Int32) P281) (Nat.le_of_ble_eq_true rfl) (Nat.le_of_ble_eq_true rfl) (Nat.le_of_ble_eq_true rfl) (Nat.le_of_ble_eq_true rfl) rfl rfl rfl (fun v289 h288 q290 => ?_)
            obtain ⟨rfl, eh288⟩ := q290
            subst h288
            show G w _ h283 2 6 134 #[.val (.int p0), .val (.int p1), .val (.int p2), .val (.int p3), .val (.int p4), .val (.int n), .val (.int (3 : Int32)), .val (.int (0 : Int32)), .val (.int (0 : Int32)), .val (.int (1 : Int32)), .val (.ref b84), .unset] [(.ref s_ZERO), (.int p4), (.int (1 : Int32)), (.int (2 : Int32)), (.ref b84)]
            refine g_virtual C (pc' := 137) (k' := 2) (n' := 6) (argsL := [(.int (2 : Int32)), (.int (1 : Int32)), (.int p4), (.ref s_ZERO)]) (rest := []) (wd hw 28 rfl) (wd hw 29 rfl) (nfSel (wd hw 31 rfl)) (wd hw 31 rfl) (wd hw 30 rfl) (wd hw 2 rfl) (wd hw 32 rfl) (by decide) at_134 pd_4 rfl rfl rfl f287 (rec1 l Z a0 hw n0 h283 f286 s_ZERO H b84 r ge_b84 gr nar (0 : Int32) (2 : Int32) p4 n (by decide) (own_lt hm2 (by decide)) P281 LN282) (Nat.le_of_ble_eq_true rfl) (Nat.le_of_ble_eq_true rfl) (Nat.le_of_ble_eq_true rfl) (Nat.le_of_ble_eq_true rfl) rfl rfl rfl (fun v295 h294 q296 => ?_)
            obtain ⟨rfl, K291, P292, LN293⟩ := q296
            have f297 := f286.keep K291 (allS ge_b84 (allS gr all0))
            have f298 := f287.keep K291
            show G w _ h294 2 6 137 #[.val (.int p0), .val (.int p1), .val (.int p2), .val (.int p3), .val (.int p4), .val (.int n), .val (.int (3 : Int32)), .val (.int (0 : Int32)), .val (.int (0 : Int32)), .val (.int (1 : Int32)), .val (.ref b84), .unset] []
            refine g_iload C (pc' := 139) at_137 rfl rfl ?_
            refine g_ifN C (pc' := 142) at_139 rfl (by decide) rfl ?_
            refine g_iload C (pc' := 144) at_142 rfl rfl ?_
            refine g_ifY C (pc' := 169) at_144 rfl (by decide) (by decide) rfl ?_
            refine g_iconst C (pc' := 170) (v := (1 : Int32)) at_169 (by decide) rfl ?_
            refine g_goto C (pc' := 174) at_170 (by decide) rfl ?_
            refine g_istore C (pc' := 176) (Ls' := #[.val (.int p0), .val (.int p1), .val (.int p2), .val (.int p3), .val (.int p4), .val (.int n), .val (.int (3 : Int32)), .val (.int (0 : Int32)), .val (.int (0 : Int32)), .val (.int (1 : Int32)), .val (.ref b84), .val (.int (1 : Int32))]) at_174 rfl rfl rfl ?_
            refine g_aload C (pc' := 178) at_176 rfl rfl rfl ?_
            refine g_virtual C (pc' := 181) (k' := 2) (n' := 6) (argsL := []) (rest := []) (wd hw 18 rfl) (wd hw 19 rfl) (nfSel (wd hw 21 rfl)) (wd hw 21 rfl) (wd hw 20 rfl) (wd hw 2 rfl) (wd hw 22 rfl) (by decide) at_178 pd_2 rfl rfl rfl f298 (vroom_0 l Z a0 hw n0 h294 f297 s_ZERO H b84 (.ref r) (.ref s_ZERO) (0 : Int32) (by decide) P292) (Nat.le_of_ble_eq_true rfl) (Nat.le_of_ble_eq_true rfl) (Nat.le_of_ble_eq_true rfl) (Nat.le_of_ble_eq_true rfl) rfl rfl rfl (fun v300 h299 q301 => ?_)
            obtain ⟨rfl, eh299⟩ := q301
            subst h299
            show G w _ h294 2 6 181 #[.val (.int p0), .val (.int p1), .val (.int p2), .val (.int p3), .val (.int p4), .val (.int n), .val (.int (3 : Int32)), .val (.int (0 : Int32)), .val (.int (0 : Int32)), .val (.int (1 : Int32)), .val (.ref b84), .val (.int (1 : Int32))] [(.int (0 : Int32))]
            refine g_iload C (pc' := 183) at_181 rfl rfl ?_
            refine g_ifY C (pc' := 190) at_183 rfl (by decide) (by decide) rfl ?_
            refine g_iconst C (pc' := 191) (v := (0 : Int32)) at_190 (by decide) rfl ?_
            refine g_icN C (pc' := 194) at_191 rfl (by decide) rfl ?_
            refine g_iconst C (pc' := 195) (v := (1 : Int32)) at_194 (by decide) rfl ?_
            refine g_goto C (pc' := 199) at_195 (by decide) rfl ?_
            exact g_zreturn C at_199 rfl rfl (Nat.le_of_ble_eq_true rfl) (Nat.le_of_ble_eq_true rfl) (rfl)
        · rcases hf2 with rfl | rfl
          · refine g_iload C (pc' := 79) at_77 rfl rfl ?_
            refine g_ifN C (pc' := 82) at_79 rfl (by decide) rfl ?_
            refine g_aload C (pc' := 84) at_82 rfl rfl rfl ?_
            refine g_iconst C (pc' := 85) (v := (0 : Int32)) at_84 (by decide) rfl ?_
            refine g_iload C (pc' := 87) at_85 rfl rfl ?_
            refine g_iloadN C (pc' := 88) at_87 rfl rfl ?_
            refine g_aload C (pc' := 90) at_88 rfl rfl rfl ?_
            refine g_virtual C (pc' := 93) (k' := 2) (n' := 6) (argsL := []) (rest := [(.int p2), (.int (0 : Int32)), (.int (0 : Int32)), (.ref b84)]) (wd hw 23 rfl) (wd hw 24 rfl) (nfSel (wd hw 26 rfl)) (wd hw 26 rfl) (wd hw 25 rfl) (wd hw 2 rfl) (wd hw 27 rfl) (by decide) at_90 pd_3 rfl rfl rfl f98 (retry l Z a0 hw n0 h94 f97 s_ZERO H b84 r (-1 : Int32) P92) (Nat.le_of_ble_eq_true rfl) (Nat.le_of_ble_eq_true rfl) (Nat.le_of_ble_eq_true rfl) (Nat.le_of_ble_eq_true rfl) rfl rfl rfl (fun v303 h302 q304 => ?_)
            obtain ⟨rfl, eh302⟩ := q304
            subst h302
            show G w _ h94 2 6 93 #[.val (.int p0), .val (.int p1), .val (.int p2), .val (.int p3), .val (.int p4), .val (.int n), .val (.int (3 : Int32)), .val (.int (0 : Int32)), .val (.int (1 : Int32)), .val (.int (0 : Int32)), .val (.ref b84), .unset] [(.ref s_ZERO), (.int p2), (.int (0 : Int32)), (.int (0 : Int32)), (.ref b84)]
            refine g_virtual C (pc' := 96) (k' := 2) (n' := 6) (argsL := [(.int (0 : Int32)), (.int (0 : Int32)), (.int p2), (.ref s_ZERO)]) (rest := []) (wd hw 28 rfl) (wd hw 29 rfl) (nfSel (wd hw 31 rfl)) (wd hw 31 rfl) (wd hw 30 rfl) (wd hw 2 rfl) (wd hw 32 rfl) (by decide) at_93 pd_4 rfl rfl rfl f98 (rec0n l Z a0 hw n0 h94 f97 s_ZERO H b84 r ge_b84 gr nar (-1 : Int32) (0 : Int32) p2 n (by decide) (by decide) (own_lt hm2 (by decide)) P92 LN93) (Nat.le_of_ble_eq_true rfl) (Nat.le_of_ble_eq_true rfl) (Nat.le_of_ble_eq_true rfl) (Nat.le_of_ble_eq_true rfl) rfl rfl rfl (fun v309 h308 q310 => ?_)
            obtain ⟨rfl, K305, P306, LN307⟩ := q310
            have f311 := f97.keep K305 (allS ge_b84 (allS gr all0))
            have f312 := f98.keep K305
            show G w _ h308 2 6 96 #[.val (.int p0), .val (.int p1), .val (.int p2), .val (.int p3), .val (.int p4), .val (.int n), .val (.int (3 : Int32)), .val (.int (0 : Int32)), .val (.int (1 : Int32)), .val (.int (0 : Int32)), .val (.ref b84), .unset] []
            refine g_iload C (pc' := 98) at_96 rfl rfl ?_
            refine g_iconst C (pc' := 99) (v := (1 : Int32)) at_98 (by decide) rfl ?_
            refine g_icN C (pc' := 102) at_99 rfl (by decide) rfl ?_
            refine g_aload C (pc' := 104) at_102 rfl rfl rfl ?_
            refine g_iconst C (pc' := 105) (v := (1 : Int32)) at_104 (by decide) rfl ?_
            refine g_iload C (pc' := 107) at_105 rfl rfl ?_
            refine g_iloadN C (pc' := 108) at_107 rfl rfl ?_
            refine g_aload C (pc' := 110) at_108 rfl rfl rfl ?_
            refine g_virtual C (pc' := 113) (k' := 2) (n' := 6) (argsL := []) (rest := [(.int p3), (.int (1 : Int32)), (.int (1 : Int32)), (.ref b84)]) (wd hw 23 rfl) (wd hw 24 rfl) (nfSel (wd hw 26 rfl)) (wd hw 26 rfl) (wd hw 25 rfl) (wd hw 2 rfl) (wd hw 27 rfl) (by decide) at_110 pd_3 rfl rfl rfl f312 (retry l Z a0 hw n0 h308 f311 s_ZERO H b84 r (0 : Int32) P306) (Nat.le_of_ble_eq_true rfl) (Nat.le_of_ble_eq_true rfl) (Nat.le_of_ble_eq_true rfl) (Nat.le_of_ble_eq_true rfl) rfl rfl rfl (fun v314 h313 q315 => ?_)
            obtain ⟨rfl, eh313⟩ := q315
            subst h313
            show G w _ h308 2 6 113 #[.val (.int p0), .val (.int p1), .val (.int p2), .val (.int p3), .val (.int p4), .val (.int n), .val (.int (3 : Int32)), .val (.int (0 : Int32)), .val (.int (1 : Int32)), .val (.int (0 : Int32)), .val (.ref b84), .unset] [(.ref s_ZERO), (.int p3), (.int (1 : Int32)), (.int (1 : Int32)), (.ref b84)]
            refine g_virtual C (pc' := 116) (k' := 2) (n' := 6) (argsL := [(.int (1 : Int32)), (.int (1 : Int32)), (.int p3), (.ref s_ZERO)]) (rest := []) (wd hw 28 rfl) (wd hw 29 rfl) (nfSel (wd hw 31 rfl)) (wd hw 31 rfl) (wd hw 30 rfl) (wd hw 2 rfl) (wd hw 32 rfl) (by decide) at_113 pd_4 rfl rfl rfl f312 (rec1 l Z a0 hw n0 h308 f311 s_ZERO H b84 r ge_b84 gr nar (0 : Int32) (1 : Int32) p3 n (by decide) (own_lt hm2 (by decide)) P306 LN307) (Nat.le_of_ble_eq_true rfl) (Nat.le_of_ble_eq_true rfl) (Nat.le_of_ble_eq_true rfl) (Nat.le_of_ble_eq_true rfl) rfl rfl rfl (fun v320 h319 q321 => ?_)
            obtain ⟨rfl, K316, P317, LN318⟩ := q321
            have f322 := f311.keep K316 (allS ge_b84 (allS gr all0))
            have f323 := f312.keep K316
            show G w _ h319 2 6 116 #[.val (.int p0), .val (.int p1), .val (.int p2), .val (.int p3), .val (.int p4), .val (.int n), .val (.int (3 : Int32)), .val (.int (0 : Int32)), .val (.int (1 : Int32)), .val (.int (0 : Int32)), .val (.ref b84), .unset] []
            refine g_iload C (pc' := 118) at_116 rfl rfl ?_
            refine g_iconst C (pc' := 119) (v := (2 : Int32)) at_118 (by decide) rfl ?_
            refine g_icN C (pc' := 122) at_119 rfl (by decide) rfl ?_
            refine g_aload C (pc' := 124) at_122 rfl rfl rfl ?_
            refine g_iconst C (pc' := 125) (v := (2 : Int32)) at_124 (by decide) rfl ?_
            refine g_iload C (pc' := 127) at_125 rfl rfl ?_
            refine g_iload C (pc' := 129) at_127 rfl rfl ?_
            refine g_aload C (pc' := 131) at_129 rfl rfl rfl ?_
            refine g_virtual C (pc' := 134) (k' := 2) (n' := 6) (argsL := []) (rest := [(.int p4), (.int (0 : Int32)), (.int (2 : Int32)), (.ref b84)]) (wd hw 23 rfl) (wd hw 24 rfl) (nfSel (wd hw 26 rfl)) (wd hw 26 rfl) (wd hw 25 rfl) (wd hw 2 rfl) (wd hw 27 rfl) (by decide) at_131 pd_3 rfl rfl rfl f323 (retry l Z a0 hw n0 h319 f322 s_ZERO H b84 r (0 : Int32) P317) (Nat.le_of_ble_eq_true rfl) (Nat.le_of_ble_eq_true rfl) (Nat.le_of_ble_eq_true rfl) (Nat.le_of_ble_eq_true rfl) rfl rfl rfl (fun v325 h324 q326 => ?_)
            obtain ⟨rfl, eh324⟩ := q326
            subst h324
            show G w _ h319 2 6 134 #[.val (.int p0), .val (.int p1), .val (.int p2), .val (.int p3), .val (.int p4), .val (.int n), .val (.int (3 : Int32)), .val (.int (0 : Int32)), .val (.int (1 : Int32)), .val (.int (0 : Int32)), .val (.ref b84), .unset] [(.ref s_ZERO), (.int p4), (.int (0 : Int32)), (.int (2 : Int32)), (.ref b84)]
            refine g_virtual C (pc' := 137) (k' := 2) (n' := 6) (argsL := [(.int (2 : Int32)), (.int (0 : Int32)), (.int p4), (.ref s_ZERO)]) (rest := []) (wd hw 28 rfl) (wd hw 29 rfl) (nfSel (wd hw 31 rfl)) (wd hw 31 rfl) (wd hw 30 rfl) (wd hw 2 rfl) (wd hw 32 rfl) (by decide) at_134 pd_4 rfl rfl rfl f323 (rec0p l Z a0 hw n0 h319 f322 s_ZERO H b84 r ge_b84 gr nar (0 : Int32) (2 : Int32) p4 n (by decide) (by decide) (own_lt hm2 (by decide)) P317 LN318) (Nat.le_of_ble_eq_true rfl) (Nat.le_of_ble_eq_true rfl) (Nat.le_of_ble_eq_true rfl) (Nat.le_of_ble_eq_true rfl) rfl rfl rfl (fun v331 h330 q332 => ?_)
            obtain ⟨rfl, K327, P328, LN329⟩ := q332
            have f333 := f322.keep K327 (allS ge_b84 (allS gr all0))
            have f334 := f323.keep K327
            show G w _ h330 2 6 137 #[.val (.int p0), .val (.int p1), .val (.int p2), .val (.int p3), .val (.int p4), .val (.int n), .val (.int (3 : Int32)), .val (.int (0 : Int32)), .val (.int (1 : Int32)), .val (.int (0 : Int32)), .val (.ref b84), .unset] []
            refine g_iload C (pc' := 139) at_137 rfl rfl ?_
            refine g_ifN C (pc' := 142) at_139 rfl (by decide) rfl ?_
            refine g_iload C (pc' := 144) at_142 rfl rfl ?_
            refine g_ifY C (pc' := 169) at_144 rfl (by decide) (by decide) rfl ?_
            refine g_iconst C (pc' := 170) (v := (1 : Int32)) at_169 (by decide) rfl ?_
            refine g_goto C (pc' := 174) at_170 (by decide) rfl ?_
            refine g_istore C (pc' := 176) (Ls' := #[.val (.int p0), .val (.int p1), .val (.int p2), .val (.int p3), .val (.int p4), .val (.int n), .val (.int (3 : Int32)), .val (.int (0 : Int32)), .val (.int (1 : Int32)), .val (.int (0 : Int32)), .val (.ref b84), .val (.int (1 : Int32))]) at_174 rfl rfl rfl ?_
            refine g_aload C (pc' := 178) at_176 rfl rfl rfl ?_
            refine g_virtual C (pc' := 181) (k' := 2) (n' := 6) (argsL := []) (rest := []) (wd hw 18 rfl) (wd hw 19 rfl) (nfSel (wd hw 21 rfl)) (wd hw 21 rfl) (wd hw 20 rfl) (wd hw 2 rfl) (wd hw 22 rfl) (by decide) at_178 pd_2 rfl rfl rfl f334 (vroom_0 l Z a0 hw n0 h330 f333 s_ZERO H b84 (.ref r) (.ref s_ZERO) (0 : Int32) (by decide) P328) (Nat.le_of_ble_eq_true rfl) (Nat.le_of_ble_eq_true rfl) (Nat.le_of_ble_eq_true rfl) (Nat.le_of_ble_eq_true rfl) rfl rfl rfl (fun v336 h335 q337 => ?_)
            obtain ⟨rfl, eh335⟩ := q337
            subst h335
            show G w _ h330 2 6 181 #[.val (.int p0), .val (.int p1), .val (.int p2), .val (.int p3), .val (.int p4), .val (.int n), .val (.int (3 : Int32)), .val (.int (0 : Int32)), .val (.int (1 : Int32)), .val (.int (0 : Int32)), .val (.ref b84), .val (.int (1 : Int32))] [(.int (0 : Int32))]
            refine g_iload C (pc' := 183) at_181 rfl rfl ?_
            refine g_ifY C (pc' := 190) at_183 rfl (by decide) (by decide) rfl ?_
            refine g_iconst C (pc' := 191) (v := (0 : Int32)) at_190 (by decide) rfl ?_
            refine g_icN C (pc' := 194) at_191 rfl (by decide) rfl ?_
            refine g_iconst C (pc' := 195) (v := (1 : Int32)) at_194 (by decide) rfl ?_
            refine g_goto C (pc' := 199) at_195 (by decide) rfl ?_
            exact g_zreturn C at_199 rfl rfl (Nat.le_of_ble_eq_true rfl) (Nat.le_of_ble_eq_true rfl) (rfl)
          · refine g_iload C (pc' := 79) at_77 rfl rfl ?_
            refine g_ifN C (pc' := 82) at_79 rfl (by decide) rfl ?_
            refine g_aload C (pc' := 84) at_82 rfl rfl rfl ?_
            refine g_iconst C (pc' := 85) (v := (0 : Int32)) at_84 (by decide) rfl ?_
            refine g_iload C (pc' := 87) at_85 rfl rfl ?_
            refine g_iloadN C (pc' := 88) at_87 rfl rfl ?_
            refine g_aload C (pc' := 90) at_88 rfl rfl rfl ?_
            refine g_virtual C (pc' := 93) (k' := 2) (n' := 6) (argsL := []) (rest := [(.int p2), (.int (0 : Int32)), (.int (0 : Int32)), (.ref b84)]) (wd hw 23 rfl) (wd hw 24 rfl) (nfSel (wd hw 26 rfl)) (wd hw 26 rfl) (wd hw 25 rfl) (wd hw 2 rfl) (wd hw 27 rfl) (by decide) at_90 pd_3 rfl rfl rfl f98 (retry l Z a0 hw n0 h94 f97 s_ZERO H b84 r (-1 : Int32) P92) (Nat.le_of_ble_eq_true rfl) (Nat.le_of_ble_eq_true rfl) (Nat.le_of_ble_eq_true rfl) (Nat.le_of_ble_eq_true rfl) rfl rfl rfl (fun v339 h338 q340 => ?_)
            obtain ⟨rfl, eh338⟩ := q340
            subst h338
            show G w _ h94 2 6 93 #[.val (.int p0), .val (.int p1), .val (.int p2), .val (.int p3), .val (.int p4), .val (.int n), .val (.int (3 : Int32)), .val (.int (0 : Int32)), .val (.int (1 : Int32)), .val (.int (1 : Int32)), .val (.ref b84), .unset] [(.ref s_ZERO), (.int p2), (.int (0 : Int32)), (.int (0 : Int32)), (.ref b84)]
            refine g_virtual C (pc' := 96) (k' := 2) (n' := 6) (argsL := [(.int (0 : Int32)), (.int (0 : Int32)), (.int p2), (.ref s_ZERO)]) (rest := []) (wd hw 28 rfl) (wd hw 29 rfl) (nfSel (wd hw 31 rfl)) (wd hw 31 rfl) (wd hw 30 rfl) (wd hw 2 rfl) (wd hw 32 rfl) (by decide) at_93 pd_4 rfl rfl rfl f98 (rec0n l Z a0 hw n0 h94 f97 s_ZERO H b84 r ge_b84 gr nar (-1 : Int32) (0 : Int32) p2 n (by decide) (by decide) (own_lt hm2 (by decide)) P92 LN93) (Nat.le_of_ble_eq_true rfl) (Nat.le_of_ble_eq_true rfl) (Nat.le_of_ble_eq_true rfl) (Nat.le_of_ble_eq_true rfl) rfl rfl rfl (fun v345 h344 q346 => ?_)
            obtain ⟨rfl, K341, P342, LN343⟩ := q346
            have f347 := f97.keep K341 (allS ge_b84 (allS gr all0))
            have f348 := f98.keep K341
            show G w _ h344 2 6 96 #[.val (.int p0), .val (.int p1), .val (.int p2), .val (.int p3), .val (.int p4), .val (.int n), .val (.int (3 : Int32)), .val (.int (0 : Int32)), .val (.int (1 : Int32)), .val (.int (1 : Int32)), .val (.ref b84), .unset] []
            refine g_iload C (pc' := 98) at_96 rfl rfl ?_
            refine g_iconst C (pc' := 99) (v := (1 : Int32)) at_98 (by decide) rfl ?_
            refine g_icN C (pc' := 102) at_99 rfl (by decide) rfl ?_
            refine g_aload C (pc' := 104) at_102 rfl rfl rfl ?_
            refine g_iconst C (pc' := 105) (v := (1 : Int32)) at_104 (by decide) rfl ?_
            refine g_iload C (pc' := 107) at_105 rfl rfl ?_
            refine g_iloadN C (pc' := 108) at_107 rfl rfl ?_
            refine g_aload C (pc' := 110) at_108 rfl rfl rfl ?_
            refine g_virtual C (pc' := 113) (k' := 2) (n' := 6) (argsL := []) (rest := [(.int p3), (.int (1 : Int32)), (.int (1 : Int32)), (.ref b84)]) (wd hw 23 rfl) (wd hw 24 rfl) (nfSel (wd hw 26 rfl)) (wd hw 26 rfl) (wd hw 25 rfl) (wd hw 2 rfl) (wd hw 27 rfl) (by decide) at_110 pd_3 rfl rfl rfl f348 (retry l Z a0 hw n0 h344 f347 s_ZERO H b84 r (0 : Int32) P342) (Nat.le_of_ble_eq_true rfl) (Nat.le_of_ble_eq_true rfl) (Nat.le_of_ble_eq_true rfl) (Nat.le_of_ble_eq_true rfl) rfl rfl rfl (fun v350 h349 q351 => ?_)
            obtain ⟨rfl, eh349⟩ := q351
            subst h349
            show G w _ h344 2 6 113 #[.val (.int p0), .val (.int p1), .val (.int p2), .val (.int p3), .val (.int p4), .val (.int n), .val (.int (3 : Int32)), .val (.int (0 : Int32)), .val (.int (1 : Int32)), .val (.int (1 : Int32)), .val (.ref b84), .unset] [(.ref s_ZERO), (.int p3), (.int (1 : Int32)), (.int (1 : Int32)), (.ref b84)]
            refine g_virtual C (pc' := 116) (k' := 2) (n' := 6) (argsL := [(.int (1 : Int32)), (.int (1 : Int32)), (.int p3), (.ref s_ZERO)]) (rest := []) (wd hw 28 rfl) (wd hw 29 rfl) (nfSel (wd hw 31 rfl)) (wd hw 31 rfl) (wd hw 30 rfl) (wd hw 2 rfl) (wd hw 32 rfl) (by decide) at_113 pd_4 rfl rfl rfl f348 (rec1 l Z a0 hw n0 h344 f347 s_ZERO H b84 r ge_b84 gr nar (0 : Int32) (1 : Int32) p3 n (by decide) (own_lt hm2 (by decide)) P342 LN343) (Nat.le_of_ble_eq_true rfl) (Nat.le_of_ble_eq_true rfl) (Nat.le_of_ble_eq_true rfl) (Nat.le_of_ble_eq_true rfl) rfl rfl rfl (fun v356 h355 q357 => ?_)
            obtain ⟨rfl, K352, P353, LN354⟩ := q357
            have f358 := f347.keep K352 (allS ge_b84 (allS gr all0))
            have f359 := f348.keep K352
            show G w _ h355 2 6 116 #[.val (.int p0), .val (.int p1), .val (.int p2), .val (.int p3), .val (.int p4), .val (.int n), .val (.int (3 : Int32)), .val (.int (0 : Int32)), .val (.int (1 : Int32)), .val (.int (1 : Int32)), .val (.ref b84), .unset] []
            refine g_iload C (pc' := 118) at_116 rfl rfl ?_
            refine g_iconst C (pc' := 119) (v := (2 : Int32)) at_118 (by decide) rfl ?_
            refine g_icN C (pc' := 122) at_119 rfl (by decide) rfl ?_
            refine g_aload C (pc' := 124) at_122 rfl rfl rfl ?_
            refine g_iconst C (pc' := 125) (v := (2 : Int32)) at_124 (by decide) rfl ?_
            refine g_iload C (pc' := 127) at_125 rfl rfl ?_
            refine g_iload C (pc' := 129) at_127 rfl rfl ?_
            refine g_aload C (pc' := 131) at_129 rfl rfl rfl ?_
            refine g_virtual C (pc' := 134) (k' := 2) (n' := 6) (argsL := []) (rest := [(.int p4), (.int (1 : Int32)), (.int (2 : Int32)), (.ref b84)]) (wd hw 23 rfl) (wd hw 24 rfl) (nfSel (wd hw 26 rfl)) (wd hw 26 rfl) (wd hw 25 rfl) (wd hw 2 rfl) (wd hw 27 rfl) (by decide) at_131 pd_3 rfl rfl rfl f359 (retry l Z a0 hw n0 h355 f358 s_ZERO H b84 r (0 : Int32) P353) (Nat.le_of_ble_eq_true rfl) (Nat.le_of_ble_eq_true rfl) (Nat.le_of_ble_eq_true rfl) (Nat.le_of_ble_eq_true rfl) rfl rfl rfl (fun v361 h360 q362 => ?_)
            obtain ⟨rfl, eh360⟩ := q362
            subst h360
            show G w _ h355 2 6 134 #[.val (.int p0), .val (.int p1), .val (.int p2), .val (.int p3), .val (.int p4), .val (.int n), .val (.int (3 : Int32)), .val (.int (0 : Int32)), .val (.int (1 : Int32)), .val (.int (1 : Int32)), .val (.ref b84), .unset] [(.ref s_ZERO), (.int p4), (.int (1 : Int32)), (.int (2 : Int32)), (.ref b84)]
            refine g_virtual C (pc' := 137) (k' := 2) (n' := 6) (argsL := [(.int (2 : Int32)), (.int (1 : Int32)), (.int p4), (.ref s_ZERO)]) (rest := []) (wd hw 28 rfl) (wd hw 29 rfl) (nfSel (wd hw 31 rfl)) (wd hw 31 rfl) (wd hw 30 rfl) (wd hw 2 rfl) (wd hw 32 rfl) (by decide) at_134 pd_4 rfl rfl rfl f359 (rec1 l Z a0 hw n0 h355 f358 s_ZERO H b84 r ge_b84 gr nar (0 : Int32) (2 : Int32) p4 n (by decide) (own_lt hm2 (by decide)) P353 LN354) (Nat.le_of_ble_eq_true rfl) (Nat.le_of_ble_eq_true rfl) (Nat.le_of_ble_eq_true rfl) (Nat.le_of_ble_eq_true rfl) rfl rfl rfl (fun v367 h366 q368 => ?_)
            obtain ⟨rfl, K363, P364, LN365⟩ := q368
            have f369 := f358.keep K363 (allS ge_b84 (allS gr all0))
            have f370 := f359.keep K363
            show G w _ h366 2 6 137 #[.val (.int p0), .val (.int p1), .val (.int p2), .val (.int p3), .val (.int p4), .val (.int n), .val (.int (3 : Int32)), .val (.int (0 : Int32)), .val (.int (1 : Int32)), .val (.int (1 : Int32)), .val (.ref b84), .unset] []
            refine g_iload C (pc' := 139) at_137 rfl rfl ?_
            refine g_ifN C (pc' := 142) at_139 rfl (by decide) rfl ?_
            refine g_iload C (pc' := 144) at_142 rfl rfl ?_
            refine g_ifY C (pc' := 169) at_144 rfl (by decide) (by decide) rfl ?_
            refine g_iconst C (pc' := 170) (v := (1 : Int32)) at_169 (by decide) rfl ?_
            refine g_goto C (pc' := 174) at_170 (by decide) rfl ?_
            refine g_istore C (pc' := 176) (Ls' := #[.val (.int p0), .val (.int p1), .val (.int p2), .val (.int p3), .val (.int p4), .val (.int n), .val (.int (3 : Int32)), .val (.int (0 : Int32)), .val (.int (1 : Int32)), .val (.int (1 : Int32)), .val (.ref b84), .val (.int (1 : Int32))]) at_174 rfl rfl rfl ?_
            refine g_aload C (pc' := 178) at_176 rfl rfl rfl ?_
            refine g_virtual C (pc' := 181) (k' := 2) (n' := 6) (argsL := []) (rest := []) (wd hw 18 rfl) (wd hw 19 rfl) (nfSel (wd hw 21 rfl)) (wd hw 21 rfl) (wd hw 20 rfl) (wd hw 2 rfl) (wd hw 22 rfl) (by decide) at_178 pd_2 rfl rfl rfl f370 (vroom_0 l Z a0 hw n0 h366 f369 s_ZERO H b84 (.ref r) (.ref s_ZERO) (0 : Int32) (by decide) P364) (Nat.le_of_ble_eq_true rfl) (Nat.le_of_ble_eq_true rfl) (Nat.le_of_ble_eq_true rfl) (Nat.le_of_ble_eq_true rfl) rfl rfl rfl (fun v372 h371 q373 => ?_)
            obtain ⟨rfl, eh371⟩ := q373
            subst h371
            show G w _ h366 2 6 181 #[.val (.int p0), .val (.int p1), .val (.int p2), .val (.int p3), .val (.int p4), .val (.int n), .val (.int (3 : Int32)), .val (.int (0 : Int32)), .val (.int (1 : Int32)), .val (.int (1 : Int32)), .val (.ref b84), .val (.int (1 : Int32))] [(.int (0 : Int32))]
            refine g_iload C (pc' := 183) at_181 rfl rfl ?_
            refine g_ifY C (pc' := 190) at_183 rfl (by decide) (by decide) rfl ?_
            refine g_iconst C (pc' := 191) (v := (0 : Int32)) at_190 (by decide) rfl ?_
            refine g_icN C (pc' := 194) at_191 rfl (by decide) rfl ?_
            refine g_iconst C (pc' := 195) (v := (1 : Int32)) at_194 (by decide) rfl ?_
            refine g_goto C (pc' := 199) at_195 (by decide) rfl ?_
            exact g_zreturn C at_199 rfl rfl (Nat.le_of_ble_eq_true rfl) (Nat.le_of_ble_eq_true rfl) (rfl)
      · rcases hf1 with rfl | rfl
        · rcases hf2 with rfl | rfl
          · refine g_iload C (pc' := 79) at_77 rfl rfl ?_
            refine g_ifN C (pc' := 82) at_79 rfl (by decide) rfl ?_
            refine g_aload C (pc' := 84) at_82 rfl rfl rfl ?_
            refine g_iconst C (pc' := 85) (v := (0 : Int32)) at_84 (by decide) rfl ?_
            refine g_iload C (pc' := 87) at_85 rfl rfl ?_
            refine g_iloadN C (pc' := 88) at_87 rfl rfl ?_
            refine g_aload C (pc' := 90) at_88 rfl rfl rfl ?_
            refine g_virtual C (pc' := 93) (k' := 2) (n' := 6) (argsL := []) (rest := [(.int p2), (.int (1 : Int32)), (.int (0 : Int32)), (.ref b84)]) (wd hw 23 rfl) (wd hw 24 rfl) (nfSel (wd hw 26 rfl)) (wd hw 26 rfl) (wd hw 25 rfl) (wd hw 2 rfl) (wd hw 27 rfl) (by decide) at_90 pd_3 rfl rfl rfl f98 (retry l Z a0 hw n0 h94 f97 s_ZERO H b84 r (-1 : Int32) P92) (Nat.le_of_ble_eq_true rfl) (Nat.le_of_ble_eq_true rfl) (Nat.le_of_ble_eq_true rfl) (Nat.le_of_ble_eq_true rfl) rfl rfl rfl (fun v375 h374 q376 => ?_)
            obtain ⟨rfl, eh374⟩ := q376
            subst h374
            show G w _ h94 2 6 93 #[.val (.int p0), .val (.int p1), .val (.int p2), .val (.int p3), .val (.int p4), .val (.int n), .val (.int (3 : Int32)), .val (.int (1 : Int32)), .val (.int (0 : Int32)), .val (.int (0 : Int32)), .val (.ref b84), .unset] [(.ref s_ZERO), (.int p2), (.int (1 : Int32)), (.int (0 : Int32)), (.ref b84)]
            refine g_virtual C (pc' := 96) (k' := 2) (n' := 6) (argsL := [(.int (0 : Int32)), (.int (1 : Int32)), (.int p2), (.ref s_ZERO)]) (rest := []) (wd hw 28 rfl) (wd hw 29 rfl) (nfSel (wd hw 31 rfl)) (wd hw 31 rfl) (wd hw 30 rfl) (wd hw 2 rfl) (wd hw 32 rfl) (by decide) at_93 pd_4 rfl rfl rfl f98 (rec1 l Z a0 hw n0 h94 f97 s_ZERO H b84 r ge_b84 gr nar (-1 : Int32) (0 : Int32) p2 n (by decide) (own_lt hm2 (by decide)) P92 LN93) (Nat.le_of_ble_eq_true rfl) (Nat.le_of_ble_eq_true rfl) (Nat.le_of_ble_eq_true rfl) (Nat.le_of_ble_eq_true rfl) rfl rfl rfl (fun v381 h380 q382 => ?_)
            obtain ⟨rfl, K377, P378, LN379⟩ := q382
            have f383 := f97.keep K377 (allS ge_b84 (allS gr all0))
            have f384 := f98.keep K377
            show G w _ h380 2 6 96 #[.val (.int p0), .val (.int p1), .val (.int p2), .val (.int p3), .val (.int p4), .val (.int n), .val (.int (3 : Int32)), .val (.int (1 : Int32)), .val (.int (0 : Int32)), .val (.int (0 : Int32)), .val (.ref b84), .unset] []
            refine g_iload C (pc' := 98) at_96 rfl rfl ?_
            refine g_iconst C (pc' := 99) (v := (1 : Int32)) at_98 (by decide) rfl ?_
            refine g_icN C (pc' := 102) at_99 rfl (by decide) rfl ?_
            refine g_aload C (pc' := 104) at_102 rfl rfl rfl ?_
            refine g_iconst C (pc' := 105) (v := (1 : Int32)) at_104 (by decide) rfl ?_
            refine g_iload C (pc' := 107) at_105 rfl rfl ?_
            refine g_iloadN C (pc' := 108) at_107 rfl rfl ?_
            refine g_aload C (pc' := 110) at_108 rfl rfl rfl ?_
            refine g_virtual C (pc' := 113) (k' := 2) (n' := 6) (argsL := []) (rest := [(.int p3), (.int (0 : Int32)), (.int (1 : Int32)), (.ref b84)]) (wd hw 23 rfl) (wd hw 24 rfl) (nfSel (wd hw 26 rfl)) (wd hw 26 rfl) (wd hw 25 rfl) (wd hw 2 rfl) (wd hw 27 rfl) (by decide) at_110 pd_3 rfl rfl rfl f384 (retry l Z a0 hw n0 h380 f383 s_ZERO H b84 r (-1 : Int32) P378) (Nat.le_of_ble_eq_true rfl) (Nat.le_of_ble_eq_true rfl) (Nat.le_of_ble_eq_true rfl) (Nat.le_of_ble_eq_true rfl) rfl rfl rfl (fun v386 h385 q387 => ?_)
            obtain ⟨rfl, eh385⟩ := q387
            subst h385
            show G w _ h380 2 6 113 #[.val (.int p0), .val (.int p1), .val (.int p2), .val (.int p3), .val (.int p4), .val (.int n), .val (.int (3 : Int32)), .val (.int (1 : Int32)), .val (.int (0 : Int32)), .val (.int (0 : Int32)), .val (.ref b84), .unset] [(.ref s_ZERO), (.int p3), (.int (0 : Int32)), (.int (1 : Int32)), (.ref b84)]
            refine g_virtual C (pc' := 116) (k' := 2) (n' := 6) (argsL := [(.int (1 : Int32)), (.int (0 : Int32)), (.int p3), (.ref s_ZERO)]) (rest := []) (wd hw 28 rfl) (wd hw 29 rfl) (nfSel (wd hw 31 rfl)) (wd hw 31 rfl) (wd hw 30 rfl) (wd hw 2 rfl) (wd hw 32 rfl) (by decide) at_113 pd_4 rfl rfl rfl f384 (rec0n l Z a0 hw n0 h380 f383 s_ZERO H b84 r ge_b84 gr nar (-1 : Int32) (1 : Int32) p3 n (by decide) (by decide) (own_lt hm2 (by decide)) P378 LN379) (Nat.le_of_ble_eq_true rfl) (Nat.le_of_ble_eq_true rfl) (Nat.le_of_ble_eq_true rfl) (Nat.le_of_ble_eq_true rfl) rfl rfl rfl (fun v392 h391 q393 => ?_)
            obtain ⟨rfl, K388, P389, LN390⟩ := q393
            have f394 := f383.keep K388 (allS ge_b84 (allS gr all0))
            have f395 := f384.keep K388
            show G w _ h391 2 6 116 #[.val (.int p0), .val (.int p1), .val (.int p2), .val (.int p3), .val (.int p4), .val (.int n), .val (.int (3 : Int32)), .val (.int (1 : Int32)), .val (.int (0 : Int32)), .val (.int (0 : Int32)), .val (.ref b84), .unset] []
            refine g_iload C (pc' := 118) at_116 rfl rfl ?_
            refine g_iconst C (pc' := 119) (v := (2 : Int32)) at_118 (by decide) rfl ?_
            refine g_icN C (pc' := 122) at_119 rfl (by decide) rfl ?_
            refine g_aload C (pc' := 124) at_122 rfl rfl rfl ?_
            refine g_iconst C (pc' := 125) (v := (2 : Int32)) at_124 (by decide) rfl ?_
            refine g_iload C (pc' := 127) at_125 rfl rfl ?_
            refine g_iload C (pc' := 129) at_127 rfl rfl ?_
            refine g_aload C (pc' := 131) at_129 rfl rfl rfl ?_
            refine g_virtual C (pc' := 134) (k' := 2) (n' := 6) (argsL := []) (rest := [(.int p4), (.int (0 : Int32)), (.int (2 : Int32)), (.ref b84)]) (wd hw 23 rfl) (wd hw 24 rfl) (nfSel (wd hw 26 rfl)) (wd hw 26 rfl) (wd hw 25 rfl) (wd hw 2 rfl) (wd hw 27 rfl) (by decide) at_131 pd_3 rfl rfl rfl f395 (retry l Z a0 hw n0 h391 f394 s_ZERO H b84 r (1 : Int32) P389) (Nat.le_of_ble_eq_true rfl) (Nat.le_of_ble_eq_true rfl) (Nat.le_of_ble_eq_true rfl) (Nat.le_of_ble_eq_true rfl) rfl rfl rfl (fun v397 h396 q398 => ?_)
            obtain ⟨rfl, eh396⟩ := q398
            subst h396
            show G w _ h391 2 6 134 #[.val (.int p0), .val (.int p1), .val (.int p2), .val (.int p3), .val (.int p4), .val (.int n), .val (.int (3 : Int32)), .val (.int (1 : Int32)), .val (.int (0 : Int32)), .val (.int (0 : Int32)), .val (.ref b84), .unset] [(.ref s_ZERO), (.int p4), (.int (0 : Int32)), (.int (2 : Int32)), (.ref b84)]
            refine g_virtual C (pc' := 137) (k' := 2) (n' := 6) (argsL := [(.int (2 : Int32)), (.int (0 : Int32)), (.int p4), (.ref s_ZERO)]) (rest := []) (wd hw 28 rfl) (wd hw 29 rfl) (nfSel (wd hw 31 rfl)) (wd hw 31 rfl) (wd hw 30 rfl) (wd hw 2 rfl) (wd hw 32 rfl) (by decide) at_134 pd_4 rfl rfl rfl f395 (rec0p l Z a0 hw n0 h391 f394 s_ZERO H b84 r ge_b84 gr nar (1 : Int32) (2 : Int32) p4 n (by decide) (by decide) (own_lt hm2 (by decide)) P389 LN390) (Nat.le_of_ble_eq_true rfl) (Nat.le_of_ble_eq_true rfl) (Nat.le_of_ble_eq_true rfl) (Nat.le_of_ble_eq_true rfl) rfl rfl rfl (fun v403 h402 q404 => ?_)
            obtain ⟨rfl, K399, P400, LN401⟩ := q404
            have f405 := f394.keep K399 (allS ge_b84 (allS gr all0))
            have f406 := f395.keep K399
            show G w _ h402 2 6 137 #[.val (.int p0), .val (.int p1), .val (.int p2), .val (.int p3), .val (.int p4), .val (.int n), .val (.int (3 : Int32)), .val (.int (1 : Int32)), .val (.int (0 : Int32)), .val (.int (0 : Int32)), .val (.ref b84), .unset] []
            refine g_iload C (pc' := 139) at_137 rfl rfl ?_
            refine g_ifN C (pc' := 142) at_139 rfl (by decide) rfl ?_
            refine g_iload C (pc' := 144) at_142 rfl rfl ?_
            refine g_ifN C (pc' := 147) at_144 rfl (by decide) rfl ?_
            refine g_iload C (pc' := 149) at_147 rfl rfl ?_
            refine g_iconst C (pc' := 150) (v := (1 : Int32)) at_149 (by decide) rfl ?_
            refine g_icN C (pc' := 153) at_150 rfl (by decide) rfl ?_
            refine g_iload C (pc' := 155) at_153 rfl rfl ?_
            refine g_ifY C (pc' := 169) at_155 rfl (by decide) (by decide) rfl ?_
            refine g_iconst C (pc' := 170) (v := (1 : Int32)) at_169 (by decide) rfl ?_
            refine g_goto C (pc' := 174) at_170 (by decide) rfl ?_
            refine g_istore C (pc' := 176) (Ls' := #[.val (.int p0), .val (.int p1), .val (.int p2), .val (.int p3), .val (.int p4), .val (.int n), .val (.int (3 : Int32)), .val (.int (1 : Int32)), .val (.int (0 : Int32)), .val (.int (0 : Int32)), .val (.ref b84), .val (.int (1 : Int32))]) at_174 rfl rfl rfl ?_
            refine g_aload C (pc' := 178) at_176 rfl rfl rfl ?_
            refine g_virtual C (pc' := 181) (k' := 2) (n' := 6) (argsL := []) (rest := []) (wd hw 18 rfl) (wd hw 19 rfl) (nfSel (wd hw 21 rfl)) (wd hw 21 rfl) (wd hw 20 rfl) (wd hw 2 rfl) (wd hw 22 rfl) (by decide) at_178 pd_2 rfl rfl rfl f406 (vroom_0 l Z a0 hw n0 h402 f405 s_ZERO H b84 (.ref r) (.ref s_ZERO) (1 : Int32) (by decide) P400) (Nat.le_of_ble_eq_true rfl) (Nat.le_of_ble_eq_true rfl) (Nat.le_of_ble_eq_true rfl) (Nat.le_of_ble_eq_true rfl) rfl rfl rfl (fun v408 h407 q409 => ?_)
            obtain ⟨rfl, eh407⟩ := q409
            subst h407
            show G w _ h402 2 6 181 #[.val (.int p0), .val (.int p1), .val (.int p2), .val (.int p3), .val (.int p4), .val (.int n), .val (.int (3 : Int32)), .val (.int (1 : Int32)), .val (.int (0 : Int32)), .val (.int (0 : Int32)), .val (.ref b84), .val (.int (1 : Int32))] [(.int (0 : Int32))]
            refine g_iload C (pc' := 183) at_181 rfl rfl ?_
            refine g_ifY C (pc' := 190) at_183 rfl (by decide) (by decide) rfl ?_
            refine g_iconst C (pc' := 191) (v := (0 : Int32)) at_190 (by decide) rfl ?_
            refine g_icN C (pc' := 194) at_191 rfl (by decide) rfl ?_
            refine g_iconst C (pc' := 195) (v := (1 : Int32)) at_194 (by decide) rfl ?_
            refine g_goto C (pc' := 199) at_195 (by decide) rfl ?_
            exact g_zreturn C at_199 rfl rfl (Nat.le_of_ble_eq_true rfl) (Nat.le_of_ble_eq_true rfl) (rfl)
          · refine g_iload C (pc' := 79) at_77 rfl rfl ?_
            refine g_ifN C (pc' := 82) at_79 rfl (by decide) rfl ?_
            refine g_aload C (pc' := 84) at_82 rfl rfl rfl ?_
            refine g_iconst C (pc' := 85) (v := (0 : Int32)) at_84 (by decide) rfl ?_
            refine g_iload C (pc' := 87) at_85 rfl rfl ?_
            refine g_iloadN C (pc' := 88) at_87 rfl rfl ?_
            refine g_aload C (pc' := 90) at_88 rfl rfl rfl ?_
            refine g_virtual C (pc' := 93) (k' := 2) (n' := 6) (argsL := []) (rest := [(.int p2), (.int (1 : Int32)), (.int (0 : Int32)), (.ref b84)]) (wd hw 23 rfl) (wd hw 24 rfl) (nfSel (wd hw 26 rfl)) (wd hw 26 rfl) (wd hw 25 rfl) (wd hw 2 rfl) (wd hw 27 rfl) (by decide) at_90 pd_3 rfl rfl rfl f98 (retry l Z a0 hw n0 h94 f97 s_ZERO H b84 r (-1 : Int32) P92) (Nat.le_of_ble_eq_true rfl) (Nat.le_of_ble_eq_true rfl) (Nat.le_of_ble_eq_true rfl) (Nat.le_of_ble_eq_true rfl) rfl rfl rfl (fun v411 h410 q412 => ?_)
            obtain ⟨rfl, eh410⟩ := q412
            subst h410
            show G w _ h94 2 6 93 #[.val (.int p0), .val (.int p1), .val (.int p2), .val (.int p3), .val (.int p4), .val (.int n), .val (.int (3 : Int32)), .val (.int (1 : Int32)), .val (.int (0 : Int32)), .val (.int (1 : Int32)), .val (.ref b84), .unset] [(.ref s_ZERO), (.int p2), (.int (1 : Int32)), (.int (0 : Int32)), (.ref b84)]
            refine g_virtual C (pc' := 96) (k' := 2) (n' := 6) (argsL := [(.int (0 : Int32)), (.int (1 : Int32)), (.int p2), (.ref s_ZERO)]) (rest := []) (wd hw 28 rfl) (wd hw 29 rfl) (nfSel (wd hw 31 rfl)) (wd hw 31 rfl) (wd hw 30 rfl) (wd hw 2 rfl) (wd hw 32 rfl) (by decide) at_93 pd_4 rfl rfl rfl f98 (rec1 l Z a0 hw n0 h94 f97 s_ZERO H b84 r ge_b84 gr nar (-1 : Int32) (0 : Int32) p2 n (by decide) (own_lt hm2 (by decide)) P92 LN93) (Nat.le_of_ble_eq_true rfl) (Nat.le_of_ble_eq_true rfl) (Nat.le_of_ble_eq_true rfl) (Nat.le_of_ble_eq_true rfl) rfl rfl rfl (fun v417 h416 q418 => ?_)
            obtain ⟨rfl, K413, P414, LN415⟩ := q418
            have f419 := f97.keep K413 (allS ge_b84 (allS gr all0))
            have f420 := f98.keep K413
            show G w _ h416 2 6 96 #[.val (.int p0), .val (.int p1), .val (.int p2), .val (.int p3), .val (.int p4), .val (.int n), .val (.int (3 : Int32)), .val (.int (1 : Int32)), .val (.int (0 : Int32)), .val (.int (1 : Int32)), .val (.ref b84), .unset] []
            refine g_iload C (pc' := 98) at_96 rfl rfl ?_
            refine g_iconst C (pc' := 99) (v := (1 : Int32)) at_98 (by decide) rfl ?_
            refine g_icN C (pc' := 102) at_99 rfl (by decide) rfl ?_
            refine g_aload C (pc' := 104) at_102 rfl rfl rfl ?_
            refine g_iconst C (pc' := 105) (v := (1 : Int32)) at_104 (by decide) rfl ?_
            refine g_iload C (pc' := 107) at_105 rfl rfl ?_
            refine g_iloadN C (pc' := 108) at_107 rfl rfl ?_
            refine g_aload C (pc' := 110) at_108 rfl rfl rfl ?_
            refine g_virtual C (pc' := 113) (k' := 2) (n' := 6) (argsL := []) (rest := [(.int p3), (.int (0 : Int32)), (.int (1 : Int32)), (.ref b84)]) (wd hw 23 rfl) (wd hw 24 rfl) (nfSel (wd hw 26 rfl)) (wd hw 26 rfl) (wd hw 25 rfl) (wd hw 2 rfl) (wd hw 27 rfl) (by decide) at_110 pd_3 rfl rfl rfl f420 (retry l Z a0 hw n0 h416 f419 s_ZERO H b84 r (-1 : Int32) P414) (Nat.le_of_ble_eq_true rfl) (Nat.le_of_ble_eq_true rfl) (Nat.le_of_ble_eq_true rfl) (Nat.le_of_ble_eq_true rfl) rfl rfl rfl (fun v422 h421 q423 => ?_)
            obtain ⟨rfl, eh421⟩ := q423
            subst h421
            show G w _ h416 2 6 113 #[.val (.int p0), .val (.int p1), .val (.int p2), .val (.int p3), .val (.int p4), .val (.int n), .val (.int (3 : Int32)), .val (.int (1 : Int32)), .val (.int (0 : Int32)), .val (.int (1 : Int32)), .val (.ref b84), .unset] [(.ref s_ZERO), (.int p3), (.int (0 : Int32)), (.int (1 : Int32)), (.ref b84)]
            refine g_virtual C (pc' := 116) (k' := 2) (n' := 6) (argsL := [(.int (1 : Int32)), (.int (0 : Int32)), (.int p3), (.ref s_ZERO)]) (rest := []) (wd hw 28 rfl) (wd hw 29 rfl) (nfSel (wd hw 31 rfl)) (wd hw 31 rfl) (wd hw 30 rfl) (wd hw 2 rfl) (wd hw 32 rfl) (by decide) at_113 pd_4 rfl rfl rfl f420 (rec0n l Z a0 hw n0 h416 f419 s_ZERO H b84 r ge_b84 gr nar (-1 : Int32) (1 : Int32) p3 n (by decide) (by decide) (own_lt hm2 (by decide)) P414 LN415) (Nat.le_of_ble_eq_true rfl) (Nat.le_of_ble_eq_true rfl) (Nat.le_of_ble_eq_true rfl) (Nat.le_of_ble_eq_true rfl) rfl rfl rfl (fun v428 h427 q429 => ?_)
            obtain ⟨rfl, K424, P425, LN426⟩ := q429
            have f430 := f419.keep K424 (allS ge_b84 (allS gr all0))
            have f431 := f420.keep K424
            show G w _ h427 2 6 116 #[.val (.int p0), .val (.int p1), .val (.int p2), .val (.int p3), .val (.int p4), .val (.int n), .val (.int (3 : Int32)), .val (.int (1 : Int32)), .val (.int (0 : Int32)), .val (.int (1 : Int32)), .val (.ref b84), .unset] []
            refine g_iload C (pc' := 118) at_116 rfl rfl ?_
            refine g_iconst C (pc' := 119) (v := (2 : Int32)) at_118 (by decide) rfl ?_
            refine g_icN C (pc' := 122) at_119 rfl (by decide) rfl ?_
            refine g_aload C (pc' := 124) at_122 rfl rfl rfl ?_
            refine g_iconst C (pc' := 125) (v := (2 : Int32)) at_124 (by decide) rfl ?_
            refine g_iload C (pc' := 127) at_125 rfl rfl ?_
            refine g_iload C (pc' := 129) at_127 rfl rfl ?_
            refine g_aload C (pc' := 131) at_129 rfl rfl rfl ?_
            refine g_virtual C (pc' := 134) (k' := 2) (n' := 6) (argsL := []) (rest := [(.int p4), (.int (1 : Int32)), (.int (2 : Int32)), (.ref b84)]) (wd hw 23 rfl) (wd hw 24 rfl) (nfSel (wd hw 26 rfl)) (wd hw 26 rfl) (wd hw 25 rfl) (wd hw 2 rfl) (wd hw 27 rfl) (by decide) at_131 pd_3 rfl rfl rfl f431 (retry l Z a0 hw n0 h427 f430 s_ZERO H b84 r (1 : Int32) P425) (Nat.le_of_ble_eq_true rfl) (Nat.le_of_ble_eq_true rfl) (Nat.le_of_ble_eq_true rfl) (Nat.le_of_ble_eq_true rfl) rfl rfl rfl (fun v433 h432 q434 => ?_)
            obtain ⟨rfl, eh432⟩ := q434
            subst h432
            show G w _ h427 2 6 134 #[.val (.int p0), .val (.int p1), .val (.int p2), .val (.int p3), .val (.int p4), .val (.int n), .val (.int (3 : Int32)), .val (.int (1 : Int32)), .val (.int (0 : Int32)), .val (.int (1 : Int32)), .val (.ref b84), .unset] [(.ref s_ZERO), (.int p4), (.int (1 : Int32)), (.int (2 : Int32)), (.ref b84)]
            refine g_virtual C (pc' := 137) (k' := 2) (n' := 6) (argsL := [(.int (2 : Int32)), (.int (1 : Int32)), (.int p4), (.ref s_ZERO)]) (rest := []) (wd hw 28 rfl) (wd hw 29 rfl) (nfSel (wd hw 31 rfl)) (wd hw 31 rfl) (wd hw 30 rfl) (wd hw 2 rfl) (wd hw 32 rfl) (by decide) at_134 pd_4 rfl rfl rfl f431 (rec1 l Z a0 hw n0 h427 f430 s_ZERO H b84 r ge_b84 gr nar (1 : Int32) (2 : Int32) p4 n (by decide) (own_lt hm2 (by decide)) P425 LN426) (Nat.le_of_ble_eq_true rfl) (Nat.le_of_ble_eq_true rfl) (Nat.le_of_ble_eq_true rfl) (Nat.le_of_ble_eq_true rfl) rfl rfl rfl (fun v439 h438 q440 => ?_)
            obtain ⟨rfl, K435, P436, LN437⟩ := q440
            have f441 := f430.keep K435 (allS ge_b84 (allS gr all0))
            have f442 := f431.keep K435
            show G w _ h438 2 6 137 #[.val (.int p0), .val (.int p1), .val (.int p2), .val (.int p3), .val (.int p4), .val (.int n), .val (.int (3 : Int32)), .val (.int (1 : Int32)), .val (.int (0 : Int32)), .val (.int (1 : Int32)), .val (.ref b84), .unset] []
            refine g_iload C (pc' := 139) at_137 rfl rfl ?_
            refine g_ifN C (pc' := 142) at_139 rfl (by decide) rfl ?_
            refine g_iload C (pc' := 144) at_142 rfl rfl ?_
            refine g_ifN C (pc' := 147) at_144 rfl (by decide) rfl ?_
            refine g_iload C (pc' := 149) at_147 rfl rfl ?_
            refine g_iconst C (pc' := 150) (v := (1 : Int32)) at_149 (by decide) rfl ?_
            refine g_icN C (pc' := 153) at_150 rfl (by decide) rfl ?_
            refine g_iload C (pc' := 155) at_153 rfl rfl ?_
            refine g_ifY C (pc' := 169) at_155 rfl (by decide) (by decide) rfl ?_
            refine g_iconst C (pc' := 170) (v := (1 : Int32)) at_169 (by decide) rfl ?_
            refine g_goto C (pc' := 174) at_170 (by decide) rfl ?_
            refine g_istore C (pc' := 176) (Ls' := #[.val (.int p0), .val (.int p1), .val (.int p2), .val (.int p3), .val (.int p4), .val (.int n), .val (.int (3 : Int32)), .val (.int (1 : Int32)), .val (.int (0 : Int32)), .val (.int (1 : Int32)), .val (.ref b84), .val (.int (1 : Int32))]) at_174 rfl rfl rfl ?_
            refine g_aload C (pc' := 178) at_176 rfl rfl rfl ?_
            refine g_virtual C (pc' := 181) (k' := 2) (n' := 6) (argsL := []) (rest := []) (wd hw 18 rfl) (wd hw 19 rfl) (nfSel (wd hw 21 rfl)) (wd hw 21 rfl) (wd hw 20 rfl) (wd hw 2 rfl) (wd hw 22 rfl) (by decide) at_178 pd_2 rfl rfl rfl f442 (vroom_0 l Z a0 hw n0 h438 f441 s_ZERO H b84 (.ref r) (.ref s_ZERO) (1 : Int32) (by decide) P436) (Nat.le_of_ble_eq_true rfl) (Nat.le_of_ble_eq_true rfl) (Nat.le_of_ble_eq_true rfl) (Nat.le_of_ble_eq_true rfl) rfl rfl rfl (fun v444 h443 q445 => ?_)
            obtain ⟨rfl, eh443⟩ := q445
            subst h443
            show G w _ h438 2 6 181 #[.val (.int p0), .val (.int p1), .val (.int p2), .val (.int p3), .val (.int p4), .val (.int n), .val (.int (3 : Int32)), .val (.int (1 : Int32)), .val (.int (0 : Int32)), .val (.int (1 : Int32)), .val (.ref b84), .val (.int (1 : Int32))] [(.int (0 : Int32))]
            refine g_iload C (pc' := 183) at_181 rfl rfl ?_
            refine g_ifY C (pc' := 190) at_183 rfl (by decide) (by decide) rfl ?_
            refine g_iconst C (pc' := 191) (v := (0 : Int32)) at_190 (by decide) rfl ?_
            refine g_icN C (pc' := 194) at_191 rfl (by decide) rfl ?_
            refine g_iconst C (pc' := 195) (v := (1 : Int32)) at_194 (by decide) rfl ?_
            refine g_goto C (pc' := 199) at_195 (by decide) rfl ?_
            exact g_zreturn C at_199 rfl rfl (Nat.le_of_ble_eq_true rfl) (Nat.le_of_ble_eq_true rfl) (rfl)
        · rcases hf2 with rfl | rfl
          · refine g_iload C (pc' := 79) at_77 rfl rfl ?_
            refine g_ifN C (pc' := 82) at_79 rfl (by decide) rfl ?_
            refine g_aload C (pc' := 84) at_82 rfl rfl rfl ?_
            refine g_iconst C (pc' := 85) (v := (0 : Int32)) at_84 (by decide) rfl ?_
            refine g_iload C (pc' := 87) at_85 rfl rfl ?_
            refine g_iloadN C (pc' := 88) at_87 rfl rfl ?_
            refine g_aload C (pc' := 90) at_88 rfl rfl rfl ?_
            refine g_virtual C (pc' := 93) (k' := 2) (n' := 6) (argsL := []) (rest := [(.int p2), (.int (1 : Int32)), (.int (0 : Int32)), (.ref b84)]) (wd hw 23 rfl) (wd hw 24 rfl) (nfSel (wd hw 26 rfl)) (wd hw 26 rfl) (wd hw 25 rfl) (wd hw 2 rfl) (wd hw 27 rfl) (by decide) at_90 pd_3 rfl rfl rfl f98 (retry l Z a0 hw n0 h94 f97 s_ZERO H b84 r (-1 : Int32) P92) (Nat.le_of_ble_eq_true rfl) (Nat.le_of_ble_eq_true rfl) (Nat.le_of_ble_eq_true rfl) (Nat.le_of_ble_eq_true rfl) rfl rfl rfl (fun v447 h446 q448 => ?_)
            obtain ⟨rfl, eh446⟩ := q448
            subst h446
            show G w _ h94 2 6 93 #[.val (.int p0), .val (.int p1), .val (.int p2), .val (.int p3), .val (.int p4), .val (.int n), .val (.int (3 : Int32)), .val (.int (1 : Int32)), .val (.int (1 : Int32)), .val (.int (0 : Int32)), .val (.ref b84), .unset] [(.ref s_ZERO), (.int p2), (.int (1 : Int32)), (.int (0 : Int32)), (.ref b84)]
            refine g_virtual C (pc' := 96) (k' := 2) (n' := 6) (argsL := [(.int (0 : Int32)), (.int (1 : Int32)), (.int p2), (.ref s_ZERO)]) (rest := []) (wd hw 28 rfl) (wd hw 29 rfl) (nfSel (wd hw 31 rfl)) (wd hw 31 rfl) (wd hw 30 rfl) (wd hw 2 rfl) (wd hw 32 rfl) (by decide) at_93 pd_4 rfl rfl rfl f98 (rec1 l Z a0 hw n0 h94 f97 s_ZERO H b84 r ge_b84 gr nar (-1 : Int32) (0 : Int32) p2 n (by decide) (own_lt hm2 (by decide)) P92 LN93) (Nat.le_of_ble_eq_true rfl) (Nat.le_of_ble_eq_true rfl) (Nat.le_of_ble_eq_true rfl) (Nat.le_of_ble_eq_true rfl) rfl rfl rfl (fun v453 h452 q454 => ?_)
            obtain ⟨rfl, K449, P450, LN451⟩ := q454
            have f455 := f97.keep K449 (allS ge_b84 (allS gr all0))
            have f456 := f98.keep K449
            show G w _ h452 2 6 96 #[.val (.int p0), .val (.int p1), .val (.int p2), .val (.int p3), .val (.int p4), .val (.int n), .val (.int (3 : Int32)), .val (.int (1 : Int32)), .val (.int (1 : Int32)), .val (.int (0 : Int32)), .val (.ref b84), .unset] []
            refine g_iload C (pc' := 98) at_96 rfl rfl ?_
            refine g_iconst C (pc' := 99) (v := (1 : Int32)) at_98 (by decide) rfl ?_
            refine g_icN C (pc' := 102) at_99 rfl (by decide) rfl ?_
            refine g_aload C (pc' := 104) at_102 rfl rfl rfl ?_
            refine g_iconst C (pc' := 105) (v := (1 : Int32)) at_104 (by decide) rfl ?_
            refine g_iload C (pc' := 107) at_105 rfl rfl ?_
            refine g_iloadN C (pc' := 108) at_107 rfl rfl ?_
            refine g_aload C (pc' := 110) at_108 rfl rfl rfl ?_
            refine g_virtual C (pc' := 113) (k' := 2) (n' := 6) (argsL := []) (rest := [(.int p3), (.int (1 : Int32)), (.int (1 : Int32)), (.ref b84)]) (wd hw 23 rfl) (wd hw 24 rfl) (nfSel (wd hw 26 rfl)) (wd hw 26 rfl) (wd hw 25 rfl) (wd hw 2 rfl) (wd hw 27 rfl) (by decide) at_110 pd_3 rfl rfl rfl f456 (retry l Z a0 hw n0 h452 f455 s_ZERO H b84 r (-1 : Int32) P450) (Nat.le_of_ble_eq_true rfl) (Nat.le_of_ble_eq_true rfl) (Nat.le_of_ble_eq_true rfl) (Nat.le_of_ble_eq_true rfl) rfl rfl rfl (fun v458 h457 q459 => ?_)
            obtain ⟨rfl, eh457⟩ := q459
            subst h457
            show G w _ h452 2 6 113 #[.val (.int p0), .val (.int p1), .val (.int p2), .val (.int p3), .val (.int p4), .val (.int n), .val (.int (3 : Int32)), .val (.int (1 : Int32)), .val (.int (1 : Int32)), .val (.int (0 : Int32)), .val (.ref b84), .unset] [(.ref s_ZERO), (.int p3), (.int (1 : Int32)), (.int (1 : Int32)), (.ref b84)]
            refine g_virtual C (pc' := 116) (k' := 2) (n' := 6) (argsL := [(.int (1 : Int32)), (.int (1 : Int32)), (.int p3), (.ref s_ZERO)]) (rest := []) (wd hw 28 rfl) (wd hw 29 rfl) (nfSel (wd hw 31 rfl)) (wd hw 31 rfl) (wd hw 30 rfl) (wd hw 2 rfl) (wd hw 32 rfl) (by decide) at_113 pd_4 rfl rfl rfl f456 (rec1 l Z a0 hw n0 h452 f455 s_ZERO H b84 r ge_b84 gr nar (-1 : Int32) (1 : Int32) p3 n (by decide) (own_lt hm2 (by decide)) P450 LN451) (Nat.le_of_ble_eq_true rfl) (Nat.le_of_ble_eq_true rfl) (Nat.le_of_ble_eq_true rfl) (Nat.le_of_ble_eq_true rfl) rfl rfl rfl (fun v464 h463 q465 => ?_)
            obtain ⟨rfl, K460, P461, LN462⟩ := q465
            have f466 := f455.keep K460 (allS ge_b84 (allS gr all0))
            have f467 := f456.keep K460
            show G w _ h463 2 6 116 #[.val (.int p0), .val (.int p1), .val (.int p2), .val (.int p3), .val (.int p4), .val (.int n), .val (.int (3 : Int32)), .val (.int (1 : Int32)), .val (.int (1 : Int32)), .val (.int (0 : Int32)), .val (.ref b84), .unset] []
            refine g_iload C (pc' := 118) at_116 rfl rfl ?_
            refine g_iconst C (pc' := 119) (v := (2 : Int32)) at_118 (by decide) rfl ?_
            refine g_icN C (pc' := 122) at_119 rfl (by decide) rfl ?_
            refine g_aload C (pc' := 124) at_122 rfl rfl rfl ?_
            refine g_iconst C (pc' := 125) (v := (2 : Int32)) at_124 (by decide) rfl ?_
            refine g_iload C (pc' := 127) at_125 rfl rfl ?_
            refine g_iload C (pc' := 129) at_127 rfl rfl ?_
            refine g_aload C (pc' := 131) at_129 rfl rfl rfl ?_
            refine g_virtual C (pc' := 134) (k' := 2) (n' := 6) (argsL := []) (rest := [(.int p4), (.int (0 : Int32)), (.int (2 : Int32)), (.ref b84)]) (wd hw 23 rfl) (wd hw 24 rfl) (nfSel (wd hw 26 rfl)) (wd hw 26 rfl) (wd hw 25 rfl) (wd hw 2 rfl) (wd hw 27 rfl) (by decide) at_131 pd_3 rfl rfl rfl f467 (retry l Z a0 hw n0 h463 f466 s_ZERO H b84 r (-1 : Int32) P461) (Nat.le_of_ble_eq_true rfl) (Nat.le_of_ble_eq_true rfl) (Nat.le_of_ble_eq_true rfl) (Nat.le_of_ble_eq_true rfl) rfl rfl rfl (fun v469 h468 q470 => ?_)
            obtain ⟨rfl, eh468⟩ := q470
            subst h468
            show G w _ h463 2 6 134 #[.val (.int p0), .val (.int p1), .val (.int p2), .val (.int p3), .val (.int p4), .val (.int n), .val (.int (3 : Int32)), .val (.int (1 : Int32)), .val (.int (1 : Int32)), .val (.int (0 : Int32)), .val (.ref b84), .unset] [(.ref s_ZERO), (.int p4), (.int (0 : Int32)), (.int (2 : Int32)), (.ref b84)]
            refine g_virtual C (pc' := 137) (k' := 2) (n' := 6) (argsL := [(.int (2 : Int32)), (.int (0 : Int32)), (.int p4), (.ref s_ZERO)]) (rest := []) (wd hw 28 rfl) (wd hw 29 rfl) (nfSel (wd hw 31 rfl)) (wd hw 31 rfl) (wd hw 30 rfl) (wd hw 2 rfl) (wd hw 32 rfl) (by decide) at_134 pd_4 rfl rfl rfl f467 (rec0n l Z a0 hw n0 h463 f466 s_ZERO H b84 r ge_b84 gr nar (-1 : Int32) (2 : Int32) p4 n (by decide) (by decide) (own_lt hm2 (by decide)) P461 LN462) (Nat.le_of_ble_eq_true rfl) (Nat.le_of_ble_eq_true rfl) (Nat.le_of_ble_eq_true rfl) (Nat.le_of_ble_eq_true rfl) rfl rfl rfl (fun v475 h474 q476 => ?_)
            obtain ⟨rfl, K471, P472, LN473⟩ := q476
            have f477 := f466.keep K471 (allS ge_b84 (allS gr all0))
            have f478 := f467.keep K471
            show G w _ h474 2 6 137 #[.val (.int p0), .val (.int p1), .val (.int p2), .val (.int p3), .val (.int p4), .val (.int n), .val (.int (3 : Int32)), .val (.int (1 : Int32)), .val (.int (1 : Int32)), .val (.int (0 : Int32)), .val (.ref b84), .unset] []
            refine g_iload C (pc' := 139) at_137 rfl rfl ?_
            refine g_ifN C (pc' := 142) at_139 rfl (by decide) rfl ?_
            refine g_iload C (pc' := 144) at_142 rfl rfl ?_
            refine g_ifN C (pc' := 147) at_144 rfl (by decide) rfl ?_
            refine g_iload C (pc' := 149) at_147 rfl rfl ?_
            refine g_iconst C (pc' := 150) (v := (1 : Int32)) at_149 (by decide) rfl ?_
            refine g_icN C (pc' := 153) at_150 rfl (by decide) rfl ?_
            refine g_iload C (pc' := 155) at_153 rfl rfl ?_
            refine g_ifN C (pc' := 158) at_155 rfl (by decide) rfl ?_
            refine g_iload C (pc' := 160) at_158 rfl rfl ?_
            refine g_iconst C (pc' := 161) (v := (2 : Int32)) at_160 (by decide) rfl ?_
            refine g_icN C (pc' := 164) at_161 rfl (by decide) rfl ?_
            refine g_iload C (pc' := 166) at_164 rfl rfl ?_
            refine g_ifN C (pc' := 169) at_166 rfl (by decide) rfl ?_
            refine g_iconst C (pc' := 170) (v := (1 : Int32)) at_169 (by decide) rfl ?_
            refine g_goto C (pc' := 174) at_170 (by decide) rfl ?_
            refine g_istore C (pc' := 176) (Ls' := #[.val (.int p0), .val (.int p1), .val (.int p2), .val (.int p3), .val (.int p4), .val (.int n), .val (.int (3 : Int32)), .val (.int (1 : Int32)), .val (.int (1 : Int32)), .val (.int (0 : Int32)), .val (.ref b84), .val (.int (1 : Int32))]) at_174 rfl rfl rfl ?_
            refine g_aload C (pc' := 178) at_176 rfl rfl rfl ?_
            refine g_virtual C (pc' := 181) (k' := 2) (n' := 6) (argsL := []) (rest := []) (wd hw 18 rfl) (wd hw 19 rfl) (nfSel (wd hw 21 rfl)) (wd hw 21 rfl) (wd hw 20 rfl) (wd hw 2 rfl) (wd hw 22 rfl) (by decide) at_178 pd_2 rfl rfl rfl f478 (vroom_0 l Z a0 hw n0 h474 f477 s_ZERO H b84 (.ref r) (.ref s_ZERO) (2 : Int32) (by decide) P472) (Nat.le_of_ble_eq_true rfl) (Nat.le_of_ble_eq_true rfl) (Nat.le_of_ble_eq_true rfl) (Nat.le_of_ble_eq_true rfl) rfl rfl rfl (fun v480 h479 q481 => ?_)
            obtain ⟨rfl, eh479⟩ := q481
            subst h479
            show G w _ h474 2 6 181 #[.val (.int p0), .val (.int p1), .val (.int p2), .val (.int p3), .val (.int p4), .val (.int n), .val (.int (3 : Int32)), .val (.int (1 : Int32)), .val (.int (1 : Int32)), .val (.int (0 : Int32)), .val (.ref b84), .val (.int (1 : Int32))] [(.int (0 : Int32))]
            refine g_iload C (pc' := 183) at_181 rfl rfl ?_
            refine g_ifY C (pc' := 190) at_183 rfl (by decide) (by decide) rfl ?_
            refine g_iconst C (pc' := 191) (v := (0 : Int32)) at_190 (by decide) rfl ?_
            refine g_icN C (pc' := 194) at_191 rfl (by decide) rfl ?_
            refine g_iconst C (pc' := 195) (v := (1 : Int32)) at_194 (by decide) rfl ?_
            refine g_goto C (pc' := 199) at_195 (by decide) rfl ?_
            exact g_zreturn C at_199 rfl rfl (Nat.le_of_ble_eq_true rfl) (Nat.le_of_ble_eq_true rfl) (rfl)
          · refine g_iload C (pc' := 79) at_77 rfl rfl ?_
            refine g_ifN C (pc' := 82) at_79 rfl (by decide) rfl ?_
            refine g_aload C (pc' := 84) at_82 rfl rfl rfl ?_
            refine g_iconst C (pc' := 85) (v := (0 : Int32)) at_84 (by decide) rfl ?_
            refine g_iload C (pc' := 87) at_85 rfl rfl ?_
            refine g_iloadN C (pc' := 88) at_87 rfl rfl ?_
            refine g_aload C (pc' := 90) at_88 rfl rfl rfl ?_
            refine g_virtual C (pc' := 93) (k' := 2) (n' := 6) (argsL := []) (rest := [(.int p2), (.int (1 : Int32)), (.int (0 : Int32)), (.ref b84)]) (wd hw 23 rfl) (wd hw 24 rfl) (nfSel (wd hw 26 rfl)) (wd hw 26 rfl) (wd hw 25 rfl) (wd hw 2 rfl) (wd hw 27 rfl) (by decide) at_90 pd_3 rfl rfl rfl f98 (retry l Z a0 hw n0 h94 f97 s_ZERO H b84 r (-1 : Int32) P92) (Nat.le_of_ble_eq_true rfl) (Nat.le_of_ble_eq_true rfl) (Nat.le_of_ble_eq_true rfl) (Nat.le_of_ble_eq_true rfl) rfl rfl rfl (fun v483 h482 q484 => ?_)
            obtain ⟨rfl, eh482⟩ := q484
            subst h482
            show G w _ h94 2 6 93 #[.val (.int p0), .val (.int p1), .val (.int p2), .val (.int p3), .val (.int p4), .val (.int n), .val (.int (3 : Int32)), .val (.int (1 : Int32)), .val (.int (1 : Int32)), .val (.int (1 : Int32)), .val (.ref b84), .unset] [(.ref s_ZERO), (.int p2), (.int (1 : Int32)), (.int (0 : Int32)), (.ref b84)]
            refine g_virtual C (pc' := 96) (k' := 2) (n' := 6) (argsL := [(.int (0 : Int32)), (.int (1 : Int32)), (.int p2), (.ref s_ZERO)]) (rest := []) (wd hw 28 rfl) (wd hw 29 rfl) (nfSel (wd hw 31 rfl)) (wd hw 31 rfl) (wd hw 30 rfl) (wd hw 2 rfl) (wd hw 32 rfl) (by decide) at_93 pd_4 rfl rfl rfl f98 (rec1 l Z a0 hw n0 h94 f97 s_ZERO H b84 r ge_b84 gr nar (-1 : Int32) (0 : Int32) p2 n (by decide) (own_lt hm2 (by decide)) P92 LN93) (Nat.le_of_ble_eq_true rfl) (Nat.le_of_ble_eq_true rfl) (Nat.le_of_ble_eq_true rfl) (Nat.le_of_ble_eq_true rfl) rfl rfl rfl (fun v489 h488 q490 => ?_)
            obtain ⟨rfl, K485, P486, LN487⟩ := q490
            have f491 := f97.keep K485 (allS ge_b84 (allS gr all0))
            have f492 := f98.keep K485
            show G w _ h488 2 6 96 #[.val (.int p0), .val (.int p1), .val (.int p2), .val (.int p3), .val (.int p4), .val (.int n), .val (.int (3 : Int32)), .val (.int (1 : Int32)), .val (.int (1 : Int32)), .val (.int (1 : Int32)), .val (.ref b84), .unset] []
            refine g_iload C (pc' := 98) at_96 rfl rfl ?_
            refine g_iconst C (pc' := 99) (v := (1 : Int32)) at_98 (by decide) rfl ?_
            refine g_icN C (pc' := 102) at_99 rfl (by decide) rfl ?_
            refine g_aload C (pc' := 104) at_102 rfl rfl rfl ?_
            refine g_iconst C (pc' := 105) (v := (1 : Int32)) at_104 (by decide) rfl ?_
            refine g_iload C (pc' := 107) at_105 rfl rfl ?_
            refine g_iloadN C (pc' := 108) at_107 rfl rfl ?_
            refine g_aload C (pc' := 110) at_108 rfl rfl rfl ?_
            refine g_virtual C (pc' := 113) (k' := 2) (n' := 6) (argsL := []) (rest := [(.int p3), (.int (1 : Int32)), (.int (1 : Int32)), (.ref b84)]) (wd hw 23 rfl) (wd hw 24 rfl) (nfSel (wd hw 26 rfl)) (wd hw 26 rfl) (wd hw 25 rfl) (wd hw 2 rfl) (wd hw 27 rfl) (by decide) at_110 pd_3 rfl rfl rfl f492 (retry l Z a0 hw n0 h488 f491 s_ZERO H b84 r (-1 : Int32) P486) (Nat.le_of_ble_eq_true rfl) (Nat.le_of_ble_eq_true rfl) (Nat.le_of_ble_eq_true rfl) (Nat.le_of_ble_eq_true rfl) rfl rfl rfl (fun v494 h493 q495 => ?_)
            obtain ⟨rfl, eh493⟩ := q495
            subst h493
            show G w _ h488 2 6 113 #[.val (.int p0), .val (.int p1), .val (.int p2), .val (.int p3), .val (.int p4), .val (.int n), .val (.int (3 : Int32)), .val (.int (1 : Int32)), .val (.int (1 : Int32)), .val (.int (1 : Int32)), .val (.ref b84), .unset] [(.ref s_ZERO), (.int p3), (.int (1 : Int32)), (.int (1 : Int32)), (.ref b84)]
            refine g_virtual C (pc' := 116) (k' := 2) (n' := 6) (argsL := [(.int (1 : Int32)), (.int (1 : Int32)), (.int p3), (.ref s_ZERO)]) (rest := []) (wd hw 28 rfl) (wd hw 29 rfl) (nfSel (wd hw 31 rfl)) (wd hw 31 rfl) (wd hw 30 rfl) (wd hw 2 rfl) (wd hw 32 rfl) (by decide) at_113 pd_4 rfl rfl rfl f492 (rec1 l Z a0 hw n0 h488 f491 s_ZERO H b84 r ge_b84 gr nar (-1 : Int32) (1 : Int32) p3 n (by decide) (own_lt hm2 (by decide)) P486 LN487) (Nat.le_of_ble_eq_true rfl) (Nat.le_of_ble_eq_true rfl) (Nat.le_of_ble_eq_true rfl) (Nat.le_of_ble_eq_true rfl) rfl rfl rfl (fun v500 h499 q501 => ?_)
            obtain ⟨rfl, K496, P497, LN498⟩ := q501
            have f502 := f491.keep K496 (allS ge_b84 (allS gr all0))
            have f503 := f492.keep K496
            show G w _ h499 2 6 116 #[.val (.int p0), .val (.int p1), .val (.int p2), .val (.int p3), .val (.int p4), .val (.int n), .val (.int (3 : Int32)), .val (.int (1 : Int32)), .val (.int (1 : Int32)), .val (.int (1 : Int32)), .val (.ref b84), .unset] []
            refine g_iload C (pc' := 118) at_116 rfl rfl ?_
            refine g_iconst C (pc' := 119) (v := (2 : Int32)) at_118 (by decide) rfl ?_
            refine g_icN C (pc' := 122) at_119 rfl (by decide) rfl ?_
            refine g_aload C (pc' := 124) at_122 rfl rfl rfl ?_
            refine g_iconst C (pc' := 125) (v := (2 : Int32)) at_124 (by decide) rfl ?_
            refine g_iload C (pc' := 127) at_125 rfl rfl ?_
            refine g_iload C (pc' := 129) at_127 rfl rfl ?_
            refine g_aload C (pc' := 131) at_129 rfl rfl rfl ?_
            refine g_virtual C (pc' := 134) (k' := 2) (n' := 6) (argsL := []) (rest := [(.int p4), (.int (1 : Int32)), (.int (2 : Int32)), (.ref b84)]) (wd hw 23 rfl) (wd hw 24 rfl) (nfSel (wd hw 26 rfl)) (wd hw 26 rfl) (wd hw 25 rfl) (wd hw 2 rfl) (wd hw 27 rfl) (by decide) at_131 pd_3 rfl rfl rfl f503 (retry l Z a0 hw n0 h499 f502 s_ZERO H b84 r (-1 : Int32) P497) (Nat.le_of_ble_eq_true rfl) (Nat.le_of_ble_eq_true rfl) (Nat.le_of_ble_eq_true rfl) (Nat.le_of_ble_eq_true rfl) rfl rfl rfl (fun v505 h504 q506 => ?_)
            obtain ⟨rfl, eh504⟩ := q506
            subst h504
            show G w _ h499 2 6 134 #[.val (.int p0), .val (.int p1), .val (.int p2), .val (.int p3), .val (.int p4), .val (.int n), .val (.int (3 : Int32)), .val (.int (1 : Int32)), .val (.int (1 : Int32)), .val (.int (1 : Int32)), .val (.ref b84), .unset] [(.ref s_ZERO), (.int p4), (.int (1 : Int32)), (.int (2 : Int32)), (.ref b84)]
            refine g_virtual C (pc' := 137) (k' := 2) (n' := 6) (argsL := [(.int (2 : Int32)), (.int (1 : Int32)), (.int p4), (.ref s_ZERO)]) (rest := []) (wd hw 28 rfl) (wd hw 29 rfl) (nfSel (wd hw 31 rfl)) (wd hw 31 rfl) (wd hw 30 rfl) (wd hw 2 rfl) (wd hw 32 rfl) (by decide) at_134 pd_4 rfl rfl rfl f503 (rec1 l Z a0 hw n0 h499 f502 s_ZERO H b84 r ge_b84 gr nar (-1 : Int32) (2 : Int32) p4 n (by decide) (own_lt hm2 (by decide)) P497 LN498) (Nat.le_of_ble_eq_true rfl) (Nat.le_of_ble_eq_true rfl) (Nat.le_of_ble_eq_true rfl) (Nat.le_of_ble_eq_true rfl) rfl rfl rfl (fun v511 h510 q512 => ?_)
            obtain ⟨rfl, K507, P508, LN509⟩ := q512
            have f513 := f502.keep K507 (allS ge_b84 (allS gr all0))
            have f514 := f503.keep K507
            show G w _ h510 2 6 137 #[.val (.int p0), .val (.int p1), .val (.int p2), .val (.int p3), .val (.int p4), .val (.int n), .val (.int (3 : Int32)), .val (.int (1 : Int32)), .val (.int (1 : Int32)), .val (.int (1 : Int32)), .val (.ref b84), .unset] []
            refine g_iload C (pc' := 139) at_137 rfl rfl ?_
            refine g_ifN C (pc' := 142) at_139 rfl (by decide) rfl ?_
            refine g_iload C (pc' := 144) at_142 rfl rfl ?_
            refine g_ifN C (pc' := 147) at_144 rfl (by decide) rfl ?_
            refine g_iload C (pc' := 149) at_147 rfl rfl ?_
            refine g_iconst C (pc' := 150) (v := (1 : Int32)) at_149 (by decide) rfl ?_
            refine g_icN C (pc' := 153) at_150 rfl (by decide) rfl ?_
            refine g_iload C (pc' := 155) at_153 rfl rfl ?_
            refine g_ifN C (pc' := 158) at_155 rfl (by decide) rfl ?_
            refine g_iload C (pc' := 160) at_158 rfl rfl ?_
            refine g_iconst C (pc' := 161) (v := (2 : Int32)) at_160 (by decide) rfl ?_
            refine g_icN C (pc' := 164) at_161 rfl (by decide) rfl ?_
            refine g_iload C (pc' := 166) at_164 rfl rfl ?_
            refine g_ifY C (pc' := 173) at_166 rfl (by decide) (by decide) rfl ?_
            refine g_iconst C (pc' := 174) (v := (0 : Int32)) at_173 (by decide) rfl ?_
            refine g_istore C (pc' := 176) (Ls' := #[.val (.int p0), .val (.int p1), .val (.int p2), .val (.int p3), .val (.int p4), .val (.int n), .val (.int (3 : Int32)), .val (.int (1 : Int32)), .val (.int (1 : Int32)), .val (.int (1 : Int32)), .val (.ref b84), .val (.int (0 : Int32))]) at_174 rfl rfl rfl ?_
            refine g_aload C (pc' := 178) at_176 rfl rfl rfl ?_
            refine g_virtual C (pc' := 181) (k' := 2) (n' := 6) (argsL := []) (rest := []) (wd hw 18 rfl) (wd hw 19 rfl) (nfSel (wd hw 21 rfl)) (wd hw 21 rfl) (wd hw 20 rfl) (wd hw 2 rfl) (wd hw 22 rfl) (by decide) at_178 pd_2 rfl rfl rfl f514 (vroom_1 l Z a0 hw n0 h510 f513 s_ZERO H b84 (.ref r) (.ref s_ZERO) (-1 : Int32) (by decide) P508) (Nat.le_of_ble_eq_true rfl) (Nat.le_of_ble_eq_true rfl) (Nat.le_of_ble_eq_true rfl) (Nat.le_of_ble_eq_true rfl) rfl rfl rfl (fun v516 h515 q517 => ?_)
            obtain ⟨rfl, eh515⟩ := q517
            subst h515
            show G w _ h510 2 6 181 #[.val (.int p0), .val (.int p1), .val (.int p2), .val (.int p3), .val (.int p4), .val (.int n), .val (.int (3 : Int32)), .val (.int (1 : Int32)), .val (.int (1 : Int32)), .val (.int (1 : Int32)), .val (.ref b84), .val (.int (0 : Int32))] [(.int (1 : Int32))]
            refine g_iload C (pc' := 183) at_181 rfl rfl ?_
            refine g_ifN C (pc' := 186) at_183 rfl (by decide) rfl ?_
            refine g_iconst C (pc' := 187) (v := (1 : Int32)) at_186 (by decide) rfl ?_
            refine g_goto C (pc' := 191) at_187 (by decide) rfl ?_
            refine g_icN C (pc' := 194) at_191 rfl (by decide) rfl ?_
            refine g_iconst C (pc' := 195) (v := (1 : Int32)) at_194 (by decide) rfl ?_
            refine g_goto C (pc' := 199) at_195 (by decide) rfl ?_
            exact g_zreturn C at_199 rfl rfl (Nat.le_of_ble_eq_true rfl) (Nat.le_of_ble_eq_true rfl) (rfl)
  have J27 : ∀ (n m : Int32) (hn1 : (1 : Int32) ≤ n) (hn2 : n ≤ 3) (hm1 : (0 : Int32) ≤ m) (hm2 : ¬ n < m), G w LQ h 0 0 27 #[.val (.int p0), .val (.int p1), .val (.int p2), .val (.int p3), .val (.int p4), .val (.int n), .val (.int m), .unset, .unset, .unset, .unset, .unset] [] := by
    intro n m hn1 hn2 hm1 hm2
    refine g_iloadN C (pc' := 28) at_27 rfl rfl ?_
    refine g_iconst C (pc' := 29) (v := (1 : Int32)) at_28 (by decide) rfl ?_
    refine g_iand C (pc' := 30) at_29 rfl rfl ?_
    refine g_ifB C (pcT := 37) (pc' := 33) at_30 rfl (by decide) rfl rfl (fun hc518 => ?_) (fun hc518 => ?_)
    · replace hc518 : (p1 &&& (1 : Int32)) = (0 : Int32) := hc518
      refine g_iconst C (pc' := 38) (v := (0 : Int32)) at_37 (by decide) rfl ?_
      refine g_istore C (pc' := 40) (Ls' := #[.val (.int p0), .val (.int p1), .val (.int p2), .val (.int p3), .val (.int p4), .val (.int n), .val (.int m), .val (.int (0 : Int32)), .unset, .unset, .unset, .unset]) at_38 rfl rfl rfl ?_
      refine g_iloadN C (pc' := 41) at_40 rfl rfl ?_
      refine g_iconst C (pc' := 42) (v := (2 : Int32)) at_41 (by decide) rfl ?_
      refine g_iand C (pc' := 43) at_42 rfl rfl ?_
      refine g_ifB C (pcT := 50) (pc' := 46) at_43 rfl (by decide) rfl rfl (fun hc519 => ?_) (fun hc519 => ?_)
      · replace hc519 : (p1 &&& (2 : Int32)) = (0 : Int32) := hc519
        refine g_iconst C (pc' := 51) (v := (0 : Int32)) at_50 (by decide) rfl ?_
        refine g_istore C (pc' := 53) (Ls' := #[.val (.int p0), .val (.int p1), .val (.int p2), .val (.int p3), .val (.int p4), .val (.int n), .val (.int m), .val (.int (0 : Int32)), .val (.int (0 : Int32)), .unset, .unset, .unset]) at_51 rfl rfl rfl ?_
        refine g_iloadN C (pc' := 54) at_53 rfl rfl ?_
        refine g_iconst C (pc' := 55) (v := (4 : Int32)) at_54 (by decide) rfl ?_
        refine g_iand C (pc' := 56) at_55 rfl rfl ?_
        refine g_ifB C (pcT := 63) (pc' := 59) at_56 rfl (by decide) rfl rfl (fun hc520 => ?_) (fun hc520 => ?_)
        · replace hc520 : (p1 &&& (4 : Int32)) = (0 : Int32) := hc520
          refine g_iconst C (pc' := 64) (v := (0 : Int32)) at_63 (by decide) rfl ?_
          refine g_istore C (pc' := 66) (Ls' := #[.val (.int p0), .val (.int p1), .val (.int p2), .val (.int p3), .val (.int p4), .val (.int n), .val (.int m), .val (.int (0 : Int32)), .val (.int (0 : Int32)), .val (.int (0 : Int32)), .unset, .unset]) at_64 rfl rfl rfl ?_
          exact J66 n m (0 : Int32) (0 : Int32) (0 : Int32) hn1 hn2 hm1 hm2 (Or.inl rfl) (Or.inl rfl) (Or.inl rfl)
        · replace hc520 : ¬ (p1 &&& (4 : Int32)) = (0 : Int32) := hc520
          refine g_iconst C (pc' := 60) (v := (1 : Int32)) at_59 (by decide) rfl ?_
          refine g_goto C (pc' := 64) at_60 (by decide) rfl ?_
          refine g_istore C (pc' := 66) (Ls' := #[.val (.int p0), .val (.int p1), .val (.int p2), .val (.int p3), .val (.int p4), .val (.int n), .val (.int m), .val (.int (0 : Int32)), .val (.int (0 : Int32)), .val (.int (1 : Int32)), .unset, .unset]) at_64 rfl rfl rfl ?_
          exact J66 n m (0 : Int32) (0 : Int32) (1 : Int32) hn1 hn2 hm1 hm2 (Or.inl rfl) (Or.inl rfl) (Or.inr rfl)
      · replace hc519 : ¬ (p1 &&& (2 : Int32)) = (0 : Int32) := hc519
        refine g_iconst C (pc' := 47) (v := (1 : Int32)) at_46 (by decide) rfl ?_
        refine g_goto C (pc' := 51) at_47 (by decide) rfl ?_
        refine g_istore C (pc' := 53) (Ls' := #[.val (.int p0), .val (.int p1), .val (.int p2), .val (.int p3), .val (.int p4), .val (.int n), .val (.int m), .val (.int (0 : Int32)), .val (.int (1 : Int32)), .unset, .unset, .unset]) at_51 rfl rfl rfl ?_
        refine g_iloadN C (pc' := 54) at_53 rfl rfl ?_
        refine g_iconst C (pc' := 55) (v := (4 : Int32)) at_54 (by decide) rfl ?_
        refine g_iand C (pc' := 56) at_55 rfl rfl ?_
        refine g_ifB C (pcT := 63) (pc' := 59) at_56 rfl (by decide) rfl rfl (fun hc521 => ?_) (fun hc521 => ?_)
        · replace hc521 : (p1 &&& (4 : Int32)) = (0 : Int32) := hc521
          refine g_iconst C (pc' := 64) (v := (0 : Int32)) at_63 (by decide) rfl ?_
          refine g_istore C (pc' := 66) (Ls' := #[.val (.int p0), .val (.int p1), .val (.int p2), .val (.int p3), .val (.int p4), .val (.int n), .val (.int m), .val (.int (0 : Int32)), .val (.int (1 : Int32)), .val (.int (0 : Int32)), .unset, .unset]) at_64 rfl rfl rfl ?_
          exact J66 n m (0 : Int32) (1 : Int32) (0 : Int32) hn1 hn2 hm1 hm2 (Or.inl rfl) (Or.inr rfl) (Or.inl rfl)
        · replace hc521 : ¬ (p1 &&& (4 : Int32)) = (0 : Int32) := hc521
          refine g_iconst C (pc' := 60) (v := (1 : Int32)) at_59 (by decide) rfl ?_
          refine g_goto C (pc' := 64) at_60 (by decide) rfl ?_
          refine g_istore C (pc' := 66) (Ls' := #[.val (.int p0), .val (.int p1), .val (.int p2), .val (.int p3), .val (.int p4), .val (.int n), .val (.int m), .val (.int (0 : Int32)), .val (.int (1 : Int32)), .val (.int (1 : Int32)), .unset, .unset]) at_64 rfl rfl rfl ?_
          exact J66 n m (0 : Int32) (1 : Int32) (1 : Int32) hn1 hn2 hm1 hm2 (Or.inl rfl) (Or.inr rfl) (Or.inr rfl)
    · replace hc518 : ¬ (p1 &&& (1 : Int32)) = (0 : Int32) := hc518
      refine g_iconst C (pc' := 34) (v := (1 : Int32)) at_33 (by decide) rfl ?_
      refine g_goto C (pc' := 38) at_34 (by decide) rfl ?_
      refine g_istore C (pc' := 40) (Ls' := #[.val (.int p0), .val (.int p1), .val (.int p2), .val (.int p3), .val (.int p4), .val (.int n), .val (.int m), .val (.int (1 : Int32)), .unset, .unset, .unset, .unset]) at_38 rfl rfl rfl ?_
      refine g_iloadN C (pc' := 41) at_40 rfl rfl ?_
      refine g_iconst C (pc' := 42) (v := (2 : Int32)) at_41 (by decide) rfl ?_
      refine g_iand C (pc' := 43) at_42 rfl rfl ?_
      refine g_ifB C (pcT := 50) (pc' := 46) at_43 rfl (by decide) rfl rfl (fun hc522 => ?_) (fun hc522 => ?_)
      · replace hc522 : (p1 &&& (2 : Int32)) = (0 : Int32) := hc522
        refine g_iconst C (pc' := 51) (v := (0 : Int32)) at_50 (by decide) rfl ?_
        refine g_istore C (pc' := 53) (Ls' := #[.val (.int p0), .val (.int p1), .val (.int p2), .val (.int p3), .val (.int p4), .val (.int n), .val (.int m), .val (.int (1 : Int32)), .val (.int (0 : Int32)), .unset, .unset, .unset]) at_51 rfl rfl rfl ?_
        refine g_iloadN C (pc' := 54) at_53 rfl rfl ?_
        refine g_iconst C (pc' := 55) (v := (4 : Int32)) at_54 (by decide) rfl ?_
        refine g_iand C (pc' := 56) at_55 rfl rfl ?_
        refine g_ifB C (pcT := 63) (pc' := 59) at_56 rfl (by decide) rfl rfl (fun hc523 => ?_) (fun hc523 => ?_)
        · replace hc523 : (p1 &&& (4 : Int32)) = (0 : Int32) := hc523
          refine g_iconst C (pc' := 64) (v := (0 : Int32)) at_63 (by decide) rfl ?_
          refine g_istore C (pc' := 66) (Ls' := #[.val (.int p0), .val (.int p1), .val (.int p2), .val (.int p3), .val (.int p4), .val (.int n), .val (.int m), .val (.int (1 : Int32)), .val (.int (0 : Int32)), .val (.int (0 : Int32)), .unset, .unset]) at_64 rfl rfl rfl ?_
          exact J66 n m (1 : Int32) (0 : Int32) (0 : Int32) hn1 hn2 hm1 hm2 (Or.inr rfl) (Or.inl rfl) (Or.inl rfl)
        · replace hc523 : ¬ (p1 &&& (4 : Int32)) = (0 : Int32) := hc523
          refine g_iconst C (pc' := 60) (v := (1 : Int32)) at_59 (by decide) rfl ?_
          refine g_goto C (pc' := 64) at_60 (by decide) rfl ?_
          refine g_istore C (pc' := 66) (Ls' := #[.val (.int p0), .val (.int p1), .val (.int p2), .val (.int p3), .val (.int p4), .val (.int n), .val (.int m), .val (.int (1 : Int32)), .val (.int (0 : Int32)), .val (.int (1 : Int32)), .unset, .unset]) at_64 rfl rfl rfl ?_
          exact J66 n m (1 : Int32) (0 : Int32) (1 : Int32) hn1 hn2 hm1 hm2 (Or.inr rfl) (Or.inl rfl) (Or.inr rfl)
      · replace hc522 : ¬ (p1 &&& (2 : Int32)) = (0 : Int32) := hc522
        refine g_iconst C (pc' := 47) (v := (1 : Int32)) at_46 (by decide) rfl ?_
        refine g_goto C (pc' := 51) at_47 (by decide) rfl ?_
        refine g_istore C (pc' := 53) (Ls' := #[.val (.int p0), .val (.int p1), .val (.int p2), .val (.int p3), .val (.int p4), .val (.int n), .val (.int m), .val (.int (1 : Int32)), .val (.int (1 : Int32)), .unset, .unset, .unset]) at_51 rfl rfl rfl ?_
        refine g_iloadN C (pc' := 54) at_53 rfl rfl ?_
        refine g_iconst C (pc' := 55) (v := (4 : Int32)) at_54 (by decide) rfl ?_
        refine g_iand C (pc' := 56) at_55 rfl rfl ?_
        refine g_ifB C (pcT := 63) (pc' := 59) at_56 rfl (by decide) rfl rfl (fun hc524 => ?_) (fun hc524 => ?_)
        · replace hc524 : (p1 &&& (4 : Int32)) = (0 : Int32) := hc524
          refine g_iconst C (pc' := 64) (v := (0 : Int32)) at_63 (by decide) rfl ?_
          refine g_istore C (pc' := 66) (Ls' := #[.val (.int p0), .val (.int p1), .val (.int p2), .val (.int p3), .val (.int p4), .val (.int n), .val (.int m), .val (.int (1 : Int32)), .val (.int (1 : Int32)), .val (.int (0 : Int32)), .unset, .unset]) at_64 rfl rfl rfl ?_
          exact J66 n m (1 : Int32) (1 : Int32) (0 : Int32) hn1 hn2 hm1 hm2 (Or.inr rfl) (Or.inr rfl) (Or.inl rfl)
        · replace hc524 : ¬ (p1 &&& (4 : Int32)) = (0 : Int32) := hc524
          refine g_iconst C (pc' := 60) (v := (1 : Int32)) at_59 (by decide) rfl ?_
          refine g_goto C (pc' := 64) at_60 (by decide) rfl ?_
          refine g_istore C (pc' := 66) (Ls' := #[.val (.int p0), .val (.int p1), .val (.int p2), .val (.int p3), .val (.int p4), .val (.int n), .val (.int m), .val (.int (1 : Int32)), .val (.int (1 : Int32)), .val (.int (1 : Int32)), .unset, .unset]) at_64 rfl rfl rfl ?_
          exact J66 n m (1 : Int32) (1 : Int32) (1 : Int32) hn1 hn2 hm1 hm2 (Or.inr rfl) (Or.inr rfl) (Or.inr rfl)
  refine g_iconst C (pc' := 1) (v := (1 : Int32)) at_0 (by decide) rfl ?_
  refine g_iloadN C (pc' := 2) at_1 rfl rfl ?_
  refine g_iconst C (pc' := 3) (v := (3 : Int32)) at_2 (by decide) rfl ?_
  refine g_iand C (pc' := 4) at_3 rfl rfl ?_
  refine g_iconst C (pc' := 5) (v := (3 : Int32)) at_4 (by decide) rfl ?_
  refine g_irem C (pc' := 6) at_5 rfl (by decide) rfl ?_
  refine g_iadd C (pc' := 7) at_6 rfl rfl ?_
  refine g_istore C (pc' := 9) (Ls' := #[.val (.int p0), .val (.int p1), .val (.int p2), .val (.int p3), .val (.int p4), .val (.int ((1 : Int32) + ((p0 &&& (3 : Int32)) % (3 : Int32)))), .unset, .unset, .unset, .unset, .unset, .unset]) at_7 rfl rfl rfl ?_
  refine g_iloadN C (pc' := 10) at_9 rfl rfl ?_
  refine g_iconst C (pc' := 11) (v := (2 : Int32)) at_10 (by decide) rfl ?_
  refine g_iushr C (pc' := 12) at_11 rfl rfl ?_
  refine g_iconst C (pc' := 13) (v := (3 : Int32)) at_12 (by decide) rfl ?_
  refine g_iand C (pc' := 14) at_13 rfl rfl ?_
  refine g_istore C (pc' := 16) (Ls' := #[.val (.int p0), .val (.int p1), .val (.int p2), .val (.int p3), .val (.int p4), .val (.int ((1 : Int32) + ((p0 &&& (3 : Int32)) % (3 : Int32)))), .val (.int (((p0.toUInt32 >>> ((2 : Int32) &&& 31).toUInt32).toInt32) &&& (3 : Int32))), .unset, .unset, .unset, .unset, .unset]) at_14 rfl rfl rfl ?_
  refine g_iload C (pc' := 18) at_16 rfl rfl ?_
  refine g_iload C (pc' := 20) at_18 rfl rfl ?_
  refine g_icB C (pcT := 27) (pc' := 23) at_20 rfl (by decide) rfl rfl (fun hc525 => ?_) (fun hc525 => ?_)
  · replace hc525 : ¬ ((1 : Int32) + ((p0 &&& (3 : Int32)) % (3 : Int32))) < (((p0.toUInt32 >>> ((2 : Int32) &&& 31).toUInt32).toInt32) &&& (3 : Int32)) := hc525
    exact J27 _ _ (own_n p0).1 (own_n p0).2 (own_m p0) hc525
  · replace hc525 : ((1 : Int32) + ((p0 &&& (3 : Int32)) % (3 : Int32))) < (((p0.toUInt32 >>> ((2 : Int32) &&& 31).toUInt32).toInt32) &&& (3 : Int32)) := Decidable.not_not.mp hc525
    refine g_iload C (pc' := 25) at_23 rfl rfl ?_
    refine g_istore C (pc' := 27) (Ls' := #[.val (.int p0), .val (.int p1), .val (.int p2), .val (.int p3), .val (.int p4), .val (.int ((1 : Int32) + ((p0 &&& (3 : Int32)) % (3 : Int32)))), .val (.int ((1 : Int32) + ((p0 &&& (3 : Int32)) % (3 : Int32)))), .unset, .unset, .unset, .unset, .unset]) at_25 rfl rfl rfl ?_
    exact J27 _ _ (own_n p0).1 (own_n p0).2 (own_n0 (own_n p0).1) own_irr
set_option maxRecDepth 65536 in
set_option maxHeartbeats 40000000 in
theorem comes_1 {Post : Tables → Env → Array Value → State → Outcome → State → Prop} (hpost : ∀ tb e args s v u, (limb_1_1.after args s (.returned v) u = true ∧ limb_1_2.after args s (.returned v) u = true ∧ True) → FrameEnd s (.returned v) u (Jvm.fieldLocs frame_1_writes args s ++ Jvm.arrayLocs frame_1_arrays args s ++ Jvm.staticLocs frame_1_statics s) 16 128 → Post tb e args s (.returned v) u) :
    ArmFor flags0 classFile x code maxLocals ret World_1 tables_1 room_1 Calls_1 rest_1 Pre_1 Post := by
  intro l hfl _ _ p e ha hc hk s m args below hf hA hF happ hP
  obtain ⟨hcalls, hrest, hpre⟩ := hP
  obtain ⟨-, -, -, hnamed, -, -, -, hat⟩ := (Spec.applies_iff hf).mp happ
  obtain ⟨hg, hn⟩ := and_e (Cond.before_iff.mp (show (Jvm.Cond.and given_1 narrow_1).before args s = true from hpre))
  obtain ⟨hga, hgb⟩ := and_e hg
  obtain ⟨hgba, hgbb⟩ := and_e hgb
  obtain ⟨hgbba, hgbbb⟩ := and_e hgbb
  obtain ⟨hgbbba, hgbbbb⟩ := and_e hgbbb
  obtain ⟨hgbbbba, hgbbbbb⟩ := and_e hgbbbb
  obtain ⟨w0, w1, w2, w3, w4, rfl⟩ : ∃ w0 w1 w2 w3 w4 : Value, args = #[w0, w1, w2, w3, w4] := by
    have hs : args.size = 5 := by simpa [Cond.value, given_1] using hga
    obtain ⟨L⟩ := args
    match L, hs with
    | [w0, w1, w2, w3, w4], _ => exact ⟨w0, w1, w2, w3, w4, rfl⟩
  have hw := fun d (hd : d ∈ tables_1) => atoms_spec (ws := Jvm.Cond.code x code maxLocals ret :: tables_1) hat d (List.mem_cons_of_mem _ hd)
  have hfit : Fit s := fun {y c} hc i hi => by
    obtain ⟨ha, rfl⟩ := Array.getElem?_eq_some_iff.mp hc
    have q := List.all_eq_true.mp ((Array.all_eq_true_iff_forall_mem.mp hF) _ (Array.getElem_mem ha)) i (List.mem_range.mpr hi)
    simpa [Array.getElem?_eq_getElem hi] using q
  obtain ⟨hsets, hown0⟩ := atoms_of _ (rest_1_c_eq ▸ (show rest_1_c.before _ s = true from hrest))
  obtain ⟨i0, ei0⟩ := is_v hgba
  obtain rfl : w0 = (.int i0) := Option.some.inj ei0
  obtain ⟨i1, ei1⟩ := is_v hgbba
  obtain rfl : w1 = (.int i1) := Option.some.inj ei1
  obtain ⟨i2, ei2⟩ := is_v hgbbba
  obtain rfl : w2 = (.int i2) := Option.some.inj ei2
  obtain ⟨i3, ei3⟩ := is_v hgbbbba
  obtain rfl : w3 = (.int i3) := Option.some.inj ei3
  obtain ⟨i4, ei4⟩ := is_v hgbbbbb
  obtain rfl : w4 = (.int i4) := Option.some.inj ei4
  obtain ⟨s_ZERO, ev_ZERO⟩ := exa_v (Cond.before_iff.mp (hsets _ (List.mem_of_getElem? (i := 2) rfl)))
  have S_ZERO := Sta.start ev_ZERO (Or.inl (hsets _ (List.mem_of_getElem? (i := 1) rfl)))
  have E_ZERO := Exa.start ev_ZERO (Cond.before_iff.mp (hsets _ (List.mem_of_getElem? (i := 2) rfl)))
  have F_ZERO_seconds := own_fldLong ev_ZERO (Cond.before_iff.mp (hsets _ (List.mem_of_getElem? (i := 3) rfl)))
  have F_ZERO_nanos := own_fldInt ev_ZERO (Cond.before_iff.mp (hsets _ (List.mem_of_getElem? (i := 4) rfl)))
  have H : En s s_ZERO := ⟨S_ZERO, E_ZERO, F_ZERO_seconds, F_ZERO_nanos⟩
  obtain ⟨n, o, h1, h2, h3, _, L, rfl, ⟨rfl, N⟩, hq⟩ := rm0 l s _ hw s.heap.size s.heap (Old.start s) s_ZERO H i0 i1 i2 i3 i4  tables_1 p e ha hc hk s m _ below hf ((Spec.applies_iff_loose hf).mp happ).1 ⟨rfl, State.Warmed39.refl s, rfl⟩ trivial
  refine ⟨n, _, h1, h2, h3, hpost _ _ _ _ _ _ ⟨Cond.after_iff.mpr rfl, Cond.after_iff.mpr (eq_i res_at (Term.int_eval (1)) rfl), trivial⟩ ⟨hq.1, hq.2.1, (hq.2.2.sift fun y hy => Or.inr (N y hy)).mono (by decide) (by decide)⟩⟩
theorem main_1_1 : Claimed_1_1 := comes_1 fun _ _ _ _ _ _ h hF => ⟨h.1, hF⟩
theorem main_1_2 : Claimed_1_2 := comes_1 fun _ _ _ _ _ _ h hF => ⟨h.2.1, hF⟩
end Jvm.Pilot.@@N@@
namespace Jvm.Pilot.@@N@@
open Jvm Jvm.ClassFile Sem Op Lib Jvm.Free Jvm.Stand Jvm.Pilot.@@N@@.Jvm.D
/-! MADE BY PROGRAM (witnessworld.py) out of the Statement's table words and the real class files: 16 classes; the members and pool entries that the words name. The judged class is class 1, her method 1. -/
namespace start1
open Jvm.ClassFile
def u (s : String) : CpInfo := .utf8 (stringToUtf16 s)
/-- a pool by its gaps: so many unusable entries, then the entry; so many at the end -/
def gap : Nat → List CpInfo → List CpInfo
  | 0, r => r
  | n + 1, r => .unusable :: gap n r
def poolList (es : List (Nat × CpInfo)) (last : Nat) : List CpInfo := es.foldr (fun e r => gap e.1 (e.2 :: r)) (gap last [])
def pool (es : List (Nat × CpInfo)) (last : Nat) : Array CpInfo := ⟨poolList es last⟩
def fileOf (pool : Array CpInfo) (this : Nat) (attrs : Array Attribute := #[]) (ms : Array MethodInfo := #[]) (fl : Nat := 33) (sup : Nat := 0) (ifs : Array Nat := #[]) (fds : Array FieldInfo := #[]) : ClassFile where
  minorVersion := 0
  majorVersion := 65
  constantPool := pool
  accessFlags := fl
  thisClass := this
  superClass := sup
  interfaces := ifs
  fields := fds
  methods := ms
  attributes := attrs
def plain (name : String) (sup : Option ClassId) : Class where
  name := name
  kind := .ordinary
  loader := none
  accessFlags := 33
  super := sup
  interfaces := #[]
  cf := none
  fields := #[]
  methods := #[]
  instanceTypes := #[]
  staticTypes := #[]
  resolved := #[]
  callSites := []
  init := .initialized
  statics := none
  mirror := none

def pool0 : Array CpInfo := pool [(5, u "<init>"), (0, u "()V"), (1, .class_ 10), (1, u "java/lang/Object")] 113

def k0c0 : Code := { maxStack := 0, maxLocals := 1, code := object_method_1_code, exceptionTable := #[], attributes := #[] }
def k0m0 : Method := { name := "<init>", desc := "()V", sig := { parameters := [], returnType := none }, accessFlags := 1, code := some k0c0 }
/-- java/lang/Object -/
def k0 : Class := { plain "java/lang/Object" none with
  accessFlags := 33
  interfaces := #[]
  cf := some (fileOf pool0 8 #[] #[{ accessFlags := 1, nameIndex := 5, descriptorIndex := 6, attributes := #[] }] 33 0 #[] #[])
  fields := #[]
  methods := #[k0m0]
  instanceTypes := #[]
  staticTypes := #[]
  resolved := Array.replicate 124 none
  statics := none }

def pool1 : Array CpInfo := pool [(2, .class_ 4), (1, u "java/lang/Object"), (0, u "<init>"), (0, u "()V"), (0, .class_ 8), (0, u "com/example/request_throttle/requestthrottle/Verdict"), (0, .methodref 7 10), (0, .nameAndType 5 11), (0, u "(I)V"), (0, .methodref 7 13), (0, .nameAndType 14 15), (0, u "retryAfter"), (0, u "()Ljava/time/Duration;"), (0, .methodref 7 17), (0, .nameAndType 18 19), (0, u "record"), (0, u "(IZILjava/time/Duration;)V"), (0, .methodref 7 21), (0, .nameAndType 22 23), (0, u "room"), (0, u "()Z"), (0, .class_ 25), (0, u "com/example/request_throttle/requestthrottle/VerdictRoomPinLaw"), (2, u "law"), (0, u "(IIIII)Z")] 3

def k1m0 : Method := { name := "<init>", desc := "()V", sig := { parameters := [], returnType := none }, accessFlags := 1, code := none }
def k1c1 : Code := { maxStack := 5, maxLocals := 12, code := code, exceptionTable := #[], attributes := #[] }
def k1m1 : Method := { name := "law", desc := "(IIIII)Z", sig := { parameters := [.int, .int, .int, .int, .int], returnType := some .boolean }, accessFlags := 9, code := some k1c1 }
/-- com/example/request_throttle/requestthrottle/VerdictRoomPinLaw -/
def k1 : Class := { plain "com/example/request_throttle/requestthrottle/VerdictRoomPinLaw" (some 0) with
  accessFlags := 49
  interfaces := #[]
  cf := some (fileOf pool1 24 #[] #[{ accessFlags := 1, nameIndex := 5, descriptorIndex := 6, attributes := #[] }, { accessFlags := 9, nameIndex := 28, descriptorIndex := 29, attributes := #[] }] 49 2 #[] #[])
  fields := #[]
  methods := #[k1m0, k1m1]
  instanceTypes := #[]
  staticTypes := #[]
  resolved := Array.replicate 33 none
  statics := none }

def pool2 : Array CpInfo := pool [(1, .methodref 2 3), (0, .class_ 4), (0, .nameAndType 5 6), (0, u "java/lang/Object"), (0, u "<init>"), (0, u "()V"), (0, .fieldref 8 9), (0, .class_ 10), (0, .nameAndType 11 12), (0, u "com/example/request_throttle/requestthrottle/Verdict"), (0, u "_refusing"), (0, u "I"), (0, .fieldref 14 15), (0, .class_ 16), (0, .nameAndType 17 18), (0, u "java/time/Duration"), (0, u "ZERO"), (0, u "Ljava/time/Duration;"), (0, .fieldref 8 20), (0, .nameAndType 21 18), (0, u "_retryAfter"), (0, .fieldref 8 23), (0, .nameAndType 24 25), (0, u "_remaining"), (0, u "[I"), (0, .methodref 14 27), (0, .nameAndType 28 29), (0, u "compareTo"), (0, u "(Ljava/time/Duration;)I"), (0, u "(I)V"), (2, u "record"), (0, u "(IZILjava/time/Duration;)V"), (1, u "room"), (0, u "()Z"), (4, u "retryAfter"), (0, u "()Ljava/time/Duration;")] 2

def k2c0 : Code := { maxStack := 2, maxLocals := 2, code := prog_24_method_1_code, exceptionTable := #[], attributes := #[] }
def k2m0 : Method := { name := "<init>", desc := "(I)V", sig := { parameters := [.int], returnType := none }, accessFlags := 0, code := some k2c0 }
def k2c1 : Code := { maxStack := 3, maxLocals := 5, code := prog_24_method_2_code, exceptionTable := #[], attributes := #[] }
def k2m1 : Method := { name := "record", desc := "(IZILjava/time/Duration;)V", sig := { parameters := [.int, .boolean, .int, (.object "java/time/Duration")], returnType := none }, accessFlags := 0, code := some k2c1 }
def k2c2 : Code := { maxStack := 1, maxLocals := 1, code := prog_24_method_3_code, exceptionTable := #[], attributes := #[] }
def k2m2 : Method := { name := "room", desc := "()Z", sig := { parameters := [], returnType := some .boolean }, accessFlags := 0, code := some k2c2 }
def k2c3 : Code := { maxStack := 1, maxLocals := 1, code := prog_24_method_6_code, exceptionTable := #[], attributes := #[] }
def k2m3 : Method := { name := "retryAfter", desc := "()Ljava/time/Duration;", sig := { parameters := [], returnType := some (.object "java/time/Duration") }, accessFlags := 0, code := some k2c3 }
/-- com/example/request_throttle/requestthrottle/Verdict -/
def k2 : Class := { plain "com/example/request_throttle/requestthrottle/Verdict" (some 0) with
  accessFlags := 32
  interfaces := #[]
  cf := some (fileOf pool2 8 #[] #[{ accessFlags := 0, nameIndex := 5, descriptorIndex := 30, attributes := #[] }, { accessFlags := 0, nameIndex := 33, descriptorIndex := 34, attributes := #[] }, { accessFlags := 0, nameIndex := 36, descriptorIndex := 37, attributes := #[] }, { accessFlags := 0, nameIndex := 42, descriptorIndex := 43, attributes := #[] }] 32 2 #[] #[{ accessFlags := 18, nameIndex := 24, descriptorIndex := 25, attributes := #[] }, { accessFlags := 2, nameIndex := 11, descriptorIndex := 12, attributes := #[] }, { accessFlags := 2, nameIndex := 21, descriptorIndex := 18, attributes := #[] }])
  fields := #[{ name := "_remaining", type := (.array .int), accessFlags := 18, slot := 0, constantValue := 0 }, { name := "_refusing", type := .int, accessFlags := 2, slot := 1, constantValue := 0 }, { name := "_retryAfter", type := (.object "java/time/Duration"), accessFlags := 2, slot := 2, constantValue := 0 }]
  methods := #[k2m0, k2m1, k2m2, k2m3]
  instanceTypes := #[(.array .int), .int, (.object "java/time/Duration")]
  staticTypes := #[]
  resolved := Array.replicate 46 none
  statics := none }

def pool3 : Array CpInfo := pool [(1, .class_ 2), (0, u "java/time/temporal/TemporalAmount"), (0, .class_ 4), (0, u "java/lang/Object")] 11

/-- java/time/temporal/TemporalAmount -/
def k3 : Class := { plain "java/time/temporal/TemporalAmount" (some 0) with
  accessFlags := 1537
  interfaces := #[]
  cf := some (fileOf pool3 1 #[] #[] 1537 3 #[] #[])
  fields := #[]
  methods := #[]
  instanceTypes := #[]
  staticTypes := #[]
  resolved := Array.replicate 16 none
  statics := none }

def pool4 : Array CpInfo := pool [(1, .class_ 2), (0, u "java/lang/Comparable"), (0, .class_ 4), (0, u "java/lang/Object")] 7

/-- java/lang/Comparable -/
def k4 : Class := { plain "java/lang/Comparable" (some 0) with
  accessFlags := 1537
  interfaces := #[]
  cf := some (fileOf pool4 1 #[] #[] 1537 3 #[] #[])
  fields := #[]
  methods := #[]
  instanceTypes := #[]
  staticTypes := #[]
  resolved := Array.replicate 12 none
  statics := none }

def pool5 : Array CpInfo := pool [(1, .class_ 2), (0, u "java/io/Serializable"), (0, .class_ 4), (0, u "java/lang/Object")] 2

/-- java/io/Serializable -/
def k5 : Class := { plain "java/io/Serializable" (some 0) with
  accessFlags := 1537
  interfaces := #[]
  cf := some (fileOf pool5 1 #[] #[] 1537 3 #[] #[])
  fields := #[]
  methods := #[]
  instanceTypes := #[]
  staticTypes := #[]
  resolved := Array.replicate 7 none
  statics := none }

def pool6 : Array CpInfo := pool [(11, .class_ 13), (1, u "java/time/Duration"), (20, u "ZERO"), (0, u "Ljava/time/Duration;"), (13, .class_ 51), (1, u "java/time/temporal/TemporalAmount"), (27, .class_ 81), (1, u "java/time/Duration$Lazy"), (35, u "seconds"), (29, .class_ 149), (1, u "java/lang/Long"), (69, .class_ 220), (0, u "java/lang/Object"), (0, .fieldref 11 222), (0, .nameAndType 117 223), (0, u "J"), (0, .fieldref 11 225), (0, .nameAndType 226 227), (0, u "nanos"), (0, u "I"), (11, .class_ 241), (1, u "java/time/Duration$DurationUnits"), (27, .class_ 271), (1, u "java/time/Duration$1"), (91, u "BI_NANOS_PER_SECOND"), (0, u "Ljava/math/BigInteger;"), (51, .methodref 147 417), (0, .nameAndType 418 419), (0, u "compare"), (0, u "(JJ)I"), (60, u "compareTo"), (0, u "(Ljava/time/Duration;)I"), (3, .class_ 486), (0, u "java/lang/Comparable"), (0, .class_ 488), (0, u "java/io/Serializable"), (0, u "serialVersionUID")] 166

def k6c0 : Code := { maxStack := 4, maxLocals := 3, code := jdk_2316_method_66_code, exceptionTable := #[], attributes := #[] }
def k6m0 : Method := { name := "compareTo", desc := "(Ljava/time/Duration;)I", sig := { parameters := [(.object "java/time/Duration")], returnType := some .int }, accessFlags := 1, code := some k6c0 }
/-- java/time/Duration -/
def k6 : Class := { plain "java/time/Duration" (some 0) with
  accessFlags := 49
  interfaces := #[3, 4, 5]
  cf := some (fileOf pool6 11 #[.nestMembers #[269, 239, 79]] #[{ accessFlags := 1, nameIndex := 480, descriptorIndex := 481, attributes := #[] }] 49 219 #[49, 485, 487] #[{ accessFlags := 25, nameIndex := 34, descriptorIndex := 35, attributes := #[] }, { accessFlags := 26, nameIndex := 489, descriptorIndex := 223, attributes := #[] }, { accessFlags := 26, nameIndex := 363, descriptorIndex := 364, attributes := #[] }, { accessFlags := 18, nameIndex := 117, descriptorIndex := 223, attributes := #[] }, { accessFlags := 18, nameIndex := 226, descriptorIndex := 227, attributes := #[] }])
  fields := #[{ name := "ZERO", type := (.object "java/time/Duration"), accessFlags := 25, slot := 0, constantValue := 0 }, { name := "serialVersionUID", type := .long, accessFlags := 26, slot := 1, constantValue := 0 }, { name := "BI_NANOS_PER_SECOND", type := (.object "java/math/BigInteger"), accessFlags := 26, slot := 2, constantValue := 0 }, { name := "seconds", type := .long, accessFlags := 18, slot := 0, constantValue := 0 }, { name := "nanos", type := .int, accessFlags := 18, slot := 1, constantValue := 0 }]
  methods := #[k6m0]
  instanceTypes := #[.long, .int]
  staticTypes := #[(.object "java/time/Duration"), .long, (.object "java/math/BigInteger")]
  resolved := Array.replicate 656 none
  statics := some 0 }

def pool7 : Array CpInfo := pool [(2, .class_ 4), (1, u "java/lang/Object"), (0, u "<init>"), (0, u "()V"), (1, .class_ 10), (1, u "java/lang/Number"), (2, .class_ 14), (0, u "java/io/Serializable"), (0, u "serialVersionUID"), (0, u "J")] 20

def k7m0 : Method := { name := "<init>", desc := "()V", sig := { parameters := [], returnType := none }, accessFlags := 1, code := none }
/-- java/lang/Number -/
def k7 : Class := { plain "java/lang/Number" (some 0) with
  accessFlags := 1057
  interfaces := #[5]
  cf := some (fileOf pool7 8 #[] #[{ accessFlags := 1, nameIndex := 5, descriptorIndex := 6, attributes := #[] }] 1057 2 #[13] #[{ accessFlags := 26, nameIndex := 15, descriptorIndex := 16, attributes := #[] }])
  fields := #[{ name := "serialVersionUID", type := .long, accessFlags := 26, slot := 0, constantValue := 0 }]
  methods := #[k7m0]
  instanceTypes := #[]
  staticTypes := #[.long]
  resolved := Array.replicate 37 none
  statics := none }

def pool8 : Array CpInfo := pool [(1, .class_ 2), (0, u "java/lang/constant/Constable"), (0, .class_ 4), (0, u "java/lang/Object")] 6

/-- java/lang/constant/Constable -/
def k8 : Class := { plain "java/lang/constant/Constable" (some 0) with
  accessFlags := 1537
  interfaces := #[]
  cf := some (fileOf pool8 1 #[] #[] 1537 3 #[] #[])
  fields := #[]
  methods := #[]
  instanceTypes := #[]
  staticTypes := #[]
  resolved := Array.replicate 11 none
  statics := none }

def pool9 : Array CpInfo := pool [(1, .class_ 2), (0, u "java/lang/constant/ConstantDesc"), (0, .class_ 4), (0, u "java/lang/Object")] 32

/-- java/lang/constant/ConstantDesc -/
def k9 : Class := { plain "java/lang/constant/ConstantDesc" (some 0) with
  accessFlags := 1537
  interfaces := #[]
  cf := some (fileOf pool9 1 #[] #[] 1537 3 #[] #[])
  fields := #[]
  methods := #[]
  instanceTypes := #[]
  staticTypes := #[]
  resolved := Array.replicate 37 none
  statics := none }

def pool10 : Array CpInfo := pool [(1, .class_ 2), (0, u "java/lang/Long"), (232, .class_ 237), (1, u "java/lang/Long$LongCache"), (33, .class_ 272), (0, u "java/lang/Number"), (2, u "value"), (0, u "J"), (27, u "compare"), (0, u "(JJ)I"), (55, u "TYPE"), (0, u "Ljava/lang/Class;"), (0, .class_ 364), (0, u "java/lang/Comparable"), (0, .class_ 366), (0, u "java/lang/constant/Constable"), (0, .class_ 368), (0, u "java/lang/constant/ConstantDesc"), (0, u "MIN_VALUE"), (1, u "MAX_VALUE"), (4, u "SIZE"), (0, u "I"), (1, u "BYTES"), (1, u "serialVersionUID")] 142

def k10c0 : Code := { maxStack := 4, maxLocals := 4, code := jdk_35_method_42_code, exceptionTable := #[], attributes := #[] }
def k10m0 : Method := { name := "compare", desc := "(JJ)I", sig := { parameters := [.long, .long], returnType := some .int }, accessFlags := 9, code := some k10c0 }
/-- java/lang/Long -/
def k10 : Class := { plain "java/lang/Long" (some 7) with
  accessFlags := 49
  interfaces := #[4, 8, 9]
  cf := some (fileOf pool10 1 #[.nestMembers #[235]] #[{ accessFlags := 9, nameIndex := 304, descriptorIndex := 305, attributes := #[] }] 49 271 #[363, 365, 367] #[{ accessFlags := 25, nameIndex := 369, descriptorIndex := 276, attributes := #[] }, { accessFlags := 25, nameIndex := 371, descriptorIndex := 276, attributes := #[] }, { accessFlags := 25, nameIndex := 361, descriptorIndex := 362, attributes := #[] }, { accessFlags := 18, nameIndex := 275, descriptorIndex := 276, attributes := #[] }, { accessFlags := 25, nameIndex := 376, descriptorIndex := 377, attributes := #[] }, { accessFlags := 25, nameIndex := 379, descriptorIndex := 377, attributes := #[] }, { accessFlags := 26, nameIndex := 381, descriptorIndex := 276, attributes := #[] }])
  fields := #[{ name := "MIN_VALUE", type := .long, accessFlags := 25, slot := 0, constantValue := 0 }, { name := "MAX_VALUE", type := .long, accessFlags := 25, slot := 1, constantValue := 0 }, { name := "TYPE", type := (.object "java/lang/Class"), accessFlags := 25, slot := 2, constantValue := 0 }, { name := "value", type := .long, accessFlags := 18, slot := 0, constantValue := 0 }, { name := "SIZE", type := .int, accessFlags := 25, slot := 3, constantValue := 0 }, { name := "BYTES", type := .int, accessFlags := 25, slot := 4, constantValue := 0 }, { name := "serialVersionUID", type := .long, accessFlags := 26, slot := 5, constantValue := 0 }]
  methods := #[k10m0]
  instanceTypes := #[.long]
  staticTypes := #[.long, .long, (.object "java/lang/Class"), .int, .int, .long]
  resolved := Array.replicate 524 none
  statics := none }

def pool11 : Array CpInfo := pool [(1, u "java/lang/Cloneable"), (0, .class_ 1), (0, u "java/lang/Object"), (0, .class_ 3)] 3

/-- java/lang/Cloneable -/
def k11 : Class := { plain "java/lang/Cloneable" (some 0) with
  accessFlags := 1537
  interfaces := #[]
  cf := some (fileOf pool11 2 #[] #[] 1537 4 #[] #[])
  fields := #[]
  methods := #[]
  instanceTypes := #[]
  staticTypes := #[]
  resolved := Array.replicate 8 none
  statics := none }

/-- the primitive byte -/
def k12 : Class := { plain "byte" none with kind := .primitive 'B', accessFlags := 0x411 }
/-- [B -/
def k13 : Class := { plain "[B" (some 0) with kind := .array 12 .byte, interfaces := #[11, 5], accessFlags := 1041 }

/-- the primitive int -/
def k14 : Class := { plain "int" none with kind := .primitive 'I', accessFlags := 0x411 }
/-- [I -/
def k15 : Class := { plain "[I" (some 0) with kind := .array 14 .int, interfaces := #[11, 5], accessFlags := 1041 }

def heap : Heap := #[{ cls := 6, slots := #[.ref 1, .long 0, .null], vm := .statics 6 },
  { cls := 6, slots := #[.long 0, .int 0], vm := .none }]
def classes : Array Class := #[k0, k1, k2, k3, k4, k5, k6, k7, k8, k9, k10, k11, k12, k13, k14, k15]
def interned : List (Array UInt16 × Addr) := []
def slotsUsed : Nat := 5
def theMethod : MethodId := ⟨1, 1⟩
def args0 : Array Value := #[.int 2, .int 5, .int 1, .int 2, .int 3]
def aboutOver (below : List Frame) : State where
  vm := { classes := classes, interned := interned.toArray }
  heap := heap
  slotsUsed := slotsUsed
  threads := #[{ frames := .invoking theMethod args0 :: below }]
def below0 : List Frame := [.native { method := ⟨0, 0⟩, args := #[] }]
def about1 : State := aboutOver below0
def p0 : Program := .bare "" "" ""
def e0 : Env := launch0.env 0 0 0
theorem w_frames : about1.frames = Frame.invoking theMethod args0 :: below0 := rfl
set_option maxRecDepth 65536 in
theorem w_args : argsFit about1.vm theMethod args0 = true := by decide +kernel
set_option maxRecDepth 65536 in
theorem w_heap : heapFits about1 = true := by decide +kernel
set_option maxRecDepth 65536 in
theorem w_runnable : about1.curStatus? = some .runnable := by decide +kernel
set_option maxRecDepth 65536 in
theorem w_alone : about1.alone = true := by decide +kernel
set_option maxRecDepth 65536 in
theorem w_named : about1.methodNamed? x = some theMethod := by decide +kernel
set_option maxRecDepth 65536 in
theorem w_hears : about1.hears theMethod below0 = true := by decide +kernel
set_option maxRecDepth 65536 in
theorem w_ripe : about1.ripe theMethod args0 below0 = true := by decide +kernel
theorem w_running : about1.status = .running := rfl
set_option maxRecDepth 65536 in
theorem w_room : about1.hasRoom e0.platform room_1 = true :=
  launch0.hasRoom_least _ room_1 (by decide +kernel) (by decide +kernel) (by decide +kernel) (by decide +kernel) (by decide +kernel) (by decide +kernel)
theorem allAtoms_all (ts : List Jvm.Cond) (a : Array Jvm.Value) (st : Jvm.State) : (allAtoms ts).before a st = ts.all (fun c => c.before a st) := by
  induction ts with
  | nil => rfl
  | cons c t ih =>
    show (Jvm.Cond.and c (allAtoms t)).before a st = _
    rw [Jvm.Cond.before_and, ih, List.all_cons]
def words1 : List Jvm.Cond := Jvm.Cond.code x code maxLocals ret :: tables_1
/-- a 'code' word, met by the world's own term for the bytes: nothing is compared byte by byte -/
theorem code_word {y : MethodName} {bytes : ByteArray} {mx : Nat} {rt : Option FieldType} {a : Array Value} {s : State} {m : MethodId} {meth : Method} {c : Code} (h1 : s.methodNamed? y = some m) (h2 : s.vm.method? m = some meth) (h3 : meth.code = some c) (h4 : c.code = bytes)
    (h5 : (c.maxLocals == mx && c.exceptionTable.isEmpty && decide (c.maxStack ≤ mostOperands) && decide (meth.sig.returnType = rt) && !meth.locks && decide (parseMethodDescriptor y.desc = some meth.sig)) = true) : (Jvm.Cond.code y bytes mx rt).before a s = true := by
  simp only [Bool.and_eq_true, beq_iff_eq, Bool.not_eq_true', decide_eq_true_eq] at h5
  obtain ⟨⟨⟨⟨⟨g1, g2⟩, g3⟩, g4⟩, g5⟩, g6⟩ := h5
  simp [Cond.before, Cond.holds, Cond.value, h1, h2, h3, h4, g1, g2, g3, g4, g5, g6]
def isCode : Jvm.Cond → Bool
  | .code _ _ _ _ => true
  | _ => false
theorem all_split {L : List Jvm.Cond} {P : Jvm.Cond → Bool} (h1 : L.all (fun c => isCode c || P c) = true) (h2 : ∀ c ∈ L.filter isCode, P c = true) : L.all P = true := by
  refine List.all_eq_true.mpr fun c hc => ?_
  have h := List.all_eq_true.mp h1 c hc
  rcases Bool.eq_false_or_eq_true (isCode c) with hi | hi
  · exact h2 c (List.mem_filter.mpr ⟨hc, hi⟩)
  · simpa [hi] using h
set_option maxRecDepth 65536 in
theorem w_c0 : (Jvm.Cond.code x code maxLocals ret).before args0 about1 = true := code_word (m := ⟨1, 1⟩) (meth := k1m1) (c := k1c1) (by decide +kernel) rfl rfl rfl (by decide +kernel)
set_option maxRecDepth 65536 in
theorem w_c1 : (Jvm.Cond.code ({ cls := "com/example/request_throttle/requestthrottle/Verdict", name := "<init>", desc := "(I)V" } : Jvm.MethodName) prog_24_method_1_code (2 : Nat) (Option.none : Option Jvm.ClassFile.FieldType)).before args0 about1 = true := code_word (m := ⟨2, 0⟩) (meth := k2m0) (c := k2c0) (by decide +kernel) rfl rfl rfl (by decide +kernel)
set_option maxRecDepth 65536 in
theorem w_c2 : (Jvm.Cond.code ({ cls := "java/lang/Object", name := "<init>", desc := "()V" } : Jvm.MethodName) object_method_1_code (1 : Nat) (Option.none : Option Jvm.ClassFile.FieldType)).before args0 about1 = true := code_word (m := ⟨0, 0⟩) (meth := k0m0) (c := k0c0) (by decide +kernel) rfl rfl rfl (by decide +kernel)
set_option maxRecDepth 65536 in
theorem w_c3 : (Jvm.Cond.code ({ cls := "com/example/request_throttle/requestthrottle/Verdict", name := "room", desc := "()Z" } : Jvm.MethodName) prog_24_method_3_code (1 : Nat) (Option.some Jvm.ClassFile.FieldType.boolean)).before args0 about1 = true := code_word (m := ⟨2, 2⟩) (meth := k2m2) (c := k2c2) (by decide +kernel) rfl rfl rfl (by decide +kernel)
set_option maxRecDepth 65536 in
theorem w_c4 : (Jvm.Cond.code ({ cls := "com/example/request_throttle/requestthrottle/Verdict", name := "retryAfter", desc := "()Ljava/time/Duration;" } : Jvm.MethodName) prog_24_method_6_code (1 : Nat) (Option.some (Jvm.ClassFile.FieldType.object "java/time/Duration"))).before args0 about1 = true := code_word (m := ⟨2, 3⟩) (meth := k2m3) (c := k2c3) (by decide +kernel) rfl rfl rfl (by decide +kernel)
set_option maxRecDepth 65536 in
theorem w_c5 : (Jvm.Cond.code ({ cls := "com/example/request_throttle/requestthrottle/Verdict", name := "record", desc := "(IZILjava/time/Duration;)V" } : Jvm.MethodName) prog_24_method_2_code (5 : Nat) (Option.none : Option Jvm.ClassFile.FieldType)).before args0 about1 = true := code_word (m := ⟨2, 1⟩) (meth := k2m1) (c := k2c1) (by decide +kernel) rfl rfl rfl (by decide +kernel)
set_option maxRecDepth 65536 in
theorem w_c6 : (Jvm.Cond.code ({ cls := "java/time/Duration", name := "compareTo", desc := "(Ljava/time/Duration;)I" } : Jvm.MethodName) jdk_2316_method_66_code (3 : Nat) (Option.some Jvm.ClassFile.FieldType.int)).before args0 about1 = true := code_word (m := ⟨6, 0⟩) (meth := k6m0) (c := k6c0) (by decide +kernel) rfl rfl rfl (by decide +kernel)
set_option maxRecDepth 65536 in
theorem w_c7 : (Jvm.Cond.code ({ cls := "java/lang/Long", name := "compare", desc := "(JJ)I" } : Jvm.MethodName) jdk_35_method_42_code (4 : Nat) (Option.some Jvm.ClassFile.FieldType.int)).before args0 about1 = true := code_word (m := ⟨10, 0⟩) (meth := k10m0) (c := k10c0) (by decide +kernel) rfl rfl rfl (by decide +kernel)
def codes1 : List Jvm.Cond := [Jvm.Cond.code x code maxLocals ret, Jvm.Cond.code ({ cls := "com/example/request_throttle/requestthrottle/Verdict", name := "<init>", desc := "(I)V" } : Jvm.MethodName) prog_24_method_1_code (2 : Nat) (Option.none : Option Jvm.ClassFile.FieldType), Jvm.Cond.code ({ cls := "java/lang/Object", name := "<init>", desc := "()V" } : Jvm.MethodName) object_method_1_code (1 : Nat) (Option.none : Option Jvm.ClassFile.FieldType), Jvm.Cond.code ({ cls := "com/example/request_throttle/requestthrottle/Verdict", name := "room", desc := "()Z" } : Jvm.MethodName) prog_24_method_3_code (1 : Nat) (Option.some Jvm.ClassFile.FieldType.boolean), Jvm.Cond.code ({ cls := "com/example/request_throttle/requestthrottle/Verdict", name := "retryAfter", desc := "()Ljava/time/Duration;" } : Jvm.MethodName) prog_24_method_6_code (1 : Nat) (Option.some (Jvm.ClassFile.FieldType.object "java/time/Duration")), Jvm.Cond.code ({ cls := "com/example/request_throttle/requestthrottle/Verdict", name := "record", desc := "(IZILjava/time/Duration;)V" } : Jvm.MethodName) prog_24_method_2_code (5 : Nat) (Option.none : Option Jvm.ClassFile.FieldType), Jvm.Cond.code ({ cls := "java/time/Duration", name := "compareTo", desc := "(Ljava/time/Duration;)I" } : Jvm.MethodName) jdk_2316_method_66_code (3 : Nat) (Option.some Jvm.ClassFile.FieldType.int), Jvm.Cond.code ({ cls := "java/lang/Long", name := "compare", desc := "(JJ)I" } : Jvm.MethodName) jdk_35_method_42_code (4 : Nat) (Option.some Jvm.ClassFile.FieldType.int)]
set_option maxRecDepth 65536 in
theorem codes_eq : words1.filter isCode = codes1 := rfl
theorem w_codes : ∀ c ∈ words1.filter isCode, c.before args0 about1 = true := by
  rw [codes_eq]
  intro c hc
  simp only [codes1, List.mem_cons, List.not_mem_nil, or_false] at hc
  rcases hc with rfl | rfl | rfl | rfl | rfl | rfl | rfl | rfl
  · exact w_c0
  · exact w_c1
  · exact w_c2
  · exact w_c3
  · exact w_c4
  · exact w_c5
  · exact w_c6
  · exact w_c7
set_option maxRecDepth 65536 in
theorem w_t1 : (words1.take 24).all (fun c => isCode c || c.before args0 about1) = true := by decide +kernel
set_option maxRecDepth 65536 in
theorem w_t2 : (words1.drop 24).all (fun c => isCode c || c.before args0 about1) = true := by decide +kernel
theorem w_tables : (allAtoms (Jvm.Cond.code x code maxLocals ret :: tables_1)).before args0 about1 = true := by
  rw [allAtoms_all]
  show words1.all (fun c => c.before args0 about1) = true
  refine all_split ?_ w_codes
  rw [← List.take_append_drop 24 words1, List.all_append, w_t1, w_t2]
  rfl
set_option maxRecDepth 65536 in
theorem w_rest : rest_1_c.before args0 about1 = true := by decide +kernel
set_option maxRecDepth 65536 in
theorem w_case : (Jvm.Cond.and given_1 narrow_1).before args0 about1 = true := by decide +kernel
theorem w_applies : (headSpec (Jvm.Cond.code x code maxLocals ret :: tables_1) room_1).applies x e0.platform about1 = true :=
  (Spec.applies_iff w_frames).mpr ⟨w_running, w_runnable, w_alone, w_named, w_hears, w_ripe, w_room, w_tables⟩
theorem atStart : AtStart classFile x code maxLocals ret World_1 tables_1 room_1 Calls_1 rest_1 Pre_1 launch0 p0 e0 about1 theMethod args0 below0 :=
  ⟨lists_1, trivial, launch0.admits_env _ _ _, launch0.least_env, fairChoices_fair.cas, fairChoices_fair.clock, w_frames, w_args, w_heap, w_applies, trivial, w_rest, w_case⟩
end start1
theorem witness_1 : WitnessClaimed_1 := ⟨start1.p0, start1.e0, start1.about1, start1.theMethod, start1.args0, start1.below0, start1.atStart⟩
end Jvm.Pilot.@@N@@
