import JvmDerived
import JvmDerived.Pilot.@@N@@Statement
import JvmDerived.Pilot.@@N@@Code
set_option linter.unusedVariables false
set_option linter.unusedSimpArgs false
namespace Jvm.Pilot.@@N@@
open Jvm Jvm.ClassFile Sem Op Lib Jvm.Free Jvm.Stand Jvm.LawKit Jvm.RoadKit Bundle Jvm.Pilot.@@N@@.Jvm.D
/-! THE WALK, SAID FORWARD: `G w Q h k n pc Ls st` says: from every point of the walk `w` whose heap is h, with k cells and n slots made, standing at pc with the locals Ls and the stack st, the run ends in a return that meets Q. One law a step carries G from the next point back to this one. -/
abbrev Wk := Program × Launch × Env × Room × State × MethodId × Array Value × List Frame × Method × Code × Nat
abbrev Wk.p (w : Wk) : Program := w.1
abbrev Wk.l (w : Wk) : Launch := w.2.1
abbrev Wk.e (w : Wk) : Env := w.2.2.1
abbrev Wk.R (w : Wk) : Room := w.2.2.2.1
abbrev Wk.s (w : Wk) : State := w.2.2.2.2.1
abbrev Wk.m (w : Wk) : MethodId := w.2.2.2.2.2.1
abbrev Wk.args (w : Wk) : Array Value := w.2.2.2.2.2.2.1
abbrev Wk.below (w : Wk) : List Frame := w.2.2.2.2.2.2.2.1
abbrev Wk.meth (w : Wk) : Method := w.2.2.2.2.2.2.2.2.1
abbrev Wk.c (w : Wk) : Code := w.2.2.2.2.2.2.2.2.2.1
abbrev Wk.n0 (w : Wk) : Nat := w.2.2.2.2.2.2.2.2.2.2
def Cx (w : Wk) (l : Launch) (Z : State) (own : String) (bytes : ByteArray) (mx : Nat) (rt : Option FieldType) (nm : String) (rm : Room) (n0 : Nat) : Prop :=
  w.l = l ∧ w.p.tables.exec = Jvm.exec ∧ Z.Warmed39 w.s.vm ∧ w.c.code = bytes ∧ w.c.maxLocals = mx ∧ w.s.vm.findClass own = some w.m.cls ∧ w.meth.sig.returnType = rt ∧ w.meth.locks = false ∧ w.meth.name = nm ∧ w.R = rm ∧ w.n0 = n0
def Ends (w : Wk) (Q : Option Value → Heap → Prop) (A : State) : Prop :=
  ∃ s₂ o, Steps w.p.tables w.e w.below A s₂ ∧ s₂.status = .running ∧ Ended s₂ w.below o ∧ ∃ v L, o = .returned v ∧ (Q v s₂.heap ∧ Fr w.n0 L) ∧ FrameEnd w.s o s₂ L w.R.cells w.R.slots
def G (w : Wk) (Q : Option Value → Heap → Prop) (h : Heap) (k n pc : Nat) (Ls : Array Slot) (st : List Value) : Prop :=
  ∀ (T : State) (locs : List Loc), Stand w.p w.l w.e w.R w.s w.m w.args w.below w.meth w.c T locs k n → T.heap = h → Fr w.n0 locs → Ends w Q (T.setTop (mkF w.m pc Ls st))
def Con (l : Launch) (Z : State) (y : MethodName) (bytes : ByteArray) (mx : Nat) (rt : Option FieldType) (rm : Room) (as : Array Value) (h : Heap) (n0 : Nat) (Q : Option Value → Heap → Prop) : Prop :=
  ∀ ws, MetFree l y (head1 (Jvm.Cond.code y bytes mx rt :: ws) rm) (fun a U => a = as ∧ Z.Warmed39 U.vm ∧ U.heap = h) (fun _ _ _ _ _ => True) (fun _ U o U' => ∃ v L, o = .returned v ∧ (Q v U'.heap ∧ Fr n0 L) ∧ FrameEnd U o U' L rm.cells rm.slots)
def psh (v : Option Value) (st : List Value) : List Value := match v with | none => st | some x => x :: st
theorem psh_eq (v : Option Value) (st : List Value) : v.toList ++ st = psh v st := by cases v <;> rfl
section Gs
variable {w : Wk} {l : Launch} {Z : State} {own : String} {bytes : ByteArray} {mx : Nat} {rt : Option FieldType} {nm : String} {rm : Room} {n0 : Nat} {Q : Option Value → Heap → Prop} {h : Heap} {k n pc pc' : Nat} {Ls Ls' : Array Slot} {st rest : List Value} {a0 : Array Value} {t : FieldType} {k' n' : Nat}
theorem Con.mk {y : MethodName} {as : Array Value} (hp : plainFor y = true) (hef : ∀ m, entryFrame m as mx = mkF m 0 Ls []) (body : ∀ w : Wk, Cx w l Z y.cls bytes mx rt y.name rm n0 → G w Q h 0 0 0 Ls []) : Con l Z y bytes mx rt rm as h n0 Q := by
  intro ws
  refine MetFree.of_bodySF hp hisR ?_
  intro p e s m args below meth c s₁ Bd hml0 hP hK
  obtain ⟨rfl, hZ, hh⟩ := hP
  have X0 : Stand p l e rm s m args below meth c s₁ [] 0 0 := Stand.of_body Bd
  have e0 : s₁.heap = h := by rw [← hh, Bd.state]; rfl
  obtain ⟨s₂, o, h1, h2, h3, h4⟩ := body (p, l, e, rm, s, m, args, below, meth, c, n0) ⟨rfl, Bd.exec, hZ, Bd.bytes, hml0, findClass_of_methodNamed Bd.named, Bd.returns, Bd.notSynchronized, (name_of_methodNamed Bd.named Bd.method).1, rfl, rfl⟩ s₁ [] X0 e0 (Fr.nil n0)
  exact ⟨s₂, o, castTop (hef m) h1, h2, h3, h4⟩
theorem Cx.ex (C : Cx w l Z own bytes mx rt nm rm n0) : w.p.tables.exec = Jvm.exec := C.2.1
theorem Cx.hZ (C : Cx w l Z own bytes mx rt nm rm n0) : Z.Warmed39 w.s.vm := C.2.2.1
theorem Cx.dec (C : Cx w l Z own bytes mx rt nm rm n0) {r : Except DecodeError (Instr × Nat)} (hd : decode bytes pc = r) : decode w.c.code pc = r := hb C.2.2.2.1 hd
theorem Cx.ow (C : Cx w l Z own bytes mx rt nm rm n0) : w.s.vm.findClass own = some w.m.cls := C.2.2.2.2.2.1
theorem Cx.ml (C : Cx w l Z own bytes mx rt nm rm n0) : w.c.maxLocals = mx := C.2.2.2.2.1
theorem Cx.ret (C : Cx w l Z own bytes mx rt nm rm n0) : w.meth.sig.returnType = rt := C.2.2.2.2.2.2.1
theorem Cx.lk (C : Cx w l Z own bytes mx rt nm rm n0) : w.meth.locks = false := C.2.2.2.2.2.2.2.1
theorem Cx.mn (C : Cx w l Z own bytes mx rt nm rm n0) : w.meth.name = nm := C.2.2.2.2.2.2.2.2.1
theorem Cx.ro (C : Cx w l Z own bytes mx rt nm rm n0) : w.R = rm := C.2.2.2.2.2.2.2.2.2.1
theorem Cx.nn (C : Cx w l Z own bytes mx rt nm rm n0) : w.n0 = n0 := C.2.2.2.2.2.2.2.2.2.2
theorem G.adv (st' : ∀ T locs, Stand w.p w.l w.e w.R w.s w.m w.args w.below w.meth w.c T locs k n → T.heap = h → ∀ t, Steps w.p.tables w.e w.below (T.setTop (mkF w.m pc' Ls' rest)) t → Steps w.p.tables w.e w.below (T.setTop (mkF w.m pc Ls st)) t) (g : G w Q h k n pc' Ls' rest) : G w Q h k n pc Ls st :=
  fun T locs X eT N => let ⟨s₂, o, h1, h2⟩ := g T locs X eT N; ⟨s₂, o, st' T locs X eT _ h1, h2⟩
theorem G.to {T T' : State} {locs' : List Loc} {h' : Heap} {k' n' : Nat} (X' : Stand w.p w.l w.e w.R w.s w.m w.args w.below w.meth w.c T' locs' k' n') (eT : T'.heap = h') (N : Fr w.n0 locs') (s' : ∀ t, Steps w.p.tables w.e w.below (T'.setTop (mkF w.m pc' Ls' rest)) t → Steps w.p.tables w.e w.below (T.setTop (mkF w.m pc Ls st)) t) (g : G w Q h' k' n' pc' Ls' rest) : Ends w Q (T.setTop (mkF w.m pc Ls st)) :=
  let ⟨s₂, o, h1, h2⟩ := g T' locs' X' eT N; ⟨s₂, o, s' _ h1, h2⟩
theorem G.more (hk : k ≤ k') (hn : n ≤ n') (g : G w Q h k' n' pc Ls st) : G w Q h k n pc Ls st := fun T locs X eT N => g T locs (X.more hk hn) eT N
/-! plain steps -/
theorem g_aloadN (C : Cx w l Z own bytes mx rt nm rm n0) {i : Fin 4} {v : Value} (hd : decode bytes pc = .ok (.aload_n i, 1)) (hl : Ls[i.val]? = some (.val v)) (hv : v.isRef = true) (hp : pc + 1 = pc') (g : G w Q h k n pc' Ls (v :: st)) : G w Q h k n pc Ls st := by
  subst hp; exact g.adv fun T locs X _ t r => XS.aloadN X.here C.ex rfl (C.dec hd) hl hv r
theorem g_aload (C : Cx w l Z own bytes mx rt nm rm n0) {i : Nat} {v : Value} (hd : decode bytes pc = .ok (.aload i, 2)) (hl : Ls[i]? = some (.val v)) (hv : v.isRef = true) (hp : pc + 2 = pc') (g : G w Q h k n pc' Ls (v :: st)) : G w Q h k n pc Ls st := by
  subst hp; exact g.adv fun T locs X _ t r => XS.aload X.here C.ex rfl (C.dec hd) hl hv r
theorem g_iloadN (C : Cx w l Z own bytes mx rt nm rm n0) {i : Fin 4} {v : Int32} (hd : decode bytes pc = .ok (.iload_n i, 1)) (hl : Ls[i.val]? = some (.val (.int v))) (hp : pc + 1 = pc') (g : G w Q h k n pc' Ls (.int v :: st)) : G w Q h k n pc Ls st := by
  subst hp; exact g.adv fun T locs X _ t r => XS.iloadN X.here C.ex rfl (C.dec hd) hl r
theorem g_iload (C : Cx w l Z own bytes mx rt nm rm n0) {i : Nat} {v : Int32} (hd : decode bytes pc = .ok (.iload i, 2)) (hl : Ls[i]? = some (.val (.int v))) (hp : pc + 2 = pc') (g : G w Q h k n pc' Ls (.int v :: st)) : G w Q h k n pc Ls st := by
  subst hp; exact g.adv fun T locs X _ t r => XS.iload X.here C.ex rfl (C.dec hd) hl r
theorem g_lloadN (C : Cx w l Z own bytes mx rt nm rm n0) {i : Fin 4} {v : Int64} (hd : decode bytes pc = .ok (.lload_n i, 1)) (hl : Ls[i.val]? = some (.val (.long v))) (hp : pc + 1 = pc') (g : G w Q h k n pc' Ls (.long v :: st)) : G w Q h k n pc Ls st := by
  subst hp; exact g.adv fun T locs X _ t r => XS.lloadN X.here C.ex rfl (C.dec hd) hl r
theorem g_lload (C : Cx w l Z own bytes mx rt nm rm n0) {i : Nat} {v : Int64} (hd : decode bytes pc = .ok (.lload i, 2)) (hl : Ls[i]? = some (.val (.long v))) (hp : pc + 2 = pc') (g : G w Q h k n pc' Ls (.long v :: st)) : G w Q h k n pc Ls st := by
  subst hp; exact g.adv fun T locs X _ t r => XS.lload X.here C.ex rfl (C.dec hd) hl r
theorem g_istoreN (C : Cx w l Z own bytes mx rt nm rm n0) {i : Fin 4} {x : Int32} (hd : decode bytes pc = .ok (.istore_n i, 1)) (hs : st = .int x :: rest) (hl : storeLocals Ls i.val (.int x) = some Ls') (hp : pc + 1 = pc') (g : G w Q h k n pc' Ls' rest) : G w Q h k n pc Ls st := by
  subst hp; exact g.adv fun T locs X _ t r => XS.istoreN X.here C.ex rfl (C.dec hd) hs hl r
theorem g_istore (C : Cx w l Z own bytes mx rt nm rm n0) {i : Nat} {x : Int32} (hd : decode bytes pc = .ok (.istore i, 2)) (hs : st = .int x :: rest) (hl : storeLocals Ls i (.int x) = some Ls') (hp : pc + 2 = pc') (g : G w Q h k n pc' Ls' rest) : G w Q h k n pc Ls st := by
  subst hp; exact g.adv fun T locs X _ t r => XS.istore X.here C.ex rfl (C.dec hd) hs hl r
theorem g_lstoreN (C : Cx w l Z own bytes mx rt nm rm n0) {i : Fin 4} {x : Int64} (hd : decode bytes pc = .ok (.lstore_n i, 1)) (hs : st = .long x :: rest) (hl : storeLocals Ls i.val (.long x) = some Ls') (hp : pc + 1 = pc') (g : G w Q h k n pc' Ls' rest) : G w Q h k n pc Ls st := by
  subst hp; exact g.adv fun T locs X _ t r => XS.lstoreN X.here C.ex rfl (C.dec hd) hs hl r
theorem g_lstore (C : Cx w l Z own bytes mx rt nm rm n0) {i : Nat} {x : Int64} (hd : decode bytes pc = .ok (.lstore i, 2)) (hs : st = .long x :: rest) (hl : storeLocals Ls i (.long x) = some Ls') (hp : pc + 2 = pc') (g : G w Q h k n pc' Ls' rest) : G w Q h k n pc Ls st := by
  subst hp; exact g.adv fun T locs X _ t r => XS.lstore X.here C.ex rfl (C.dec hd) hs hl r
theorem g_astoreN (C : Cx w l Z own bytes mx rt nm rm n0) {i : Fin 4} {x : Value} (hd : decode bytes pc = .ok (.astore_n i, 1)) (hs : st = x :: rest) (hv : x.isRef = true) (hl : storeLocals Ls i.val x = some Ls') (hp : pc + 1 = pc') (g : G w Q h k n pc' Ls' rest) : G w Q h k n pc Ls st := by
  subst hp; exact g.adv fun T locs X _ t r => XS.astoreN X.here C.ex rfl (C.dec hd) hs hv hl r
theorem g_astore (C : Cx w l Z own bytes mx rt nm rm n0) {i : Nat} {x : Value} (hd : decode bytes pc = .ok (.astore i, 2)) (hs : st = x :: rest) (hv : x.isRef = true) (hl : storeLocals Ls i x = some Ls') (hp : pc + 2 = pc') (g : G w Q h k n pc' Ls' rest) : G w Q h k n pc Ls st := by
  subst hp; exact g.adv fun T locs X _ t r => XS.astore X.here C.ex rfl (C.dec hd) hs hv hl r
theorem g_iinc (C : Cx w l Z own bytes mx rt nm rm n0) {i : Nat} {cst : Int} {x : Int32} (hd : decode bytes pc = .ok (.iinc i cst, 3)) (hl : Ls[i]? = some (.val (.int x))) (hl' : storeLocals Ls i (.int (x + Int32.ofInt cst)) = some Ls') (hp : pc + 3 = pc') (g : G w Q h k n pc' Ls' st) : G w Q h k n pc Ls st := by
  subst hp; exact g.adv fun T locs X _ t r => XS.iinc X.here C.ex rfl (C.dec hd) hl hl' r
theorem g_iconst (C : Cx w l Z own bytes mx rt nm rm n0) {i : Int} {v : Int32} (hd : decode bytes pc = .ok (.iconst i, 1)) (hv : Int32.ofInt i = v) (hp : pc + 1 = pc') (g : G w Q h k n pc' Ls (.int v :: st)) : G w Q h k n pc Ls st := by
  subst hp hv; exact g.adv fun T locs X _ t r => XS.iconst X.here C.ex rfl (C.dec hd) r
theorem g_bipush (C : Cx w l Z own bytes mx rt nm rm n0) {i : Int} {v : Int32} (hd : decode bytes pc = .ok (.bipush i, 2)) (hv : (Int8.ofInt i).toInt32 = v) (hp : pc + 2 = pc') (g : G w Q h k n pc' Ls (.int v :: st)) : G w Q h k n pc Ls st := by
  subst hp hv; exact g.adv fun T locs X _ t r => XS.bipush X.here C.ex rfl (C.dec hd) r
theorem g_sipush (C : Cx w l Z own bytes mx rt nm rm n0) {i : Int} {v : Int32} (hd : decode bytes pc = .ok (.sipush i, 3)) (hv : (Int16.ofInt i).toInt32 = v) (hp : pc + 3 = pc') (g : G w Q h k n pc' Ls (.int v :: st)) : G w Q h k n pc Ls st := by
  subst hp hv; exact g.adv fun T locs X _ t r => XS.sipush X.here C.ex rfl (C.dec hd) r
theorem g_lconst (C : Cx w l Z own bytes mx rt nm rm n0) {i : Fin 2} {v : Int64} (hd : decode bytes pc = .ok (.lconst i, 1)) (hv : Int64.ofNat i.val = v) (hp : pc + 1 = pc') (g : G w Q h k n pc' Ls (.long v :: st)) : G w Q h k n pc Ls st := by
  subst hp hv; exact g.adv fun T locs X _ t r => XS.lconst X.here C.ex rfl (C.dec hd) r
theorem g_aconstNull (C : Cx w l Z own bytes mx rt nm rm n0) (hd : decode bytes pc = .ok (.aconst_null, 1)) (hp : pc + 1 = pc') (g : G w Q h k n pc' Ls (.null :: st)) : G w Q h k n pc Ls st := by
  subst hp; exact g.adv fun T locs X _ t r => XS.aconstNull X.here C.ex rfl (C.dec hd) r
theorem g_ldcInt (C : Cx w l Z own bytes mx rt nm rm n0) {i : Nat} {v : Int32} (hw : (Jvm.Cond.constant own i v).before a0 Z = true) (hd : decode bytes pc = .ok (.ldc i, 2)) (hp : pc + 2 = pc') (g : G w Q h k n pc' Ls (.int v :: st)) : G w Q h k n pc Ls st := by
  subst hp; exact g.adv fun T locs X _ t r => X.ldcInt C.ex C.ow (mvT C.hZ hw) (g := mkF w.m pc Ls st) rfl (C.dec hd) t r
theorem g_ldc2Long (C : Cx w l Z own bytes mx rt nm rm n0) {i : Nat} {v : Int64} (hw : (Jvm.Cond.constantLong own i v).before a0 Z = true) (hd : decode bytes pc = .ok (.ldc2_w i, 3)) (hp : pc + 3 = pc') (g : G w Q h k n pc' Ls (.long v :: st)) : G w Q h k n pc Ls st := by
  subst hp; exact g.adv fun T locs X _ t r => X.ldc2Long C.ex C.ow (mvT C.hZ hw) (g := mkF w.m pc Ls st) rfl (C.dec hd) t r
theorem g_iadd (C : Cx w l Z own bytes mx rt nm rm n0) {x y : Int32} (hd : decode bytes pc = .ok (.iadd, 1)) (hs : st = .int y :: .int x :: rest) (hp : pc + 1 = pc') (g : G w Q h k n pc' Ls (.int (x + y) :: rest)) : G w Q h k n pc Ls st := by
  subst hp; exact g.adv fun T locs X _ t r => XS.iadd X.here C.ex rfl (C.dec hd) hs r
theorem g_isub (C : Cx w l Z own bytes mx rt nm rm n0) {x y : Int32} (hd : decode bytes pc = .ok (.isub, 1)) (hs : st = .int y :: .int x :: rest) (hp : pc + 1 = pc') (g : G w Q h k n pc' Ls (.int (x - y) :: rest)) : G w Q h k n pc Ls st := by
  subst hp; exact g.adv fun T locs X _ t r => XS.isub X.here C.ex rfl (C.dec hd) hs r
theorem g_imul (C : Cx w l Z own bytes mx rt nm rm n0) {x y : Int32} (hd : decode bytes pc = .ok (.imul, 1)) (hs : st = .int y :: .int x :: rest) (hp : pc + 1 = pc') (g : G w Q h k n pc' Ls (.int (x * y) :: rest)) : G w Q h k n pc Ls st := by
  subst hp; exact g.adv fun T locs X _ t r => XS.imul X.here C.ex rfl (C.dec hd) hs r
theorem g_iand (C : Cx w l Z own bytes mx rt nm rm n0) {x y : Int32} (hd : decode bytes pc = .ok (.iand, 1)) (hs : st = .int y :: .int x :: rest) (hp : pc + 1 = pc') (g : G w Q h k n pc' Ls (.int (x &&& y) :: rest)) : G w Q h k n pc Ls st := by
  subst hp; exact g.adv fun T locs X _ t r => XS.iand X.here C.ex rfl (C.dec hd) hs r
theorem g_ior (C : Cx w l Z own bytes mx rt nm rm n0) {x y : Int32} (hd : decode bytes pc = .ok (.ior, 1)) (hs : st = .int y :: .int x :: rest) (hp : pc + 1 = pc') (g : G w Q h k n pc' Ls (.int (x ||| y) :: rest)) : G w Q h k n pc Ls st := by
  subst hp; exact g.adv fun T locs X _ t r => XS.ior X.here C.ex rfl (C.dec hd) hs r
theorem g_ixor (C : Cx w l Z own bytes mx rt nm rm n0) {x y : Int32} (hd : decode bytes pc = .ok (.ixor, 1)) (hs : st = .int y :: .int x :: rest) (hp : pc + 1 = pc') (g : G w Q h k n pc' Ls (.int (x ^^^ y) :: rest)) : G w Q h k n pc Ls st := by
  subst hp; exact g.adv fun T locs X _ t r => XS.ixor X.here C.ex rfl (C.dec hd) hs r
theorem g_ladd (C : Cx w l Z own bytes mx rt nm rm n0) {x y : Int64} (hd : decode bytes pc = .ok (.ladd, 1)) (hs : st = .long y :: .long x :: rest) (hp : pc + 1 = pc') (g : G w Q h k n pc' Ls (.long (x + y) :: rest)) : G w Q h k n pc Ls st := by
  subst hp; exact g.adv fun T locs X _ t r => XS.ladd X.here C.ex rfl (C.dec hd) hs r
theorem g_lsub (C : Cx w l Z own bytes mx rt nm rm n0) {x y : Int64} (hd : decode bytes pc = .ok (.lsub, 1)) (hs : st = .long y :: .long x :: rest) (hp : pc + 1 = pc') (g : G w Q h k n pc' Ls (.long (x - y) :: rest)) : G w Q h k n pc Ls st := by
  subst hp; exact g.adv fun T locs X _ t r => XS.lsub X.here C.ex rfl (C.dec hd) hs r
theorem g_lmul (C : Cx w l Z own bytes mx rt nm rm n0) {x y : Int64} (hd : decode bytes pc = .ok (.lmul, 1)) (hs : st = .long y :: .long x :: rest) (hp : pc + 1 = pc') (g : G w Q h k n pc' Ls (.long (x * y) :: rest)) : G w Q h k n pc Ls st := by
  subst hp; exact g.adv fun T locs X _ t r => XS.lmul X.here C.ex rfl (C.dec hd) hs r
theorem g_land (C : Cx w l Z own bytes mx rt nm rm n0) {x y : Int64} (hd : decode bytes pc = .ok (.land, 1)) (hs : st = .long y :: .long x :: rest) (hp : pc + 1 = pc') (g : G w Q h k n pc' Ls (.long (x &&& y) :: rest)) : G w Q h k n pc Ls st := by
  subst hp; exact g.adv fun T locs X _ t r => XS.land X.here C.ex rfl (C.dec hd) hs r
theorem g_lor (C : Cx w l Z own bytes mx rt nm rm n0) {x y : Int64} (hd : decode bytes pc = .ok (.lor, 1)) (hs : st = .long y :: .long x :: rest) (hp : pc + 1 = pc') (g : G w Q h k n pc' Ls (.long (x ||| y) :: rest)) : G w Q h k n pc Ls st := by
  subst hp; exact g.adv fun T locs X _ t r => XS.lor X.here C.ex rfl (C.dec hd) hs r
theorem g_lxor (C : Cx w l Z own bytes mx rt nm rm n0) {x y : Int64} (hd : decode bytes pc = .ok (.lxor, 1)) (hs : st = .long y :: .long x :: rest) (hp : pc + 1 = pc') (g : G w Q h k n pc' Ls (.long (x ^^^ y) :: rest)) : G w Q h k n pc Ls st := by
  subst hp; exact g.adv fun T locs X _ t r => XS.lxor X.here C.ex rfl (C.dec hd) hs r
theorem g_ishl (C : Cx w l Z own bytes mx rt nm rm n0) {x y : Int32} (hd : decode bytes pc = .ok (.ishl, 1)) (hs : st = .int y :: .int x :: rest) (hp : pc + 1 = pc') (g : G w Q h k n pc' Ls (.int (x <<< (y &&& 31)) :: rest)) : G w Q h k n pc Ls st := by
  subst hp; exact g.adv fun T locs X _ t r => XS.ishl X.here C.ex rfl (C.dec hd) hs r
theorem g_ishr (C : Cx w l Z own bytes mx rt nm rm n0) {x y : Int32} (hd : decode bytes pc = .ok (.ishr, 1)) (hs : st = .int y :: .int x :: rest) (hp : pc + 1 = pc') (g : G w Q h k n pc' Ls (.int (x >>> (y &&& 31)) :: rest)) : G w Q h k n pc Ls st := by
  subst hp; exact g.adv fun T locs X _ t r => XS.ishr X.here C.ex rfl (C.dec hd) hs r
theorem g_iushr (C : Cx w l Z own bytes mx rt nm rm n0) {x y : Int32} (hd : decode bytes pc = .ok (.iushr, 1)) (hs : st = .int y :: .int x :: rest) (hp : pc + 1 = pc') (g : G w Q h k n pc' Ls (.int ((x.toUInt32 >>> (y &&& 31).toUInt32).toInt32) :: rest)) : G w Q h k n pc Ls st := by
  subst hp; exact g.adv fun T locs X _ t r => XS.iushr X.here C.ex rfl (C.dec hd) hs r
theorem g_ineg (C : Cx w l Z own bytes mx rt nm rm n0) {x : Int32} (hd : decode bytes pc = .ok (.ineg, 1)) (hs : st = .int x :: rest) (hp : pc + 1 = pc') (g : G w Q h k n pc' Ls (.int (-x) :: rest)) : G w Q h k n pc Ls st := by
  subst hp; exact g.adv fun T locs X _ t r => XS.ineg X.here C.ex rfl (C.dec hd) hs r
theorem g_lneg (C : Cx w l Z own bytes mx rt nm rm n0) {x : Int64} (hd : decode bytes pc = .ok (.lneg, 1)) (hs : st = .long x :: rest) (hp : pc + 1 = pc') (g : G w Q h k n pc' Ls (.long (-x) :: rest)) : G w Q h k n pc Ls st := by
  subst hp; exact g.adv fun T locs X _ t r => XS.lneg X.here C.ex rfl (C.dec hd) hs r
theorem g_i2l (C : Cx w l Z own bytes mx rt nm rm n0) {x : Int32} (hd : decode bytes pc = .ok (.i2l, 1)) (hs : st = .int x :: rest) (hp : pc + 1 = pc') (g : G w Q h k n pc' Ls (.long x.toInt64 :: rest)) : G w Q h k n pc Ls st := by
  subst hp; exact g.adv fun T locs X _ t r => XS.i2l X.here C.ex rfl (C.dec hd) hs r
theorem g_l2i (C : Cx w l Z own bytes mx rt nm rm n0) {x : Int64} (hd : decode bytes pc = .ok (.l2i, 1)) (hs : st = .long x :: rest) (hp : pc + 1 = pc') (g : G w Q h k n pc' Ls (.int x.toInt32 :: rest)) : G w Q h k n pc Ls st := by
  subst hp; exact g.adv fun T locs X _ t r => XS.l2i X.here C.ex rfl (C.dec hd) hs r
theorem g_i2b (C : Cx w l Z own bytes mx rt nm rm n0) {x : Int32} (hd : decode bytes pc = .ok (.i2b, 1)) (hs : st = .int x :: rest) (hp : pc + 1 = pc') (g : G w Q h k n pc' Ls (.int x.toInt8.toInt32 :: rest)) : G w Q h k n pc Ls st := by
  subst hp; exact g.adv fun T locs X _ t r => XS.i2b X.here C.ex rfl (C.dec hd) hs r
theorem g_i2s (C : Cx w l Z own bytes mx rt nm rm n0) {x : Int32} (hd : decode bytes pc = .ok (.i2s, 1)) (hs : st = .int x :: rest) (hp : pc + 1 = pc') (g : G w Q h k n pc' Ls (.int x.toInt16.toInt32 :: rest)) : G w Q h k n pc Ls st := by
  subst hp; exact g.adv fun T locs X _ t r => XS.i2s X.here C.ex rfl (C.dec hd) hs r
theorem g_i2c (C : Cx w l Z own bytes mx rt nm rm n0) {x : Int32} (hd : decode bytes pc = .ok (.i2c, 1)) (hs : st = .int x :: rest) (hp : pc + 1 = pc') (g : G w Q h k n pc' Ls (.int x.toUInt32.toUInt16.toUInt32.toInt32 :: rest)) : G w Q h k n pc Ls st := by
  subst hp; exact g.adv fun T locs X _ t r => XS.i2c X.here C.ex rfl (C.dec hd) hs r
theorem g_irem (C : Cx w l Z own bytes mx rt nm rm n0) {x y : Int32} (hd : decode bytes pc = .ok (.irem, 1)) (hs : st = .int y :: .int x :: rest) (hy : y ≠ 0) (hp : pc + 1 = pc') (g : G w Q h k n pc' Ls (.int (x % y) :: rest)) : G w Q h k n pc Ls st := by
  subst hp; exact g.adv fun T locs X _ t r => iremM (g := mkF w.m pc Ls st) X C.ex rfl (C.dec hd) hs hy r
theorem g_idiv (C : Cx w l Z own bytes mx rt nm rm n0) {x y : Int32} (hd : decode bytes pc = .ok (.idiv, 1)) (hs : st = .int y :: .int x :: rest) (hy : y ≠ 0) (hp : pc + 1 = pc') (g : G w Q h k n pc' Ls (.int (x / y) :: rest)) : G w Q h k n pc Ls st := by
  subst hp; exact g.adv fun T locs X _ t r => XS.idiv X.here C.ex rfl (C.dec hd) hs hy r
theorem g_ldiv (C : Cx w l Z own bytes mx rt nm rm n0) {x y : Int64} (hd : decode bytes pc = .ok (.ldiv, 1)) (hs : st = .long y :: .long x :: rest) (hy : y ≠ 0) (hp : pc + 1 = pc') (g : G w Q h k n pc' Ls (.long (x / y) :: rest)) : G w Q h k n pc Ls st := by
  subst hp; exact g.adv fun T locs X _ t r => XS.ldiv X.here C.ex rfl (C.dec hd) hs hy r
theorem g_lrem (C : Cx w l Z own bytes mx rt nm rm n0) {x y : Int64} (hd : decode bytes pc = .ok (.lrem, 1)) (hs : st = .long y :: .long x :: rest) (hy : y ≠ 0) (hp : pc + 1 = pc') (g : G w Q h k n pc' Ls (.long (x - (x / y) * y) :: rest)) : G w Q h k n pc Ls st := by
  subst hp; exact g.adv fun T locs X _ t r => XS.lrem X.here C.ex rfl (C.dec hd) hs hy r
theorem g_lcmp (C : Cx w l Z own bytes mx rt nm rm n0) {x y : Int64} (hd : decode bytes pc = .ok (.lcmp, 1)) (hs : st = .long y :: .long x :: rest) (hp : pc + 1 = pc') (g : G w Q h k n pc' Ls (.int (lcmpW x y) :: rest)) : G w Q h k n pc Ls st := by
  subst hp; exact g.adv fun T locs X _ t r => XS.lcmp X.here C.ex rfl (C.dec hd) hs r
theorem g_dup (C : Cx w l Z own bytes mx rt nm rm n0) {x : Value} (hd : decode bytes pc = .ok (.dup, 1)) (hs : st = x :: rest) (hc : x.category = 1) (hp : pc + 1 = pc') (g : G w Q h k n pc' Ls (x :: x :: rest)) : G w Q h k n pc Ls st := by
  subst hp; exact g.adv fun T locs X _ t r => XS.dup X.here C.ex rfl (C.dec hd) hs hc r
theorem g_pop (C : Cx w l Z own bytes mx rt nm rm n0) {x : Value} (hd : decode bytes pc = .ok (.pop, 1)) (hs : st = x :: rest) (hc : x.category = 1) (hp : pc + 1 = pc') (g : G w Q h k n pc' Ls rest) : G w Q h k n pc Ls st := by
  subst hp; exact g.adv fun T locs X _ t r => XS.pop X.here C.ex rfl (C.dec hd) hs hc r
theorem g_dup_x1 (C : Cx w l Z own bytes mx rt nm rm n0) {x y : Value} (hd : decode bytes pc = .ok (.dup_x1, 1)) (hs : st = x :: y :: rest) (hc : x.category = 1) (hc' : y.category = 1) (hp : pc + 1 = pc') (g : G w Q h k n pc' Ls (x :: y :: x :: rest)) : G w Q h k n pc Ls st := by
  subst hp; exact g.adv fun T locs X _ t r => XS.dupX1 X.here C.ex rfl (C.dec hd) hs hc hc' r
theorem g_dup2 (C : Cx w l Z own bytes mx rt nm rm n0) {x y : Value} (hd : decode bytes pc = .ok (.dup2, 1)) (hs : st = x :: y :: rest) (hc : x.category = 1) (hc' : y.category = 1) (hp : pc + 1 = pc') (g : G w Q h k n pc' Ls (x :: y :: x :: y :: rest)) : G w Q h k n pc Ls st := by
  subst hp; exact g.adv fun T locs X _ t r => XT.dup2 X.here C.ex rfl (C.dec hd) hs hc hc' r
theorem g_dup2L (C : Cx w l Z own bytes mx rt nm rm n0) {x : Int64} (hd : decode bytes pc = .ok (.dup2, 1)) (hs : st = .long x :: rest) (hp : pc + 1 = pc') (g : G w Q h k n pc' Ls (.long x :: .long x :: rest)) : G w Q h k n pc Ls st := by
  subst hp; exact g.adv fun T locs X _ t r => XT.dup2L X.here C.ex rfl (C.dec hd) hs r
theorem g_pop2L (C : Cx w l Z own bytes mx rt nm rm n0) {x : Int64} (hd : decode bytes pc = .ok (.pop2, 1)) (hs : st = .long x :: rest) (hp : pc + 1 = pc') (g : G w Q h k n pc' Ls rest) : G w Q h k n pc Ls st := by
  subst hp hs; exact g.adv fun T locs X _ t r => by
    have hx := C.ex
    have hd' := C.dec hd
    show Steps w.p.tables w.e w.below (T.setTop { method := w.m, pc := pc, locals := Ls, stack := _ :: rest, locked := none }) _
    jvm_step X.here [X.here.top, hx, hd', Value.category]
    exact r
theorem g_dup2_x2L (C : Cx w l Z own bytes mx rt nm rm n0) {x : Int64} {y : Int32} {z : Addr} (hd : decode bytes pc = .ok (.dup2_x2, 1)) (hs : st = .long x :: .int y :: .ref z :: rest) (hp : pc + 1 = pc') (g : G w Q h k n pc' Ls (.long x :: .int y :: .ref z :: .long x :: rest)) : G w Q h k n pc Ls st := by
  subst hp hs; exact g.adv fun T locs X _ t r => by
    have hx := C.ex
    have hd' := C.dec hd
    show Steps w.p.tables w.e w.below (T.setTop { method := w.m, pc := pc, locals := Ls, stack := _ :: _ :: _ :: rest, locked := none }) _
    jvm_step X.here [X.here.top, hx, hd', Value.category]
    exact r
theorem g_goto (C : Cx w l Z own bytes mx rt nm rm n0) {o : Int} (hd : decode bytes pc = .ok (.goto o, 3)) (ho : 0 ≤ (pc : Int) + o) (hp : ((pc : Int) + o).toNat = pc') (g : G w Q h k n pc' Ls st) : G w Q h k n pc Ls st :=
  g.adv fun T locs X _ t r => XS.goto X.here C.ex rfl (pc0 := pc) rfl (C.dec hd) ho hp r
theorem g_ifY (C : Cx w l Z own bytes mx rt nm rm n0) {cd : ClassFile.Cond} {o : Int} {x : Int32} (hd : decode bytes pc = .ok (.ifCond cd o, 3)) (hs : st = .int x :: rest) (hc : if_icmp.holds cd x 0 = true) (ho : 0 ≤ (pc : Int) + o) (hp : ((pc : Int) + o).toNat = pc') (g : G w Q h k n pc' Ls rest) : G w Q h k n pc Ls st :=
  g.adv fun T locs X _ t r => XS.ifYes X.here C.ex rfl (pc0 := pc) rfl (C.dec hd) hs ((if0 _ _).trans hc) ho hp r
theorem g_ifN (C : Cx w l Z own bytes mx rt nm rm n0) {cd : ClassFile.Cond} {o : Int} {x : Int32} (hd : decode bytes pc = .ok (.ifCond cd o, 3)) (hs : st = .int x :: rest) (hc : if_icmp.holds cd x 0 = false) (hp : pc + 3 = pc') (g : G w Q h k n pc' Ls rest) : G w Q h k n pc Ls st := by
  subst hp; exact g.adv fun T locs X _ t r => XS.ifNo X.here C.ex rfl (C.dec hd) hs ((if0 _ _).trans hc) r
theorem g_icY (C : Cx w l Z own bytes mx rt nm rm n0) {cd : ClassFile.Cond} {o : Int} {x y : Int32} (hd : decode bytes pc = .ok (.if_icmp cd o, 3)) (hs : st = .int y :: .int x :: rest) (hc : if_icmp.holds cd x y = true) (ho : 0 ≤ (pc : Int) + o) (hp : ((pc : Int) + o).toNat = pc') (g : G w Q h k n pc' Ls rest) : G w Q h k n pc Ls st :=
  g.adv fun T locs X _ t r => XS.icmpYes X.here C.ex rfl (pc0 := pc) rfl (C.dec hd) hs hc ho hp r
theorem g_icN (C : Cx w l Z own bytes mx rt nm rm n0) {cd : ClassFile.Cond} {o : Int} {x y : Int32} (hd : decode bytes pc = .ok (.if_icmp cd o, 3)) (hs : st = .int y :: .int x :: rest) (hc : if_icmp.holds cd x y = false) (hp : pc + 3 = pc') (g : G w Q h k n pc' Ls rest) : G w Q h k n pc Ls st := by
  subst hp; exact g.adv fun T locs X _ t r => XS.icmpNo X.here C.ex rfl (C.dec hd) hs hc r
/-- what a branch says, in plain words -/
def says (cd : ClassFile.Cond) (x y : Int32) : Prop := match cd with | .lt => x < y | .ge => ¬ x < y | .gt => y < x | .le => ¬ y < x | .eq => x = y | .ne => ¬ x = y
theorem says_t {cd : ClassFile.Cond} {x y : Int32} (q : says cd x y) : if_icmp.holds cd x y = true := by
  cases cd
  · exact (teq q).1
  · exact (feq q).2
  · exact (tlt q).1
  · exact (flt q).2.1
  · exact (tlt q).2.2.1
  · exact (flt q).2.2.2
theorem says_f {cd : ClassFile.Cond} {x y : Int32} (q : ¬ says cd x y) : if_icmp.holds cd x y = false := by
  cases cd
  · exact (feq q).1
  · exact (teq (Decidable.not_not.mp q)).2
  · exact (flt q).1
  · exact (tlt (Decidable.not_not.mp q)).2.1
  · exact (flt q).2.2.1
  · exact (tlt (Decidable.not_not.mp q)).2.2.2
theorem g_icB (C : Cx w l Z own bytes mx rt nm rm n0) {cd : ClassFile.Cond} {o : Int} {x y : Int32} {pcT : Nat} (hd : decode bytes pc = .ok (.if_icmp cd o, 3)) (hs : st = .int y :: .int x :: rest) (ho : 0 ≤ (pc : Int) + o) (hT : ((pc : Int) + o).toNat = pcT) (hp : pc + 3 = pc') (gy : says cd x y → G w Q h k n pcT Ls rest) (gn : ¬ says cd x y → G w Q h k n pc' Ls rest) : G w Q h k n pc Ls st := by
  by_cases q : says cd x y
  · exact g_icY C hd hs (says_t q) ho hT (gy q)
  · exact g_icN C hd hs (says_f q) hp (gn q)
theorem g_ifB (C : Cx w l Z own bytes mx rt nm rm n0) {cd : ClassFile.Cond} {o : Int} {x : Int32} {pcT : Nat} (hd : decode bytes pc = .ok (.ifCond cd o, 3)) (hs : st = .int x :: rest) (ho : 0 ≤ (pc : Int) + o) (hT : ((pc : Int) + o).toNat = pcT) (hp : pc + 3 = pc') (gy : says cd x 0 → G w Q h k n pcT Ls rest) (gn : ¬ says cd x 0 → G w Q h k n pc' Ls rest) : G w Q h k n pc Ls st := by
  by_cases q : says cd x 0
  · exact g_ifY C hd hs (says_t q) ho hT (gy q)
  · exact g_ifN C hd hs (says_f q) hp (gn q)
theorem g_ifnullY (C : Cx w l Z own bytes mx rt nm rm n0) {o : Int} (hd : decode bytes pc = .ok (.ifnull o, 3)) (hs : st = .null :: rest) (ho : 0 ≤ (pc : Int) + o) (hp : ((pc : Int) + o).toNat = pc') (g : G w Q h k n pc' Ls rest) : G w Q h k n pc Ls st :=
  g.adv fun T locs X _ t r => XS.ifnullYes X.here C.ex rfl (pc0 := pc) rfl (C.dec hd) hs ho hp r
theorem g_ifnullN (C : Cx w l Z own bytes mx rt nm rm n0) {o : Int} {b : Addr} (hd : decode bytes pc = .ok (.ifnull o, 3)) (hs : st = .ref b :: rest) (hp : pc + 3 = pc') (g : G w Q h k n pc' Ls rest) : G w Q h k n pc Ls st := by
  subst hp; exact g.adv fun T locs X _ t r => XS.ifnullNo X.here C.ex rfl (C.dec hd) hs r
theorem g_ifnonnullY (C : Cx w l Z own bytes mx rt nm rm n0) {o : Int} {b : Addr} (hd : decode bytes pc = .ok (.ifnonnull o, 3)) (hs : st = .ref b :: rest) (ho : 0 ≤ (pc : Int) + o) (hp : ((pc : Int) + o).toNat = pc') (g : G w Q h k n pc' Ls rest) : G w Q h k n pc Ls st :=
  g.adv fun T locs X _ t r => XS.ifnonnullYes X.here C.ex rfl (pc0 := pc) rfl (C.dec hd) hs ho hp r
theorem g_ifnonnullN (C : Cx w l Z own bytes mx rt nm rm n0) {o : Int} (hd : decode bytes pc = .ok (.ifnonnull o, 3)) (hs : st = .null :: rest) (hp : pc + 3 = pc') (g : G w Q h k n pc' Ls rest) : G w Q h k n pc Ls st := by
  subst hp; exact g.adv fun T locs X _ t r => XS.ifnonnullNo X.here C.ex rfl (C.dec hd) hs r
theorem g_acmp (C : Cx w l Z own bytes mx rt nm rm n0) {cd : ACond} {o : Int} {x y : Value} {same : Bool} (hd : decode bytes pc = .ok (.if_acmp cd o, 3)) (hs : st = y :: x :: rest) (h1 : x.isRef = true) (h2 : y.isRef = true) (hq : decide (x = y) = same) (ho : 0 ≤ (pc : Int) + o) (hp : pc' = if acV cd same = true then ((pc : Int) + o).toNat else pc + 3) (g : G w Q h k n pc' Ls rest) : G w Q h k n pc Ls st :=
  g.adv fun T locs X _ t r => Jvm.RoadKit.acmp (g := mkF w.m pc Ls st) X C.ex rfl h1 h2 (pc0 := pc) rfl (C.dec hd) hs hq ho hp r
theorem g_tsw (C : Cx w l Z own bytes mx rt nm rm n0) {df lo hi : Int} {offs : Array Int} {len : Nat} {o : Int} {i : Int32} (hd : decode bytes pc = .ok (.tableswitch df lo hi offs, len)) (hs : st = .int i :: rest) (hin : ¬ (i.toInt < lo ∨ i.toInt > hi)) (hoff : offs[(i.toInt - lo).toNat]? = some o) (ho : 0 ≤ (pc : Int) + o) (hp : ((pc : Int) + o).toNat = pc') (g : G w Q h k n pc' Ls rest) : G w Q h k n pc Ls st :=
  g.adv fun T locs X _ t r => XS.tswIn X.here C.ex rfl (pc0 := pc) rfl (C.dec hd) hs hin hoff ho hp r
theorem g_tswOut (C : Cx w l Z own bytes mx rt nm rm n0) {df lo hi : Int} {offs : Array Int} {len : Nat} {i : Int32} (hd : decode bytes pc = .ok (.tableswitch df lo hi offs, len)) (hs : st = .int i :: rest) (hin : i.toInt < lo ∨ i.toInt > hi) (ho : 0 ≤ (pc : Int) + df) (hp : ((pc : Int) + df).toNat = pc') (g : G w Q h k n pc' Ls rest) : G w Q h k n pc Ls st :=
  g.adv fun T locs X _ t r => XS.tswOut X.here C.ex rfl (pc0 := pc) rfl (C.dec hd) hs hin ho hp r
/-! the heap and the tables -/
theorem g_getF (C : Cx w l Z own bytes mx rt nm rm n0) {R0 O f d : String} {i : Nat} {a : Addr} {v : Value} (hw : (Jvm.Cond.fieldLink own i R0 f d).before a0 Z = true) (via : Via Z R0 O f d) (hd : decode bytes pc = .ok (.getfield i, 3)) (hs : st = .ref a :: rest) (F : Fld Z h a O f d v) (hp : pc + 3 = pc') (g : G w Q h k n pc' Ls (v :: rest)) : G w Q h k n pc Ls st := by
  subst hp; intro T locs X eT N
  obtain ⟨T', X', e', s'⟩ := getF X C.ex C.hZ C.ow (host := "") (Or.inl hw) via eT F (g := mkF w.m pc Ls st) rfl hs (C.dec hd)
  exact G.to X' e' N s' g
theorem g_getFN (C : Cx w l Z own bytes mx rt nm rm n0) {R0 O f d host : String} {i : Nat} {a : Addr} {v : Value} (hw : (Jvm.Cond.fieldLinkNest own i R0 f d host).before a0 Z = true) (via : Via Z R0 O f d) (hd : decode bytes pc = .ok (.getfield i, 3)) (hs : st = .ref a :: rest) (F : Fld Z h a O f d v) (hp : pc + 3 = pc') (g : G w Q h k n pc' Ls (v :: rest)) : G w Q h k n pc Ls st := by
  subst hp; intro T locs X eT N
  obtain ⟨T', X', e', s'⟩ := getF X C.ex C.hZ C.ow (Or.inr hw) via eT F (g := mkF w.m pc Ls st) rfl hs (C.dec hd)
  exact G.to X' e' N s' g
theorem g_getS (C : Cx w l Z own bytes mx rt nm rm n0) {R0 O f d : String} {i : Nat} {v : Value} (hw : (Jvm.Cond.fieldLink own i R0 f d).before a0 Z = true) (via : Via Z R0 O f d) (hd : decode bytes pc = .ok (.getstatic i, 3)) (F : Sta Z h O f d v) (hp : pc + 3 = pc') (g : G w Q h k n pc' Ls (v :: st)) : G w Q h k n pc Ls st := by
  subst hp; intro T locs X eT N
  obtain ⟨T', X', e', s'⟩ := getS2 X C.ex C.hZ C.ow (host := "") (Or.inl hw) via eT F (g := mkF w.m pc Ls st) rfl (C.dec hd)
  exact G.to X' e' N s' g
theorem g_getSN (C : Cx w l Z own bytes mx rt nm rm n0) {R0 O f d host : String} {i : Nat} {v : Value} (hw : (Jvm.Cond.fieldLinkNest own i R0 f d host).before a0 Z = true) (via : Via Z R0 O f d) (hd : decode bytes pc = .ok (.getstatic i, 3)) (F : Sta Z h O f d v) (hp : pc + 3 = pc') (g : G w Q h k n pc' Ls (v :: st)) : G w Q h k n pc Ls st := by
  subst hp; intro T locs X eT N
  obtain ⟨T', X', e', s'⟩ := getS2 X C.ex C.hZ C.ow (Or.inr hw) via eT F (g := mkF w.m pc Ls st) rfl (C.dec hd)
  exact G.to X' e' N s' g
theorem fr_snoc {L : List Loc} {a : Addr} {sl k : Nat} (N : Fr k L) (q : k ≤ a) : Fr k (L ++ [⟨a, sl⟩]) := N.app fun y hy => by cases List.mem_singleton.mp hy; exact q
theorem g_putF (C : Cx w l Z own bytes mx rt nm rm n0) {R0 O f d K : String} {i kk : Nat} {ty : FieldType} {a : Addr} {v old : Value} (hw : (Jvm.Cond.fieldLink own i R0 f d).before a0 Z = true) (via : Via Z R0 O f d) (hd : decode bytes pc = .ok (.putfield i, 3)) (hs : st = v :: .ref a :: rest) (F : Fld Z h a O f d old) (E : Exa Z h a K) (La : (Jvm.Cond.lays K O f d).before a0 Z = true ∨ ((Jvm.Cond.laysFinal K O f d).before a0 Z = true ∧ own = O ∧ nm = "<init>")) (wi : (Jvm.Cond.instantiable K kk).before a0 Z = true) (hty : parseFieldDescriptor d = some ty) (hn : narrow ty v = v) (hf : fits ty v = true) (ge : n0 ≤ a) (hp : pc + 3 = pc')
    (g : ∀ h', Wr h h' a (Jvm.RoadKit.slotOf Z O f d) v → G w Q h' k n pc' Ls rest) : G w Q h k n pc Ls st := by
  subst hp; intro T locs X eT N
  obtain ⟨T', h', X', e', W, s'⟩ := putF X C.ex C.hZ C.ow (host := "") (Or.inl hw) via eT F E (La.imp id fun q => ⟨q.1, q.2.1, C.mn.trans q.2.2⟩) wi hty hn hf (g := mkF w.m pc Ls st) rfl hs (C.dec hd)
  exact G.to X' e' (fr_snoc N (C.nn ▸ ge)) s' (g h' W)
theorem g_putFN (C : Cx w l Z own bytes mx rt nm rm n0) {R0 O f d K : String} {i kk : Nat} {ty : FieldType} {a : Addr} {v v' old : Value} (hw : (Jvm.Cond.fieldLink own i R0 f d).before a0 Z = true) (via : Via Z R0 O f d) (hd : decode bytes pc = .ok (.putfield i, 3)) (hs : st = v :: .ref a :: rest) (F : Fld Z h a O f d old) (E : Exa Z h a K) (La : (Jvm.Cond.lays K O f d).before a0 Z = true ∨ ((Jvm.Cond.laysFinal K O f d).before a0 Z = true ∧ own = O ∧ nm = "<init>")) (wi : (Jvm.Cond.instantiable K kk).before a0 Z = true) (hty : parseFieldDescriptor d = some ty) (hn : narrow ty v = v') (hf : fits ty v' = true) (ge : n0 ≤ a) (hp : pc + 3 = pc')
    (g : ∀ h', Wr h h' a (Jvm.RoadKit.slotOf Z O f d) v' → G w Q h' k n pc' Ls rest) : G w Q h k n pc Ls st := by
  subst hp; intro T locs X eT N
  obtain ⟨T', h', X', e', W, s'⟩ := putFN X C.ex C.hZ C.ow hw via eT F E (La.imp id fun q => ⟨q.1, q.2.1, C.mn.trans q.2.2⟩) wi hty hn hf (g := mkF w.m pc Ls st) rfl hs (C.dec hd)
  exact G.to X' e' (fr_snoc N (C.nn ▸ ge)) s' (g h' W)
theorem g_new (C : Cx w l Z own bytes mx rt nm rm n0) {K : String} {i ns : Nat} (hw : (Jvm.Cond.classLink own i K).before a0 Z = true) (wi : (Jvm.Cond.instantiable K ns).before a0 Z = true) (wz : (Jvm.Cond.initialized K).before a0 Z = true) (hd : decode bytes pc = .ok (.new i, 3)) (hc : k' ≤ rm.cells) (hl : n' ≤ rm.slots) (ek : k + 1 = k') (en : n + ns = n') (hp : pc + 3 = pc')
    (g : ∀ h' a, a = h.size → Ext h h' → Exa Z h' a K → (∀ {O f d : String} {ty : FieldType}, Laid Z a0 K O f d → parseFieldDescriptor d = some ty → Fld Z h' a O f d (defaultValue ty)) → G w Q h' k' n' pc' Ls (.ref a :: st)) : G w Q h k n pc Ls st := by
  subst hp ek en; intro T locs X eT N
  obtain ⟨T', h', X', e', E, A, D, -, s'⟩ := newO X C.ex C.hZ C.ow hw wi wz eT (g := mkF w.m pc Ls st) rfl (C.dec hd) (by rw [C.ro]; exact hc) (by rw [C.ro]; exact hl)
  exact G.to X' e' N s' (g h' _ rfl E A D)
theorem g_initO (C : Cx w l Z own bytes mx rt nm rm n0) {i : Nat} {a : Addr} (hw : (Jvm.Cond.methodLink own i Lib.objectInit).before a0 Z = true) (w2 : (Jvm.Cond.instanceMethod Lib.objectInit).before a0 Z = true) (w3 : (Jvm.Cond.code Lib.objectInit ⟨#[0xb1]⟩ 1 none).before a0 Z = true) (hd : decode bytes pc = .ok (.invokespecial i, 3)) (hs : st = .ref a :: rest) (hz : Ls.size = mx) (hf : 1 ≤ rm.frames) (hl : (rest.map fun v => v.category).sum + 12 ≤ rm.locals) (hp : pc + 3 = pc') (g : G w Q h k n pc' Ls rest) : G w Q h k n pc Ls st := by
  subst hp; intro T locs X eT N
  obtain ⟨T', X', e', s'⟩ := initO X C.ex C.hZ C.ow hw w2 w3 eT (g := mkF w.m pc Ls st) rfl (hz.trans C.ml.symm) hs (C.dec hd) (by rw [C.ro]; exact hf) (W := (rest.map fun v => v.category).sum) (by show 2 * 0 + _ ≤ _; omega) (by rw [C.ro]; exact hl)
  exact G.to X' e' N s' g
theorem g_cast (C : Cx w l Z own bytes mx rt nm rm n0) {K : String} {i : Nat} {a : Addr} (hw : (Jvm.Cond.classLink own i K).before a0 Z = true) (hd : decode bytes pc = .ok (.checkcast i, 3)) (hs : st = .ref a :: rest) (F : Ins Z h a K true) (hp : pc + 3 = pc') (g : G w Q h k n pc' Ls st) : G w Q h k n pc Ls st := by
  subst hp; intro T locs X eT N
  obtain ⟨T', X', e', s'⟩ := castY X C.ex C.hZ C.ow hw eT F (g := mkF w.m pc Ls st) rfl hs (C.dec hd)
  exact G.to X' e' N s' g
theorem g_instY (C : Cx w l Z own bytes mx rt nm rm n0) {K : String} {i : Nat} {a : Addr} (hw : (Jvm.Cond.classLink own i K).before a0 Z = true) (hd : decode bytes pc = .ok (.instanceof i, 3)) (hs : st = .ref a :: rest) (F : Ins Z h a K true) (hp : pc + 3 = pc') (g : G w Q h k n pc' Ls (.int 1 :: rest)) : G w Q h k n pc Ls st := by
  subst hp; intro T locs X eT N
  obtain ⟨T', X', e', s'⟩ := instY X C.ex C.hZ C.ow hw eT F (g := mkF w.m pc Ls st) rfl hs (C.dec hd)
  exact G.to X' e' N s' g
theorem g_instN (C : Cx w l Z own bytes mx rt nm rm n0) {K B : String} {i : Nat} {a : Addr} (hw : (Jvm.Cond.classLink own i K).before a0 Z = true) (hd : decode bytes pc = .ok (.instanceof i, 3)) (hs : st = .ref a :: rest) (E : Exa Z h a B) (F : ∃ c t, Z.vm.findClass B = some c ∧ Z.vm.findClass K = some t ∧ Z.vm.assignable c t = false) (hp : pc + 3 = pc') (g : G w Q h k n pc' Ls (.int 0 :: rest)) : G w Q h k n pc Ls st := by
  subst hp; intro T locs X eT N
  obtain ⟨T', X', e', s'⟩ := instNo X C.ex C.hZ C.ow hw eT E F (g := mkF w.m pc Ls st) rfl hs (C.dec hd)
  exact G.to X' e' N s' g
theorem g_newP (C : Cx w l Z own bytes mx rt nm rm n0) {aty : ArrayType} {z : Int32} {cap : Nat} (hw : (Jvm.Cond.arrayClass (newarray.typeOf aty)).before a0 Z = true) (hd : decode bytes pc = .ok (.newarray aty, 2)) (hs : st = .int z :: rest) (hn : ¬ z < 0) (hcap : z.toNatClampNeg ≤ cap) (hb' : cap * 8 ≤ 536870912) (hc : k' ≤ rm.cells) (hl : n' ≤ rm.slots) (ek : k + 1 = k') (en : n + cap = n') (hp : pc + 2 = pc')
    (g : ∀ h' a kA, a = h.size → Ext h h' → Arv Z h' a kA (newarray.typeOf aty) z [] (defaultValue (newarray.typeOf aty)) → G w Q h' k' n' pc' Ls (.ref a :: rest)) : G w Q h k n pc Ls st := by
  subst hp ek en; intro T locs X eT N
  obtain ⟨T', h', kA, X', e', E, A, s'⟩ := newP X C.ex C.hZ hw eT (g := mkF w.m pc Ls st) rfl (C.dec hd) hs hn hcap hb' (by rw [C.ro]; exact hc) (by rw [C.ro]; exact hl)
  exact G.to X' e' N s' (g h' _ kA rfl E (Arv.new A hn))
theorem g_newR (C : Cx w l Z own bytes mx rt nm rm n0) {K : String} {i : Nat} {z : Int32} {cap : Nat} (hw : (Jvm.Cond.classLink own i K).before a0 Z = true) (w2 : (Jvm.Cond.arrayOver (.object K)).before a0 Z = true) (hd : decode bytes pc = .ok (.anewarray i, 3)) (hs : st = .int z :: rest) (hn : ¬ z < 0) (hcap : z.toNatClampNeg ≤ cap) (hb' : cap * 8 ≤ 536870912) (hc : k' ≤ rm.cells) (hl : n' ≤ rm.slots) (ek : k + 1 = k') (en : n + cap = n') (hp : pc + 3 = pc')
    (g : ∀ h' a kA, a = h.size → Ext h h' → Arv Z h' a kA (.object K) z [] .null → Ovr Z kA K → G w Q h' k' n' pc' Ls (.ref a :: rest)) : G w Q h k n pc Ls st := by
  subst hp ek en; intro T locs X eT N
  obtain ⟨T', h', kA, X', e', E, A, O, s'⟩ := newR X C.ex C.hZ C.ow hw w2 eT (g := mkF w.m pc Ls st) rfl (C.dec hd) hs hn hcap hb' (by rw [C.ro]; exact hc) (by rw [C.ro]; exact hl)
  exact G.to X' e' N s' (g h' _ kA rfl E (Arv.new A hn) O)
theorem g_newPE (C : Cx w l Z own bytes mx rt nm rm n0) {aty : ArrayType} {z : Int32} {cap : Nat} {ad : String} (hw : (Jvm.Cond.arrayClass (newarray.typeOf aty)).before a0 Z = true) (had : "[" ++ (newarray.typeOf aty).toString = ad) (hd : decode bytes pc = .ok (.newarray aty, 2)) (hs : st = .int z :: rest) (hn : ¬ z < 0) (hcap : z.toNatClampNeg ≤ cap) (hb' : cap * 8 ≤ 536870912) (hc : k' ≤ rm.cells) (hl : n' ≤ rm.slots) (ek : k + 1 = k') (en : n + cap = n') (hp : pc + 2 = pc')
    (g : ∀ h' a kA, a = h.size → Ext h h' → Arv Z h' a kA (newarray.typeOf aty) z [] (defaultValue (newarray.typeOf aty)) → Exa Z h' a ad → G w Q h' k' n' pc' Ls (.ref a :: rest)) : G w Q h k n pc Ls st := by
  subst hp ek en; intro T locs X eT N
  obtain ⟨T', h', kA, X', e', E, A, B, s'⟩ := newPE X C.ex C.hZ hw eT (g := mkF w.m pc Ls st) rfl (C.dec hd) hs hn hcap hb' (by rw [C.ro]; exact hc) (by rw [C.ro]; exact hl) had
  exact G.to X' e' N s' (g h' _ kA rfl E (Arv.new A hn) B)
theorem g_newRA (C : Cx w l Z own bytes mx rt nm rm n0) {K ad : String} {i : Nat} {ty : FieldType} {z : Int32} {cap : Nat} (hC : (FieldType.array ty).toString = K) (had : "[" ++ K = ad) (hw : (Jvm.Cond.classLink own i K).before a0 Z = true) (w2 : (Jvm.Cond.arrayOver (.array ty)).before a0 Z = true) (hd : decode bytes pc = .ok (.anewarray i, 3)) (hs : st = .int z :: rest) (hn : ¬ z < 0) (hcap : z.toNatClampNeg ≤ cap) (hb' : cap * 8 ≤ 536870912) (hc : k' ≤ rm.cells) (hl : n' ≤ rm.slots) (ek : k + 1 = k') (en : n + cap = n') (hp : pc + 3 = pc')
    (g : ∀ h' a kA, a = h.size → Ext h h' → Arv Z h' a kA (.array ty) z [] .null → Exa Z h' a ad → OvrA Z kA ty K → G w Q h' k' n' pc' Ls (.ref a :: rest)) : G w Q h k n pc Ls st := by
  subst hp ek en; intro T locs X eT N
  obtain ⟨T', h', kA, X', e', E, A, B, O, s'⟩ := newRA X C.ex C.hZ C.ow hC hw w2 eT (g := mkF w.m pc Ls st) rfl (C.dec hd) hs hn hcap hb' (by rw [C.ro]; exact hc) (by rw [C.ro]; exact hl) had
  exact G.to X' e' N s' (g h' _ kA rfl E (Arv.new A hn) B O)
theorem stoA {h : Heap} {a y : Addr} {kA : ClassId} {t0 ty : FieldType} {K : String} {z : Int32} {vs : List Value} {dv : Value} (A : Arv Z h a kA t0 z vs dv) (O : OvrA Z kA ty K) (E : Exa Z h y K) : Sto Z h a (.ref y) := by
  obtain ⟨c, Ar, q, -⟩ := A; exact Sto.ofVA Ar q O (Ins.self E)
theorem stoR {h : Heap} {a y : Addr} {kA : ClassId} {t0 : FieldType} {K : String} {z : Int32} {vs : List Value} {dv : Value} (A : Arv Z h a kA t0 z vs dv) (O : Ovr Z kA K) (I : Ins Z h y K true) : Sto Z h a (.ref y) := by
  obtain ⟨c, Ar, q, -⟩ := A; exact Sto.ofV Ar q O I
theorem g_cpA (C : Cx w l Z own bytes mx rt nm rm n0) {i : Nat} {a b : Addr} {k1 k2 : ClassId} {ty ty' : FieldType} {z z' sp dp nn : Int32} {vs vd us : List Value} {dv dd : Value}
    (w1 : (Jvm.Cond.methodLink own i Jvm.Stand.acN).before a0 Z = true) (w2 : (Jvm.Cond.native Jvm.Stand.acN).before a0 Z = true) (w3 : (Jvm.Cond.static Jvm.Stand.acN).before a0 Z = true) (w4 : (Jvm.Cond.initialized "java/lang/System").before a0 Z = true)
    (hd : decode bytes pc = .ok (.invokestatic i, 3)) (hs : st = .int nn :: .int dp :: .ref b :: .int sp :: .ref a :: rest) (hz : Ls.size = mx) (A : Arv Z h a k1 ty z vs dv) (B : Arv Z h b k2 ty' z' vd dd) (hty : (ty = ty' ∧ refKind ty = false) ∨ (refKind ty = true ∧ refKind ty' = true ∧ StoL Z h b us))
    (h1 : ¬ sp < 0) (h2 : ¬ dp < 0) (h3 : ¬ nn < 0) (h4 : sp.toNatClampNeg + nn.toNatClampNeg ≤ z.toNatClampNeg) (h5 : dp.toNatClampNeg + nn.toNatClampNeg ≤ z'.toNatClampNeg) (hus : us = (List.range nn.toNatClampNeg).map fun i => vs.getD (sp.toNatClampNeg + i) dv) (hlen : dp.toNatClampNeg + nn.toNatClampNeg ≤ vd.length) (ge : n0 ≤ b)
    (hf : 1 ≤ rm.frames) (hlo : (rest.map fun v => v.category).sum + (nativeFrameWords "java/lang/System" "arraycopy" 5 + 11) ≤ rm.locals) (hp : pc + 3 = pc')
    (g : ∀ h', Keep h h' [b] → Arv Z h' b k2 ty' z' (vd.take dp.toNatClampNeg ++ us ++ vd.drop (dp.toNatClampNeg + nn.toNatClampNeg)) dd → G w Q h' k n pc' Ls rest) : G w Q h k n pc Ls st := by
  subst hp; intro T locs X eT N
  obtain ⟨T', h', L, X', e', N', K, A', s'⟩ := cpA X C.ex C.hZ C.ow w1 w2 w3 w4 eT A B hty h1 h2 h3 h4 h5 hus hlen (n0 := w.n0) N (C.nn ▸ ge) (g := mkF w.m pc Ls st) rfl (hz.trans C.ml.symm) hs (C.dec hd) (by rw [C.ro]; exact hf) (W := (rest.map fun v => v.category).sum) (by show 2 * 0 + _ ≤ _; omega) (by rw [C.ro]; exact hlo)
  exact G.to X' e' N' s' (g h' K A')
/-! arrays by their values: an array fact (Arv) with a list of all its values -/
theorem arv_inb {a : Addr} {kA : ClassId} {ty : FieldType} {z j : Int32} {vs : List Value} {dv : Value} (A : Arv Z h a kA ty z vs dv) (q1 : ¬ j < 0) (q2 : j < z) : ∃ cl, Arr Z h a cl ty ∧ ¬ (j < 0 ∨ cl.slots.size ≤ j.toNatClampNeg) ∧ cl.slots[j.toNatClampNeg]? = some (vs.getD j.toNatClampNeg dv) := by
  obtain ⟨cl, Ar, -, S, -, H, -⟩ := A
  have hi := inb_of S ⟨q1, q2⟩
  exact ⟨cl, Ar, hi, H.at hi rfl⟩
theorem arv_put {h' : Heap} {a : Addr} {kA : ClassId} {ty : FieldType} {z j : Int32} {vs : List Value} {dv v : Value} (A : Arv Z h a kA ty z vs dv) (hv : fits ty v = true) (W : Wr h h' a j.toNatClampNeg v) {i : Nat} (hj : j.toNatClampNeg = i) (hi : i < vs.length) : Arv Z h' a kA ty z (vs.set i v) dv := by
  obtain ⟨cl, Ar, q1, S, q3, H, F⟩ := A
  exact Arv.set Ar q1 S q3 H F hv W i hj hi

theorem g_iaload (C : Cx w l Z own bytes mx rt nm rm n0) {a : Addr} {kA : ClassId} {z j : Int32} {vs : List Value} {dv : Value} {x : Int32} (hd : decode bytes pc = .ok (.iaload, 1)) (hs : st = .int j :: .ref a :: rest) (A : Arv Z h a kA .int z vs dv) (q1 : ¬ j < 0) (q2 : j < z) (hv : vs.getD j.toNatClampNeg dv = .int x) (hp : pc + 1 = pc') (g : G w Q h k n pc' Ls (.int x :: rest)) : G w Q h k n pc Ls st := by
  subst hp; intro T locs X eT N
  obtain ⟨cl, Ar, hi, hg⟩ := arv_inb A q1 q2
  rw [hv] at hg
  exact G.to X eT N (fun t r => X.iaload C.ex (j := j) (v := .int x) (by rw [eT]; exact Ar.1) (State.isArrayOf_alike C.hZ.alike Ar.2.1) Ar.2.2 hi hg (g := mkF w.m pc Ls st) rfl hs (C.dec hd) _ r) g
theorem g_laload (C : Cx w l Z own bytes mx rt nm rm n0) {a : Addr} {kA : ClassId} {z j : Int32} {vs : List Value} {dv : Value} {x : Int64} (hd : decode bytes pc = .ok (.laload, 1)) (hs : st = .int j :: .ref a :: rest) (A : Arv Z h a kA .long z vs dv) (q1 : ¬ j < 0) (q2 : j < z) (hv : vs.getD j.toNatClampNeg dv = .long x) (hp : pc + 1 = pc') (g : G w Q h k n pc' Ls (.long x :: rest)) : G w Q h k n pc Ls st := by
  subst hp; intro T locs X eT N
  obtain ⟨cl, Ar, hi, hg⟩ := arv_inb A q1 q2
  rw [hv] at hg
  exact G.to X eT N (fun t r => X.laload C.ex (j := j) (v := .long x) (by rw [eT]; exact Ar.1) (State.isArrayOf_alike C.hZ.alike Ar.2.1) Ar.2.2 hi hg (g := mkF w.m pc Ls st) rfl hs (C.dec hd) _ r) g
theorem g_baload (C : Cx w l Z own bytes mx rt nm rm n0) {a : Addr} {kA : ClassId} {z j : Int32} {vs : List Value} {dv : Value} {x : Int32} (hd : decode bytes pc = .ok (.baload, 1)) (hs : st = .int j :: .ref a :: rest) (A : Arv Z h a kA .byte z vs dv) (q1 : ¬ j < 0) (q2 : j < z) (hv : vs.getD j.toNatClampNeg dv = .int x) (hp : pc + 1 = pc') (g : G w Q h k n pc' Ls (.int x :: rest)) : G w Q h k n pc Ls st := by
  subst hp; intro T locs X eT N
  obtain ⟨cl, Ar, hi, hg⟩ := arv_inb A q1 q2
  rw [hv] at hg
  exact G.to X eT N (fun t r => X.baloadBytes C.ex (j := j) (v := .int x) (by rw [eT]; exact Ar.1) (State.isArrayOf_alike C.hZ.alike Ar.2.1) Ar.2.2 hi hg (g := mkF w.m pc Ls st) rfl hs (C.dec hd) _ r) g
theorem g_aaload (C : Cx w l Z own bytes mx rt nm rm n0) {a : Addr} {kA : ClassId} {ty : FieldType} {z j : Int32} {vs : List Value} {dv x : Value} (hd : decode bytes pc = .ok (.aaload, 1)) (hs : st = .int j :: .ref a :: rest) (A : Arv Z h a kA ty z vs dv) (hty : ty.isReference = true) (q1 : ¬ j < 0) (q2 : j < z) (hv : vs.getD j.toNatClampNeg dv = x) (hp : pc + 1 = pc') (g : G w Q h k n pc' Ls (x :: rest)) : G w Q h k n pc Ls st := by
  subst hp; intro T locs X eT N
  obtain ⟨cl, Ar, hi, hg⟩ := arv_inb A q1 q2
  rw [hv] at hg
  exact G.to X eT N (fun t r => X.aaload C.ex (j := j) (v := x) (by rw [eT]; exact Ar.1) (State.isArrayOf_alike C.hZ.alike Ar.2.1) hty Ar.2.2 hi hg (g := mkF w.m pc Ls st) rfl hs (C.dec hd) _ r) g
theorem g_alen (C : Cx w l Z own bytes mx rt nm rm n0) {a : Addr} {kA : ClassId} {ty : FieldType} {z : Int32} {vs : List Value} {dv : Value} (hd : decode bytes pc = .ok (.arraylength, 1)) (hs : st = .ref a :: rest) (A : Arv Z h a kA ty z vs dv) (hp : pc + 1 = pc') (g : G w Q h k n pc' Ls (.int z :: rest)) : G w Q h k n pc Ls st := by
  subst hp; intro T locs X eT N
  obtain ⟨cl, Ar, -, S, q3, -, -⟩ := A
  exact G.to X eT N (fun t r => X.arraylength C.ex (by rw [eT]; exact Ar.1) (State.isArrayOf_alike C.hZ.alike Ar.2.1) (g := mkF w.m pc Ls st) rfl hs (C.dec hd) _ (by rw [len_of S q3]; exact r)) g

theorem g_iastore (C : Cx w l Z own bytes mx rt nm rm n0) {a : Addr} {kA : ClassId} {z j : Int32} {vs : List Value} {dv : Value} {x : Int32} (hd : decode bytes pc = .ok (.iastore, 1)) (hs : st = .int x :: .int j :: .ref a :: rest) (A : Arv Z h a kA .int z vs dv) (q1 : ¬ j < 0) (q2 : j < z) (ge : n0 ≤ a) (hp : pc + 1 = pc')
    (g : ∀ h', Wr h h' a j.toNatClampNeg (.int x) → G w Q h' k n pc' Ls rest) : G w Q h k n pc Ls st := by
  subst hp; intro T locs X eT N
  obtain ⟨cl, Ar, hi, -⟩ := arv_inb A q1 q2
  obtain ⟨T', h', X', e', W, s'⟩ := stI X C.ex C.hZ eT Ar (j := j) hi (g := mkF w.m pc Ls st) rfl hs (C.dec hd)
  exact G.to X' e' (fr_snoc N (C.nn ▸ ge)) s' (g h' W)
theorem g_lastore (C : Cx w l Z own bytes mx rt nm rm n0) {a : Addr} {kA : ClassId} {z j : Int32} {vs : List Value} {dv : Value} {x : Int64} (hd : decode bytes pc = .ok (.lastore, 1)) (hs : st = .long x :: .int j :: .ref a :: rest) (A : Arv Z h a kA .long z vs dv) (q1 : ¬ j < 0) (q2 : j < z) (ge : n0 ≤ a) (hp : pc + 1 = pc')
    (g : ∀ h', Wr h h' a j.toNatClampNeg (.long x) → G w Q h' k n pc' Ls rest) : G w Q h k n pc Ls st := by
  subst hp; intro T locs X eT N
  obtain ⟨cl, Ar, hi, -⟩ := arv_inb A q1 q2
  obtain ⟨T', h', X', e', W, s'⟩ := stJ X C.ex C.hZ eT Ar (j := j) hi (g := mkF w.m pc Ls st) rfl hs (C.dec hd)
  exact G.to X' e' (fr_snoc N (C.nn ▸ ge)) s' (g h' W)
theorem g_bastore (C : Cx w l Z own bytes mx rt nm rm n0) {a : Addr} {kA : ClassId} {z j : Int32} {vs : List Value} {dv : Value} {x : Int32} (hd : decode bytes pc = .ok (.bastore, 1)) (hs : st = .int x :: .int j :: .ref a :: rest) (A : Arv Z h a kA .byte z vs dv) (q1 : ¬ j < 0) (q2 : j < z) (ge : n0 ≤ a) (hp : pc + 1 = pc')
    (g : ∀ h', Wr h h' a j.toNatClampNeg (.int (nar .byte x)) → G w Q h' k n pc' Ls rest) : G w Q h k n pc Ls st := by
  subst hp; intro T locs X eT N
  obtain ⟨cl, Ar, hi, -⟩ := arv_inb A q1 q2
  obtain ⟨T', h', X', e', W, s'⟩ := stB X C.ex C.hZ eT Ar (j := j) hi (g := mkF w.m pc Ls st) rfl hs (C.dec hd)
  exact G.to X' e' (fr_snoc N (C.nn ▸ ge)) s' (g h' W)
theorem g_aastore (C : Cx w l Z own bytes mx rt nm rm n0) {a : Addr} {kA : ClassId} {ty : FieldType} {z j : Int32} {vs : List Value} {dv x : Value} (hd : decode bytes pc = .ok (.aastore, 1)) (hs : st = x :: .int j :: .ref a :: rest) (A : Arv Z h a kA ty z vs dv) (hty : ty.isReference = true) (F : Sto Z h a x) (q1 : ¬ j < 0) (q2 : j < z) (ge : n0 ≤ a) (hp : pc + 1 = pc')
    (g : ∀ h', Wr h h' a j.toNatClampNeg x → G w Q h' k n pc' Ls rest) : G w Q h k n pc Ls st := by
  subst hp; intro T locs X eT N
  obtain ⟨cl, Ar, hi, -⟩ := arv_inb A q1 q2
  obtain ⟨T', h', X', e', W, s'⟩ := stR X C.ex C.hZ eT Ar (j := j) hi hty F (g := mkF w.m pc Ls st) rfl hs (C.dec hd)
  exact G.to X' e' (fr_snoc N (C.nn ▸ ge)) s' (g h' W)
/-! returns -/
theorem g_ret (C : Cx w l Z own bytes mx (some t) nm rm n0) {v : Value} {i : Instr} (hd : decode bytes pc = .ok (i, 1)) (hs : st = v :: rest) (hn : narrow t v = v)
    (hi : (i = .ireturn ∧ (t = .int ∨ t = .boolean ∨ t = .byte ∨ t = .char ∨ t = .short) ∧ ∃ z, v = .int z) ∨ (i = .lreturn ∧ t = .long ∧ ∃ z, v = .long z) ∨ (i = .dreturn ∧ t = .double ∧ ∃ z, v = .double z) ∨ (i = .freturn ∧ t = .float ∧ ∃ z, v = .float z) ∨ (i = .areturn ∧ t.isReference = true ∧ v.isRef = true))
    (hk : k ≤ rm.cells) (hnn : n ≤ rm.slots) (q : Q (some v) h) : G w Q h k n pc Ls st := by
  subst hs; intro T locs X eT N
  obtain ⟨fs, hr, hrun, hended, hW, hsame⟩ := X.leave (v := some v) (fun h => by rw [C.ret] at h; cases h) C.lk
  exact ⟨_, _, retOut X C.ex C.ret hn hi (C.dec hd) hr, hrun, hended, _, locs, rfl, ⟨by show Q _ T.heap; rw [eT]; exact q, N⟩, ⟨_, rfl⟩, hW, hsame.mono (by rw [C.ro]; exact hk) (by rw [C.ro]; exact hnn)⟩
theorem g_ireturn (C : Cx w l Z own bytes mx (some .int) nm rm n0) {z : Int32} (hd : decode bytes pc = .ok (.ireturn, 1)) (hs : st = .int z :: rest) (hk : k ≤ rm.cells) (hnn : n ≤ rm.slots) (q : Q (some (.int z)) h) : G w Q h k n pc Ls st :=
  g_ret C hd hs rfl (Or.inl ⟨rfl, Or.inl rfl, z, rfl⟩) hk hnn q
theorem g_zreturn (C : Cx w l Z own bytes mx (some .boolean) nm rm n0) {z : Int32} (hd : decode bytes pc = .ok (.ireturn, 1)) (hs : st = .int z :: rest) (hn : narrow .boolean (.int z) = .int z) (hk : k ≤ rm.cells) (hnn : n ≤ rm.slots) (q : Q (some (.int z)) h) : G w Q h k n pc Ls st :=
  g_ret C hd hs hn (Or.inl ⟨rfl, Or.inr (Or.inl rfl), z, rfl⟩) hk hnn q
theorem g_breturn (C : Cx w l Z own bytes mx (some .byte) nm rm n0) {z : Int32} (hd : decode bytes pc = .ok (.ireturn, 1)) (hs : st = .int z :: rest) (hn : narrow .byte (.int z) = .int z) (hk : k ≤ rm.cells) (hnn : n ≤ rm.slots) (q : Q (some (.int z)) h) : G w Q h k n pc Ls st :=
  g_ret C hd hs hn (Or.inl ⟨rfl, Or.inr (Or.inr (Or.inl rfl)), z, rfl⟩) hk hnn q
theorem g_lreturn (C : Cx w l Z own bytes mx (some .long) nm rm n0) {z : Int64} (hd : decode bytes pc = .ok (.lreturn, 1)) (hs : st = .long z :: rest) (hk : k ≤ rm.cells) (hnn : n ≤ rm.slots) (q : Q (some (.long z)) h) : G w Q h k n pc Ls st :=
  g_ret C hd hs rfl (Or.inr (Or.inl ⟨rfl, rfl, z, rfl⟩)) hk hnn q
theorem g_areturn (C : Cx w l Z own bytes mx (some t) nm rm n0) {v : Value} (hd : decode bytes pc = .ok (.areturn, 1)) (hs : st = v :: rest) (ht : t.isReference = true) (hv : v.isRef = true) (hn : narrow t v = v) (hk : k ≤ rm.cells) (hnn : n ≤ rm.slots) (q : Q (some v) h) : G w Q h k n pc Ls st :=
  g_ret C hd hs hn (Or.inr (Or.inr (Or.inr (Or.inr ⟨rfl, ht, hv⟩)))) hk hnn q
theorem g_return (C : Cx w l Z own bytes mx none nm rm n0) (hd : decode bytes pc = .ok (.return_, 1)) (hs : st = []) (hk : k ≤ rm.cells) (hnn : n ≤ rm.slots) (q : Q none h) : G w Q h k n pc Ls st := by
  subst hs; intro T locs X eT N
  obtain ⟨fs, hr, hrun, hended, hW, hsame⟩ := X.leave (v := none) (fun _ => rfl) C.lk
  exact ⟨_, _, X.returnOut C.ex C.ret (C.dec hd) hr, hrun, hended, _, locs, rfl, ⟨by show Q _ T.heap; rw [eT]; exact q, N⟩, ⟨_, rfl⟩, hW, hsame.mono (by rw [C.ro]; exact hk) (by rw [C.ro]; exact hnn)⟩
/-! calls by the callee's contract -/
theorem g_fin {rm' : Room} {Q' : Option Value → Heap → Prop} {T : State} {locs : List Loc} {as : Array Value} {v : Option Value} {B : Pt} {A : Pt} (C : Cx w l Z own bytes mx rt nm rm n0) (hA : A.locs = locs ∧ A.cells = k ∧ A.slots = n)
    (X' : Stand w.p w.l w.e w.R w.s w.m w.args w.below w.meth w.c B.U B.locs B.cells B.slots) (hQ : ∃ L, (Q' v B.U.heap ∧ Fr n0 L) ∧ B.locs = A.locs ++ L ∧ B.cells = A.cells + rm'.cells ∧ B.slots = A.slots + rm'.slots) (N : Fr w.n0 locs)
    (g : ∀ v h', Q' v h' → G w Q h' (k + rm'.cells) (n + rm'.slots) pc' Ls (psh v rest)) (s' : ∀ t, Steps w.p.tables w.e w.below (B.U.setTop (mkF w.m pc' Ls (v.toList ++ rest))) t → Steps w.p.tables w.e w.below (T.setTop (mkF w.m pc Ls st)) t) : Ends w Q (T.setTop (mkF w.m pc Ls st)) := by
  obtain ⟨T', L', k', n'⟩ := B
  obtain ⟨L, ⟨hq, hL⟩, e1, e2, e3⟩ := hQ
  obtain ⟨a1, a2, a3⟩ := hA
  dsimp only [Pt.U, Pt.locs, Pt.cells, Pt.slots] at X' hq e1 e2 e3 s' a1 a2 a3
  subst a1 a2 a3 e1 e2 e3
  rw [psh_eq] at s'
  exact G.to X' rfl (N.app (C.nn ▸ hL)) s' (g v _ hq)
theorem g_callS (C : Cx w l Z own bytes mx rt nm rm n0) {y : MethodName} {i mL : Nat} {bs : ByteArray} {rt' : Option FieldType} {rm' : Room} {Q' : Option Value → Heap → Prop} {argsL : List Value} {ps : List FieldType} {r : Option FieldType}
    (w1 : (Jvm.Cond.methodLink own i y).before a0 Z = true) (w2 : (Jvm.Cond.static y).before a0 Z = true) (w3 : (Jvm.Cond.initialized y.cls).before a0 Z = true) (w4 : (Jvm.Cond.code y bs mL rt').before a0 Z = true) (hy : y.cls ≠ "java/lang/invoke/MethodHandle" ∧ y.cls ≠ "java/lang/invoke/VarHandle")
    (hd : decode bytes pc = .ok (.invokestatic i, 3)) (pd : parseMethodDescriptor y.desc = some ⟨ps, r⟩) (hlen : argsL.length = ps.length) (hst : st = argsL.reverse ++ rest) (hz : Ls.size = mx)
    (K : Con l Z y bs mL rt' rm' argsL.toArray h n0 Q') (hf : rm'.frames + 1 ≤ rm.frames) (hl : (rest.map fun v => v.category).sum + (mL + 11) + rm'.locals ≤ rm.locals) (hc : k' ≤ rm.cells) (hn : n' ≤ rm.slots) (ek : k + rm'.cells = k') (en : n + rm'.slots = n') (hp : pc + 3 = pc')
    (g : ∀ v h', Q' v h' → G w Q h' k' n' pc' Ls (psh v rest)) : G w Q h k n pc Ls st := by
  subst hp ek en; intro T locs X eT N
  have hl0 : w.l = l := C.1
  subst hl0
  obtain ⟨v, vm₁, B, -, X', hQ, s'⟩ := Jvm.LawKit.callS X C.ex C.ow (mvT C.hZ w1) (mvT C.hZ w2) (mvT C.hZ w3) (mvT C.hZ w4) hy (backOf (W := (rest.map fun v => v.category).sum) (Q := fun v h L => Q' v h ∧ Fr n0 L) (K []) C.hZ w4 w3 (by rw [C.ro]; exact hf) (by rw [C.ro]; exact hl)) (g := mkF w.m pc Ls st) rfl (hz.trans C.ml.symm) (argsL := argsL) (rest := rest) (lenOf pd hlen) hst (by show 2 * 0 + _ ≤ _; omega) (C.dec hd) (fun _ _ => ⟨rfl, eT, by rw [C.ro]; exact hc, by rw [C.ro]; exact hn⟩)
  exact g_fin (T := T) (as := argsL.toArray) (A := (⟨T.setVm vm₁, locs, k, n⟩ : Pt)) C ⟨rfl, rfl, rfl⟩ X' hQ N g s'
theorem g_special (C : Cx w l Z own bytes mx rt nm rm n0) {y : MethodName} {i mL : Nat} {bs : ByteArray} {rm' : Room} {Q' : Option Value → Heap → Prop} {a : Addr} {argsL : List Value} {ps : List FieldType} {r : Option FieldType}
    (w1 : (Jvm.Cond.methodLink own i y).before a0 Z = true) (w2 : (Jvm.Cond.instanceMethod y).before a0 Z = true) (w3 : (Jvm.Cond.initialized y.cls).before a0 Z = true) (w4 : (Jvm.Cond.code y bs mL none).before a0 Z = true) (hy : y.cls ≠ "java/lang/invoke/MethodHandle" ∧ y.cls ≠ "java/lang/invoke/VarHandle") (hy1 : y.name = "<init>")
    (hd : decode bytes pc = .ok (.invokespecial i, 3)) (pd : parseMethodDescriptor y.desc = some ⟨ps, r⟩) (hlen : argsL.length = ps.length) (hst : st = argsL.reverse ++ .ref a :: rest) (hz : Ls.size = mx)
    (K : Con l Z y bs mL none rm' (.ref a :: argsL).toArray h n0 Q') (hf : rm'.frames + 1 ≤ rm.frames) (hl : (rest.map fun v => v.category).sum + (mL + 11) + rm'.locals ≤ rm.locals) (hc : k' ≤ rm.cells) (hn : n' ≤ rm.slots) (ek : k + rm'.cells = k') (en : n + rm'.slots = n') (hp : pc + 3 = pc')
    (g : ∀ v h', Q' v h' → G w Q h' k' n' pc' Ls (psh v rest)) : G w Q h k n pc Ls st := by
  subst hp ek en; intro T locs X eT N
  have hl0 : w.l = l := C.1
  subst hl0
  obtain ⟨v, vm₁, B, -, X', hQ, s'⟩ := X.specialBack C.ex hy1 C.ow (mvT C.hZ w1) (mvT C.hZ w2) (mvT C.hZ w4) hy (backOf (W := (rest.map fun v => v.category).sum) (Q := fun v h L => Q' v h ∧ Fr n0 L) (K []) C.hZ w4 w3 (by rw [C.ro]; exact hf) (by rw [C.ro]; exact hl)) (g := mkF w.m pc Ls st) rfl (hz.trans C.ml.symm) (Steps.refl _) (a := a) (argsL := argsL) (rest := rest) (lenOf pd hlen) hst (by show 2 * 0 + _ ≤ _; omega) (C.dec hd) (fun _ _ => ⟨rfl, eT, by rw [C.ro]; exact hc, by rw [C.ro]; exact hn⟩)
  exact g_fin (T := T) (as := argsL.toArray) (A := (⟨T.setVm vm₁, locs, k, n⟩ : Pt)) C ⟨rfl, rfl, rfl⟩ X' hQ N g (fun t r => s'.trans r)
theorem g_virtual (C : Cx w l Z own bytes mx rt nm rm n0) {y z : MethodName} {B : String} {i mL : Nat} {bs : ByteArray} {rt' : Option FieldType} {rm' : Room} {Q' : Option Value → Heap → Prop} {a : Addr} {argsL : List Value} {ps : List FieldType} {r : Option FieldType}
    (w1 : (Jvm.Cond.methodLink own i y).before a0 Z = true) (w2 : (Jvm.Cond.declares y).before a0 Z = true) (nf : ∀ {s : State}, Z.Warmed39 s.vm → NotFace s y) (ws : (Jvm.Cond.selects B y z).before a0 Z = true) (w5 : (Jvm.Cond.instanceMethod z).before a0 Z = true) (w3 : (Jvm.Cond.initialized z.cls).before a0 Z = true) (w4 : (Jvm.Cond.code z bs mL rt').before a0 Z = true) (hy : y.cls ≠ "java/lang/invoke/MethodHandle" ∧ y.cls ≠ "java/lang/invoke/VarHandle")
    (hd : decode bytes pc = .ok (.invokevirtual i, 3)) (pd : parseMethodDescriptor y.desc = some ⟨ps, r⟩) (hlen : argsL.length = ps.length) (hst : st = argsL.reverse ++ .ref a :: rest) (hz : Ls.size = mx) (E : Exa Z h a B)
    (K : Con l Z z bs mL rt' rm' (.ref a :: argsL).toArray h n0 Q') (hf : rm'.frames + 1 ≤ rm.frames) (hl : (rest.map fun v => v.category).sum + (mL + 11) + rm'.locals ≤ rm.locals) (hc : k' ≤ rm.cells) (hn : n' ≤ rm.slots) (ek : k + rm'.cells = k') (en : n + rm'.slots = n') (hp : pc + 3 = pc')
    (g : ∀ v h', Q' v h' → G w Q h' k' n' pc' Ls (psh v rest)) : G w Q h k n pc Ls st := by
  subst hp ek en; intro T locs X eT N
  have hl0 : w.l = l := C.1
  subst hl0
  obtain ⟨cq, kq, q1, q2, q3⟩ := isOf C.hZ eT E
  obtain ⟨v, vm₁, B, -, X', hQ, s'⟩ := X.virtualBack C.ex C.ow (mvT C.hZ w1) (mvT C.hZ w2) (nf C.hZ) (mvT C.hZ ws) (mvT C.hZ w5) hy (backOf (W := (rest.map fun v => v.category).sum) (Q := fun v h L => Q' v h ∧ Fr n0 L) (K []) C.hZ w4 w3 (by rw [C.ro]; exact hf) (by rw [C.ro]; exact hl)) q1 q3 (g := mkF w.m pc Ls st) rfl (hz.trans C.ml.symm) (Steps.refl _) (argsL := argsL) (rest := rest) (lenOf pd hlen) hst (by show 2 * 0 + _ ≤ _; omega) (C.dec hd) (fun _ _ => ⟨rfl, eT, by rw [C.ro]; exact hc, by rw [C.ro]; exact hn⟩)
  exact g_fin (T := T) (as := argsL.toArray) (A := (⟨T.setVm vm₁, locs, k, n⟩ : Pt)) C ⟨rfl, rfl, rfl⟩ X' hQ N g (fun t r => s'.trans r)
theorem nfSel {y : MethodName} {B : String} (ws : (Jvm.Cond.selects B y y).before a0 Z = true) : ∀ {s : State}, Z.Warmed39 s.vm → NotFace s y := fun hZ => notFace_of_selects (args := #[]) (mvT hZ ws)
theorem g_virtualUp (C : Cx w l Z own bytes mx rt nm rm n0) {y z : MethodName} {B owner : String} {i mL : Nat} {bs : ByteArray} {rt' : Option FieldType} {rm' : Room} {Q' : Option Value → Heap → Prop} {a : Addr} {argsL : List Value} {ps : List FieldType} {r : Option FieldType}
    (w1 : (Jvm.Cond.methodLink own i y).before a0 Z = true) (wm : (Jvm.Cond.sameMethod y.cls owner y.name y.desc).before a0 Z = true) (w2 : (Jvm.Cond.declares ⟨owner, y.name, y.desc⟩).before a0 Z = true) (ho : owner ≠ "java/lang/invoke/MethodHandle" ∧ owner ≠ "java/lang/invoke/VarHandle") (ws : (Jvm.Cond.selects B y z).before a0 Z = true) (w5 : (Jvm.Cond.instanceMethod z).before a0 Z = true) (w3 : (Jvm.Cond.initialized z.cls).before a0 Z = true) (w4 : (Jvm.Cond.code z bs mL rt').before a0 Z = true)
    (hd : decode bytes pc = .ok (.invokevirtual i, 3)) (pd : parseMethodDescriptor y.desc = some ⟨ps, r⟩) (hlen : argsL.length = ps.length) (hst : st = argsL.reverse ++ .ref a :: rest) (hz : Ls.size = mx) (E : Exa Z h a B)
    (K : Con l Z z bs mL rt' rm' (.ref a :: argsL).toArray h n0 Q') (hf : rm'.frames + 1 ≤ rm.frames) (hl : (rest.map fun v => v.category).sum + (mL + 11) + rm'.locals ≤ rm.locals) (hc : k' ≤ rm.cells) (hn : n' ≤ rm.slots) (ek : k + rm'.cells = k') (en : n + rm'.slots = n') (hp : pc + 3 = pc')
    (g : ∀ v h', Q' v h' → G w Q h' k' n' pc' Ls (psh v rest)) : G w Q h k n pc Ls st := by
  subst hp ek en; intro T locs X eT N
  have hl0 : w.l = l := C.1
  subst hl0
  obtain ⟨cq, kq, q1, q2, q3⟩ := isOf C.hZ eT E
  obtain ⟨v, vm₁, B, -, X', hQ, s'⟩ := X.virtualBackUp C.ex C.ow (mvT C.hZ w1) (mvT C.hZ wm) (mvT C.hZ w2) ho (mvT C.hZ ws) (mvT C.hZ w5) (backOf (W := (rest.map fun v => v.category).sum) (Q := fun v h L => Q' v h ∧ Fr n0 L) (K []) C.hZ w4 w3 (by rw [C.ro]; exact hf) (by rw [C.ro]; exact hl)) q1 q3 (g := mkF w.m pc Ls st) rfl (hz.trans C.ml.symm) (Steps.refl _) (argsL := argsL) (rest := rest) (lenOf pd hlen) hst (by show 2 * 0 + _ ≤ _; omega) (C.dec hd) (fun _ _ => ⟨rfl, eT, by rw [C.ro]; exact hc, by rw [C.ro]; exact hn⟩)
  exact g_fin (T := T) (as := argsL.toArray) (A := (⟨T.setVm vm₁, locs, k, n⟩ : Pt)) C ⟨rfl, rfl, rfl⟩ X' hQ N g (fun t r => s'.trans r)
theorem g_interface (C : Cx w l Z own bytes mx rt nm rm n0) {y z : MethodName} {B : String} {count : Nat} {i mL : Nat} {bs : ByteArray} {rt' : Option FieldType} {rm' : Room} {Q' : Option Value → Heap → Prop} {a : Addr} {argsL : List Value} {ps : List FieldType} {r : Option FieldType}
    (w1 : (Jvm.Cond.methodLink own i y).before a0 Z = true) (w2 : (Jvm.Cond.declares y).before a0 Z = true) (wf : (Jvm.Cond.interfaceMethod y.cls y.cls y.name y.desc).before a0 Z = true) (hfa : ((Jvm.Cond.interfaceMethod y.cls y.cls y.name y.desc).onTables && (Jvm.Cond.interfaceMethod y.cls y.cls y.name y.desc).keepsFace) = true) (ws : (Jvm.Cond.selects B y z).before a0 Z = true) (w5 : (Jvm.Cond.instanceMethod z).before a0 Z = true) (wp : (Jvm.Cond.publicMethod z).before a0 Z = true) (wu : (Jvm.Cond.unhidden B y.name y.desc).before a0 Z = true) (wk : (Jvm.Cond.castable B y.cls).before a0 Z = true) (w3 : (Jvm.Cond.initialized z.cls).before a0 Z = true) (w4 : (Jvm.Cond.code z bs mL rt').before a0 Z = true) (hy : y.cls ≠ "java/lang/invoke/MethodHandle" ∧ y.cls ≠ "java/lang/invoke/VarHandle")
    (hd : decode bytes pc = .ok (.invokeinterface i count, 5)) (pd : parseMethodDescriptor y.desc = some ⟨ps, r⟩) (hlen : argsL.length = ps.length) (hst : st = argsL.reverse ++ .ref a :: rest) (hz : Ls.size = mx) (E : Exa Z h a B)
    (K : Con l Z z bs mL rt' rm' (.ref a :: argsL).toArray h n0 Q') (hf : rm'.frames + 1 ≤ rm.frames) (hl : (rest.map fun v => v.category).sum + (mL + 11) + rm'.locals ≤ rm.locals) (hc : k' ≤ rm.cells) (hn : n' ≤ rm.slots) (ek : k + rm'.cells = k') (en : n + rm'.slots = n') (hp : pc + 5 = pc')
    (g : ∀ v h', Q' v h' → G w Q h' k' n' pc' Ls (psh v rest)) : G w Q h k n pc Ls st := by
  subst hp ek en; intro T locs X eT N
  have hl0 : w.l = l := C.1
  subst hl0
  obtain ⟨cq, kq, q1, q2, q3⟩ := isOf C.hZ eT E
  obtain ⟨v, vm₁, B, -, X', hQ, s'⟩ := X.interfaceBack C.ex C.ow (mvT C.hZ w1) (mvT C.hZ w2) (mvT C.hZ wf hfa) (mvT C.hZ ws) (mvT C.hZ w5) (mvT C.hZ wp) (mvT C.hZ wu) (mvT C.hZ wk) hy (backOf (W := (rest.map fun v => v.category).sum) (Q := fun v h L => Q' v h ∧ Fr n0 L) (K []) C.hZ w4 w3 (by rw [C.ro]; exact hf) (by rw [C.ro]; exact hl)) q1 q2 q3 (g := mkF w.m pc Ls st) rfl (hz.trans C.ml.symm) (Steps.refl _) (argsL := argsL) (rest := rest) (lenOf pd hlen) hst (by show 2 * 0 + _ ≤ _; omega) (C.dec hd) (fun _ _ => ⟨rfl, eT, by rw [C.ro]; exact hc, by rw [C.ro]; exact hn⟩)
  exact g_fin (T := T) (as := argsL.toArray) (A := (⟨T.setVm vm₁, locs, k, n⟩ : Pt)) C ⟨rfl, rfl, rfl⟩ X' hQ N g (fun t r => s'.trans r)
theorem g_private (C : Cx w l Z own bytes mx rt nm rm n0) {y : MethodName} {B : String} {kk i mL : Nat} {bs : ByteArray} {rt' : Option FieldType} {rm' : Room} {Q' : Option Value → Heap → Prop} {a : Addr} {argsL : List Value} {ps : List FieldType} {r : Option FieldType}
    (w1 : (Jvm.Cond.methodLink own i y).before a0 Z = true) (w5 : (Jvm.Cond.instanceMethod y).before a0 Z = true) (wi : (Jvm.Cond.instantiable y.cls kk).before a0 Z = true) (wp : (Jvm.Cond.privateMethod y).before a0 Z = true) (w3 : (Jvm.Cond.initialized y.cls).before a0 Z = true) (w4 : (Jvm.Cond.code y bs mL rt').before a0 Z = true) (hy : y.cls ≠ "java/lang/invoke/MethodHandle" ∧ y.cls ≠ "java/lang/invoke/VarHandle")
    (hd : decode bytes pc = .ok (.invokevirtual i, 3)) (pd : parseMethodDescriptor y.desc = some ⟨ps, r⟩) (hlen : argsL.length = ps.length) (hst : st = argsL.reverse ++ .ref a :: rest) (hz : Ls.size = mx) (E : Exa Z h a B)
    (K : Con l Z y bs mL rt' rm' (.ref a :: argsL).toArray h n0 Q') (hf : rm'.frames + 1 ≤ rm.frames) (hl : (rest.map fun v => v.category).sum + (mL + 11) + rm'.locals ≤ rm.locals) (hc : k' ≤ rm.cells) (hn : n' ≤ rm.slots) (ek : k + rm'.cells = k') (en : n + rm'.slots = n') (hp : pc + 3 = pc')
    (g : ∀ v h', Q' v h' → G w Q h' k' n' pc' Ls (psh v rest)) : G w Q h k n pc Ls st := by
  subst hp ek en; intro T locs X eT N
  have hl0 : w.l = l := C.1
  subst hl0
  obtain ⟨cq, q1, q2⟩ := E.cell
  have wi' : (Jvm.Cond.instantiable y.cls kk).before w.args w.s = true := mvT C.hZ wi
  obtain ⟨c2, k2, i1, i2, -, i4, -⟩ := Cond.instantiable_spec wi'
  have hni : k2.isInterface = false := (Bool.or_eq_false_iff.mp i4).1
  have hpv := Cond.privateMethod_at (mvP C.hZ wp (args := w.args))
  obtain ⟨v, vm₁, B, -, X', hQ, s'⟩ := X.privateBack C.ex C.ow (mvT C.hZ w1) (mvT C.hZ w5) (selects_self_of_private i1 i2 hni hpv (mvT C.hZ w5) hy) hpv (mvT C.hZ w4) hy (backOf (W := (rest.map fun v => v.category).sum) (Q := fun v h L => Q' v h ∧ Fr n0 L) (K []) C.hZ w4 w3 (by rw [C.ro]; exact hf) (by rw [C.ro]; exact hl)) (g := mkF w.m pc Ls st) rfl (hz.trans C.ml.symm) (Steps.refl _) (a := a) (by rw [eT]; exact q1) q2 (argsL := argsL) (rest := rest) (lenOf pd hlen) hst (by show 2 * 0 + _ ≤ _; omega) (C.dec hd) (fun _ _ => ⟨rfl, eT, by rw [C.ro]; exact hc, by rw [C.ro]; exact hn⟩)
  exact g_fin (T := T) (as := argsL.toArray) (A := (⟨T.setVm vm₁, locs, k, n⟩ : Pt)) C ⟨rfl, rfl, rfl⟩ X' hQ N g (fun t r => s'.trans r)
theorem g_lswHit (C : Cx w l Z own bytes mx rt nm rm n0) {df : Int} {prs : Array (Int × Int)} {len : Nat} {a o : Int} {i : Int32} (hd : decode bytes pc = .ok (.lookupswitch df prs, len)) (hs : st = .int i :: rest) (hso : (prs.toList.zip (prs.toList.drop 1)).all (fun (a, next) => a.1 < next.1) = true) (hf : prs.find? (·.1 == i.toInt) = some (a, o)) (ho : 0 ≤ (pc : Int) + o) (hp : ((pc : Int) + o).toNat = pc') (g : G w Q h k n pc' Ls rest) : G w Q h k n pc Ls st := by
  subst hp; exact g.adv fun T locs X _ t r => X.lookupswitchHit C.ex (g := mkF w.m pc Ls st) rfl hs (C.dec hd) hso hf ho t r
theorem g_lswMiss (C : Cx w l Z own bytes mx rt nm rm n0) {df : Int} {prs : Array (Int × Int)} {len : Nat} {i : Int32} (hd : decode bytes pc = .ok (.lookupswitch df prs, len)) (hs : st = .int i :: rest) (hso : (prs.toList.zip (prs.toList.drop 1)).all (fun (a, next) => a.1 < next.1) = true) (hf : prs.find? (·.1 == i.toInt) = none) (ho : 0 ≤ (pc : Int) + df) (hp : ((pc : Int) + df).toNat = pc') (g : G w Q h k n pc' Ls rest) : G w Q h k n pc Ls st := by
  subst hp; exact g.adv fun T locs X _ t r => X.lookupswitchMiss C.ex (g := mkF w.m pc Ls st) rfl hs (C.dec hd) hso hf ho t r
end Gs
theorem wd {Z : State} {a0 : Array Value} (hw : ∀ d ∈ tables_1, d.before a0 Z = true) (i : Nat) {d : Jvm.Cond} (e : tables_1[i]? = some d) : d.before a0 Z = true := hw _ (List.mem_of_getElem? e)
theorem own_fldInt {args : Array Value} {s : State} {t : Term} {a : Addr} {C f d : String} {k : Int32} (ev : t.eval args s none [] s = some (.ref a)) (h : (Jvm.Cond.eq (.field t C f d) (.int k)).value args s none s [] = some true) : Fld s s.heap a C f d (.int k) := by
  obtain ⟨x, y, hx, hy, k1, k2⟩ := cmp_v (Or.inl h)
  cases (Term.int_eval k).symm.trans hy
  obtain ⟨z, rfl⟩ : ∃ z, x = .int z := by simpa [Kin] using k2
  have e : z = k := by simpa [Jvm.Cond.value, hx, hy] using h
  subst e
  rw [fld_at ev] at hx
  exact Fld.start hx
theorem own_fldLong {args : Array Value} {s : State} {t : Term} {a : Addr} {C f d : String} {k : Int64} (ev : t.eval args s none [] s = some (.ref a)) (h : (Jvm.Cond.eq (.field t C f d) (.long k)).value args s none s [] = some true) : Fld s s.heap a C f d (.long k) := by
  obtain ⟨x, y, hx, hy, k1, k2⟩ := cmp_v (Or.inl h)
  cases (long_at k).symm.trans hy
  obtain ⟨z, rfl⟩ : ∃ z, x = .long z := by simpa [Kin] using k2
  have e : z = k := by simpa [Jvm.Cond.value, hx, hy] using h
  subst e
  rw [fld_at ev] at hx
  exact Fld.start hx
theorem own_staLong {args : Array Value} {s : State} {t : Term} {k : Int64} (h : (Jvm.Cond.eq t (.long k)).value args s none s [] = some true) : t.eval args s none [] s = some (.long k) := by
  obtain ⟨x, y, hx, hy, k1, k2⟩ := cmp_v (Or.inl h)
  cases (long_at k).symm.trans hy
  obtain ⟨z, rfl⟩ : ∃ z, x = .long z := by simpa [Kin] using k2
  have e : z = k := by simpa [Jvm.Cond.value, hx, hy] using h
  subst e
  exact hx
theorem own_staInt {args : Array Value} {s : State} {t : Term} {k : Int32} (h : (Jvm.Cond.eq t (.int k)).value args s none s [] = some true) : t.eval args s none [] s = some (.int k) := by
  obtain ⟨x, y, hx, hy, k1, k2⟩ := cmp_v (Or.inl h)
  cases (Term.int_eval k).symm.trans hy
  obtain ⟨z, rfl⟩ : ∃ z, x = .int z := by simpa [Kin] using k2
  have e : z = k := by simpa [Jvm.Cond.value, hx, hy] using h
  subst e
  exact hx
theorem own_ine {i j : Int32} (h : i ≠ j) : (Value.int i) ≠ .int j := fun q => h (by injection q)
theorem own_mask31 (x : Int32) : 0 ≤ (x &&& 2147483647).toInt ∧ (x &&& 2147483647).toInt < 2147483648 := by
  have := c_mask x 2147483647 31 (by decide) (by decide)
  rw [this]; omega
/-! class objects, a negative instanceof, a constructor through a nest -/
section Jdk
variable {w : Wk} {l : Launch} {Z : State} {own : String} {bytes : ByteArray} {mx : Nat} {rt : Option FieldType} {nm : String} {rm : Room} {n0 : Nat} {Q : Option Value → Heap → Prop} {h : Heap} {k n pc pc' : Nat} {Ls Ls' : Array Slot} {st rest : List Value} {a0 : Array Value} {t : FieldType} {k' n' : Nat}
theorem g_ldcMirror (C : Cx w l Z own bytes mx rt nm rm n0) {K : String} {i : Nat} {mr : Addr} (hw : (Jvm.Cond.classLink own i K).before a0 Z = true) (M : Mir Z K mr) (hd : decode bytes pc = .ok (.ldc i, 2)) (hp : pc + 2 = pc') (g : G w Q h k n pc' Ls (.ref mr :: st)) : G w Q h k n pc Ls st := by
  subst hp; intro T locs X eT N
  obtain ⟨cc, kc, m1, m2, m3, -⟩ := M
  obtain ⟨k1, q, ek⟩ := C.hZ.alike.2.2 _ _ m2
  have e1 : w.s.vm.findClass K = some cc := by rw [C.hZ.alike.findClass]; exact m1
  have e2 : k1.mirror = some mr := by rw [ek]; exact m3
  have hev : (Term.mirror K).eval w.args w.s none [] w.s = some (.ref mr) := by simp [Term.eval, e1, q, e2]
  obtain ⟨vm', X', s'⟩ := X.ldcMirror C.ex C.ow (mvT C.hZ hw) hev (g := mkF w.m pc Ls st) rfl (C.dec hd)
  exact G.to X' eT N s' g
theorem g_getClass (C : Cx w l Z own bytes mx rt nm rm n0) {K : String} {i : Nat} {a mr : Addr} (w1 : (Jvm.Cond.methodLink own i ⟨"java/lang/Object", "getClass", "()Ljava/lang/Class;"⟩).before a0 Z = true) (w2 : (Jvm.Cond.declares ⟨"java/lang/Object", "getClass", "()Ljava/lang/Class;"⟩).before a0 Z = true) (w3 : (Jvm.Cond.noSuperclass "java/lang/Object").before a0 Z = true) (w4 : (Jvm.Cond.selects K ⟨"java/lang/Object", "getClass", "()Ljava/lang/Class;"⟩ ⟨"java/lang/Object", "getClass", "()Ljava/lang/Class;"⟩).before a0 Z = true)
    (w5 : (Jvm.Cond.instanceMethod ⟨"java/lang/Object", "getClass", "()Ljava/lang/Class;"⟩).before a0 Z = true) (w6 : (Jvm.Cond.native ⟨"java/lang/Object", "getClass", "()Ljava/lang/Class;"⟩).before a0 Z = true) (hd : decode bytes pc = .ok (.invokevirtual i, 3)) (hs : st = .ref a :: rest) (hz : Ls.size = mx) (E : Exa Z h a K) (M : Mir Z K mr) (hf : 1 ≤ rm.frames) (hl : (rest.map fun v => v.category).sum + (nativeFrameWords "java/lang/Object" "getClass" 1 + 11) ≤ rm.locals) (hp : pc + 3 = pc') (g : G w Q h k n pc' Ls (.ref mr :: rest)) : G w Q h k n pc Ls st := by
  subst hp; intro T locs X eT N
  obtain ⟨T', X', e', s'⟩ := gcls X C.ex C.hZ C.ow w1 w2 w3 w4 w5 w6 eT E M (g := mkF w.m pc Ls st) rfl (hz.trans C.ml.symm) hs (C.dec hd) (by rw [C.ro]; exact hf) (W := (rest.map fun v => v.category).sum) (by show 2 * 0 + _ ≤ _; omega) (by rw [C.ro]; exact hl)
  exact G.to X' e' N s' g
theorem g_specialNest (C : Cx w l Z own bytes mx rt nm rm n0) {y : MethodName} {host : String} {i mL : Nat} {bs : ByteArray} {rm' : Room} {Q' : Option Value → Heap → Prop} {a : Addr} {argsL : List Value} {ps : List FieldType} {r : Option FieldType}
    (w1 : (Jvm.Cond.methodLinkNest own i y host).before a0 Z = true) (w2 : (Jvm.Cond.instanceMethod y).before a0 Z = true) (w3 : (Jvm.Cond.initialized y.cls).before a0 Z = true) (w4 : (Jvm.Cond.code y bs mL none).before a0 Z = true) (hy : y.cls ≠ "java/lang/invoke/MethodHandle" ∧ y.cls ≠ "java/lang/invoke/VarHandle") (hy1 : y.name = "<init>")
    (hd : decode bytes pc = .ok (.invokespecial i, 3)) (pd : parseMethodDescriptor y.desc = some ⟨ps, r⟩) (hlen : argsL.length = ps.length) (hst : st = argsL.reverse ++ .ref a :: rest) (hz : Ls.size = mx)
    (K : Con l Z y bs mL none rm' (.ref a :: argsL).toArray h n0 Q') (hf : rm'.frames + 1 ≤ rm.frames) (hl : (rest.map fun v => v.category).sum + (mL + 11) + rm'.locals ≤ rm.locals) (hc : k' ≤ rm.cells) (hn : n' ≤ rm.slots) (ek : k + rm'.cells = k') (en : n + rm'.slots = n') (hp : pc + 3 = pc')
    (g : ∀ v h', Q' v h' → G w Q h' k' n' pc' Ls (psh v rest)) : G w Q h k n pc Ls st := by
  subst hp ek en; intro T locs X eT N
  have hl0 : w.l = l := C.1
  subst hl0
  obtain ⟨v, vm₁, B, -, X', hQ, s'⟩ := X.specialBackNest C.ex hy1 C.ow ((Cond.methodLinkNest_wide C.hZ w1 :) : (Jvm.Cond.methodLinkNest own i y host).before w.args w.s = true) (mvT C.hZ w2) (mvT C.hZ w4) hy (backOf (W := (rest.map fun v => v.category).sum) (Q := fun v h L => Q' v h ∧ Fr n0 L) (K []) C.hZ w4 w3 (by rw [C.ro]; exact hf) (by rw [C.ro]; exact hl)) (g := mkF w.m pc Ls st) rfl (hz.trans C.ml.symm) (Steps.refl _) (a := a) (argsL := argsL) (rest := rest) (lenOf pd hlen) hst (by show 2 * 0 + _ ≤ _; omega) (C.dec hd) (fun _ _ => ⟨rfl, eT, by rw [C.ro]; exact hc, by rw [C.ro]; exact hn⟩)
  exact g_fin (T := T) (as := argsL.toArray) (A := (⟨T.setVm vm₁, locs, k, n⟩ : Pt)) C ⟨rfl, rfl, rfl⟩ X' hQ N g (fun t r => s'.trans r)
theorem g_newRE (C : Cx w l Z own bytes mx rt nm rm n0) {K ad : String} {i : Nat} {z : Int32} {cap : Nat} (hw : (Jvm.Cond.classLink own i K).before a0 Z = true) (w2 : (Jvm.Cond.arrayOver (.object K)).before a0 Z = true) (had : "[" ++ (FieldType.object K).toString = ad) (hd : decode bytes pc = .ok (.anewarray i, 3)) (hs : st = .int z :: rest) (hn : ¬ z < 0) (hcap : z.toNatClampNeg ≤ cap) (hb' : cap * 8 ≤ 536870912) (hc : k' ≤ rm.cells) (hl : n' ≤ rm.slots) (ek : k + 1 = k') (en : n + cap = n') (hp : pc + 3 = pc')
    (g : ∀ h' a kA, a = h.size → Ext h h' → Arv Z h' a kA (.object K) z [] .null → Exa Z h' a ad → Ovr Z kA K → G w Q h' k' n' pc' Ls (.ref a :: rest)) : G w Q h k n pc Ls st := by
  subst hp ek en; intro T locs X eT N
  obtain ⟨T', h', kA, X', e', E, A, B, O, s'⟩ := newRE X C.ex C.hZ C.ow hw w2 eT (g := mkF w.m pc Ls st) rfl (C.dec hd) hs hn hcap hb' (by rw [C.ro]; exact hc) (by rw [C.ro]; exact hl) had
  exact G.to X' e' N s' (g h' _ kA rfl E (Arv.new A hn) B O)
theorem ns_root {O K : String} {kk : Nat} (w0 : (Jvm.Cond.noSuperclass O).before a0 Z = true) (wk : (Jvm.Cond.instantiable K kk).before a0 Z = true) (hn : O ≠ K) : NS Z O K := by
  obtain ⟨c, k, h1, h2, h3, -, -⟩ := Cond.noSuperclass_spec w0
  obtain ⟨t, k2, g1, -⟩ := Cond.instantiable_spec wk
  have ne := ids_ne h1 g1 hn
  refine ⟨c, t, h1, g1, fun fuel => ?_⟩
  cases fuel with
  | zero => rfl
  | succ f => simp [Vm.isSubclassAux, ne, h2, h3]
theorem ns_no {B S K : String} {kk : Nat} (w0 : (Jvm.Cond.superclass B S).before a0 Z = true) (wk : (Jvm.Cond.instantiable K kk).before a0 Z = true) (n : NS Z B K) (hn : B ≠ K) : ∃ c t, Z.vm.findClass B = some c ∧ Z.vm.findClass K = some t ∧ Z.vm.assignable c t = false := by
  obtain ⟨c, t, h0, g0, n3⟩ := n
  obtain ⟨p, k, kp, h1, h2, h3, h4, h5, -, h7⟩ := Cond.superclass_spec h0 w0
  obtain ⟨t2, k2, g1, g2, g3, g4, -⟩ := Cond.instantiable_spec wk
  cases g0.symm.trans g1
  have ne := ids_ne h0 g0 hn
  have g7 : k2.isInterface = false := (Bool.or_eq_false_iff.mp g4).1
  refine ⟨c, t, h0, g0, ?_⟩
  show Z.vm.assignableAux (255 + 1) c t = false
  simp [Vm.assignableAux, ne, h2, g2, h5, g3, g7, Vm.isSubclass, n3]
end Jdk
theorem own_fldRef {args : Array Value} {s : State} {t : Term} {a b : Addr} {C f d : String} (ev : t.eval args s none [] s = some (.ref a)) (h : (Term.field t C f d).eval args s none [] s = some (.ref b)) : Fld s s.heap a C f d (.ref b) := by
  rw [fld_at ev] at h
  exact Fld.start h
theorem own_emptyA {s : State} {args : Array Value} {t : Term} {a : Addr} {ty : FieldType} {dv : Value} (ev : t.eval args s none [] s = some (.ref a)) (ha : (Jvm.Cond.arrayOf t ty).value args s none s [] = some true) (hl : (Jvm.Cond.eq (.length t) (.int (0 : Int32))).value args s none s [] = some true) : ∃ kE, Arv s s.heap a kE ty (0 : Int32) [] dv := by
  obtain ⟨c, A⟩ := Arr.start ev ha
  have hc := A.fin (Vm.Alike.refl _)
  have e := own_staInt hl
  have hi : (Jvm.Cond.isInt (.length t)).before args s = true := Cond.before_iff.mpr (by simp [Jvm.Cond.value, e])
  have sm := Cond.small_of_lengthOf ev hc hi
  obtain ⟨x, c', e1, e2, e3⟩ := Term.length_spec e
  cases ev.symm.trans e1
  cases hc.symm.trans e2
  have q : c.slots.size.toInt32 = 0 := by injection e3 with e4; exact e4.symm
  have z : c.slots.size = 0 := by
    have r := len_toInt sm
    rw [q] at r
    have e0 : (0 : Int32).toInt = 0 := by decide
    omega
  exact ⟨c.cls, c, A, rfl, by rw [z]; rfl, by decide, fun k hk => absurd hk (by omega), fun i hi => absurd hi (by omega)⟩

theorem own_neInt {args : Array Value} {s : State} {t : Term} {x : Int32} (ev : t.eval args s none [] s = some (.int x)) (h : (Jvm.Cond.not (Jvm.Cond.eq t (.int (0 : Int32)))).value args s none s [] = some true) : ¬ x = 0 := by
  have q := not_v h
  have e0 : (Term.int (0 : Int32)).eval args s none [] s = some (.int 0) := Term.int_eval 0
  simpa [Jvm.Cond.value, ev, e0] using q
def En (Z : State) (s_DEF : Addr) (s_EL : Addr) (s_EA : Addr) (s_EM : Addr) (cs : Int32) (mr : Addr) : Prop := (Sta Z Z.heap "java/util/ArrayList" "DEFAULTCAPACITY_EMPTY_ELEMENTDATA" "[Ljava/lang/Object;" (.ref s_DEF)) ∧ (Exa Z Z.heap s_DEF "[Ljava/lang/Object;") ∧ (∃ kE, Arv Z Z.heap s_DEF kE (.object "java/lang/Object") (0 : Int32) [] .null) ∧ (Sta Z Z.heap "java/util/ImmutableCollections" "EMPTY_LIST" "Ljava/util/ImmutableCollections$ListN;" (.ref s_EL)) ∧ (Exa Z Z.heap s_EL "java/util/ImmutableCollections$ListN") ∧ (Fld Z Z.heap s_EL "java/util/ImmutableCollections$ListN" "elements" "[Ljava/lang/Object;" (.ref s_EA)) ∧ (∃ kE, Arv Z Z.heap s_EA kE (.object "java/lang/Object") (0 : Int32) [] .null) ∧ (Sta Z Z.heap "java/util/ImmutableCollections" "EMPTY" "Ljava/lang/Object;" (.ref s_EM)) ∧ (Exa Z Z.heap s_EM "java/lang/Object") ∧ (Sta Z Z.heap "java/lang/String" "COMPACT_STRINGS" "Z" (.int cs)) ∧ (¬ cs = 0) ∧ (Mir Z "[Ljava/lang/Object;" mr)
def AL0 (Z : State) (n0 : Nat) (h : Heap) (a ed : Addr) (mc : Int32) : Prop := n0 ≤ a ∧ Exa Z h a "java/util/ArrayList" ∧ Fld Z h a "java/util/AbstractList" "modCount" "I" (.int mc) ∧ Fld Z h a "java/util/ArrayList" "elementData" "[Ljava/lang/Object;" (.ref ed) ∧ Fld Z h a "java/util/ArrayList" "size" "I" (.int (0 : Int32))
def AL1 (Z : State) (n0 : Nat) (h : Heap) (a ed : Addr) (kE : ClassId) (mc s : Int32) (vs : List Value) : Prop := n0 ≤ a ∧ n0 ≤ ed ∧ a ≠ ed ∧ Ovr Z kE "java/lang/Object" ∧ Exa Z h a "java/util/ArrayList" ∧ Exa Z h ed "[Ljava/lang/Object;" ∧ Fld Z h a "java/util/AbstractList" "modCount" "I" (.int mc) ∧ Fld Z h a "java/util/ArrayList" "elementData" "[Ljava/lang/Object;" (.ref ed) ∧ Fld Z h a "java/util/ArrayList" "size" "I" (.int s) ∧ Arv Z h ed kE (.object "java/lang/Object") (10 : Int32) vs .null
theorem own_AL0_keep {Z : State} {n0 : Nat} {h h' : Heap} {ws : List Addr} {a ed : Addr} {mc : Int32} (P : AL0 Z n0 h a ed mc) (K : Keep h h' ws) (q : a ∉ ws) : AL0 Z n0 h' a ed mc := by
  obtain ⟨g, E, F1, F2, F3⟩ := P; exact ⟨g, E.keep K, F1.keep K q, F2.keep K q, F3.keep K q⟩
theorem own_AL0_ext {Z : State} {n0 : Nat} {h h' : Heap} {a ed : Addr} {mc : Int32} (P : AL0 Z n0 h a ed mc) (K : Ext h h') : AL0 Z n0 h' a ed mc := by
  obtain ⟨g, E, F1, F2, F3⟩ := P; exact ⟨g, E.ext K, F1.ext K, F2.ext K, F3.ext K⟩
theorem own_AL1_keep {Z : State} {n0 : Nat} {h h' : Heap} {ws : List Addr} {a ed : Addr} {kE : ClassId} {mc s : Int32} {vs : List Value} (P : AL1 Z n0 h a ed kE mc s vs) (K : Keep h h' ws) (q : a ∉ ws) (r : ed ∉ ws) : AL1 Z n0 h' a ed kE mc s vs := by
  obtain ⟨g, g2, n, O, E, E2, F1, F2, F3, A⟩ := P; exact ⟨g, g2, n, O, E.keep K, E2.keep K, F1.keep K q, F2.keep K q, F3.keep K q, A.keep K r⟩
theorem own_AL1_ext {Z : State} {n0 : Nat} {h h' : Heap} {a ed : Addr} {kE : ClassId} {mc s : Int32} {vs : List Value} (P : AL1 Z n0 h a ed kE mc s vs) (K : Ext h h') : AL1 Z n0 h' a ed kE mc s vs := by
  obtain ⟨g, g2, n, O, E, E2, F1, F2, F3, A⟩ := P; exact ⟨g, g2, n, O, E.ext K, E2.ext K, F1.ext K, F2.ext K, F3.ext K, A.ext K⟩
theorem d2_0 : decode jdk_43_method_3_code 0 = .ok (.iload_n 0, 1) := by decide +kernel
theorem d2_1 : decode jdk_43_method_3_code 1 = .ok (.sipush 255, 3) := by decide +kernel
theorem d2_4 : decode jdk_43_method_3_code 4 = .ok (.if_icmp .gt 7, 3) := by decide +kernel
theorem d2_7 : decode jdk_43_method_3_code 7 = .ok (.iconst 1, 1) := by decide +kernel
theorem d2_8 : decode jdk_43_method_3_code 8 = .ok (.goto 4, 3) := by decide +kernel
theorem d2_12 : decode jdk_43_method_3_code 12 = .ok (.ireturn, 1) := by decide +kernel
theorem pn_7 : plainName "java/lang/StringLatin1" = true := by first | (simp [plainName, overriddenIn]; done) | decide +kernel
set_option maxRecDepth 65536 in
set_option maxHeartbeats 40000000 in
theorem canEnc (l : Launch) (Z : State) (a0 : Array Value) (hw : ∀ d ∈ tables_1, d.before a0 Z = true) (n0 : Nat) (h : Heap) (O : Old Z n0 h) (s_DEF : Addr) (s_EL : Addr) (s_EA : Addr) (s_EM : Addr) (cs : Int32) (mr : Addr) (H : En Z s_DEF s_EL s_EA s_EM cs mr) (c : Int32) (hc : ¬ (255 : Int32) < c) : Con l Z (⟨"java/lang/StringLatin1", "canEncode", "(C)Z"⟩ : MethodName) jdk_43_method_3_code 1 (some .boolean) ({ frames := 0, cells := 0, slots := 0, locals := 0 } : Room) #[(.int c)] h n0 (fun v h' => v = some (.int (1 : Int32)) ∧ h' = h) := by
  refine Con.mk (Ls := #[.val (.int c)]) (plainFor_of_name pn_7) (fun m => by first | (simp [entryFrame, mkF, argsToLocals, Value.category]; done) | rfl) (fun w C => ?_)
  replace C : Cx w l Z "java/lang/StringLatin1" jdk_43_method_3_code 1 (some .boolean) "canEncode" ({ frames := 0, cells := 0, slots := 0, locals := 0 } : Room) n0 := C
  obtain ⟨S_DEF, E_DEF, V_DEF, S_EL, E_EL, F_EL, V_EA, S_EM, E_EM, S_CS, hcs, MIR⟩ := id H
  refine g_iloadN C (pc' := 1) d2_0 rfl rfl ?_
  refine g_sipush C (pc' := 4) (v := (255 : Int32)) d2_1 (by decide) rfl ?_
  refine g_icN C (pc' := 7) d2_4 rfl (says_f (cd := .gt) (hc)) rfl ?_
  refine g_iconst C (pc' := 8) (v := (1 : Int32)) d2_7 (by decide) rfl ?_
  refine g_goto C (pc' := 12) d2_8 (by decide) rfl ?_
  exact g_zreturn C d2_12 rfl rfl (Nat.le_of_ble_eq_true rfl) (Nat.le_of_ble_eq_true rfl) (⟨rfl, rfl⟩)
theorem d3_0 : decode jdk_43_method_46_code 0 = .ok (.iconst 1, 1) := by decide +kernel
theorem d3_1 : decode jdk_43_method_46_code 1 = .ok (.newarray .byte, 2) := by decide +kernel
theorem d3_3 : decode jdk_43_method_46_code 3 = .ok (.dup, 1) := by decide +kernel
theorem d3_4 : decode jdk_43_method_46_code 4 = .ok (.iconst 0, 1) := by decide +kernel
theorem d3_5 : decode jdk_43_method_46_code 5 = .ok (.iload_n 0, 1) := by decide +kernel
theorem d3_6 : decode jdk_43_method_46_code 6 = .ok (.i2b, 1) := by decide +kernel
theorem d3_7 : decode jdk_43_method_46_code 7 = .ok (.bastore, 1) := by decide +kernel
theorem d3_8 : decode jdk_43_method_46_code 8 = .ok (.areturn, 1) := by decide +kernel
set_option maxRecDepth 65536 in
set_option maxHeartbeats 40000000 in
theorem toB (l : Launch) (Z : State) (a0 : Array Value) (hw : ∀ d ∈ tables_1, d.before a0 Z = true) (n0 : Nat) (h : Heap) (O : Old Z n0 h) (s_DEF : Addr) (s_EL : Addr) (s_EA : Addr) (s_EM : Addr) (cs : Int32) (mr : Addr) (H : En Z s_DEF s_EL s_EA s_EM cs mr) (c : Int32) : Con l Z (⟨"java/lang/StringLatin1", "toBytes", "(C)[B"⟩ : MethodName) jdk_43_method_46_code 1 (some (.array .byte)) ({ frames := 0, cells := 1, slots := 1, locals := 0 } : Room) #[(.int c)] h n0 (fun v h' => ∃ g, v = some (.ref g) ∧ h.size ≤ g ∧ Keep h h' []) := by
  refine Con.mk (Ls := #[.val (.int c)]) (plainFor_of_name pn_7) (fun m => by first | (simp [entryFrame, mkF, argsToLocals, Value.category]; done) | rfl) (fun w C => ?_)
  replace C : Cx w l Z "java/lang/StringLatin1" jdk_43_method_46_code 1 (some (.array .byte)) "toBytes" ({ frames := 0, cells := 1, slots := 1, locals := 0 } : Room) n0 := C
  obtain ⟨S_DEF, E_DEF, V_DEF, S_EL, E_EL, F_EL, V_EA, S_EM, E_EM, S_CS, hcs, MIR⟩ := id H
  obtain ⟨kD, V_DEF⟩ := V_DEF
  obtain ⟨kEA, V_EA⟩ := V_EA
  refine g_iconst C (pc' := 1) (v := (1 : Int32)) d3_0 (by decide) rfl ?_
  refine g_newP C (pc' := 3) (k' := 1) (n' := 1) (cap := 1) (wd hw 14 rfl) d3_1 rfl (by decide) (by decide) (by decide) (by decide) (by decide) rfl rfl rfl (fun h1 b2 kA3 ex4 E5 A6 => ?_)
  have ge_b2 : n0 ≤ b2 := by rw [ex4]; exact O.1 ▸ O.2.1
  have sz_b2 : h.size ≤ b2 := by rw [ex4]; exact (Keep.refl h []).1
  have f7 := O.ext E5
  have f8 := (Keep.refl h []).ext E5
  have A9 : Arv Z h1 b2 kA3 .byte (1 : Int32) [(.int (0 : Int32))] (.int (0 : Int32)) := A6.pad (pad_rep [] (.int (0 : Int32)) 1)
  refine g_dup C (pc' := 4) d3_3 rfl rfl rfl ?_
  refine g_iconst C (pc' := 5) (v := (0 : Int32)) d3_4 (by decide) rfl ?_
  refine g_iloadN C (pc' := 6) d3_5 rfl rfl ?_
  refine g_i2b C (pc' := 7) d3_6 rfl rfl ?_
  refine g_bastore C (pc' := 8) d3_7 rfl A9 (by decide) (by decide) ge_b2 rfl (fun h10 W11 => ?_)
  have f12 := f7.wr W11 ge_b2
  have f13 := f8.wr W11 (Or.inr sz_b2)
  have f14 := (arv_put A9 (fits_nar_byte _) W11 (i := 0) rfl (Nat.le_of_ble_eq_true rfl) : Arv Z h10 b2 kA3 .byte (1 : Int32) [(.int (nar .byte c.toInt8.toInt32))] (.int (0 : Int32)))
  exact g_areturn C d3_8 rfl rfl rfl rfl (Nat.le_of_ble_eq_true rfl) (Nat.le_of_ble_eq_true rfl) (⟨b2, rfl, sz_b2, f13⟩)
theorem d4_0 : decode jdk_42_method_151_code 0 = .ok (.aload_n 0, 1) := by decide +kernel
theorem d4_1 : decode jdk_42_method_151_code 1 = .ok (.invokespecial 1, 3) := by decide +kernel
theorem d4_4 : decode jdk_42_method_151_code 4 = .ok (.aload_n 0, 1) := by decide +kernel
theorem d4_5 : decode jdk_42_method_151_code 5 = .ok (.aload_n 1, 1) := by decide +kernel
theorem d4_6 : decode jdk_42_method_151_code 6 = .ok (.putfield 9, 3) := by decide +kernel
theorem d4_9 : decode jdk_42_method_151_code 9 = .ok (.aload_n 0, 1) := by decide +kernel
theorem d4_10 : decode jdk_42_method_151_code 10 = .ok (.iload_n 2, 1) := by decide +kernel
theorem d4_11 : decode jdk_42_method_151_code 11 = .ok (.putfield 15, 3) := by decide +kernel
theorem d4_14 : decode jdk_42_method_151_code 14 = .ok (.return_, 1) := by decide +kernel
theorem pn_6 : plainName "java/lang/String" = true := by first | (simp [plainName, overriddenIn]; done) | decide +kernel
set_option maxRecDepth 65536 in
set_option maxHeartbeats 40000000 in
theorem strI (l : Launch) (Z : State) (a0 : Array Value) (hw : ∀ d ∈ tables_1, d.before a0 Z = true) (n0 : Nat) (h : Heap) (O : Old Z n0 h) (s_DEF : Addr) (s_EL : Addr) (s_EA : Addr) (s_EM : Addr) (cs : Int32) (mr : Addr) (H : En Z s_DEF s_EL s_EA s_EM cs mr) (a : Addr) (b : Addr) (ga : n0 ≤ a) (E0 : Exa Z h a "java/lang/String") (F_value : Fld Z h a "java/lang/String" "value" "[B" .null) (F_coder : Fld Z h a "java/lang/String" "coder" "B" (.int (0 : Int32))) : Con l Z (⟨"java/lang/String", "<init>", "([BB)V"⟩ : MethodName) jdk_42_method_151_code 3 none ({ frames := 1, cells := 0, slots := 0, locals := 12 } : Room) #[(.ref a), (.ref b), (.int (0 : Int32))] h n0 (fun v h' => v = none ∧ Keep h h' [a]) := by
  refine Con.mk (Ls := #[.val (.ref a), .val (.ref b), .val (.int (0 : Int32))]) (plainFor_of_name pn_6) (fun m => by first | (simp [entryFrame, mkF, argsToLocals, Value.category]; done) | rfl) (fun w C => ?_)
  replace C : Cx w l Z "java/lang/String" jdk_42_method_151_code 3 none "<init>" ({ frames := 1, cells := 0, slots := 0, locals := 12 } : Room) n0 := C
  obtain ⟨S_DEF, E_DEF, V_DEF, S_EL, E_EL, F_EL, V_EA, S_EM, E_EM, S_CS, hcs, MIR⟩ := id H
  obtain ⟨kD, V_DEF⟩ := V_DEF
  obtain ⟨kEA, V_EA⟩ := V_EA
  refine g_aloadN C (pc' := 1) d4_0 rfl rfl rfl ?_
  refine g_initO C (pc' := 4) (wd hw 19 rfl) (wd hw 20 rfl) (wd hw 21 rfl) d4_1 rfl rfl (Nat.le_of_ble_eq_true rfl) (Nat.le_of_ble_eq_true rfl) rfl ?_
  refine g_aloadN C (pc' := 5) d4_4 rfl rfl rfl ?_
  refine g_aloadN C (pc' := 6) d4_5 rfl rfl rfl ?_
  refine g_putF C (pc' := 9) (ty := (.array .byte)) (wd hw 22 rfl) Via.refl d4_6 rfl F_value E0 (Or.inr ⟨(wd hw 23 rfl), rfl, rfl⟩) (wd hw 10 rfl) (by decide) rfl rfl ga rfl (fun h15 W16 => ?_)
  have f17 := O.wr W16 ga
  have f18 := (Keep.refl h [a]).wr W16 (Or.inl (List.mem_of_getElem? (i := 0) rfl))
  have f19 := E0.wr W16
  have f20 := F_value.same W16
  have f21 := F_coder.other W16 (Or.inr (slot_ne (Or.inr (wd hw 25 rfl)) (Or.inr (wd hw 23 rfl)) (by decide) (t := .byte) (t' := (.array .byte)) (by decide) (by decide)))
  refine g_aloadN C (pc' := 10) d4_9 rfl rfl rfl ?_
  refine g_iloadN C (pc' := 11) d4_10 rfl rfl ?_
  refine g_putFN C (pc' := 14) (v' := (.int (0 : Int32))) (ty := .byte) (wd hw 24 rfl) Via.refl d4_11 rfl f21 f19 (Or.inr ⟨(wd hw 25 rfl), rfl, rfl⟩) (wd hw 10 rfl) (by decide) rfl rfl ga rfl (fun h22 W23 => ?_)
  have f24 := f17.wr W23 ga
  have f25 := f18.wr W23 (Or.inl (List.mem_of_getElem? (i := 0) rfl))
  have f26 := f19.wr W23
  have f27 := f20.other W23 (Or.inr (slot_ne (Or.inr (wd hw 23 rfl)) (Or.inr (wd hw 25 rfl)) (by decide) (t := (.array .byte)) (t' := .byte) (by decide) (by decide)))
  have f28 := f21.same W23
  exact g_return C d4_14 rfl (Nat.le_of_ble_eq_true rfl) (Nat.le_of_ble_eq_true rfl) (⟨rfl, f25⟩)
theorem d1_0 : decode jdk_42_method_139_code 0 = .ok (.getstatic 38, 3) := by decide +kernel
theorem d1_3 : decode jdk_42_method_139_code 3 = .ok (.ifCond .eq 23, 3) := by decide +kernel
theorem d1_6 : decode jdk_42_method_139_code 6 = .ok (.iload_n 0, 1) := by decide +kernel
theorem d1_7 : decode jdk_42_method_139_code 7 = .ok (.invokestatic 1015, 3) := by decide +kernel
theorem pd_1 : parseMethodDescriptor "(C)Z" = some ⟨[.char], some .boolean⟩ := by decide +kernel
theorem d1_10 : decode jdk_42_method_139_code 10 = .ok (.ifCond .eq 16, 3) := by decide +kernel
theorem d1_13 : decode jdk_42_method_139_code 13 = .ok (.new 10, 3) := by decide +kernel
theorem d1_16 : decode jdk_42_method_139_code 16 = .ok (.dup, 1) := by decide +kernel
theorem d1_17 : decode jdk_42_method_139_code 17 = .ok (.iload_n 0, 1) := by decide +kernel
theorem d1_18 : decode jdk_42_method_139_code 18 = .ok (.invokestatic 1018, 3) := by decide +kernel
theorem pd_2 : parseMethodDescriptor "(C)[B" = some ⟨[.char], some (.array .byte)⟩ := by decide +kernel
theorem d1_21 : decode jdk_42_method_139_code 21 = .ok (.iconst 0, 1) := by decide +kernel
theorem d1_22 : decode jdk_42_method_139_code 22 = .ok (.invokespecial 209, 3) := by decide +kernel
theorem pd_3 : parseMethodDescriptor "([BB)V" = some ⟨[(.array .byte), .byte], none⟩ := by decide +kernel
theorem d1_25 : decode jdk_42_method_139_code 25 = .ok (.areturn, 1) := by decide +kernel
set_option maxRecDepth 65536 in
set_option maxHeartbeats 40000000 in
theorem valueOf (l : Launch) (Z : State) (a0 : Array Value) (hw : ∀ d ∈ tables_1, d.before a0 Z = true) (n0 : Nat) (h : Heap) (O : Old Z n0 h) (s_DEF : Addr) (s_EL : Addr) (s_EA : Addr) (s_EM : Addr) (cs : Int32) (mr : Addr) (H : En Z s_DEF s_EL s_EA s_EM cs mr) (c : Int32) (hc : ¬ (255 : Int32) < c) : Con l Z (⟨"java/lang/String", "valueOf", "(C)Ljava/lang/String;"⟩ : MethodName) jdk_42_method_139_code 1 (some (.object "java/lang/String")) ({ frames := 2, cells := 2, slots := 5, locals := 27 } : Room) #[(.int c)] h n0 (fun v h' => ∃ g, v = some (.ref g) ∧ h.size ≤ g ∧ Keep h h' []) := by
  refine Con.mk (Ls := #[.val (.int c)]) (plainFor_of_name pn_6) (fun m => by first | (simp [entryFrame, mkF, argsToLocals, Value.category]; done) | rfl) (fun w C => ?_)
  replace C : Cx w l Z "java/lang/String" jdk_42_method_139_code 1 (some (.object "java/lang/String")) "valueOf" ({ frames := 2, cells := 2, slots := 5, locals := 27 } : Room) n0 := C
  obtain ⟨S_DEF, E_DEF, V_DEF, S_EL, E_EL, F_EL, V_EA, S_EM, E_EM, S_CS, hcs, MIR⟩ := id H
  obtain ⟨kD, V_DEF⟩ := V_DEF
  obtain ⟨kEA, V_EA⟩ := V_EA
  refine g_getS C (pc' := 3) (wd hw 4 rfl) Via.refl d1_0 (S_CS.ext O.2) rfl ?_
  refine g_ifN C (pc' := 6) d1_3 rfl (says_f (cd := .eq) (hcs)) rfl ?_
  refine g_iloadN C (pc' := 7) d1_6 rfl rfl ?_
  refine g_callS C (pc' := 10) (k' := 0) (n' := 0) (argsL := [(.int c)]) (rest := []) (wd hw 5 rfl) (wd hw 6 rfl) (wd hw 7 rfl) (wd hw 8 rfl) (by decide) d1_7 pd_1 rfl rfl rfl (canEnc l Z a0 hw n0 h O s_DEF s_EL s_EA s_EM cs mr H c hc) (Nat.le_of_ble_eq_true rfl) (Nat.le_of_ble_eq_true rfl) (Nat.le_of_ble_eq_true rfl) (Nat.le_of_ble_eq_true rfl) rfl rfl rfl (fun v30 h29 q31 => ?_)
  obtain ⟨rfl, eh29⟩ := q31
  subst h29
  show G w _ h 0 0 10 #[.val (.int c)] [(.int (1 : Int32))]
  refine g_ifN C (pc' := 13) d1_10 rfl (by decide) rfl ?_
  refine g_new C (pc' := 16) (k' := 1) (n' := 4) (wd hw 9 rfl) (wd hw 10 rfl) (wd hw 2 rfl) d1_13 (by decide) (by decide) rfl rfl rfl (fun h32 b33 ex34 E35 A36 D37 => ?_)
  have ge_b33 : n0 ≤ b33 := by rw [ex34]; exact O.1 ▸ O.2.1
  have sz_b33 : h.size ≤ b33 := by rw [ex34]; exact (Keep.refl h []).1
  have f38 := O.ext E35
  have f39 := (Keep.refl h []).ext E35
  have F_value_b33 : Fld Z h32 b33 "java/lang/String" "value" "[B" .null := D37 (Or.inr (wd hw 23 rfl)) (ty := (.array .byte)) (by decide)
  have F_coder_b33 : Fld Z h32 b33 "java/lang/String" "coder" "B" (.int (0 : Int32)) := D37 (Or.inr (wd hw 25 rfl)) (ty := .byte) (by decide)
  refine g_dup C (pc' := 17) d1_16 rfl rfl rfl ?_
  refine g_iloadN C (pc' := 18) d1_17 rfl rfl ?_
  refine g_callS C (pc' := 21) (k' := 2) (n' := 5) (argsL := [(.int c)]) (rest := [(.ref b33), (.ref b33)]) (wd hw 11 rfl) (wd hw 12 rfl) (wd hw 7 rfl) (wd hw 13 rfl) (by decide) d1_18 pd_2 rfl rfl rfl (toB l Z a0 hw n0 h32 f38 s_DEF s_EL s_EA s_EM cs mr H c) (Nat.le_of_ble_eq_true rfl) (Nat.le_of_ble_eq_true rfl) (Nat.le_of_ble_eq_true rfl) (Nat.le_of_ble_eq_true rfl) rfl rfl rfl (fun v41 h40 q42 => ?_)
  obtain ⟨bb, rfl, q1, q2⟩ := q42
  have ne_b33_bb : b33 ≠ bb := Nat.ne_of_lt (Nat.lt_of_lt_of_le A36.lt q1)
  have ge_bb : n0 ≤ bb := Nat.le_trans (f38.1 ▸ f38.2.1) q1
  have sz_bb : h.size ≤ bb := Nat.le_trans f39.1 q1
  have f43 := f38.keep q2 all0
  have f44 := f39.trans q2 all0
  have f45 := A36.keep q2
  have f46 := F_value_b33.keep q2 nin0
  have f47 := F_coder_b33.keep q2 nin0
  show G w _ h40 2 5 21 #[.val (.int c)] [(.ref bb), (.ref b33), (.ref b33)]
  refine g_iconst C (pc' := 22) (v := (0 : Int32)) d1_21 (by decide) rfl ?_
  refine g_special C (pc' := 25) (k' := 2) (n' := 5) (argsL := [(.ref bb), (.int (0 : Int32))]) (rest := [(.ref b33)]) (wd hw 15 rfl) (wd hw 16 rfl) (wd hw 2 rfl) (wd hw 18 rfl) (by decide) rfl d1_22 pd_3 rfl rfl rfl (strI l Z a0 hw n0 h40 f43 s_DEF s_EL s_EA s_EM cs mr H b33 bb ge_b33 f45 f46 f47) (Nat.le_of_ble_eq_true rfl) (Nat.le_of_ble_eq_true rfl) (Nat.le_of_ble_eq_true rfl) (Nat.le_of_ble_eq_true rfl) rfl rfl rfl (fun v50 h49 q51 => ?_)
  obtain ⟨rfl, K48⟩ := q51
  have f52 := f43.keep K48 (allS ge_b33 all0)
  have f53 := f44.trans K48 (allS (Or.inr sz_b33) all0)
  have f54 := f45.keep K48
  show G w _ h49 2 5 25 #[.val (.int c)] [(.ref b33)]
  exact g_areturn C d1_25 rfl rfl rfl rfl (Nat.le_of_ble_eq_true rfl) (Nat.le_of_ble_eq_true rfl) (⟨b33, rfl, sz_b33, f53⟩)
theorem d6_0 : decode prog_31_method_1_code 0 = .ok (.aload_n 0, 1) := by decide +kernel
theorem d6_1 : decode prog_31_method_1_code 1 = .ok (.invokespecial 1, 3) := by decide +kernel
theorem d6_4 : decode prog_31_method_1_code 4 = .ok (.aload_n 0, 1) := by decide +kernel
theorem d6_5 : decode prog_31_method_1_code 5 = .ok (.aload_n 1, 1) := by decide +kernel
theorem d6_6 : decode prog_31_method_1_code 6 = .ok (.putfield 7, 3) := by decide +kernel
theorem d6_9 : decode prog_31_method_1_code 9 = .ok (.aload_n 0, 1) := by decide +kernel
theorem d6_10 : decode prog_31_method_1_code 10 = .ok (.aload_n 2, 1) := by decide +kernel
theorem d6_11 : decode prog_31_method_1_code 11 = .ok (.putfield 13, 3) := by decide +kernel
theorem d6_14 : decode prog_31_method_1_code 14 = .ok (.return_, 1) := by decide +kernel
theorem pn_1 : plainName "com/example/plumbline/plumbline/Grade" = true := by first | (simp [plainName, overriddenIn]; done) | decide +kernel
set_option maxRecDepth 65536 in
set_option maxHeartbeats 40000000 in
theorem grI (l : Launch) (Z : State) (a0 : Array Value) (hw : ∀ d ∈ tables_1, d.before a0 Z = true) (n0 : Nat) (h : Heap) (O : Old Z n0 h) (s_DEF : Addr) (s_EL : Addr) (s_EA : Addr) (s_EM : Addr) (cs : Int32) (mr : Addr) (H : En Z s_DEF s_EL s_EA s_EM cs mr) (a : Addr) (b : Addr) (ga : n0 ≤ a) (E0 : Exa Z h a "com/example/plumbline/plumbline/Grade") (F_name : Fld Z h a "com/example/plumbline/plumbline/Grade" "name" "Ljava/lang/String;" .null) (F_overall : Fld Z h a "com/example/plumbline/plumbline/Grade" "overall" "Ljava/lang/String;" .null) : Con l Z (⟨"com/example/plumbline/plumbline/Grade", "<init>", "(Ljava/lang/String;Ljava/lang/String;)V"⟩ : MethodName) prog_31_method_1_code 3 none ({ frames := 1, cells := 0, slots := 0, locals := 12 } : Room) #[(.ref a), (.ref b), .null] h n0 (fun v h' => v = none ∧ Keep h h' [a]) := by
  refine Con.mk (Ls := #[.val (.ref a), .val (.ref b), .val .null]) (plainFor_of_name pn_1) (fun m => by first | (simp [entryFrame, mkF, argsToLocals, Value.category]; done) | rfl) (fun w C => ?_)
  replace C : Cx w l Z "com/example/plumbline/plumbline/Grade" prog_31_method_1_code 3 none "<init>" ({ frames := 1, cells := 0, slots := 0, locals := 12 } : Room) n0 := C
  obtain ⟨S_DEF, E_DEF, V_DEF, S_EL, E_EL, F_EL, V_EA, S_EM, E_EM, S_CS, hcs, MIR⟩ := id H
  obtain ⟨kD, V_DEF⟩ := V_DEF
  obtain ⟨kEA, V_EA⟩ := V_EA
  refine g_aloadN C (pc' := 1) d6_0 rfl rfl rfl ?_
  refine g_initO C (pc' := 4) (wd hw 32 rfl) (wd hw 20 rfl) (wd hw 21 rfl) d6_1 rfl rfl (Nat.le_of_ble_eq_true rfl) (Nat.le_of_ble_eq_true rfl) rfl ?_
  refine g_aloadN C (pc' := 5) d6_4 rfl rfl rfl ?_
  refine g_aloadN C (pc' := 6) d6_5 rfl rfl rfl ?_
  refine g_putF C (pc' := 9) (ty := (.object "java/lang/String")) (wd hw 33 rfl) Via.refl d6_6 rfl F_name E0 (Or.inr ⟨(wd hw 34 rfl), rfl, rfl⟩) (wd hw 27 rfl) (by decide) rfl rfl ga rfl (fun h55 W56 => ?_)
  have f57 := O.wr W56 ga
  have f58 := (Keep.refl h [a]).wr W56 (Or.inl (List.mem_of_getElem? (i := 0) rfl))
  have f59 := E0.wr W56
  have f60 := F_name.same W56
  have f61 := F_overall.other W56 (Or.inr (slot_ne (Or.inr (wd hw 36 rfl)) (Or.inr (wd hw 34 rfl)) (by decide) (t := (.object "java/lang/String")) (t' := (.object "java/lang/String")) (by decide) (by decide)))
  refine g_aloadN C (pc' := 10) d6_9 rfl rfl rfl ?_
  refine g_aloadN C (pc' := 11) d6_10 rfl rfl rfl ?_
  refine g_putF C (pc' := 14) (ty := (.object "java/lang/String")) (wd hw 35 rfl) Via.refl d6_11 rfl f61 f59 (Or.inr ⟨(wd hw 36 rfl), rfl, rfl⟩) (wd hw 27 rfl) (by decide) rfl rfl ga rfl (fun h62 W63 => ?_)
  have f64 := f57.wr W63 ga
  have f65 := f58.wr W63 (Or.inl (List.mem_of_getElem? (i := 0) rfl))
  have f66 := f59.wr W63
  have f67 := f60.other W63 (Or.inr (slot_ne (Or.inr (wd hw 34 rfl)) (Or.inr (wd hw 36 rfl)) (by decide) (t := (.object "java/lang/String")) (t' := (.object "java/lang/String")) (by decide) (by decide)))
  have f68 := f61.same W63
  exact g_return C d6_14 rfl (Nat.le_of_ble_eq_true rfl) (Nat.le_of_ble_eq_true rfl) (⟨rfl, f65⟩)
theorem d7_0 : decode prog_6_method_1_code 0 = .ok (.aload_n 0, 1) := by decide +kernel
theorem d7_1 : decode prog_6_method_1_code 1 = .ok (.invokespecial 1, 3) := by decide +kernel
theorem d7_4 : decode prog_6_method_1_code 4 = .ok (.aload_n 0, 1) := by decide +kernel
theorem d7_5 : decode prog_6_method_1_code 5 = .ok (.aload_n 1, 1) := by decide +kernel
theorem d7_6 : decode prog_6_method_1_code 6 = .ok (.putfield 7, 3) := by decide +kernel
theorem d7_9 : decode prog_6_method_1_code 9 = .ok (.aload_n 0, 1) := by decide +kernel
theorem d7_10 : decode prog_6_method_1_code 10 = .ok (.iload_n 2, 1) := by decide +kernel
theorem d7_11 : decode prog_6_method_1_code 11 = .ok (.putfield 13, 3) := by decide +kernel
theorem d7_14 : decode prog_6_method_1_code 14 = .ok (.aload_n 0, 1) := by decide +kernel
theorem d7_15 : decode prog_6_method_1_code 15 = .ok (.aload_n 3, 1) := by decide +kernel
theorem d7_16 : decode prog_6_method_1_code 16 = .ok (.putfield 17, 3) := by decide +kernel
theorem d7_19 : decode prog_6_method_1_code 19 = .ok (.aload_n 0, 1) := by decide +kernel
theorem d7_20 : decode prog_6_method_1_code 20 = .ok (.iload 4, 2) := by decide +kernel
theorem d7_22 : decode prog_6_method_1_code 22 = .ok (.putfield 20, 3) := by decide +kernel
theorem d7_25 : decode prog_6_method_1_code 25 = .ok (.aload_n 0, 1) := by decide +kernel
theorem d7_26 : decode prog_6_method_1_code 26 = .ok (.aload 5, 2) := by decide +kernel
theorem d7_28 : decode prog_6_method_1_code 28 = .ok (.putfield 23, 3) := by decide +kernel
theorem d7_31 : decode prog_6_method_1_code 31 = .ok (.return_, 1) := by decide +kernel
theorem pn_0 : plainName "com/example/plumbline/plumbline/Band" = true := by first | (simp [plainName, overriddenIn]; done) | decide +kernel
set_option maxRecDepth 65536 in
set_option maxHeartbeats 40000000 in
theorem bdI (l : Launch) (Z : State) (a0 : Array Value) (hw : ∀ d ∈ tables_1, d.before a0 Z = true) (n0 : Nat) (h : Heap) (O : Old Z n0 h) (s_DEF : Addr) (s_EL : Addr) (s_EA : Addr) (s_EM : Addr) (cs : Int32) (mr : Addr) (H : En Z s_DEF s_EL s_EA s_EM cs mr) (a : Addr) (b : Addr) (ga : n0 ≤ a) (E0 : Exa Z h a "com/example/plumbline/plumbline/Band") (F_lower : Fld Z h a "com/example/plumbline/plumbline/Band" "lower" "Lcom/example/plumbline/plumbline/Points;" .null) (F_lowerHeld : Fld Z h a "com/example/plumbline/plumbline/Band" "lowerHeld" "Z" (.int (0 : Int32))) (F_upper : Fld Z h a "com/example/plumbline/plumbline/Band" "upper" "Lcom/example/plumbline/plumbline/Points;" .null) (F_upperHeld : Fld Z h a "com/example/plumbline/plumbline/Band" "upperHeld" "Z" (.int (0 : Int32))) (F_gives : Fld Z h a "com/example/plumbline/plumbline/Band" "gives" "Ljava/lang/Object;" .null) : Con l Z (⟨"com/example/plumbline/plumbline/Band", "<init>", "(Lcom/example/plumbline/plumbline/Points;ZLcom/example/plumbline/plumbline/Points;ZLjava/lang/Object;)V"⟩ : MethodName) prog_6_method_1_code 6 none ({ frames := 1, cells := 0, slots := 0, locals := 12 } : Room) #[(.ref a), .null, (.int (0 : Int32)), .null, (.int (0 : Int32)), (.ref b)] h n0 (fun v h' => v = none ∧ Keep h h' [a]) := by
  refine Con.mk (Ls := #[.val (.ref a), .val .null, .val (.int (0 : Int32)), .val .null, .val (.int (0 : Int32)), .val (.ref b)]) (plainFor_of_name pn_0) (fun m => by first | (simp [entryFrame, mkF, argsToLocals, Value.category]; done) | rfl) (fun w C => ?_)
  replace C : Cx w l Z "com/example/plumbline/plumbline/Band" prog_6_method_1_code 6 none "<init>" ({ frames := 1, cells := 0, slots := 0, locals := 12 } : Room) n0 := C
  obtain ⟨S_DEF, E_DEF, V_DEF, S_EL, E_EL, F_EL, V_EA, S_EM, E_EM, S_CS, hcs, MIR⟩ := id H
  obtain ⟨kD, V_DEF⟩ := V_DEF
  obtain ⟨kEA, V_EA⟩ := V_EA
  refine g_aloadN C (pc' := 1) d7_0 rfl rfl rfl ?_
  refine g_initO C (pc' := 4) (wd hw 43 rfl) (wd hw 20 rfl) (wd hw 21 rfl) d7_1 rfl rfl (Nat.le_of_ble_eq_true rfl) (Nat.le_of_ble_eq_true rfl) rfl ?_
  refine g_aloadN C (pc' := 5) d7_4 rfl rfl rfl ?_
  refine g_aloadN C (pc' := 6) d7_5 rfl rfl rfl ?_
  refine g_putF C (pc' := 9) (ty := (.object "com/example/plumbline/plumbline/Points")) (wd hw 44 rfl) Via.refl d7_6 rfl F_lower E0 (Or.inr ⟨(wd hw 45 rfl), rfl, rfl⟩) (wd hw 38 rfl) (by decide) rfl rfl ga rfl (fun h69 W70 => ?_)
  have f71 := O.wr W70 ga
  have f72 := (Keep.refl h [a]).wr W70 (Or.inl (List.mem_of_getElem? (i := 0) rfl))
  have f73 := E0.wr W70
  have f74 := F_lower.same W70
  have f75 := F_lowerHeld.other W70 (Or.inr (slot_ne (Or.inr (wd hw 47 rfl)) (Or.inr (wd hw 45 rfl)) (by decide) (t := .boolean) (t' := (.object "com/example/plumbline/plumbline/Points")) (by decide) (by decide)))
  have f76 := F_upper.other W70 (Or.inr (slot_ne (Or.inr (wd hw 49 rfl)) (Or.inr (wd hw 45 rfl)) (by decide) (t := (.object "com/example/plumbline/plumbline/Points")) (t' := (.object "com/example/plumbline/plumbline/Points")) (by decide) (by decide)))
  have f77 := F_upperHeld.other W70 (Or.inr (slot_ne (Or.inr (wd hw 51 rfl)) (Or.inr (wd hw 45 rfl)) (by decide) (t := .boolean) (t' := (.object "com/example/plumbline/plumbline/Points")) (by decide) (by decide)))
  have f78 := F_gives.other W70 (Or.inr (slot_ne (Or.inr (wd hw 53 rfl)) (Or.inr (wd hw 45 rfl)) (by decide) (t := (.object "java/lang/Object")) (t' := (.object "com/example/plumbline/plumbline/Points")) (by decide) (by decide)))
  refine g_aloadN C (pc' := 10) d7_9 rfl rfl rfl ?_
  refine g_iloadN C (pc' := 11) d7_10 rfl rfl ?_
  refine g_putFN C (pc' := 14) (v' := (.int (0 : Int32))) (ty := .boolean) (wd hw 46 rfl) Via.refl d7_11 rfl f75 f73 (Or.inr ⟨(wd hw 47 rfl), rfl, rfl⟩) (wd hw 38 rfl) (by decide) rfl rfl ga rfl (fun h79 W80 => ?_)
  have f81 := f71.wr W80 ga
  have f82 := f72.wr W80 (Or.inl (List.mem_of_getElem? (i := 0) rfl))
  have f83 := f73.wr W80
  have f84 := f74.other W80 (Or.inr (slot_ne (Or.inr (wd hw 45 rfl)) (Or.inr (wd hw 47 rfl)) (by decide) (t := (.object "com/example/plumbline/plumbline/Points")) (t' := .boolean) (by decide) (by decide)))
  have f85 := f75.same W80
  have f86 := f76.other W80 (Or.inr (slot_ne (Or.inr (wd hw 49 rfl)) (Or.inr (wd hw 47 rfl)) (by decide) (t := (.object "com/example/plumbline/plumbline/Points")) (t' := .boolean) (by decide) (by decide)))
  have f87 := f77.other W80 (Or.inr (slot_ne (Or.inr (wd hw 51 rfl)) (Or.inr (wd hw 47 rfl)) (by decide) (t := .boolean) (t' := .boolean) (by decide) (by decide)))
  have f88 := f78.other W80 (Or.inr (slot_ne (Or.inr (wd hw 53 rfl)) (Or.inr (wd hw 47 rfl)) (by decide) (t := (.object "java/lang/Object")) (t' := .boolean) (by decide) (by decide)))
  refine g_aloadN C (pc' := 15) d7_14 rfl rfl rfl ?_
  refine g_aloadN C (pc' := 16) d7_15 rfl rfl rfl ?_
  refine g_putF C (pc' := 19) (ty := (.object "com/example/plumbline/plumbline/Points")) (wd hw 48 rfl) Via.refl d7_16 rfl f86 f83 (Or.inr ⟨(wd hw 49 rfl), rfl, rfl⟩) (wd hw 38 rfl) (by decide) rfl rfl ga rfl (fun h89 W90 => ?_)
  have f91 := f81.wr W90 ga
  have f92 := f82.wr W90 (Or.inl (List.mem_of_getElem? (i := 0) rfl))
  have f93 := f83.wr W90
  have f94 := f84.other W90 (Or.inr (slot_ne (Or.inr (wd hw 45 rfl)) (Or.inr (wd hw 49 rfl)) (by decide) (t := (.object "com/example/plumbline/plumbline/Points")) (t' := (.object "com/example/plumbline/plumbline/Points")) (by decide) (by decide)))
  have f95 := f85.other W90 (Or.inr (slot_ne (Or.inr (wd hw 47 rfl)) (Or.inr (wd hw 49 rfl)) (by decide) (t := .boolean) (t' := (.object "com/example/plumbline/plumbline/Points")) (by decide) (by decide)))
  have f96 := f86.same W90
  have f97 := f87.other W90 (Or.inr (slot_ne (Or.inr (wd hw 51 rfl)) (Or.inr (wd hw 49 rfl)) (by decide) (t := .boolean) (t' := (.object "com/example/plumbline/plumbline/Points")) (by decide) (by decide)))
  have f98 := f88.other W90 (Or.inr (slot_ne (Or.inr (wd hw 53 rfl)) (Or.inr (wd hw 49 rfl)) (by decide) (t := (.object "java/lang/Object")) (t' := (.object "com/example/plumbline/plumbline/Points")) (by decide) (by decide)))
  refine g_aloadN C (pc' := 20) d7_19 rfl rfl rfl ?_
  refine g_iload C (pc' := 22) d7_20 rfl rfl ?_
  refine g_putFN C (pc' := 25) (v' := (.int (0 : Int32))) (ty := .boolean) (wd hw 50 rfl) Via.refl d7_22 rfl f97 f93 (Or.inr ⟨(wd hw 51 rfl), rfl, rfl⟩) (wd hw 38 rfl) (by decide) rfl rfl ga rfl (fun h99 W100 => ?_)
  have f101 := f91.wr W100 ga
  have f102 := f92.wr W100 (Or.inl (List.mem_of_getElem? (i := 0) rfl))
  have f103 := f93.wr W100
  have f104 := f94.other W100 (Or.inr (slot_ne (Or.inr (wd hw 45 rfl)) (Or.inr (wd hw 51 rfl)) (by decide) (t := (.object "com/example/plumbline/plumbline/Points")) (t' := .boolean) (by decide) (by decide)))
  have f105 := f95.other W100 (Or.inr (slot_ne (Or.inr (wd hw 47 rfl)) (Or.inr (wd hw 51 rfl)) (by decide) (t := .boolean) (t' := .boolean) (by decide) (by decide)))
  have f106 := f96.other W100 (Or.inr (slot_ne (Or.inr (wd hw 49 rfl)) (Or.inr (wd hw 51 rfl)) (by decide) (t := (.object "com/example/plumbline/plumbline/Points")) (t' := .boolean) (by decide) (by decide)))
  have f107 := f97.same W100
  have f108 := f98.other W100 (Or.inr (slot_ne (Or.inr (wd hw 53 rfl)) (Or.inr (wd hw 51 rfl)) (by decide) (t := (.object "java/lang/Object")) (t' := .boolean) (by decide) (by decide)))
  refine g_aloadN C (pc' := 26) d7_25 rfl rfl rfl ?_
  refine g_aload C (pc' := 28) d7_26 rfl rfl rfl ?_
  refine g_putF C (pc' := 31) (ty := (.object "java/lang/Object")) (wd hw 52 rfl) Via.refl d7_28 rfl f108 f103 (Or.inr ⟨(wd hw 53 rfl), rfl, rfl⟩) (wd hw 38 rfl) (by decide) rfl rfl ga rfl (fun h109 W110 => ?_)
  have f111 := f101.wr W110 ga
  have f112 := f102.wr W110 (Or.inl (List.mem_of_getElem? (i := 0) rfl))
  have f113 := f103.wr W110
  have f114 := f104.other W110 (Or.inr (slot_ne (Or.inr (wd hw 45 rfl)) (Or.inr (wd hw 53 rfl)) (by decide) (t := (.object "com/example/plumbline/plumbline/Points")) (t' := (.object "java/lang/Object")) (by decide) (by decide)))
  have f115 := f105.other W110 (Or.inr (slot_ne (Or.inr (wd hw 47 rfl)) (Or.inr (wd hw 53 rfl)) (by decide) (t := .boolean) (t' := (.object "java/lang/Object")) (by decide) (by decide)))
  have f116 := f106.other W110 (Or.inr (slot_ne (Or.inr (wd hw 49 rfl)) (Or.inr (wd hw 53 rfl)) (by decide) (t := (.object "com/example/plumbline/plumbline/Points")) (t' := (.object "java/lang/Object")) (by decide) (by decide)))
  have f117 := f107.other W110 (Or.inr (slot_ne (Or.inr (wd hw 51 rfl)) (Or.inr (wd hw 53 rfl)) (by decide) (t := .boolean) (t' := (.object "java/lang/Object")) (by decide) (by decide)))
  have f118 := f108.same W110
  exact g_return C d7_31 rfl (Nat.le_of_ble_eq_true rfl) (Nat.le_of_ble_eq_true rfl) (⟨rfl, f112⟩)
theorem d10_0 : decode jdk_22_method_1_code 0 = .ok (.aload_n 0, 1) := by decide +kernel
theorem d10_1 : decode jdk_22_method_1_code 1 = .ok (.invokespecial 1, 3) := by decide +kernel
theorem d10_4 : decode jdk_22_method_1_code 4 = .ok (.return_, 1) := by decide +kernel
theorem pn_8 : plainName "java/util/AbstractCollection" = true := by first | (simp [plainName, overriddenIn]; done) | decide +kernel
set_option maxRecDepth 65536 in
set_option maxHeartbeats 40000000 in
theorem acol_0 (l : Launch) (Z : State) (a0 : Array Value) (hw : ∀ d ∈ tables_1, d.before a0 Z = true) (n0 : Nat) (h : Heap) (O : Old Z n0 h) (s_DEF : Addr) (s_EL : Addr) (s_EA : Addr) (s_EM : Addr) (cs : Int32) (mr : Addr) (H : En Z s_DEF s_EL s_EA s_EM cs mr) (a : Addr) (E0 : Exa Z h a "java/util/ArrayList") : Con l Z (⟨"java/util/AbstractCollection", "<init>", "()V"⟩ : MethodName) jdk_22_method_1_code 1 none ({ frames := 1, cells := 0, slots := 0, locals := 12 } : Room) #[(.ref a)] h n0 (fun v h' => v = none ∧ h' = h) := by
  refine Con.mk (Ls := #[.val (.ref a)]) (plainFor_of_name pn_8) (fun m => by first | (simp [entryFrame, mkF, argsToLocals, Value.category]; done) | rfl) (fun w C => ?_)
  replace C : Cx w l Z "java/util/AbstractCollection" jdk_22_method_1_code 1 none "<init>" ({ frames := 1, cells := 0, slots := 0, locals := 12 } : Room) n0 := C
  obtain ⟨S_DEF, E_DEF, V_DEF, S_EL, E_EL, F_EL, V_EA, S_EM, E_EM, S_CS, hcs, MIR⟩ := id H
  obtain ⟨kD, V_DEF⟩ := V_DEF
  obtain ⟨kEA, V_EA⟩ := V_EA
  refine g_aloadN C (pc' := 1) d10_0 rfl rfl rfl ?_
  refine g_initO C (pc' := 4) (wd hw 72 rfl) (wd hw 20 rfl) (wd hw 21 rfl) d10_1 rfl rfl (Nat.le_of_ble_eq_true rfl) (Nat.le_of_ble_eq_true rfl) rfl ?_
  exact g_return C d10_4 rfl (Nat.le_of_ble_eq_true rfl) (Nat.le_of_ble_eq_true rfl) (⟨rfl, rfl⟩)
theorem d9_0 : decode jdk_39_method_1_code 0 = .ok (.aload_n 0, 1) := by decide +kernel
theorem d9_1 : decode jdk_39_method_1_code 1 = .ok (.invokespecial 1, 3) := by decide +kernel
theorem pd_4 : parseMethodDescriptor "()V" = some ⟨[], none⟩ := by decide +kernel
theorem d9_4 : decode jdk_39_method_1_code 4 = .ok (.aload_n 0, 1) := by decide +kernel
theorem d9_5 : decode jdk_39_method_1_code 5 = .ok (.iconst 0, 1) := by decide +kernel
theorem d9_6 : decode jdk_39_method_1_code 6 = .ok (.putfield 7, 3) := by decide +kernel
theorem d9_9 : decode jdk_39_method_1_code 9 = .ok (.return_, 1) := by decide +kernel
theorem pn_9 : plainName "java/util/AbstractList" = true := by first | (simp [plainName, overriddenIn]; done) | decide +kernel
set_option maxRecDepth 65536 in
set_option maxHeartbeats 40000000 in
theorem abl (l : Launch) (Z : State) (a0 : Array Value) (hw : ∀ d ∈ tables_1, d.before a0 Z = true) (n0 : Nat) (h : Heap) (O : Old Z n0 h) (s_DEF : Addr) (s_EL : Addr) (s_EA : Addr) (s_EM : Addr) (cs : Int32) (mr : Addr) (H : En Z s_DEF s_EL s_EA s_EM cs mr) (a : Addr) (ga : n0 ≤ a) (E0 : Exa Z h a "java/util/ArrayList") (F1 : Fld Z h a "java/util/AbstractList" "modCount" "I" (.int (0 : Int32))) : Con l Z (⟨"java/util/AbstractList", "<init>", "()V"⟩ : MethodName) jdk_39_method_1_code 1 none ({ frames := 2, cells := 0, slots := 0, locals := 24 } : Room) #[(.ref a)] h n0 (fun v h' => v = none ∧ Keep h h' [a] ∧ Exa Z h' a "java/util/ArrayList" ∧ Fld Z h' a "java/util/AbstractList" "modCount" "I" (.int (0 : Int32)) ∧ (∀ {C f d : String} {v : Value}, Laid Z a0 "java/util/ArrayList" C f d → (f ≠ "modCount") → (∃ t, parseFieldDescriptor d = some t) → Fld Z h a C f d v → Fld Z h' a C f d v)) := by
  refine Con.mk (Ls := #[.val (.ref a)]) (plainFor_of_name pn_9) (fun m => by first | (simp [entryFrame, mkF, argsToLocals, Value.category]; done) | rfl) (fun w C => ?_)
  replace C : Cx w l Z "java/util/AbstractList" jdk_39_method_1_code 1 none "<init>" ({ frames := 2, cells := 0, slots := 0, locals := 24 } : Room) n0 := C
  obtain ⟨S_DEF, E_DEF, V_DEF, S_EL, E_EL, F_EL, V_EA, S_EM, E_EM, S_CS, hcs, MIR⟩ := id H
  obtain ⟨kD, V_DEF⟩ := V_DEF
  obtain ⟨kEA, V_EA⟩ := V_EA
  refine g_aloadN C (pc' := 1) d9_0 rfl rfl rfl ?_
  refine g_special C (pc' := 4) (k' := 0) (n' := 0) (argsL := []) (rest := []) (wd hw 66 rfl) (wd hw 67 rfl) (wd hw 70 rfl) (wd hw 71 rfl) (by decide) rfl d9_1 pd_4 rfl rfl rfl (acol_0 l Z a0 hw n0 h O s_DEF s_EL s_EA s_EM cs mr H a E0) (Nat.le_of_ble_eq_true rfl) (Nat.le_of_ble_eq_true rfl) (Nat.le_of_ble_eq_true rfl) (Nat.le_of_ble_eq_true rfl) rfl rfl rfl (fun v120 h119 q121 => ?_)
  obtain ⟨rfl, eh119⟩ := q121
  subst h119
  show G w _ h 0 0 4 #[.val (.ref a)] []
  refine g_aloadN C (pc' := 5) d9_4 rfl rfl rfl ?_
  refine g_iconst C (pc' := 6) (v := (0 : Int32)) d9_5 (by decide) rfl ?_
  refine g_putF C (pc' := 9) (ty := .int) (wd hw 73 rfl) Via.refl d9_6 rfl F1 E0 (Or.inl (wd hw 74 rfl)) (wd hw 55 rfl) (by decide) rfl rfl ga rfl (fun h122 W123 => ?_)
  have f124 := O.wr W123 ga
  have f125 := (Keep.refl h [a]).wr W123 (Or.inl (List.mem_of_getElem? (i := 0) rfl))
  have f126 := E0.wr W123
  have f127 := F1.same W123
  exact g_return C d9_9 rfl (Nat.le_of_ble_eq_true rfl) (Nat.le_of_ble_eq_true rfl) (⟨rfl, f125, f126, f127, fun L q ⟨t, ht⟩ F => F.other W123 (Or.inr (slot_ne L (Or.inl (wd hw 74 rfl)) q ht (t' := .int) (by decide)))⟩)
theorem d8_0 : decode jdk_38_method_2_code 0 = .ok (.aload_n 0, 1) := by decide +kernel
theorem d8_1 : decode jdk_38_method_2_code 1 = .ok (.invokespecial 1, 3) := by decide +kernel
theorem d8_4 : decode jdk_38_method_2_code 4 = .ok (.aload_n 0, 1) := by decide +kernel
theorem d8_5 : decode jdk_38_method_2_code 5 = .ok (.getstatic 39, 3) := by decide +kernel
theorem d8_8 : decode jdk_38_method_2_code 8 = .ok (.putfield 9, 3) := by decide +kernel
theorem d8_11 : decode jdk_38_method_2_code 11 = .ok (.return_, 1) := by decide +kernel
theorem pn_10 : plainName "java/util/ArrayList" = true := by first | (simp [plainName, overriddenIn]; done) | decide +kernel
set_option maxRecDepth 65536 in
set_option maxHeartbeats 40000000 in
theorem al_init (l : Launch) (Z : State) (a0 : Array Value) (hw : ∀ d ∈ tables_1, d.before a0 Z = true) (n0 : Nat) (h : Heap) (O : Old Z n0 h) (s_DEF : Addr) (s_EL : Addr) (s_EA : Addr) (s_EM : Addr) (cs : Int32) (mr : Addr) (H : En Z s_DEF s_EL s_EA s_EM cs mr) (a : Addr) (ga : n0 ≤ a) (E0 : Exa Z h a "java/util/ArrayList") (F1 : Fld Z h a "java/util/AbstractList" "modCount" "I" (.int (0 : Int32))) (F2 : Fld Z h a "java/util/ArrayList" "elementData" "[Ljava/lang/Object;" .null) (F3 : Fld Z h a "java/util/ArrayList" "size" "I" (.int (0 : Int32))) : Con l Z (⟨"java/util/ArrayList", "<init>", "()V"⟩ : MethodName) jdk_38_method_2_code 1 none ({ frames := 3, cells := 0, slots := 0, locals := 36 } : Room) #[(.ref a)] h n0 (fun v h' => v = none ∧ Keep h h' [a] ∧ AL0 Z n0 h' a s_DEF (0 : Int32)) := by
  refine Con.mk (Ls := #[.val (.ref a)]) (plainFor_of_name pn_10) (fun m => by first | (simp [entryFrame, mkF, argsToLocals, Value.category]; done) | rfl) (fun w C => ?_)
  replace C : Cx w l Z "java/util/ArrayList" jdk_38_method_2_code 1 none "<init>" ({ frames := 3, cells := 0, slots := 0, locals := 36 } : Room) n0 := C
  obtain ⟨S_DEF, E_DEF, V_DEF, S_EL, E_EL, F_EL, V_EA, S_EM, E_EM, S_CS, hcs, MIR⟩ := id H
  obtain ⟨kD, V_DEF⟩ := V_DEF
  obtain ⟨kEA, V_EA⟩ := V_EA
  refine g_aloadN C (pc' := 1) d8_0 rfl rfl rfl ?_
  refine g_special C (pc' := 4) (k' := 0) (n' := 0) (argsL := []) (rest := []) (wd hw 60 rfl) (wd hw 61 rfl) (wd hw 64 rfl) (wd hw 65 rfl) (by decide) rfl d8_1 pd_4 rfl rfl rfl (abl l Z a0 hw n0 h O s_DEF s_EL s_EA s_EM cs mr H a ga E0 F1) (Nat.le_of_ble_eq_true rfl) (Nat.le_of_ble_eq_true rfl) (Nat.le_of_ble_eq_true rfl) (Nat.le_of_ble_eq_true rfl) rfl rfl rfl (fun v133 h132 q134 => ?_)
  obtain ⟨rfl, K128, E129, F130, T131⟩ := q134
  have f135 := O.keep K128 (allS ga all0)
  have f136 := (Keep.refl h [a]).trans K128 (allS (Or.inl (List.mem_of_getElem? (i := 0) rfl)) all0)
  have f137 := E0.keep K128
  have f138 := T131 (Or.inl (wd hw 77 rfl)) (by decide) ⟨_, (by decide : parseFieldDescriptor "[Ljava/lang/Object;" = some (.array (.object "java/lang/Object")))⟩ F2
  have f139 := T131 (Or.inl (wd hw 90 rfl)) (by decide) ⟨_, (by decide : parseFieldDescriptor "I" = some .int)⟩ F3
  show G w _ h132 0 0 4 #[.val (.ref a)] []
  refine g_aloadN C (pc' := 5) d8_4 rfl rfl rfl ?_
  refine g_getS C (pc' := 8) (wd hw 75 rfl) Via.refl d8_5 (S_DEF.ext f135.2) rfl ?_
  refine g_putF C (pc' := 11) (ty := (.array (.object "java/lang/Object"))) (wd hw 76 rfl) Via.refl d8_8 rfl f138 f137 (Or.inl (wd hw 77 rfl)) (wd hw 55 rfl) (by decide) rfl rfl ga rfl (fun h140 W141 => ?_)
  have f142 := f135.wr W141 ga
  have f143 := f136.wr W141 (Or.inl (List.mem_of_getElem? (i := 0) rfl))
  have f144 := f137.wr W141
  have f145 := F130.other W141 (Or.inr (slot_ne (Or.inl (wd hw 74 rfl)) (Or.inl (wd hw 77 rfl)) (by decide) (t := .int) (t' := (.array (.object "java/lang/Object"))) (by decide) (by decide)))
  have f146 := f138.same W141
  have f147 := f139.other W141 (Or.inr (slot_ne (Or.inl (wd hw 90 rfl)) (Or.inl (wd hw 77 rfl)) (by decide) (t := .int) (t' := (.array (.object "java/lang/Object"))) (by decide) (by decide)))
  exact g_return C d8_11 rfl (Nat.le_of_ble_eq_true rfl) (Nat.le_of_ble_eq_true rfl) (⟨rfl, f143, ga, f144, f145, f146, f147⟩)
theorem d15_0 : decode jdk_29_method_65_code 0 = .ok (.iload_n 0, 1) := by decide +kernel
theorem d15_1 : decode jdk_29_method_65_code 1 = .ok (.iload_n 1, 1) := by decide +kernel
theorem d15_2 : decode jdk_29_method_65_code 2 = .ok (.if_icmp .lt 7, 3) := by decide +kernel
theorem d15_5 : decode jdk_29_method_65_code 5 = .ok (.iload_n 0, 1) := by decide +kernel
theorem d15_6 : decode jdk_29_method_65_code 6 = .ok (.goto 4, 3) := by decide +kernel
theorem d15_10 : decode jdk_29_method_65_code 10 = .ok (.ireturn, 1) := by decide +kernel
set_option maxRecDepth 65536 in
set_option maxHeartbeats 40000000 in
theorem max_10_1 (l : Launch) (Z : State) (a0 : Array Value) (hw : ∀ d ∈ tables_1, d.before a0 Z = true) (n0 : Nat) (h : Heap) (O : Old Z n0 h) (s_DEF : Addr) (s_EL : Addr) (s_EA : Addr) (s_EM : Addr) (cs : Int32) (mr : Addr) (H : En Z s_DEF s_EL s_EA s_EM cs mr) : Con l Z (⟨"java/lang/Math", "max", "(II)I"⟩ : MethodName) jdk_29_method_65_code 2 (some .int) ({ frames := 0, cells := 0, slots := 0, locals := 0 } : Room) #[(.int (10 : Int32)), (.int (1 : Int32))] h n0 (fun v h' => v = some (.int (10 : Int32)) ∧ h' = h) := by
  refine Con.mk (Ls := #[.val (.int (10 : Int32)), .val (.int (1 : Int32))]) (Jvm.Free.JP.mathPlain rfl (by decide +kernel)) (fun m => by first | (simp [entryFrame, mkF, argsToLocals, Value.category]; done) | rfl) (fun w C => ?_)
  replace C : Cx w l Z "java/lang/Math" jdk_29_method_65_code 2 (some .int) "max" ({ frames := 0, cells := 0, slots := 0, locals := 0 } : Room) n0 := C
  obtain ⟨S_DEF, E_DEF, V_DEF, S_EL, E_EL, F_EL, V_EA, S_EM, E_EM, S_CS, hcs, MIR⟩ := id H
  refine g_iloadN C (pc' := 1) d15_0 rfl rfl ?_
  refine g_iloadN C (pc' := 2) d15_1 rfl rfl ?_
  refine g_icN C (pc' := 5) d15_2 rfl (by decide) rfl ?_
  refine g_iloadN C (pc' := 6) d15_5 rfl rfl ?_
  refine g_goto C (pc' := 10) d15_6 (by decide) rfl ?_
  exact g_ireturn C d15_10 rfl (Nat.le_of_ble_eq_true rfl) (Nat.le_of_ble_eq_true rfl) (⟨rfl, rfl⟩)
theorem d14_0 : decode jdk_38_method_6_code 0 = .ok (.aload_n 0, 1) := by decide +kernel
theorem d14_1 : decode jdk_38_method_6_code 1 = .ok (.getfield 9, 3) := by decide +kernel
theorem d14_4 : decode jdk_38_method_6_code 4 = .ok (.arraylength, 1) := by decide +kernel
theorem d14_5 : decode jdk_38_method_6_code 5 = .ok (.istore_n 2, 1) := by decide +kernel
theorem d14_6 : decode jdk_38_method_6_code 6 = .ok (.iload_n 2, 1) := by decide +kernel
theorem d14_7 : decode jdk_38_method_6_code 7 = .ok (.ifCond .gt 13, 3) := by decide +kernel
theorem d14_10 : decode jdk_38_method_6_code 10 = .ok (.aload_n 0, 1) := by decide +kernel
theorem d14_11 : decode jdk_38_method_6_code 11 = .ok (.getfield 9, 3) := by decide +kernel
theorem d14_14 : decode jdk_38_method_6_code 14 = .ok (.getstatic 39, 3) := by decide +kernel
theorem d14_17 : decode jdk_38_method_6_code 17 = .ok (.if_acmp .eq 28, 3) := by decide +kernel
theorem d14_45 : decode jdk_38_method_6_code 45 = .ok (.aload_n 0, 1) := by decide +kernel
theorem d14_46 : decode jdk_38_method_6_code 46 = .ok (.bipush 10, 2) := by decide +kernel
theorem d14_48 : decode jdk_38_method_6_code 48 = .ok (.iload_n 1, 1) := by decide +kernel
theorem d14_49 : decode jdk_38_method_6_code 49 = .ok (.invokestatic 79, 3) := by decide +kernel
theorem pd_11 : parseMethodDescriptor "(II)I" = some ⟨[.int, .int], some .int⟩ := by decide +kernel
theorem d14_52 : decode jdk_38_method_6_code 52 = .ok (.anewarray 7, 3) := by decide +kernel
theorem d14_55 : decode jdk_38_method_6_code 55 = .ok (.dup_x1, 1) := by decide +kernel
theorem d14_56 : decode jdk_38_method_6_code 56 = .ok (.putfield 9, 3) := by decide +kernel
theorem d14_59 : decode jdk_38_method_6_code 59 = .ok (.areturn, 1) := by decide +kernel
set_option maxRecDepth 65536 in
set_option maxHeartbeats 40000000 in
theorem growI (l : Launch) (Z : State) (a0 : Array Value) (hw : ∀ d ∈ tables_1, d.before a0 Z = true) (n0 : Nat) (h : Heap) (O : Old Z n0 h) (s_DEF : Addr) (s_EL : Addr) (s_EA : Addr) (s_EM : Addr) (cs : Int32) (mr : Addr) (H : En Z s_DEF s_EL s_EA s_EM cs mr) (a : Addr) (mc : Int32) (P : AL0 Z n0 h a s_DEF mc) : Con l Z (⟨"java/util/ArrayList", "grow", "(I)[Ljava/lang/Object;"⟩ : MethodName) jdk_38_method_6_code 4 (some (.array (.object "java/lang/Object"))) ({ frames := 1, cells := 1, slots := 10, locals := 14 } : Room) #[(.ref a), (.int (1 : Int32))] h n0 (fun v h' => ∃ g kG, v = some (.ref g) ∧ h.size ≤ g ∧ Keep h h' [a] ∧ Exa Z h' a "java/util/ArrayList" ∧ Exa Z h' g "[Ljava/lang/Object;" ∧ Ovr Z kG "java/lang/Object" ∧ Fld Z h' a "java/util/AbstractList" "modCount" "I" (.int mc) ∧ Fld Z h' a "java/util/ArrayList" "elementData" "[Ljava/lang/Object;" (.ref g) ∧ Fld Z h' a "java/util/ArrayList" "size" "I" (.int (0 : Int32)) ∧ Arv Z h' g kG (.object "java/lang/Object") (10 : Int32) [.null, .null, .null, .null, .null, .null, .null, .null, .null, .null] .null) := by
  refine Con.mk (Ls := #[.val (.ref a), .val (.int (1 : Int32)), .unset, .unset]) (plainFor_of_name pn_10) (fun m => by first | (simp [entryFrame, mkF, argsToLocals, Value.category]; done) | rfl) (fun w C => ?_)
  replace C : Cx w l Z "java/util/ArrayList" jdk_38_method_6_code 4 (some (.array (.object "java/lang/Object"))) "grow" ({ frames := 1, cells := 1, slots := 10, locals := 14 } : Room) n0 := C
  obtain ⟨S_DEF, E_DEF, V_DEF, S_EL, E_EL, F_EL, V_EA, S_EM, E_EM, S_CS, hcs, MIR⟩ := id H
  obtain ⟨kD, V_DEF⟩ := V_DEF
  obtain ⟨kEA, V_EA⟩ := V_EA
  obtain ⟨ga, E0, F1, F2, F3⟩ := P
  refine g_aloadN C (pc' := 1) d14_0 rfl rfl rfl ?_
  refine g_getF C (pc' := 4) (wd hw 76 rfl) Via.refl d14_1 rfl F2 rfl ?_
  refine g_alen C (pc' := 5) d14_4 rfl (V_DEF.ext O.2) rfl ?_
  refine g_istoreN C (pc' := 6) (Ls' := #[.val (.ref a), .val (.int (1 : Int32)), .val (.int (0 : Int32)), .unset]) d14_5 rfl rfl rfl ?_
  refine g_iloadN C (pc' := 7) d14_6 rfl rfl ?_
  refine g_ifN C (pc' := 10) d14_7 rfl (by decide) rfl ?_
  refine g_aloadN C (pc' := 11) d14_10 rfl rfl rfl ?_
  refine g_getF C (pc' := 14) (wd hw 76 rfl) Via.refl d14_11 rfl F2 rfl ?_
  refine g_getS C (pc' := 17) (wd hw 75 rfl) Via.refl d14_14 (S_DEF.ext O.2) rfl ?_
  refine g_acmp C (pc' := 45) (same := true) d14_17 rfl rfl rfl (decide_eq_true rfl) (by decide) (by decide) ?_
  refine g_aloadN C (pc' := 46) d14_45 rfl rfl rfl ?_
  refine g_bipush C (pc' := 48) (v := (10 : Int32)) d14_46 (by decide) rfl ?_
  refine g_iloadN C (pc' := 49) d14_48 rfl rfl ?_
  refine g_callS C (pc' := 52) (k' := 0) (n' := 0) (argsL := [(.int (10 : Int32)), (.int (1 : Int32))]) (rest := [(.ref a)]) (wd hw 106 rfl) (wd hw 107 rfl) (wd hw 108 rfl) (wd hw 109 rfl) (by decide) d14_49 pd_11 rfl rfl rfl (max_10_1 l Z a0 hw n0 h O s_DEF s_EL s_EA s_EM cs mr H) (Nat.le_of_ble_eq_true rfl) (Nat.le_of_ble_eq_true rfl) (Nat.le_of_ble_eq_true rfl) (Nat.le_of_ble_eq_true rfl) rfl rfl rfl (fun v149 h148 q150 => ?_)
  obtain ⟨rfl, eh148⟩ := q150
  subst h148
  show G w _ h 0 0 52 #[.val (.ref a), .val (.int (1 : Int32)), .val (.int (0 : Int32)), .unset] [(.int (10 : Int32)), (.ref a)]
  refine g_newRE C (pc' := 55) (k' := 1) (n' := 10) (cap := 10) (ad := "[Ljava/lang/Object;") (wd hw 110 rfl) (wd hw 111 rfl) (by decide) d14_52 rfl (by decide) (by decide) (by decide) (by decide) (by decide) rfl rfl rfl (fun h151 b152 kA153 ex154 E155 A156 B158 Ov157 => ?_)
  have ne_a_b152 : a ≠ b152 := Nat.ne_of_lt (by rw [ex154]; exact E0.lt)
  have ne_s_DEF_b152 : s_DEF ≠ b152 := Nat.ne_of_lt (by rw [ex154]; exact (V_DEF.ext O.2).lt)
  have ge_b152 : n0 ≤ b152 := by rw [ex154]; exact O.1 ▸ O.2.1
  have sz_b152 : h.size ≤ b152 := by rw [ex154]; exact (Keep.refl h [a]).1
  have f159 := O.ext E155
  have f160 := (Keep.refl h [a]).ext E155
  have f161 := E0.ext E155
  have f162 := F1.ext E155
  have f163 := F2.ext E155
  have f164 := F3.ext E155
  have f165 := (V_DEF.ext O.2).ext E155
  have A166 : Arv Z h151 b152 kA153 (.object "java/lang/Object") (10 : Int32) [.null, .null, .null, .null, .null, .null, .null, .null, .null, .null] .null := A156.pad (pad_rep [] .null 10)
  refine g_dup_x1 C (pc' := 56) d14_55 rfl rfl rfl rfl ?_
  refine g_putF C (pc' := 59) (ty := (.array (.object "java/lang/Object"))) (wd hw 76 rfl) Via.refl d14_56 rfl f163 f161 (Or.inl (wd hw 77 rfl)) (wd hw 55 rfl) (by decide) rfl rfl ga rfl (fun h167 W168 => ?_)
  have f169 := f159.wr W168 ga
  have f170 := f160.wr W168 (Or.inl (List.mem_of_getElem? (i := 0) rfl))
  have f171 := f161.wr W168
  have f172 := f162.other W168 (Or.inr (slot_ne (Or.inl (wd hw 74 rfl)) (Or.inl (wd hw 77 rfl)) (by decide) (t := .int) (t' := (.array (.object "java/lang/Object"))) (by decide) (by decide)))
  have f173 := f163.same W168
  have f174 := f164.other W168 (Or.inr (slot_ne (Or.inl (wd hw 90 rfl)) (Or.inl (wd hw 77 rfl)) (by decide) (t := .int) (t' := (.array (.object "java/lang/Object"))) (by decide) (by decide)))
  have f175 := f165.other W168 (O.ne V_DEF.lt ga)
  have f176 := A166.other W168 (Ne.symm ne_a_b152)
  have f177 := B158.wr W168
  exact g_areturn C d14_59 rfl rfl rfl rfl (Nat.le_of_ble_eq_true rfl) (Nat.le_of_ble_eq_true rfl) (⟨b152, kA153, rfl, sz_b152, f170, f171, f177, Ov157, f172, f173, f174, f176⟩)
theorem d13_0 : decode jdk_38_method_7_code 0 = .ok (.aload_n 0, 1) := by decide +kernel
theorem d13_1 : decode jdk_38_method_7_code 1 = .ok (.aload_n 0, 1) := by decide +kernel
theorem d13_2 : decode jdk_38_method_7_code 2 = .ok (.getfield 48, 3) := by decide +kernel
theorem d13_5 : decode jdk_38_method_7_code 5 = .ok (.iconst 1, 1) := by decide +kernel
theorem d13_6 : decode jdk_38_method_7_code 6 = .ok (.iadd, 1) := by decide +kernel
theorem d13_7 : decode jdk_38_method_7_code 7 = .ok (.invokevirtual 69, 3) := by decide +kernel
theorem pd_10 : parseMethodDescriptor "(I)[Ljava/lang/Object;" = some ⟨[.int], some (.array (.object "java/lang/Object"))⟩ := by decide +kernel
theorem d13_10 : decode jdk_38_method_7_code 10 = .ok (.areturn, 1) := by decide +kernel
set_option maxRecDepth 65536 in
set_option maxHeartbeats 40000000 in
theorem grow0 (l : Launch) (Z : State) (a0 : Array Value) (hw : ∀ d ∈ tables_1, d.before a0 Z = true) (n0 : Nat) (h : Heap) (O : Old Z n0 h) (s_DEF : Addr) (s_EL : Addr) (s_EA : Addr) (s_EM : Addr) (cs : Int32) (mr : Addr) (H : En Z s_DEF s_EL s_EA s_EM cs mr) (a : Addr) (mc : Int32) (P : AL0 Z n0 h a s_DEF mc) : Con l Z (⟨"java/util/ArrayList", "grow", "()[Ljava/lang/Object;"⟩ : MethodName) jdk_38_method_7_code 1 (some (.array (.object "java/lang/Object"))) ({ frames := 2, cells := 1, slots := 10, locals := 29 } : Room) #[(.ref a)] h n0 (fun v h' => ∃ g kG, v = some (.ref g) ∧ h.size ≤ g ∧ Keep h h' [a] ∧ Exa Z h' a "java/util/ArrayList" ∧ Exa Z h' g "[Ljava/lang/Object;" ∧ Ovr Z kG "java/lang/Object" ∧ Fld Z h' a "java/util/AbstractList" "modCount" "I" (.int mc) ∧ Fld Z h' a "java/util/ArrayList" "elementData" "[Ljava/lang/Object;" (.ref g) ∧ Fld Z h' a "java/util/ArrayList" "size" "I" (.int (0 : Int32)) ∧ Arv Z h' g kG (.object "java/lang/Object") (10 : Int32) [.null, .null, .null, .null, .null, .null, .null, .null, .null, .null] .null) := by
  refine Con.mk (Ls := #[.val (.ref a)]) (plainFor_of_name pn_10) (fun m => by first | (simp [entryFrame, mkF, argsToLocals, Value.category]; done) | rfl) (fun w C => ?_)
  replace C : Cx w l Z "java/util/ArrayList" jdk_38_method_7_code 1 (some (.array (.object "java/lang/Object"))) "grow" ({ frames := 2, cells := 1, slots := 10, locals := 29 } : Room) n0 := C
  obtain ⟨S_DEF, E_DEF, V_DEF, S_EL, E_EL, F_EL, V_EA, S_EM, E_EM, S_CS, hcs, MIR⟩ := id H
  obtain ⟨kD, V_DEF⟩ := V_DEF
  obtain ⟨kEA, V_EA⟩ := V_EA
  obtain ⟨ga, E0, F1, F2, F3⟩ := P
  refine g_aloadN C (pc' := 1) d13_0 rfl rfl rfl ?_
  refine g_aloadN C (pc' := 2) d13_1 rfl rfl rfl ?_
  refine g_getF C (pc' := 5) (wd hw 89 rfl) Via.refl d13_2 rfl F3 rfl ?_
  refine g_iconst C (pc' := 6) (v := (1 : Int32)) d13_5 (by decide) rfl ?_
  refine g_iadd C (pc' := 7) d13_6 rfl rfl ?_
  rw [show ((0 : Int32) + (1 : Int32)) = (1 : Int32) from by decide]
  refine g_private C (pc' := 10) (k' := 1) (n' := 10) (argsL := [(.int (1 : Int32))]) (rest := []) (wd hw 101 rfl) (wd hw 102 rfl) (wd hw 55 rfl) (wd hw 103 rfl) (wd hw 56 rfl) (wd hw 105 rfl) (by decide) d13_7 pd_10 rfl rfl rfl E0 (growI l Z a0 hw n0 h O s_DEF s_EL s_EA s_EM cs mr H a mc ⟨ga, E0, F1, F2, F3⟩) (Nat.le_of_ble_eq_true rfl) (Nat.le_of_ble_eq_true rfl) (Nat.le_of_ble_eq_true rfl) (Nat.le_of_ble_eq_true rfl) rfl rfl rfl (fun v179 h178 q180 => ?_)
  obtain ⟨g, kG, rfl, q1, q2, q3, q4, q5, q6, q7, q8, q9⟩ := q180
  have f181 := O.keep q2 (allS ga all0)
  have f182 := (Keep.refl h [a]).trans q2 (allS (Or.inl (List.mem_of_getElem? (i := 0) rfl)) all0)
  have f183 := E0.keep q2
  have f184 := (V_DEF.ext O.2).keep q2 (ninS (O.ne V_DEF.lt ga) nin0)
  show G w _ h178 1 10 10 #[.val (.ref a)] [(.ref g)]
  exact g_areturn C d13_10 rfl rfl rfl rfl (Nat.le_of_ble_eq_true rfl) (Nat.le_of_ble_eq_true rfl) (⟨g, kG, rfl, q1, q2, q3, q4, q5, q6, q7, q8, q9⟩)
theorem d12_0 : decode jdk_38_method_24_code 0 = .ok (.iload_n 3, 1) := by decide +kernel
theorem d12_1 : decode jdk_38_method_24_code 1 = .ok (.aload_n 2, 1) := by decide +kernel
theorem d12_2 : decode jdk_38_method_24_code 2 = .ok (.arraylength, 1) := by decide +kernel
theorem d12_3 : decode jdk_38_method_24_code 3 = .ok (.if_icmp .ne 8, 3) := by decide +kernel
theorem d12_6 : decode jdk_38_method_24_code 6 = .ok (.aload_n 0, 1) := by decide +kernel
theorem d12_7 : decode jdk_38_method_24_code 7 = .ok (.invokevirtual 129, 3) := by decide +kernel
theorem pd_9 : parseMethodDescriptor "()[Ljava/lang/Object;" = some ⟨[], some (.array (.object "java/lang/Object"))⟩ := by decide +kernel
theorem d12_10 : decode jdk_38_method_24_code 10 = .ok (.astore_n 2, 1) := by decide +kernel
theorem d12_11 : decode jdk_38_method_24_code 11 = .ok (.aload_n 2, 1) := by decide +kernel
theorem d12_12 : decode jdk_38_method_24_code 12 = .ok (.iload_n 3, 1) := by decide +kernel
theorem d12_13 : decode jdk_38_method_24_code 13 = .ok (.aload_n 1, 1) := by decide +kernel
theorem d12_14 : decode jdk_38_method_24_code 14 = .ok (.aastore, 1) := by decide +kernel
theorem d12_15 : decode jdk_38_method_24_code 15 = .ok (.aload_n 0, 1) := by decide +kernel
theorem d12_16 : decode jdk_38_method_24_code 16 = .ok (.iload_n 3, 1) := by decide +kernel
theorem d12_17 : decode jdk_38_method_24_code 17 = .ok (.iconst 1, 1) := by decide +kernel
theorem d12_18 : decode jdk_38_method_24_code 18 = .ok (.iadd, 1) := by decide +kernel
theorem d12_19 : decode jdk_38_method_24_code 19 = .ok (.putfield 48, 3) := by decide +kernel
theorem d12_22 : decode jdk_38_method_24_code 22 = .ok (.return_, 1) := by decide +kernel
set_option maxRecDepth 65536 in
set_option maxHeartbeats 40000000 in
theorem add3_0 (l : Launch) (Z : State) (a0 : Array Value) (hw : ∀ d ∈ tables_1, d.before a0 Z = true) (n0 : Nat) (h : Heap) (O : Old Z n0 h) (s_DEF : Addr) (s_EL : Addr) (s_EA : Addr) (s_EM : Addr) (cs : Int32) (mr : Addr) (H : En Z s_DEF s_EL s_EA s_EM cs mr) (a : Addr) (mc : Int32) (x : Addr) (Ex : Exa Z h x "com/example/plumbline/plumbline/Band") (P : AL0 Z n0 h a s_DEF mc) : Con l Z (⟨"java/util/ArrayList", "add", "(Ljava/lang/Object;[Ljava/lang/Object;I)V"⟩ : MethodName) jdk_38_method_24_code 4 none ({ frames := 3, cells := 1, slots := 10, locals := 41 } : Room) #[(.ref a), (.ref x), (.ref s_DEF), (.int (0 : Int32))] h n0 (fun v h' => v = none ∧ Keep h h' [a] ∧ ∃ ed kE, h.size ≤ ed ∧ AL1 Z n0 h' a ed kE mc (1 : Int32) [(.ref x), .null, .null, .null, .null, .null, .null, .null, .null, .null]) := by
  refine Con.mk (Ls := #[.val (.ref a), .val (.ref x), .val (.ref s_DEF), .val (.int (0 : Int32))]) (plainFor_of_name pn_10) (fun m => by first | (simp [entryFrame, mkF, argsToLocals, Value.category]; done) | rfl) (fun w C => ?_)
  replace C : Cx w l Z "java/util/ArrayList" jdk_38_method_24_code 4 none "add" ({ frames := 3, cells := 1, slots := 10, locals := 41 } : Room) n0 := C
  obtain ⟨S_DEF, E_DEF, V_DEF, S_EL, E_EL, F_EL, V_EA, S_EM, E_EM, S_CS, hcs, MIR⟩ := id H
  obtain ⟨kD, V_DEF⟩ := V_DEF
  obtain ⟨kEA, V_EA⟩ := V_EA
  obtain ⟨ga, E0, F1, F2, F3⟩ := P
  refine g_iloadN C (pc' := 1) d12_0 rfl rfl ?_
  refine g_aloadN C (pc' := 2) d12_1 rfl rfl rfl ?_
  refine g_alen C (pc' := 3) d12_2 rfl (V_DEF.ext O.2) rfl ?_
  refine g_icN C (pc' := 6) d12_3 rfl (by decide) rfl ?_
  refine g_aloadN C (pc' := 7) d12_6 rfl rfl rfl ?_
  refine g_private C (pc' := 10) (k' := 1) (n' := 10) (argsL := []) (rest := []) (wd hw 96 rfl) (wd hw 97 rfl) (wd hw 55 rfl) (wd hw 98 rfl) (wd hw 56 rfl) (wd hw 100 rfl) (by decide) d12_7 pd_9 rfl rfl rfl E0 (grow0 l Z a0 hw n0 h O s_DEF s_EL s_EA s_EM cs mr H a mc ⟨ga, E0, F1, F2, F3⟩) (Nat.le_of_ble_eq_true rfl) (Nat.le_of_ble_eq_true rfl) (Nat.le_of_ble_eq_true rfl) (Nat.le_of_ble_eq_true rfl) rfl rfl rfl (fun v186 h185 q187 => ?_)
  obtain ⟨g, kG, rfl, q1, q2, q3, q4, q5, q6, q7, q8, q9⟩ := q187
  have ne_a_g : a ≠ g := Nat.ne_of_lt (Nat.lt_of_lt_of_le E0.lt q1)
  have ne_s_DEF_g : s_DEF ≠ g := Nat.ne_of_lt (Nat.lt_of_lt_of_le (V_DEF.ext O.2).lt q1)
  have ne_x_g : x ≠ g := Nat.ne_of_lt (Nat.lt_of_lt_of_le Ex.lt q1)
  have ge_g : n0 ≤ g := Nat.le_trans (O.1 ▸ O.2.1) q1
  have sz_g : h.size ≤ g := Nat.le_trans (Keep.refl h [a]).1 q1
  have f188 := O.keep q2 (allS ga all0)
  have f189 := (Keep.refl h [a]).trans q2 (allS (Or.inl (List.mem_of_getElem? (i := 0) rfl)) all0)
  have f190 := E0.keep q2
  have f191 := (V_DEF.ext O.2).keep q2 (ninS (O.ne V_DEF.lt ga) nin0)
  have f192 := Ex.keep q2
  show G w _ h185 1 10 10 #[.val (.ref a), .val (.ref x), .val (.ref s_DEF), .val (.int (0 : Int32))] [(.ref g)]
  refine g_astoreN C (pc' := 11) (Ls' := #[.val (.ref a), .val (.ref x), .val (.ref g), .val (.int (0 : Int32))]) d12_10 rfl rfl rfl rfl ?_
  refine g_aloadN C (pc' := 12) d12_11 rfl rfl rfl ?_
  refine g_iloadN C (pc' := 13) d12_12 rfl rfl ?_
  refine g_aloadN C (pc' := 14) d12_13 rfl rfl rfl ?_
  refine g_aastore C (pc' := 15) d12_14 rfl q9 rfl (stoR q9 q5 (Ins.of_exa f192 (wd hw 112 rfl))) (by decide) (by decide) ge_g rfl (fun h193 W194 => ?_)
  have f195 := f188.wr W194 ge_g
  have f196 := f189.wr W194 (Or.inr sz_g)
  have f197 := q3.wr W194
  have f198 := f191.other W194 ne_s_DEF_g
  have f199 := f192.wr W194
  have f200 := q4.wr W194
  have f201 := q6.other W194 (Or.inl ne_a_g)
  have f202 := q7.other W194 (Or.inl ne_a_g)
  have f203 := q8.other W194 (Or.inl ne_a_g)
  have f204 := (arv_put q9 rfl W194 (i := 0) rfl (Nat.le_of_ble_eq_true rfl) : Arv Z h193 g kG (.object "java/lang/Object") (10 : Int32) [(.ref x), .null, .null, .null, .null, .null, .null, .null, .null, .null] .null)
  refine g_aloadN C (pc' := 16) d12_15 rfl rfl rfl ?_
  refine g_iloadN C (pc' := 17) d12_16 rfl rfl ?_
  refine g_iconst C (pc' := 18) (v := (1 : Int32)) d12_17 (by decide) rfl ?_
  refine g_iadd C (pc' := 19) d12_18 rfl rfl ?_
  rw [show ((0 : Int32) + (1 : Int32)) = (1 : Int32) from by decide]
  refine g_putF C (pc' := 22) (ty := .int) (wd hw 89 rfl) Via.refl d12_19 rfl f203 f197 (Or.inl (wd hw 90 rfl)) (wd hw 55 rfl) (by decide) rfl rfl ga rfl (fun h205 W206 => ?_)
  have f207 := f195.wr W206 ga
  have f208 := f196.wr W206 (Or.inl (List.mem_of_getElem? (i := 0) rfl))
  have f209 := f197.wr W206
  have f210 := f198.other W206 (O.ne V_DEF.lt ga)
  have f211 := f199.wr W206
  have f212 := f200.wr W206
  have f213 := f201.other W206 (Or.inr (slot_ne (Or.inl (wd hw 74 rfl)) (Or.inl (wd hw 90 rfl)) (by decide) (t := .int) (t' := .int) (by decide) (by decide)))
  have f214 := f202.other W206 (Or.inr (slot_ne (Or.inl (wd hw 77 rfl)) (Or.inl (wd hw 90 rfl)) (by decide) (t := (.array (.object "java/lang/Object"))) (t' := .int) (by decide) (by decide)))
  have f215 := f203.same W206
  have f216 := f204.other W206 (Ne.symm ne_a_g)
  exact g_return C d12_22 rfl (Nat.le_of_ble_eq_true rfl) (Nat.le_of_ble_eq_true rfl) (⟨rfl, f208, g, kG, sz_g, ga, ge_g, ne_a_g, q5, f209, f212, f213, f214, f215, f216⟩)
theorem d11_0 : decode jdk_38_method_25_code 0 = .ok (.aload_n 0, 1) := by decide +kernel
theorem d11_1 : decode jdk_38_method_25_code 1 = .ok (.dup, 1) := by decide +kernel
theorem d11_2 : decode jdk_38_method_25_code 2 = .ok (.getfield 63, 3) := by decide +kernel
theorem d11_5 : decode jdk_38_method_25_code 5 = .ok (.iconst 1, 1) := by decide +kernel
theorem d11_6 : decode jdk_38_method_25_code 6 = .ok (.iadd, 1) := by decide +kernel
theorem d11_7 : decode jdk_38_method_25_code 7 = .ok (.putfield 63, 3) := by decide +kernel
theorem d11_10 : decode jdk_38_method_25_code 10 = .ok (.aload_n 0, 1) := by decide +kernel
theorem d11_11 : decode jdk_38_method_25_code 11 = .ok (.aload_n 1, 1) := by decide +kernel
theorem d11_12 : decode jdk_38_method_25_code 12 = .ok (.aload_n 0, 1) := by decide +kernel
theorem d11_13 : decode jdk_38_method_25_code 13 = .ok (.getfield 9, 3) := by decide +kernel
theorem d11_16 : decode jdk_38_method_25_code 16 = .ok (.aload_n 0, 1) := by decide +kernel
theorem d11_17 : decode jdk_38_method_25_code 17 = .ok (.getfield 48, 3) := by decide +kernel
theorem d11_20 : decode jdk_38_method_25_code 20 = .ok (.invokevirtual 131, 3) := by decide +kernel
theorem pd_8 : parseMethodDescriptor "(Ljava/lang/Object;[Ljava/lang/Object;I)V" = some ⟨[(.object "java/lang/Object"), (.array (.object "java/lang/Object")), .int], none⟩ := by decide +kernel
theorem d11_23 : decode jdk_38_method_25_code 23 = .ok (.iconst 1, 1) := by decide +kernel
theorem d11_24 : decode jdk_38_method_25_code 24 = .ok (.ireturn, 1) := by decide +kernel
set_option maxRecDepth 65536 in
set_option maxHeartbeats 40000000 in
theorem add_0 (l : Launch) (Z : State) (a0 : Array Value) (hw : ∀ d ∈ tables_1, d.before a0 Z = true) (n0 : Nat) (h : Heap) (O : Old Z n0 h) (s_DEF : Addr) (s_EL : Addr) (s_EA : Addr) (s_EM : Addr) (cs : Int32) (mr : Addr) (H : En Z s_DEF s_EL s_EA s_EM cs mr) (a : Addr) (mc : Int32) (x : Addr) (Ex : Exa Z h x "com/example/plumbline/plumbline/Band") (P : AL0 Z n0 h a s_DEF mc) : Con l Z (⟨"java/util/ArrayList", "add", "(Ljava/lang/Object;)Z"⟩ : MethodName) jdk_38_method_25_code 2 (some .boolean) ({ frames := 4, cells := 1, slots := 10, locals := 56 } : Room) #[(.ref a), (.ref x)] h n0 (fun v h' => v = some (.int (1 : Int32)) ∧ Keep h h' [a] ∧ ∃ ed kE, h.size ≤ ed ∧ AL1 Z n0 h' a ed kE (mc + (1 : Int32)) (1 : Int32) [(.ref x), .null, .null, .null, .null, .null, .null, .null, .null, .null]) := by
  refine Con.mk (Ls := #[.val (.ref a), .val (.ref x)]) (plainFor_of_name pn_10) (fun m => by first | (simp [entryFrame, mkF, argsToLocals, Value.category]; done) | rfl) (fun w C => ?_)
  replace C : Cx w l Z "java/util/ArrayList" jdk_38_method_25_code 2 (some .boolean) "add" ({ frames := 4, cells := 1, slots := 10, locals := 56 } : Room) n0 := C
  obtain ⟨S_DEF, E_DEF, V_DEF, S_EL, E_EL, F_EL, V_EA, S_EM, E_EM, S_CS, hcs, MIR⟩ := id H
  obtain ⟨kD, V_DEF⟩ := V_DEF
  obtain ⟨kEA, V_EA⟩ := V_EA
  obtain ⟨ga, E0, F1, F2, F3⟩ := P
  refine g_aloadN C (pc' := 1) d11_0 rfl rfl rfl ?_
  refine g_dup C (pc' := 2) d11_1 rfl rfl rfl ?_
  refine g_getF C (pc' := 5) (wd hw 87 rfl) (Via.of (wd hw 88 rfl)) d11_2 rfl F1 rfl ?_
  refine g_iconst C (pc' := 6) (v := (1 : Int32)) d11_5 (by decide) rfl ?_
  refine g_iadd C (pc' := 7) d11_6 rfl rfl ?_
  refine g_putF C (pc' := 10) (ty := .int) (wd hw 87 rfl) (Via.of (wd hw 88 rfl)) d11_7 rfl F1 E0 (Or.inl (wd hw 74 rfl)) (wd hw 55 rfl) (by decide) rfl rfl ga rfl (fun h217 W218 => ?_)
  have f219 := O.wr W218 ga
  have f220 := (Keep.refl h [a]).wr W218 (Or.inl (List.mem_of_getElem? (i := 0) rfl))
  have f221 := E0.wr W218
  have f222 := F1.same W218
  have f223 := F2.other W218 (Or.inr (slot_ne (Or.inl (wd hw 77 rfl)) (Or.inl (wd hw 74 rfl)) (by decide) (t := (.array (.object "java/lang/Object"))) (t' := .int) (by decide) (by decide)))
  have f224 := F3.other W218 (Or.inr (slot_ne (Or.inl (wd hw 90 rfl)) (Or.inl (wd hw 74 rfl)) (by decide) (t := .int) (t' := .int) (by decide) (by decide)))
  have f225 := (V_DEF.ext O.2).other W218 (O.ne V_DEF.lt ga)
  have f226 := Ex.wr W218
  refine g_aloadN C (pc' := 11) d11_10 rfl rfl rfl ?_
  refine g_aloadN C (pc' := 12) d11_11 rfl rfl rfl ?_
  refine g_aloadN C (pc' := 13) d11_12 rfl rfl rfl ?_
  refine g_getF C (pc' := 16) (wd hw 76 rfl) Via.refl d11_13 rfl f223 rfl ?_
  refine g_aloadN C (pc' := 17) d11_16 rfl rfl rfl ?_
  refine g_getF C (pc' := 20) (wd hw 89 rfl) Via.refl d11_17 rfl f224 rfl ?_
  refine g_private C (pc' := 23) (k' := 1) (n' := 10) (argsL := [(.ref x), (.ref s_DEF), (.int (0 : Int32))]) (rest := []) (wd hw 91 rfl) (wd hw 92 rfl) (wd hw 55 rfl) (wd hw 93 rfl) (wd hw 56 rfl) (wd hw 95 rfl) (by decide) d11_20 pd_8 rfl rfl rfl f221 (add3_0 l Z a0 hw n0 h217 f219 s_DEF s_EL s_EA s_EM cs mr H a (mc + (1 : Int32)) x f226 ⟨ga, f221, f222, f223, f224⟩) (Nat.le_of_ble_eq_true rfl) (Nat.le_of_ble_eq_true rfl) (Nat.le_of_ble_eq_true rfl) (Nat.le_of_ble_eq_true rfl) rfl rfl rfl (fun v228 h227 q229 => ?_)
  obtain ⟨rfl, q1, ed, kE, q2, q3⟩ := q229
  have ne_a_ed : a ≠ ed := Nat.ne_of_lt (Nat.lt_of_lt_of_le f221.lt q2)
  have ne_s_DEF_ed : s_DEF ≠ ed := Nat.ne_of_lt (Nat.lt_of_lt_of_le f225.lt q2)
  have ne_x_ed : x ≠ ed := Nat.ne_of_lt (Nat.lt_of_lt_of_le f226.lt q2)
  have ge_ed : n0 ≤ ed := Nat.le_trans (f219.1 ▸ f219.2.1) q2
  have sz_ed : h.size ≤ ed := Nat.le_trans f220.1 q2
  have f230 := f219.keep q1 (allS ga all0)
  have f231 := f220.trans q1 (allS (Or.inl (List.mem_of_getElem? (i := 0) rfl)) all0)
  have f232 := f221.keep q1
  have f233 := f225.keep q1 (ninS (O.ne V_DEF.lt ga) nin0)
  have f234 := f226.keep q1
  show G w _ h227 1 10 23 #[.val (.ref a), .val (.ref x)] []
  refine g_iconst C (pc' := 24) (v := (1 : Int32)) d11_23 (by decide) rfl ?_
  exact g_zreturn C d11_24 rfl rfl (Nat.le_of_ble_eq_true rfl) (Nat.le_of_ble_eq_true rfl) (⟨rfl, f231, ed, kE, sz_ed, q3⟩)
set_option maxRecDepth 65536 in
set_option maxHeartbeats 40000000 in
theorem add3_1 (l : Launch) (Z : State) (a0 : Array Value) (hw : ∀ d ∈ tables_1, d.before a0 Z = true) (n0 : Nat) (h : Heap) (O : Old Z n0 h) (s_DEF : Addr) (s_EL : Addr) (s_EA : Addr) (s_EM : Addr) (cs : Int32) (mr : Addr) (H : En Z s_DEF s_EL s_EA s_EM cs mr) (a ed : Addr) (kE : ClassId) (mc : Int32) (x0 : Addr) (x : Addr) (Ex : Exa Z h x "com/example/plumbline/plumbline/Band") (P : AL1 Z n0 h a ed kE mc (1 : Int32) [(.ref x0), .null, .null, .null, .null, .null, .null, .null, .null, .null]) : Con l Z (⟨"java/util/ArrayList", "add", "(Ljava/lang/Object;[Ljava/lang/Object;I)V"⟩ : MethodName) jdk_38_method_24_code 4 none ({ frames := 0, cells := 0, slots := 0, locals := 0 } : Room) #[(.ref a), (.ref x), (.ref ed), (.int (1 : Int32))] h n0 (fun v h' => v = none ∧ Keep h h' [a, ed] ∧ AL1 Z n0 h' a ed kE mc (2 : Int32) [(.ref x0), (.ref x), .null, .null, .null, .null, .null, .null, .null, .null]) := by
  refine Con.mk (Ls := #[.val (.ref a), .val (.ref x), .val (.ref ed), .val (.int (1 : Int32))]) (plainFor_of_name pn_10) (fun m => by first | (simp [entryFrame, mkF, argsToLocals, Value.category]; done) | rfl) (fun w C => ?_)
  replace C : Cx w l Z "java/util/ArrayList" jdk_38_method_24_code 4 none "add" ({ frames := 0, cells := 0, slots := 0, locals := 0 } : Room) n0 := C
  obtain ⟨S_DEF, E_DEF, V_DEF, S_EL, E_EL, F_EL, V_EA, S_EM, E_EM, S_CS, hcs, MIR⟩ := id H
  obtain ⟨kD, V_DEF⟩ := V_DEF
  obtain ⟨kEA, V_EA⟩ := V_EA
  obtain ⟨ga, ge, nae, Ov, E0, Ee, F1, F2, F3, A1⟩ := P
  refine g_iloadN C (pc' := 1) d12_0 rfl rfl ?_
  refine g_aloadN C (pc' := 2) d12_1 rfl rfl rfl ?_
  refine g_alen C (pc' := 3) d12_2 rfl A1 rfl ?_
  refine g_icY C (pc' := 11) d12_3 rfl (by decide) (by decide) rfl ?_
  refine g_aloadN C (pc' := 12) d12_11 rfl rfl rfl ?_
  refine g_iloadN C (pc' := 13) d12_12 rfl rfl ?_
  refine g_aloadN C (pc' := 14) d12_13 rfl rfl rfl ?_
  refine g_aastore C (pc' := 15) d12_14 rfl A1 rfl (stoR A1 Ov (Ins.of_exa Ex (wd hw 112 rfl))) (by decide) (by decide) ge rfl (fun h235 W236 => ?_)
  have f237 := O.wr W236 ge
  have f238 := (Keep.refl h [a, ed]).wr W236 (Or.inl (List.mem_of_getElem? (i := 1) rfl))
  have f239 := E0.wr W236
  have f240 := F1.other W236 (Or.inl nae)
  have f241 := F2.other W236 (Or.inl nae)
  have f242 := F3.other W236 (Or.inl nae)
  have f243 := Ee.wr W236
  have f244 := (arv_put A1 rfl W236 (i := 1) rfl (Nat.le_of_ble_eq_true rfl) : Arv Z h235 ed kE (.object "java/lang/Object") (10 : Int32) [(.ref x0), (.ref x), .null, .null, .null, .null, .null, .null, .null, .null] .null)
  have f245 := Ex.wr W236
  refine g_aloadN C (pc' := 16) d12_15 rfl rfl rfl ?_
  refine g_iloadN C (pc' := 17) d12_16 rfl rfl ?_
  refine g_iconst C (pc' := 18) (v := (1 : Int32)) d12_17 (by decide) rfl ?_
  refine g_iadd C (pc' := 19) d12_18 rfl rfl ?_
  rw [show ((1 : Int32) + (1 : Int32)) = (2 : Int32) from by decide]
  refine g_putF C (pc' := 22) (ty := .int) (wd hw 89 rfl) Via.refl d12_19 rfl f242 f239 (Or.inl (wd hw 90 rfl)) (wd hw 55 rfl) (by decide) rfl rfl ga rfl (fun h246 W247 => ?_)
  have f248 := f237.wr W247 ga
  have f249 := f238.wr W247 (Or.inl (List.mem_of_getElem? (i := 0) rfl))
  have f250 := f239.wr W247
  have f251 := f240.other W247 (Or.inr (slot_ne (Or.inl (wd hw 74 rfl)) (Or.inl (wd hw 90 rfl)) (by decide) (t := .int) (t' := .int) (by decide) (by decide)))
  have f252 := f241.other W247 (Or.inr (slot_ne (Or.inl (wd hw 77 rfl)) (Or.inl (wd hw 90 rfl)) (by decide) (t := (.array (.object "java/lang/Object"))) (t' := .int) (by decide) (by decide)))
  have f253 := f242.same W247
  have f254 := f243.wr W247
  have f255 := f244.other W247 (Ne.symm nae)
  have f256 := f245.wr W247
  exact g_return C d12_22 rfl (Nat.le_of_ble_eq_true rfl) (Nat.le_of_ble_eq_true rfl) (⟨rfl, f249, ga, ge, nae, Ov, f250, f254, f251, f252, f253, f255⟩)
set_option maxRecDepth 65536 in
set_option maxHeartbeats 40000000 in
theorem add_1 (l : Launch) (Z : State) (a0 : Array Value) (hw : ∀ d ∈ tables_1, d.before a0 Z = true) (n0 : Nat) (h : Heap) (O : Old Z n0 h) (s_DEF : Addr) (s_EL : Addr) (s_EA : Addr) (s_EM : Addr) (cs : Int32) (mr : Addr) (H : En Z s_DEF s_EL s_EA s_EM cs mr) (a ed : Addr) (kE : ClassId) (mc : Int32) (x0 : Addr) (x : Addr) (Ex : Exa Z h x "com/example/plumbline/plumbline/Band") (P : AL1 Z n0 h a ed kE mc (1 : Int32) [(.ref x0), .null, .null, .null, .null, .null, .null, .null, .null, .null]) : Con l Z (⟨"java/util/ArrayList", "add", "(Ljava/lang/Object;)Z"⟩ : MethodName) jdk_38_method_25_code 2 (some .boolean) ({ frames := 1, cells := 0, slots := 0, locals := 15 } : Room) #[(.ref a), (.ref x)] h n0 (fun v h' => v = some (.int (1 : Int32)) ∧ Keep h h' [a, ed] ∧ AL1 Z n0 h' a ed kE (mc + (1 : Int32)) (2 : Int32) [(.ref x0), (.ref x), .null, .null, .null, .null, .null, .null, .null, .null]) := by
  refine Con.mk (Ls := #[.val (.ref a), .val (.ref x)]) (plainFor_of_name pn_10) (fun m => by first | (simp [entryFrame, mkF, argsToLocals, Value.category]; done) | rfl) (fun w C => ?_)
  replace C : Cx w l Z "java/util/ArrayList" jdk_38_method_25_code 2 (some .boolean) "add" ({ frames := 1, cells := 0, slots := 0, locals := 15 } : Room) n0 := C
  obtain ⟨S_DEF, E_DEF, V_DEF, S_EL, E_EL, F_EL, V_EA, S_EM, E_EM, S_CS, hcs, MIR⟩ := id H
  obtain ⟨kD, V_DEF⟩ := V_DEF
  obtain ⟨kEA, V_EA⟩ := V_EA
  obtain ⟨ga, ge, nae, Ov, E0, Ee, F1, F2, F3, A1⟩ := P
  refine g_aloadN C (pc' := 1) d11_0 rfl rfl rfl ?_
  refine g_dup C (pc' := 2) d11_1 rfl rfl rfl ?_
  refine g_getF C (pc' := 5) (wd hw 87 rfl) (Via.of (wd hw 88 rfl)) d11_2 rfl F1 rfl ?_
  refine g_iconst C (pc' := 6) (v := (1 : Int32)) d11_5 (by decide) rfl ?_
  refine g_iadd C (pc' := 7) d11_6 rfl rfl ?_
  refine g_putF C (pc' := 10) (ty := .int) (wd hw 87 rfl) (Via.of (wd hw 88 rfl)) d11_7 rfl F1 E0 (Or.inl (wd hw 74 rfl)) (wd hw 55 rfl) (by decide) rfl rfl ga rfl (fun h257 W258 => ?_)
  have f259 := O.wr W258 ga
  have f260 := (Keep.refl h [a, ed]).wr W258 (Or.inl (List.mem_of_getElem? (i := 0) rfl))
  have f261 := E0.wr W258
  have f262 := F1.same W258
  have f263 := F2.other W258 (Or.inr (slot_ne (Or.inl (wd hw 77 rfl)) (Or.inl (wd hw 74 rfl)) (by decide) (t := (.array (.object "java/lang/Object"))) (t' := .int) (by decide) (by decide)))
  have f264 := F3.other W258 (Or.inr (slot_ne (Or.inl (wd hw 90 rfl)) (Or.inl (wd hw 74 rfl)) (by decide) (t := .int) (t' := .int) (by decide) (by decide)))
  have f265 := Ee.wr W258
  have f266 := A1.other W258 (Ne.symm nae)
  have f267 := Ex.wr W258
  refine g_aloadN C (pc' := 11) d11_10 rfl rfl rfl ?_
  refine g_aloadN C (pc' := 12) d11_11 rfl rfl rfl ?_
  refine g_aloadN C (pc' := 13) d11_12 rfl rfl rfl ?_
  refine g_getF C (pc' := 16) (wd hw 76 rfl) Via.refl d11_13 rfl f263 rfl ?_
  refine g_aloadN C (pc' := 17) d11_16 rfl rfl rfl ?_
  refine g_getF C (pc' := 20) (wd hw 89 rfl) Via.refl d11_17 rfl f264 rfl ?_
  refine g_private C (pc' := 23) (k' := 0) (n' := 0) (argsL := [(.ref x), (.ref ed), (.int (1 : Int32))]) (rest := []) (wd hw 91 rfl) (wd hw 92 rfl) (wd hw 55 rfl) (wd hw 93 rfl) (wd hw 56 rfl) (wd hw 95 rfl) (by decide) d11_20 pd_8 rfl rfl rfl f261 (add3_1 l Z a0 hw n0 h257 f259 s_DEF s_EL s_EA s_EM cs mr H a ed kE (mc + (1 : Int32)) x0 x f267 ⟨ga, ge, nae, Ov, f261, f265, f262, f263, f264, f266⟩) (Nat.le_of_ble_eq_true rfl) (Nat.le_of_ble_eq_true rfl) (Nat.le_of_ble_eq_true rfl) (Nat.le_of_ble_eq_true rfl) rfl rfl rfl (fun v269 h268 q270 => ?_)
  obtain ⟨rfl, q1, q3⟩ := q270
  have f271 := f259.keep q1 (allS ga (allS ge all0))
  have f272 := f260.trans q1 (allS (Or.inl (List.mem_of_getElem? (i := 0) rfl)) (allS (Or.inl (List.mem_of_getElem? (i := 1) rfl)) all0))
  have f273 := f261.keep q1
  have f274 := f265.keep q1
  have f275 := f267.keep q1
  show G w _ h268 0 0 23 #[.val (.ref a), .val (.ref x)] []
  refine g_iconst C (pc' := 24) (v := (1 : Int32)) d11_23 (by decide) rfl ?_
  exact g_zreturn C d11_24 rfl rfl (Nat.le_of_ble_eq_true rfl) (Nat.le_of_ble_eq_true rfl) (⟨rfl, f272, q3⟩)
set_option maxRecDepth 65536 in
set_option maxHeartbeats 40000000 in
theorem add3_2 (l : Launch) (Z : State) (a0 : Array Value) (hw : ∀ d ∈ tables_1, d.before a0 Z = true) (n0 : Nat) (h : Heap) (O : Old Z n0 h) (s_DEF : Addr) (s_EL : Addr) (s_EA : Addr) (s_EM : Addr) (cs : Int32) (mr : Addr) (H : En Z s_DEF s_EL s_EA s_EM cs mr) (a ed : Addr) (kE : ClassId) (mc : Int32) (x0 x1 : Addr) (x : Addr) (Ex : Exa Z h x "com/example/plumbline/plumbline/Band") (P : AL1 Z n0 h a ed kE mc (2 : Int32) [(.ref x0), (.ref x1), .null, .null, .null, .null, .null, .null, .null, .null]) : Con l Z (⟨"java/util/ArrayList", "add", "(Ljava/lang/Object;[Ljava/lang/Object;I)V"⟩ : MethodName) jdk_38_method_24_code 4 none ({ frames := 0, cells := 0, slots := 0, locals := 0 } : Room) #[(.ref a), (.ref x), (.ref ed), (.int (2 : Int32))] h n0 (fun v h' => v = none ∧ Keep h h' [a, ed] ∧ AL1 Z n0 h' a ed kE mc (3 : Int32) [(.ref x0), (.ref x1), (.ref x), .null, .null, .null, .null, .null, .null, .null]) := by
  refine Con.mk (Ls := #[.val (.ref a), .val (.ref x), .val (.ref ed), .val (.int (2 : Int32))]) (plainFor_of_name pn_10) (fun m => by first | (simp [entryFrame, mkF, argsToLocals, Value.category]; done) | rfl) (fun w C => ?_)
  replace C : Cx w l Z "java/util/ArrayList" jdk_38_method_24_code 4 none "add" ({ frames := 0, cells := 0, slots := 0, locals := 0 } : Room) n0 := C
  obtain ⟨S_DEF, E_DEF, V_DEF, S_EL, E_EL, F_EL, V_EA, S_EM, E_EM, S_CS, hcs, MIR⟩ := id H
  obtain ⟨kD, V_DEF⟩ := V_DEF
  obtain ⟨kEA, V_EA⟩ := V_EA
  obtain ⟨ga, ge, nae, Ov, E0, Ee, F1, F2, F3, A1⟩ := P
  refine g_iloadN C (pc' := 1) d12_0 rfl rfl ?_
  refine g_aloadN C (pc' := 2) d12_1 rfl rfl rfl ?_
  refine g_alen C (pc' := 3) d12_2 rfl A1 rfl ?_
  refine g_icY C (pc' := 11) d12_3 rfl (by decide) (by decide) rfl ?_
  refine g_aloadN C (pc' := 12) d12_11 rfl rfl rfl ?_
  refine g_iloadN C (pc' := 13) d12_12 rfl rfl ?_
  refine g_aloadN C (pc' := 14) d12_13 rfl rfl rfl ?_
  refine g_aastore C (pc' := 15) d12_14 rfl A1 rfl (stoR A1 Ov (Ins.of_exa Ex (wd hw 112 rfl))) (by decide) (by decide) ge rfl (fun h276 W277 => ?_)
  have f278 := O.wr W277 ge
  have f279 := (Keep.refl h [a, ed]).wr W277 (Or.inl (List.mem_of_getElem? (i := 1) rfl))
  have f280 := E0.wr W277
  have f281 := F1.other W277 (Or.inl nae)
  have f282 := F2.other W277 (Or.inl nae)
  have f283 := F3.other W277 (Or.inl nae)
  have f284 := Ee.wr W277
  have f285 := (arv_put A1 rfl W277 (i := 2) rfl (Nat.le_of_ble_eq_true rfl) : Arv Z h276 ed kE (.object "java/lang/Object") (10 : Int32) [(.ref x0), (.ref x1), (.ref x), .null, .null, .null, .null, .null, .null, .null] .null)
  have f286 := Ex.wr W277
  refine g_aloadN C (pc' := 16) d12_15 rfl rfl rfl ?_
  refine g_iloadN C (pc' := 17) d12_16 rfl rfl ?_
  refine g_iconst C (pc' := 18) (v := (1 : Int32)) d12_17 (by decide) rfl ?_
  refine g_iadd C (pc' := 19) d12_18 rfl rfl ?_
  rw [show ((2 : Int32) + (1 : Int32)) = (3 : Int32) from by decide]
  refine g_putF C (pc' := 22) (ty := .int) (wd hw 89 rfl) Via.refl d12_19 rfl f283 f280 (Or.inl (wd hw 90 rfl)) (wd hw 55 rfl) (by decide) rfl rfl ga rfl (fun h287 W288 => ?_)
  have f289 := f278.wr W288 ga
  have f290 := f279.wr W288 (Or.inl (List.mem_of_getElem? (i := 0) rfl))
  have f291 := f280.wr W288
  have f292 := f281.other W288 (Or.inr (slot_ne (Or.inl (wd hw 74 rfl)) (Or.inl (wd hw 90 rfl)) (by decide) (t := .int) (t' := .int) (by decide) (by decide)))
  have f293 := f282.other W288 (Or.inr (slot_ne (Or.inl (wd hw 77 rfl)) (Or.inl (wd hw 90 rfl)) (by decide) (t := (.array (.object "java/lang/Object"))) (t' := .int) (by decide) (by decide)))
  have f294 := f283.same W288
  have f295 := f284.wr W288
  have f296 := f285.other W288 (Ne.symm nae)
  have f297 := f286.wr W288
  exact g_return C d12_22 rfl (Nat.le_of_ble_eq_true rfl) (Nat.le_of_ble_eq_true rfl) (⟨rfl, f290, ga, ge, nae, Ov, f291, f295, f292, f293, f294, f296⟩)
set_option maxRecDepth 65536 in
set_option maxHeartbeats 40000000 in
theorem add_2 (l : Launch) (Z : State) (a0 : Array Value) (hw : ∀ d ∈ tables_1, d.before a0 Z = true) (n0 : Nat) (h : Heap) (O : Old Z n0 h) (s_DEF : Addr) (s_EL : Addr) (s_EA : Addr) (s_EM : Addr) (cs : Int32) (mr : Addr) (H : En Z s_DEF s_EL s_EA s_EM cs mr) (a ed : Addr) (kE : ClassId) (mc : Int32) (x0 x1 : Addr) (x : Addr) (Ex : Exa Z h x "com/example/plumbline/plumbline/Band") (P : AL1 Z n0 h a ed kE mc (2 : Int32) [(.ref x0), (.ref x1), .null, .null, .null, .null, .null, .null, .null, .null]) : Con l Z (⟨"java/util/ArrayList", "add", "(Ljava/lang/Object;)Z"⟩ : MethodName) jdk_38_method_25_code 2 (some .boolean) ({ frames := 1, cells := 0, slots := 0, locals := 15 } : Room) #[(.ref a), (.ref x)] h n0 (fun v h' => v = some (.int (1 : Int32)) ∧ Keep h h' [a, ed] ∧ AL1 Z n0 h' a ed kE (mc + (1 : Int32)) (3 : Int32) [(.ref x0), (.ref x1), (.ref x), .null, .null, .null, .null, .null, .null, .null]) := by
  refine Con.mk (Ls := #[.val (.ref a), .val (.ref x)]) (plainFor_of_name pn_10) (fun m => by first | (simp [entryFrame, mkF, argsToLocals, Value.category]; done) | rfl) (fun w C => ?_)
  replace C : Cx w l Z "java/util/ArrayList" jdk_38_method_25_code 2 (some .boolean) "add" ({ frames := 1, cells := 0, slots := 0, locals := 15 } : Room) n0 := C
  obtain ⟨S_DEF, E_DEF, V_DEF, S_EL, E_EL, F_EL, V_EA, S_EM, E_EM, S_CS, hcs, MIR⟩ := id H
  obtain ⟨kD, V_DEF⟩ := V_DEF
  obtain ⟨kEA, V_EA⟩ := V_EA
  obtain ⟨ga, ge, nae, Ov, E0, Ee, F1, F2, F3, A1⟩ := P
  refine g_aloadN C (pc' := 1) d11_0 rfl rfl rfl ?_
  refine g_dup C (pc' := 2) d11_1 rfl rfl rfl ?_
  refine g_getF C (pc' := 5) (wd hw 87 rfl) (Via.of (wd hw 88 rfl)) d11_2 rfl F1 rfl ?_
  refine g_iconst C (pc' := 6) (v := (1 : Int32)) d11_5 (by decide) rfl ?_
  refine g_iadd C (pc' := 7) d11_6 rfl rfl ?_
  refine g_putF C (pc' := 10) (ty := .int) (wd hw 87 rfl) (Via.of (wd hw 88 rfl)) d11_7 rfl F1 E0 (Or.inl (wd hw 74 rfl)) (wd hw 55 rfl) (by decide) rfl rfl ga rfl (fun h298 W299 => ?_)
  have f300 := O.wr W299 ga
  have f301 := (Keep.refl h [a, ed]).wr W299 (Or.inl (List.mem_of_getElem? (i := 0) rfl))
  have f302 := E0.wr W299
  have f303 := F1.same W299
  have f304 := F2.other W299 (Or.inr (slot_ne (Or.inl (wd hw 77 rfl)) (Or.inl (wd hw 74 rfl)) (by decide) (t := (.array (.object "java/lang/Object"))) (t' := .int) (by decide) (by decide)))
  have f305 := F3.other W299 (Or.inr (slot_ne (Or.inl (wd hw 90 rfl)) (Or.inl (wd hw 74 rfl)) (by decide) (t := .int) (t' := .int) (by decide) (by decide)))
  have f306 := Ee.wr W299
  have f307 := A1.other W299 (Ne.symm nae)
  have f308 := Ex.wr W299
  refine g_aloadN C (pc' := 11) d11_10 rfl rfl rfl ?_
  refine g_aloadN C (pc' := 12) d11_11 rfl rfl rfl ?_
  refine g_aloadN C (pc' := 13) d11_12 rfl rfl rfl ?_
  refine g_getF C (pc' := 16) (wd hw 76 rfl) Via.refl d11_13 rfl f304 rfl ?_
  refine g_aloadN C (pc' := 17) d11_16 rfl rfl rfl ?_
  refine g_getF C (pc' := 20) (wd hw 89 rfl) Via.refl d11_17 rfl f305 rfl ?_
  refine g_private C (pc' := 23) (k' := 0) (n' := 0) (argsL := [(.ref x), (.ref ed), (.int (2 : Int32))]) (rest := []) (wd hw 91 rfl) (wd hw 92 rfl) (wd hw 55 rfl) (wd hw 93 rfl) (wd hw 56 rfl) (wd hw 95 rfl) (by decide) d11_20 pd_8 rfl rfl rfl f302 (add3_2 l Z a0 hw n0 h298 f300 s_DEF s_EL s_EA s_EM cs mr H a ed kE (mc + (1 : Int32)) x0 x1 x f308 ⟨ga, ge, nae, Ov, f302, f306, f303, f304, f305, f307⟩) (Nat.le_of_ble_eq_true rfl) (Nat.le_of_ble_eq_true rfl) (Nat.le_of_ble_eq_true rfl) (Nat.le_of_ble_eq_true rfl) rfl rfl rfl (fun v310 h309 q311 => ?_)
  obtain ⟨rfl, q1, q3⟩ := q311
  have f312 := f300.keep q1 (allS ga (allS ge all0))
  have f313 := f301.trans q1 (allS (Or.inl (List.mem_of_getElem? (i := 0) rfl)) (allS (Or.inl (List.mem_of_getElem? (i := 1) rfl)) all0))
  have f314 := f302.keep q1
  have f315 := f306.keep q1
  have f316 := f308.keep q1
  show G w _ h309 0 0 23 #[.val (.ref a), .val (.ref x)] []
  refine g_iconst C (pc' := 24) (v := (1 : Int32)) d11_23 (by decide) rfl ?_
  exact g_zreturn C d11_24 rfl rfl (Nat.le_of_ble_eq_true rfl) (Nat.le_of_ble_eq_true rfl) (⟨rfl, f313, q3⟩)
theorem d27_0 : decode jdk_31_method_10_code 0 = .ok (.aload_n 0, 1) := by decide +kernel
theorem d27_1 : decode jdk_31_method_10_code 1 = .ok (.ifnonnull 11, 3) := by decide +kernel
theorem d27_12 : decode jdk_31_method_10_code 12 = .ok (.aload_n 0, 1) := by decide +kernel
theorem d27_13 : decode jdk_31_method_10_code 13 = .ok (.areturn, 1) := by decide +kernel
theorem pn_18 : plainName "java/util/Objects" = true := by first | (simp [plainName, overriddenIn]; done) | decide +kernel
set_option maxRecDepth 65536 in
set_option maxHeartbeats 40000000 in
theorem rnn (l : Launch) (Z : State) (a0 : Array Value) (hw : ∀ d ∈ tables_1, d.before a0 Z = true) (n0 : Nat) (h : Heap) (O : Old Z n0 h) (s_DEF : Addr) (s_EL : Addr) (s_EA : Addr) (s_EM : Addr) (cs : Int32) (mr : Addr) (H : En Z s_DEF s_EL s_EA s_EM cs mr) (x : Addr) : Con l Z (⟨"java/util/Objects", "requireNonNull", "(Ljava/lang/Object;)Ljava/lang/Object;"⟩ : MethodName) jdk_31_method_10_code 1 (some (.object "java/lang/Object")) ({ frames := 0, cells := 0, slots := 0, locals := 0 } : Room) #[(.ref x)] h n0 (fun v h' => v = some (.ref x) ∧ h' = h) := by
  refine Con.mk (Ls := #[.val (.ref x)]) (plainFor_of_name pn_18) (fun m => by first | (simp [entryFrame, mkF, argsToLocals, Value.category]; done) | rfl) (fun w C => ?_)
  replace C : Cx w l Z "java/util/Objects" jdk_31_method_10_code 1 (some (.object "java/lang/Object")) "requireNonNull" ({ frames := 0, cells := 0, slots := 0, locals := 0 } : Room) n0 := C
  obtain ⟨S_DEF, E_DEF, V_DEF, S_EL, E_EL, F_EL, V_EA, S_EM, E_EM, S_CS, hcs, MIR⟩ := id H
  obtain ⟨kD, V_DEF⟩ := V_DEF
  obtain ⟨kEA, V_EA⟩ := V_EA
  refine g_aloadN C (pc' := 1) d27_0 rfl rfl rfl ?_
  refine g_ifnonnullY C (pc' := 12) d27_1 rfl (by decide) rfl ?_
  refine g_aloadN C (pc' := 13) d27_12 rfl rfl rfl ?_
  exact g_areturn C d27_13 rfl rfl rfl rfl (Nat.le_of_ble_eq_true rfl) (Nat.le_of_ble_eq_true rfl) (⟨rfl, rfl⟩)
theorem d19_0 : decode jdk_38_method_9_code 0 = .ok (.aload_n 0, 1) := by decide +kernel
theorem d19_1 : decode jdk_38_method_9_code 1 = .ok (.getfield 48, 3) := by decide +kernel
theorem d19_4 : decode jdk_38_method_9_code 4 = .ok (.ifCond .ne 7, 3) := by decide +kernel
theorem d19_7 : decode jdk_38_method_9_code 7 = .ok (.iconst 1, 1) := by decide +kernel
theorem d19_8 : decode jdk_38_method_9_code 8 = .ok (.goto 4, 3) := by decide +kernel
theorem d19_12 : decode jdk_38_method_9_code 12 = .ok (.ireturn, 1) := by decide +kernel
set_option maxRecDepth 65536 in
set_option maxHeartbeats 40000000 in
theorem alEmp_0 (l : Launch) (Z : State) (a0 : Array Value) (hw : ∀ d ∈ tables_1, d.before a0 Z = true) (n0 : Nat) (h : Heap) (O : Old Z n0 h) (s_DEF : Addr) (s_EL : Addr) (s_EA : Addr) (s_EM : Addr) (cs : Int32) (mr : Addr) (H : En Z s_DEF s_EL s_EA s_EM cs mr) (a : Addr) (mc : Int32) (P : AL0 Z n0 h a s_DEF mc) : Con l Z (⟨"java/util/ArrayList", "isEmpty", "()Z"⟩ : MethodName) jdk_38_method_9_code 1 (some .boolean) ({ frames := 0, cells := 0, slots := 0, locals := 0 } : Room) #[(.ref a)] h n0 (fun v h' => v = some (.int (1 : Int32)) ∧ h' = h) := by
  refine Con.mk (Ls := #[.val (.ref a)]) (plainFor_of_name pn_10) (fun m => by first | (simp [entryFrame, mkF, argsToLocals, Value.category]; done) | rfl) (fun w C => ?_)
  replace C : Cx w l Z "java/util/ArrayList" jdk_38_method_9_code 1 (some .boolean) "isEmpty" ({ frames := 0, cells := 0, slots := 0, locals := 0 } : Room) n0 := C
  obtain ⟨S_DEF, E_DEF, V_DEF, S_EL, E_EL, F_EL, V_EA, S_EM, E_EM, S_CS, hcs, MIR⟩ := id H
  obtain ⟨kD, V_DEF⟩ := V_DEF
  obtain ⟨kEA, V_EA⟩ := V_EA
  obtain ⟨ga, E0, F1, F2, F3⟩ := P
  refine g_aloadN C (pc' := 1) d19_0 rfl rfl rfl ?_
  refine g_getF C (pc' := 4) (wd hw 89 rfl) Via.refl d19_1 rfl F3 rfl ?_
  refine g_ifN C (pc' := 7) d19_4 rfl (by decide) rfl ?_
  refine g_iconst C (pc' := 8) (v := (1 : Int32)) d19_7 (by decide) rfl ?_
  refine g_goto C (pc' := 12) d19_8 (by decide) rfl ?_
  exact g_zreturn C d19_12 rfl rfl (Nat.le_of_ble_eq_true rfl) (Nat.le_of_ble_eq_true rfl) (⟨rfl, rfl⟩)
theorem d19_11 : decode jdk_38_method_9_code 11 = .ok (.iconst 0, 1) := by decide +kernel
set_option maxRecDepth 65536 in
set_option maxHeartbeats 40000000 in
theorem alEmp_1 (l : Launch) (Z : State) (a0 : Array Value) (hw : ∀ d ∈ tables_1, d.before a0 Z = true) (n0 : Nat) (h : Heap) (O : Old Z n0 h) (s_DEF : Addr) (s_EL : Addr) (s_EA : Addr) (s_EM : Addr) (cs : Int32) (mr : Addr) (H : En Z s_DEF s_EL s_EA s_EM cs mr) (a ed : Addr) (kE : ClassId) (mc : Int32) (x0 : Addr) (P : AL1 Z n0 h a ed kE mc (1 : Int32) [(.ref x0), .null, .null, .null, .null, .null, .null, .null, .null, .null]) : Con l Z (⟨"java/util/ArrayList", "isEmpty", "()Z"⟩ : MethodName) jdk_38_method_9_code 1 (some .boolean) ({ frames := 0, cells := 0, slots := 0, locals := 0 } : Room) #[(.ref a)] h n0 (fun v h' => v = some (.int (0 : Int32)) ∧ h' = h) := by
  refine Con.mk (Ls := #[.val (.ref a)]) (plainFor_of_name pn_10) (fun m => by first | (simp [entryFrame, mkF, argsToLocals, Value.category]; done) | rfl) (fun w C => ?_)
  replace C : Cx w l Z "java/util/ArrayList" jdk_38_method_9_code 1 (some .boolean) "isEmpty" ({ frames := 0, cells := 0, slots := 0, locals := 0 } : Room) n0 := C
  obtain ⟨S_DEF, E_DEF, V_DEF, S_EL, E_EL, F_EL, V_EA, S_EM, E_EM, S_CS, hcs, MIR⟩ := id H
  obtain ⟨kD, V_DEF⟩ := V_DEF
  obtain ⟨kEA, V_EA⟩ := V_EA
  obtain ⟨ga, ge, nae, Ov, E0, Ee, F1, F2, F3, A1⟩ := P
  refine g_aloadN C (pc' := 1) d19_0 rfl rfl rfl ?_
  refine g_getF C (pc' := 4) (wd hw 89 rfl) Via.refl d19_1 rfl F3 rfl ?_
  refine g_ifY C (pc' := 11) d19_4 rfl (by decide) (by decide) rfl ?_
  refine g_iconst C (pc' := 12) (v := (0 : Int32)) d19_11 (by decide) rfl ?_
  exact g_zreturn C d19_12 rfl rfl (Nat.le_of_ble_eq_true rfl) (Nat.le_of_ble_eq_true rfl) (⟨rfl, rfl⟩)
set_option maxRecDepth 65536 in
set_option maxHeartbeats 40000000 in
theorem alEmp_2 (l : Launch) (Z : State) (a0 : Array Value) (hw : ∀ d ∈ tables_1, d.before a0 Z = true) (n0 : Nat) (h : Heap) (O : Old Z n0 h) (s_DEF : Addr) (s_EL : Addr) (s_EA : Addr) (s_EM : Addr) (cs : Int32) (mr : Addr) (H : En Z s_DEF s_EL s_EA s_EM cs mr) (a ed : Addr) (kE : ClassId) (mc : Int32) (x0 x1 : Addr) (P : AL1 Z n0 h a ed kE mc (2 : Int32) [(.ref x0), (.ref x1), .null, .null, .null, .null, .null, .null, .null, .null]) : Con l Z (⟨"java/util/ArrayList", "isEmpty", "()Z"⟩ : MethodName) jdk_38_method_9_code 1 (some .boolean) ({ frames := 0, cells := 0, slots := 0, locals := 0 } : Room) #[(.ref a)] h n0 (fun v h' => v = some (.int (0 : Int32)) ∧ h' = h) := by
  refine Con.mk (Ls := #[.val (.ref a)]) (plainFor_of_name pn_10) (fun m => by first | (simp [entryFrame, mkF, argsToLocals, Value.category]; done) | rfl) (fun w C => ?_)
  replace C : Cx w l Z "java/util/ArrayList" jdk_38_method_9_code 1 (some .boolean) "isEmpty" ({ frames := 0, cells := 0, slots := 0, locals := 0 } : Room) n0 := C
  obtain ⟨S_DEF, E_DEF, V_DEF, S_EL, E_EL, F_EL, V_EA, S_EM, E_EM, S_CS, hcs, MIR⟩ := id H
  obtain ⟨kD, V_DEF⟩ := V_DEF
  obtain ⟨kEA, V_EA⟩ := V_EA
  obtain ⟨ga, ge, nae, Ov, E0, Ee, F1, F2, F3, A1⟩ := P
  refine g_aloadN C (pc' := 1) d19_0 rfl rfl rfl ?_
  refine g_getF C (pc' := 4) (wd hw 89 rfl) Via.refl d19_1 rfl F3 rfl ?_
  refine g_ifY C (pc' := 11) d19_4 rfl (by decide) (by decide) rfl ?_
  refine g_iconst C (pc' := 12) (v := (0 : Int32)) d19_11 (by decide) rfl ?_
  exact g_zreturn C d19_12 rfl rfl (Nat.le_of_ble_eq_true rfl) (Nat.le_of_ble_eq_true rfl) (⟨rfl, rfl⟩)
set_option maxRecDepth 65536 in
set_option maxHeartbeats 40000000 in
theorem alEmp_3 (l : Launch) (Z : State) (a0 : Array Value) (hw : ∀ d ∈ tables_1, d.before a0 Z = true) (n0 : Nat) (h : Heap) (O : Old Z n0 h) (s_DEF : Addr) (s_EL : Addr) (s_EA : Addr) (s_EM : Addr) (cs : Int32) (mr : Addr) (H : En Z s_DEF s_EL s_EA s_EM cs mr) (a ed : Addr) (kE : ClassId) (mc : Int32) (x0 x1 x2 : Addr) (P : AL1 Z n0 h a ed kE mc (3 : Int32) [(.ref x0), (.ref x1), (.ref x2), .null, .null, .null, .null, .null, .null, .null]) : Con l Z (⟨"java/util/ArrayList", "isEmpty", "()Z"⟩ : MethodName) jdk_38_method_9_code 1 (some .boolean) ({ frames := 0, cells := 0, slots := 0, locals := 0 } : Room) #[(.ref a)] h n0 (fun v h' => v = some (.int (0 : Int32)) ∧ h' = h) := by
  refine Con.mk (Ls := #[.val (.ref a)]) (plainFor_of_name pn_10) (fun m => by first | (simp [entryFrame, mkF, argsToLocals, Value.category]; done) | rfl) (fun w C => ?_)
  replace C : Cx w l Z "java/util/ArrayList" jdk_38_method_9_code 1 (some .boolean) "isEmpty" ({ frames := 0, cells := 0, slots := 0, locals := 0 } : Room) n0 := C
  obtain ⟨S_DEF, E_DEF, V_DEF, S_EL, E_EL, F_EL, V_EA, S_EM, E_EM, S_CS, hcs, MIR⟩ := id H
  obtain ⟨kD, V_DEF⟩ := V_DEF
  obtain ⟨kEA, V_EA⟩ := V_EA
  obtain ⟨ga, ge, nae, Ov, E0, Ee, F1, F2, F3, A1⟩ := P
  refine g_aloadN C (pc' := 1) d19_0 rfl rfl rfl ?_
  refine g_getF C (pc' := 4) (wd hw 89 rfl) Via.refl d19_1 rfl F3 rfl ?_
  refine g_ifY C (pc' := 11) d19_4 rfl (by decide) (by decide) rfl ?_
  refine g_iconst C (pc' := 12) (v := (0 : Int32)) d19_11 (by decide) rfl ?_
  exact g_zreturn C d19_12 rfl rfl (Nat.le_of_ble_eq_true rfl) (Nat.le_of_ble_eq_true rfl) (⟨rfl, rfl⟩)
theorem d20_0 : decode jdk_40_method_36_code 0 = .ok (.getstatic 90, 3) := by decide +kernel
theorem d20_3 : decode jdk_40_method_36_code 3 = .ok (.areturn, 1) := by decide +kernel
theorem pn_17 : plainName "java/util/List" = true := by first | (simp [plainName, overriddenIn]; done) | decide +kernel
set_option maxRecDepth 65536 in
set_option maxHeartbeats 40000000 in
theorem lof (l : Launch) (Z : State) (a0 : Array Value) (hw : ∀ d ∈ tables_1, d.before a0 Z = true) (n0 : Nat) (h : Heap) (O : Old Z n0 h) (s_DEF : Addr) (s_EL : Addr) (s_EA : Addr) (s_EM : Addr) (cs : Int32) (mr : Addr) (H : En Z s_DEF s_EL s_EA s_EM cs mr) : Con l Z (⟨"java/util/List", "of", "()Ljava/util/List;"⟩ : MethodName) jdk_40_method_36_code 0 (some (.object "java/util/List")) ({ frames := 0, cells := 0, slots := 0, locals := 0 } : Room) #[] h n0 (fun v h' => v = some (.ref s_EL) ∧ h' = h) := by
  refine Con.mk (Ls := #[]) (plainFor_of_name pn_17) (fun m => by first | (simp [entryFrame, mkF, argsToLocals, Value.category]; done) | rfl) (fun w C => ?_)
  replace C : Cx w l Z "java/util/List" jdk_40_method_36_code 0 (some (.object "java/util/List")) "of" ({ frames := 0, cells := 0, slots := 0, locals := 0 } : Room) n0 := C
  obtain ⟨S_DEF, E_DEF, V_DEF, S_EL, E_EL, F_EL, V_EA, S_EM, E_EM, S_CS, hcs, MIR⟩ := id H
  obtain ⟨kD, V_DEF⟩ := V_DEF
  obtain ⟨kEA, V_EA⟩ := V_EA
  refine g_getS C (pc' := 3) (wd hw 146 rfl) Via.refl d20_0 (S_EL.ext O.2) rfl ?_
  exact g_areturn C d20_3 rfl rfl rfl rfl (Nat.le_of_ble_eq_true rfl) (Nat.le_of_ble_eq_true rfl) (⟨rfl, rfl⟩)
set_option maxRecDepth 65536 in
set_option maxHeartbeats 40000000 in
theorem i12_2 (l : Launch) (Z : State) (a0 : Array Value) (hw : ∀ d ∈ tables_1, d.before a0 Z = true) (n0 : Nat) (h : Heap) (O : Old Z n0 h) (s_DEF : Addr) (s_EL : Addr) (s_EA : Addr) (s_EM : Addr) (cs : Int32) (mr : Addr) (H : En Z s_DEF s_EL s_EA s_EM cs mr) (a : Addr) (E0 : Exa Z h a "java/util/ImmutableCollections$List12") : Con l Z (⟨"java/util/AbstractCollection", "<init>", "()V"⟩ : MethodName) jdk_22_method_1_code 1 none ({ frames := 1, cells := 0, slots := 0, locals := 12 } : Room) #[(.ref a)] h n0 (fun v h' => v = none ∧ h' = h) := by
  refine Con.mk (Ls := #[.val (.ref a)]) (plainFor_of_name pn_8) (fun m => by first | (simp [entryFrame, mkF, argsToLocals, Value.category]; done) | rfl) (fun w C => ?_)
  replace C : Cx w l Z "java/util/AbstractCollection" jdk_22_method_1_code 1 none "<init>" ({ frames := 1, cells := 0, slots := 0, locals := 12 } : Room) n0 := C
  obtain ⟨S_DEF, E_DEF, V_DEF, S_EL, E_EL, F_EL, V_EA, S_EM, E_EM, S_CS, hcs, MIR⟩ := id H
  obtain ⟨kD, V_DEF⟩ := V_DEF
  obtain ⟨kEA, V_EA⟩ := V_EA
  refine g_aloadN C (pc' := 1) d10_0 rfl rfl rfl ?_
  refine g_initO C (pc' := 4) (wd hw 72 rfl) (wd hw 20 rfl) (wd hw 21 rfl) d10_1 rfl rfl (Nat.le_of_ble_eq_true rfl) (Nat.le_of_ble_eq_true rfl) rfl ?_
  exact g_return C d10_4 rfl (Nat.le_of_ble_eq_true rfl) (Nat.le_of_ble_eq_true rfl) (⟨rfl, rfl⟩)
theorem d30_0 : decode jdk_47_method_1_code 0 = .ok (.aload_n 0, 1) := by decide +kernel
theorem d30_1 : decode jdk_47_method_1_code 1 = .ok (.invokespecial 1, 3) := by decide +kernel
theorem d30_4 : decode jdk_47_method_1_code 4 = .ok (.return_, 1) := by decide +kernel
theorem pn_13 : plainName "java/util/ImmutableCollections$AbstractImmutableCollection" = true := by first | (simp [plainName, overriddenIn]; done) | decide +kernel
set_option maxRecDepth 65536 in
set_option maxHeartbeats 40000000 in
theorem i12_1 (l : Launch) (Z : State) (a0 : Array Value) (hw : ∀ d ∈ tables_1, d.before a0 Z = true) (n0 : Nat) (h : Heap) (O : Old Z n0 h) (s_DEF : Addr) (s_EL : Addr) (s_EA : Addr) (s_EM : Addr) (cs : Int32) (mr : Addr) (H : En Z s_DEF s_EL s_EA s_EM cs mr) (a : Addr) (E0 : Exa Z h a "java/util/ImmutableCollections$List12") : Con l Z (⟨"java/util/ImmutableCollections$AbstractImmutableCollection", "<init>", "()V"⟩ : MethodName) jdk_47_method_1_code 1 none ({ frames := 2, cells := 0, slots := 0, locals := 24 } : Room) #[(.ref a)] h n0 (fun v h' => v = none ∧ h' = h) := by
  refine Con.mk (Ls := #[.val (.ref a)]) (plainFor_of_name pn_13) (fun m => by first | (simp [entryFrame, mkF, argsToLocals, Value.category]; done) | rfl) (fun w C => ?_)
  replace C : Cx w l Z "java/util/ImmutableCollections$AbstractImmutableCollection" jdk_47_method_1_code 1 none "<init>" ({ frames := 2, cells := 0, slots := 0, locals := 24 } : Room) n0 := C
  obtain ⟨S_DEF, E_DEF, V_DEF, S_EL, E_EL, F_EL, V_EA, S_EM, E_EM, S_CS, hcs, MIR⟩ := id H
  obtain ⟨kD, V_DEF⟩ := V_DEF
  obtain ⟨kEA, V_EA⟩ := V_EA
  refine g_aloadN C (pc' := 1) d30_0 rfl rfl rfl ?_
  refine g_special C (pc' := 4) (k' := 0) (n' := 0) (argsL := []) (rest := []) (wd hw 208 rfl) (wd hw 67 rfl) (wd hw 70 rfl) (wd hw 71 rfl) (by decide) rfl d30_1 pd_4 rfl rfl rfl (i12_2 l Z a0 hw n0 h O s_DEF s_EL s_EA s_EM cs mr H a E0) (Nat.le_of_ble_eq_true rfl) (Nat.le_of_ble_eq_true rfl) (Nat.le_of_ble_eq_true rfl) (Nat.le_of_ble_eq_true rfl) rfl rfl rfl (fun v318 h317 q319 => ?_)
  obtain ⟨rfl, eh317⟩ := q319
  subst h317
  show G w _ h 0 0 4 #[.val (.ref a)] []
  exact g_return C d30_4 rfl (Nat.le_of_ble_eq_true rfl) (Nat.le_of_ble_eq_true rfl) (⟨rfl, rfl⟩)
theorem d29_0 : decode jdk_46_method_1_code 0 = .ok (.aload_n 0, 1) := by decide +kernel
theorem d29_1 : decode jdk_46_method_1_code 1 = .ok (.invokespecial 1, 3) := by decide +kernel
theorem d29_4 : decode jdk_46_method_1_code 4 = .ok (.return_, 1) := by decide +kernel
theorem pn_14 : plainName "java/util/ImmutableCollections$AbstractImmutableList" = true := by first | (simp [plainName, overriddenIn]; done) | decide +kernel
set_option maxRecDepth 65536 in
set_option maxHeartbeats 40000000 in
theorem i12_0 (l : Launch) (Z : State) (a0 : Array Value) (hw : ∀ d ∈ tables_1, d.before a0 Z = true) (n0 : Nat) (h : Heap) (O : Old Z n0 h) (s_DEF : Addr) (s_EL : Addr) (s_EA : Addr) (s_EM : Addr) (cs : Int32) (mr : Addr) (H : En Z s_DEF s_EL s_EA s_EM cs mr) (a : Addr) (E0 : Exa Z h a "java/util/ImmutableCollections$List12") : Con l Z (⟨"java/util/ImmutableCollections$AbstractImmutableList", "<init>", "()V"⟩ : MethodName) jdk_46_method_1_code 1 none ({ frames := 3, cells := 0, slots := 0, locals := 36 } : Room) #[(.ref a)] h n0 (fun v h' => v = none ∧ h' = h) := by
  refine Con.mk (Ls := #[.val (.ref a)]) (plainFor_of_name pn_14) (fun m => by first | (simp [entryFrame, mkF, argsToLocals, Value.category]; done) | rfl) (fun w C => ?_)
  replace C : Cx w l Z "java/util/ImmutableCollections$AbstractImmutableList" jdk_46_method_1_code 1 none "<init>" ({ frames := 3, cells := 0, slots := 0, locals := 36 } : Room) n0 := C
  obtain ⟨S_DEF, E_DEF, V_DEF, S_EL, E_EL, F_EL, V_EA, S_EM, E_EM, S_CS, hcs, MIR⟩ := id H
  obtain ⟨kD, V_DEF⟩ := V_DEF
  obtain ⟨kEA, V_EA⟩ := V_EA
  refine g_aloadN C (pc' := 1) d29_0 rfl rfl rfl ?_
  refine g_special C (pc' := 4) (k' := 0) (n' := 0) (argsL := []) (rest := []) (wd hw 202 rfl) (wd hw 203 rfl) (wd hw 206 rfl) (wd hw 207 rfl) (by decide) rfl d29_1 pd_4 rfl rfl rfl (i12_1 l Z a0 hw n0 h O s_DEF s_EL s_EA s_EM cs mr H a E0) (Nat.le_of_ble_eq_true rfl) (Nat.le_of_ble_eq_true rfl) (Nat.le_of_ble_eq_true rfl) (Nat.le_of_ble_eq_true rfl) rfl rfl rfl (fun v321 h320 q322 => ?_)
  obtain ⟨rfl, eh320⟩ := q322
  subst h320
  show G w _ h 0 0 4 #[.val (.ref a)] []
  exact g_return C d29_4 rfl (Nat.le_of_ble_eq_true rfl) (Nat.le_of_ble_eq_true rfl) (⟨rfl, rfl⟩)
theorem d33_0 : decode jdk_44_method_1_code 0 = .ok (.aload_n 0, 1) := by decide +kernel
theorem d33_1 : decode jdk_44_method_1_code 1 = .ok (.invokespecial 1, 3) := by decide +kernel
theorem d33_4 : decode jdk_44_method_1_code 4 = .ok (.aload_n 0, 1) := by decide +kernel
theorem d33_5 : decode jdk_44_method_1_code 5 = .ok (.aload_n 1, 1) := by decide +kernel
theorem d33_6 : decode jdk_44_method_1_code 6 = .ok (.invokestatic 7, 3) := by decide +kernel
theorem pd_21 : parseMethodDescriptor "(Ljava/lang/Object;)Ljava/lang/Object;" = some ⟨[(.object "java/lang/Object")], some (.object "java/lang/Object")⟩ := by decide +kernel
theorem d33_9 : decode jdk_44_method_1_code 9 = .ok (.putfield 13, 3) := by decide +kernel
theorem d33_12 : decode jdk_44_method_1_code 12 = .ok (.aload_n 0, 1) := by decide +kernel
theorem d33_13 : decode jdk_44_method_1_code 13 = .ok (.getstatic 19, 3) := by decide +kernel
theorem d33_16 : decode jdk_44_method_1_code 16 = .ok (.putfield 24, 3) := by decide +kernel
theorem d33_19 : decode jdk_44_method_1_code 19 = .ok (.return_, 1) := by decide +kernel
theorem pn_15 : plainName "java/util/ImmutableCollections$List12" = true := by first | (simp [plainName, overriddenIn]; done) | decide +kernel
set_option maxRecDepth 65536 in
set_option maxHeartbeats 40000000 in
theorem l12_1 (l : Launch) (Z : State) (a0 : Array Value) (hw : ∀ d ∈ tables_1, d.before a0 Z = true) (n0 : Nat) (h : Heap) (O : Old Z n0 h) (s_DEF : Addr) (s_EL : Addr) (s_EA : Addr) (s_EM : Addr) (cs : Int32) (mr : Addr) (H : En Z s_DEF s_EL s_EA s_EM cs mr) (a x0 : Addr) (ga : n0 ≤ a) (E0 : Exa Z h a "java/util/ImmutableCollections$List12") (F0 : Fld Z h a "java/util/ImmutableCollections$List12" "e0" "Ljava/lang/Object;" .null) (F1 : Fld Z h a "java/util/ImmutableCollections$List12" "e1" "Ljava/lang/Object;" .null) : Con l Z (⟨"java/util/ImmutableCollections$List12", "<init>", "(Ljava/lang/Object;)V"⟩ : MethodName) jdk_44_method_1_code 2 none ({ frames := 4, cells := 0, slots := 0, locals := 48 } : Room) #[(.ref a), (.ref x0)] h n0 (fun v h' => v = none ∧ Keep h h' [a]) := by
  refine Con.mk (Ls := #[.val (.ref a), .val (.ref x0)]) (plainFor_of_name pn_15) (fun m => by first | (simp [entryFrame, mkF, argsToLocals, Value.category]; done) | rfl) (fun w C => ?_)
  replace C : Cx w l Z "java/util/ImmutableCollections$List12" jdk_44_method_1_code 2 none "<init>" ({ frames := 4, cells := 0, slots := 0, locals := 48 } : Room) n0 := C
  obtain ⟨S_DEF, E_DEF, V_DEF, S_EL, E_EL, F_EL, V_EA, S_EM, E_EM, S_CS, hcs, MIR⟩ := id H
  obtain ⟨kD, V_DEF⟩ := V_DEF
  obtain ⟨kEA, V_EA⟩ := V_EA
  refine g_aloadN C (pc' := 1) d33_0 rfl rfl rfl ?_
  refine g_special C (pc' := 4) (k' := 0) (n' := 0) (argsL := []) (rest := []) (wd hw 237 rfl) (wd hw 197 rfl) (wd hw 200 rfl) (wd hw 201 rfl) (by decide) rfl d33_1 pd_4 rfl rfl rfl (i12_0 l Z a0 hw n0 h O s_DEF s_EL s_EA s_EM cs mr H a E0) (Nat.le_of_ble_eq_true rfl) (Nat.le_of_ble_eq_true rfl) (Nat.le_of_ble_eq_true rfl) (Nat.le_of_ble_eq_true rfl) rfl rfl rfl (fun v324 h323 q325 => ?_)
  obtain ⟨rfl, eh323⟩ := q325
  subst h323
  show G w _ h 0 0 4 #[.val (.ref a), .val (.ref x0)] []
  refine g_aloadN C (pc' := 5) d33_4 rfl rfl rfl ?_
  refine g_aloadN C (pc' := 6) d33_5 rfl rfl rfl ?_
  refine g_callS C (pc' := 9) (k' := 0) (n' := 0) (argsL := [(.ref x0)]) (rest := [(.ref a)]) (wd hw 241 rfl) (wd hw 187 rfl) (wd hw 188 rfl) (wd hw 189 rfl) (by decide) d33_6 pd_21 rfl rfl rfl (rnn l Z a0 hw n0 h O s_DEF s_EL s_EA s_EM cs mr H x0) (Nat.le_of_ble_eq_true rfl) (Nat.le_of_ble_eq_true rfl) (Nat.le_of_ble_eq_true rfl) (Nat.le_of_ble_eq_true rfl) rfl rfl rfl (fun v327 h326 q328 => ?_)
  obtain ⟨rfl, eh326⟩ := q328
  subst h326
  show G w _ h 0 0 9 #[.val (.ref a), .val (.ref x0)] [(.ref x0), (.ref a)]
  refine g_putF C (pc' := 12) (ty := (.object "java/lang/Object")) (wd hw 242 rfl) Via.refl d33_9 rfl F0 E0 (Or.inr ⟨(wd hw 243 rfl), rfl, rfl⟩) (wd hw 231 rfl) (by decide) rfl rfl ga rfl (fun h329 W330 => ?_)
  have f331 := O.wr W330 ga
  have f332 := (Keep.refl h [a]).wr W330 (Or.inl (List.mem_of_getElem? (i := 0) rfl))
  have f333 := E0.wr W330
  have f334 := F0.same W330
  have f335 := F1.other W330 (Or.inr (slot_ne (Or.inr (wd hw 246 rfl)) (Or.inr (wd hw 243 rfl)) (by decide) (t := (.object "java/lang/Object")) (t' := (.object "java/lang/Object")) (by decide) (by decide)))
  refine g_aloadN C (pc' := 13) d33_12 rfl rfl rfl ?_
  refine g_getSN C (pc' := 16) (wd hw 244 rfl) Via.refl d33_13 (S_EM.ext f331.2) rfl ?_
  refine g_putF C (pc' := 19) (ty := (.object "java/lang/Object")) (wd hw 245 rfl) Via.refl d33_16 rfl f335 f333 (Or.inr ⟨(wd hw 246 rfl), rfl, rfl⟩) (wd hw 231 rfl) (by decide) rfl rfl ga rfl (fun h336 W337 => ?_)
  have f338 := f331.wr W337 ga
  have f339 := f332.wr W337 (Or.inl (List.mem_of_getElem? (i := 0) rfl))
  have f340 := f333.wr W337
  have f341 := f334.other W337 (Or.inr (slot_ne (Or.inr (wd hw 243 rfl)) (Or.inr (wd hw 246 rfl)) (by decide) (t := (.object "java/lang/Object")) (t' := (.object "java/lang/Object")) (by decide) (by decide)))
  have f342 := f335.same W337
  exact g_return C d33_19 rfl (Nat.le_of_ble_eq_true rfl) (Nat.le_of_ble_eq_true rfl) (⟨rfl, f339⟩)
theorem d34_0 : decode jdk_44_method_2_code 0 = .ok (.aload_n 0, 1) := by decide +kernel
theorem d34_1 : decode jdk_44_method_2_code 1 = .ok (.invokespecial 1, 3) := by decide +kernel
theorem d34_4 : decode jdk_44_method_2_code 4 = .ok (.aload_n 0, 1) := by decide +kernel
theorem d34_5 : decode jdk_44_method_2_code 5 = .ok (.aload_n 1, 1) := by decide +kernel
theorem d34_6 : decode jdk_44_method_2_code 6 = .ok (.invokestatic 7, 3) := by decide +kernel
theorem d34_9 : decode jdk_44_method_2_code 9 = .ok (.putfield 13, 3) := by decide +kernel
theorem d34_12 : decode jdk_44_method_2_code 12 = .ok (.aload_n 0, 1) := by decide +kernel
theorem d34_13 : decode jdk_44_method_2_code 13 = .ok (.aload_n 2, 1) := by decide +kernel
theorem d34_14 : decode jdk_44_method_2_code 14 = .ok (.invokestatic 7, 3) := by decide +kernel
theorem d34_17 : decode jdk_44_method_2_code 17 = .ok (.putfield 24, 3) := by decide +kernel
theorem d34_20 : decode jdk_44_method_2_code 20 = .ok (.return_, 1) := by decide +kernel
set_option maxRecDepth 65536 in
set_option maxHeartbeats 40000000 in
theorem l12_2 (l : Launch) (Z : State) (a0 : Array Value) (hw : ∀ d ∈ tables_1, d.before a0 Z = true) (n0 : Nat) (h : Heap) (O : Old Z n0 h) (s_DEF : Addr) (s_EL : Addr) (s_EA : Addr) (s_EM : Addr) (cs : Int32) (mr : Addr) (H : En Z s_DEF s_EL s_EA s_EM cs mr) (a x0 x1 : Addr) (ga : n0 ≤ a) (E0 : Exa Z h a "java/util/ImmutableCollections$List12") (F0 : Fld Z h a "java/util/ImmutableCollections$List12" "e0" "Ljava/lang/Object;" .null) (F1 : Fld Z h a "java/util/ImmutableCollections$List12" "e1" "Ljava/lang/Object;" .null) : Con l Z (⟨"java/util/ImmutableCollections$List12", "<init>", "(Ljava/lang/Object;Ljava/lang/Object;)V"⟩ : MethodName) jdk_44_method_2_code 3 none ({ frames := 4, cells := 0, slots := 0, locals := 48 } : Room) #[(.ref a), (.ref x0), (.ref x1)] h n0 (fun v h' => v = none ∧ Keep h h' [a]) := by
  refine Con.mk (Ls := #[.val (.ref a), .val (.ref x0), .val (.ref x1)]) (plainFor_of_name pn_15) (fun m => by first | (simp [entryFrame, mkF, argsToLocals, Value.category]; done) | rfl) (fun w C => ?_)
  replace C : Cx w l Z "java/util/ImmutableCollections$List12" jdk_44_method_2_code 3 none "<init>" ({ frames := 4, cells := 0, slots := 0, locals := 48 } : Room) n0 := C
  obtain ⟨S_DEF, E_DEF, V_DEF, S_EL, E_EL, F_EL, V_EA, S_EM, E_EM, S_CS, hcs, MIR⟩ := id H
  obtain ⟨kD, V_DEF⟩ := V_DEF
  obtain ⟨kEA, V_EA⟩ := V_EA
  refine g_aloadN C (pc' := 1) d34_0 rfl rfl rfl ?_
  refine g_special C (pc' := 4) (k' := 0) (n' := 0) (argsL := []) (rest := []) (wd hw 237 rfl) (wd hw 197 rfl) (wd hw 200 rfl) (wd hw 201 rfl) (by decide) rfl d34_1 pd_4 rfl rfl rfl (i12_0 l Z a0 hw n0 h O s_DEF s_EL s_EA s_EM cs mr H a E0) (Nat.le_of_ble_eq_true rfl) (Nat.le_of_ble_eq_true rfl) (Nat.le_of_ble_eq_true rfl) (Nat.le_of_ble_eq_true rfl) rfl rfl rfl (fun v344 h343 q345 => ?_)
  obtain ⟨rfl, eh343⟩ := q345
  subst h343
  show G w _ h 0 0 4 #[.val (.ref a), .val (.ref x0), .val (.ref x1)] []
  refine g_aloadN C (pc' := 5) d34_4 rfl rfl rfl ?_
  refine g_aloadN C (pc' := 6) d34_5 rfl rfl rfl ?_
  refine g_callS C (pc' := 9) (k' := 0) (n' := 0) (argsL := [(.ref x0)]) (rest := [(.ref a)]) (wd hw 241 rfl) (wd hw 187 rfl) (wd hw 188 rfl) (wd hw 189 rfl) (by decide) d34_6 pd_21 rfl rfl rfl (rnn l Z a0 hw n0 h O s_DEF s_EL s_EA s_EM cs mr H x0) (Nat.le_of_ble_eq_true rfl) (Nat.le_of_ble_eq_true rfl) (Nat.le_of_ble_eq_true rfl) (Nat.le_of_ble_eq_true rfl) rfl rfl rfl (fun v347 h346 q348 => ?_)
  obtain ⟨rfl, eh346⟩ := q348
  subst h346
  show G w _ h 0 0 9 #[.val (.ref a), .val (.ref x0), .val (.ref x1)] [(.ref x0), (.ref a)]
  refine g_putF C (pc' := 12) (ty := (.object "java/lang/Object")) (wd hw 242 rfl) Via.refl d34_9 rfl F0 E0 (Or.inr ⟨(wd hw 243 rfl), rfl, rfl⟩) (wd hw 231 rfl) (by decide) rfl rfl ga rfl (fun h349 W350 => ?_)
  have f351 := O.wr W350 ga
  have f352 := (Keep.refl h [a]).wr W350 (Or.inl (List.mem_of_getElem? (i := 0) rfl))
  have f353 := E0.wr W350
  have f354 := F0.same W350
  have f355 := F1.other W350 (Or.inr (slot_ne (Or.inr (wd hw 246 rfl)) (Or.inr (wd hw 243 rfl)) (by decide) (t := (.object "java/lang/Object")) (t' := (.object "java/lang/Object")) (by decide) (by decide)))
  refine g_aloadN C (pc' := 13) d34_12 rfl rfl rfl ?_
  refine g_aloadN C (pc' := 14) d34_13 rfl rfl rfl ?_
  refine g_callS C (pc' := 17) (k' := 0) (n' := 0) (argsL := [(.ref x1)]) (rest := [(.ref a)]) (wd hw 241 rfl) (wd hw 187 rfl) (wd hw 188 rfl) (wd hw 189 rfl) (by decide) d34_14 pd_21 rfl rfl rfl (rnn l Z a0 hw n0 h349 f351 s_DEF s_EL s_EA s_EM cs mr H x1) (Nat.le_of_ble_eq_true rfl) (Nat.le_of_ble_eq_true rfl) (Nat.le_of_ble_eq_true rfl) (Nat.le_of_ble_eq_true rfl) rfl rfl rfl (fun v357 h356 q358 => ?_)
  obtain ⟨rfl, eh356⟩ := q358
  subst h356
  show G w _ h349 0 0 17 #[.val (.ref a), .val (.ref x0), .val (.ref x1)] [(.ref x1), (.ref a)]
  refine g_putF C (pc' := 20) (ty := (.object "java/lang/Object")) (wd hw 245 rfl) Via.refl d34_17 rfl f355 f353 (Or.inr ⟨(wd hw 246 rfl), rfl, rfl⟩) (wd hw 231 rfl) (by decide) rfl rfl ga rfl (fun h359 W360 => ?_)
  have f361 := f351.wr W360 ga
  have f362 := f352.wr W360 (Or.inl (List.mem_of_getElem? (i := 0) rfl))
  have f363 := f353.wr W360
  have f364 := f354.other W360 (Or.inr (slot_ne (Or.inr (wd hw 243 rfl)) (Or.inr (wd hw 246 rfl)) (by decide) (t := (.object "java/lang/Object")) (t' := (.object "java/lang/Object")) (by decide) (by decide)))
  have f365 := f355.same W360
  exact g_return C d34_20 rfl (Nat.le_of_ble_eq_true rfl) (Nat.le_of_ble_eq_true rfl) (⟨rfl, f362⟩)
set_option maxRecDepth 65536 in
set_option maxHeartbeats 40000000 in
theorem iN_2 (l : Launch) (Z : State) (a0 : Array Value) (hw : ∀ d ∈ tables_1, d.before a0 Z = true) (n0 : Nat) (h : Heap) (O : Old Z n0 h) (s_DEF : Addr) (s_EL : Addr) (s_EA : Addr) (s_EM : Addr) (cs : Int32) (mr : Addr) (H : En Z s_DEF s_EL s_EA s_EM cs mr) (a : Addr) (E0 : Exa Z h a "java/util/ImmutableCollections$ListN") : Con l Z (⟨"java/util/AbstractCollection", "<init>", "()V"⟩ : MethodName) jdk_22_method_1_code 1 none ({ frames := 1, cells := 0, slots := 0, locals := 12 } : Room) #[(.ref a)] h n0 (fun v h' => v = none ∧ h' = h) := by
  refine Con.mk (Ls := #[.val (.ref a)]) (plainFor_of_name pn_8) (fun m => by first | (simp [entryFrame, mkF, argsToLocals, Value.category]; done) | rfl) (fun w C => ?_)
  replace C : Cx w l Z "java/util/AbstractCollection" jdk_22_method_1_code 1 none "<init>" ({ frames := 1, cells := 0, slots := 0, locals := 12 } : Room) n0 := C
  obtain ⟨S_DEF, E_DEF, V_DEF, S_EL, E_EL, F_EL, V_EA, S_EM, E_EM, S_CS, hcs, MIR⟩ := id H
  obtain ⟨kD, V_DEF⟩ := V_DEF
  obtain ⟨kEA, V_EA⟩ := V_EA
  refine g_aloadN C (pc' := 1) d10_0 rfl rfl rfl ?_
  refine g_initO C (pc' := 4) (wd hw 72 rfl) (wd hw 20 rfl) (wd hw 21 rfl) d10_1 rfl rfl (Nat.le_of_ble_eq_true rfl) (Nat.le_of_ble_eq_true rfl) rfl ?_
  exact g_return C d10_4 rfl (Nat.le_of_ble_eq_true rfl) (Nat.le_of_ble_eq_true rfl) (⟨rfl, rfl⟩)
set_option maxRecDepth 65536 in
set_option maxHeartbeats 40000000 in
theorem iN_1 (l : Launch) (Z : State) (a0 : Array Value) (hw : ∀ d ∈ tables_1, d.before a0 Z = true) (n0 : Nat) (h : Heap) (O : Old Z n0 h) (s_DEF : Addr) (s_EL : Addr) (s_EA : Addr) (s_EM : Addr) (cs : Int32) (mr : Addr) (H : En Z s_DEF s_EL s_EA s_EM cs mr) (a : Addr) (E0 : Exa Z h a "java/util/ImmutableCollections$ListN") : Con l Z (⟨"java/util/ImmutableCollections$AbstractImmutableCollection", "<init>", "()V"⟩ : MethodName) jdk_47_method_1_code 1 none ({ frames := 2, cells := 0, slots := 0, locals := 24 } : Room) #[(.ref a)] h n0 (fun v h' => v = none ∧ h' = h) := by
  refine Con.mk (Ls := #[.val (.ref a)]) (plainFor_of_name pn_13) (fun m => by first | (simp [entryFrame, mkF, argsToLocals, Value.category]; done) | rfl) (fun w C => ?_)
  replace C : Cx w l Z "java/util/ImmutableCollections$AbstractImmutableCollection" jdk_47_method_1_code 1 none "<init>" ({ frames := 2, cells := 0, slots := 0, locals := 24 } : Room) n0 := C
  obtain ⟨S_DEF, E_DEF, V_DEF, S_EL, E_EL, F_EL, V_EA, S_EM, E_EM, S_CS, hcs, MIR⟩ := id H
  obtain ⟨kD, V_DEF⟩ := V_DEF
  obtain ⟨kEA, V_EA⟩ := V_EA
  refine g_aloadN C (pc' := 1) d30_0 rfl rfl rfl ?_
  refine g_special C (pc' := 4) (k' := 0) (n' := 0) (argsL := []) (rest := []) (wd hw 208 rfl) (wd hw 67 rfl) (wd hw 70 rfl) (wd hw 71 rfl) (by decide) rfl d30_1 pd_4 rfl rfl rfl (iN_2 l Z a0 hw n0 h O s_DEF s_EL s_EA s_EM cs mr H a E0) (Nat.le_of_ble_eq_true rfl) (Nat.le_of_ble_eq_true rfl) (Nat.le_of_ble_eq_true rfl) (Nat.le_of_ble_eq_true rfl) rfl rfl rfl (fun v367 h366 q368 => ?_)
  obtain ⟨rfl, eh366⟩ := q368
  subst h366
  show G w _ h 0 0 4 #[.val (.ref a)] []
  exact g_return C d30_4 rfl (Nat.le_of_ble_eq_true rfl) (Nat.le_of_ble_eq_true rfl) (⟨rfl, rfl⟩)
set_option maxRecDepth 65536 in
set_option maxHeartbeats 40000000 in
theorem iN_0 (l : Launch) (Z : State) (a0 : Array Value) (hw : ∀ d ∈ tables_1, d.before a0 Z = true) (n0 : Nat) (h : Heap) (O : Old Z n0 h) (s_DEF : Addr) (s_EL : Addr) (s_EA : Addr) (s_EM : Addr) (cs : Int32) (mr : Addr) (H : En Z s_DEF s_EL s_EA s_EM cs mr) (a : Addr) (E0 : Exa Z h a "java/util/ImmutableCollections$ListN") : Con l Z (⟨"java/util/ImmutableCollections$AbstractImmutableList", "<init>", "()V"⟩ : MethodName) jdk_46_method_1_code 1 none ({ frames := 3, cells := 0, slots := 0, locals := 36 } : Room) #[(.ref a)] h n0 (fun v h' => v = none ∧ h' = h) := by
  refine Con.mk (Ls := #[.val (.ref a)]) (plainFor_of_name pn_14) (fun m => by first | (simp [entryFrame, mkF, argsToLocals, Value.category]; done) | rfl) (fun w C => ?_)
  replace C : Cx w l Z "java/util/ImmutableCollections$AbstractImmutableList" jdk_46_method_1_code 1 none "<init>" ({ frames := 3, cells := 0, slots := 0, locals := 36 } : Room) n0 := C
  obtain ⟨S_DEF, E_DEF, V_DEF, S_EL, E_EL, F_EL, V_EA, S_EM, E_EM, S_CS, hcs, MIR⟩ := id H
  obtain ⟨kD, V_DEF⟩ := V_DEF
  obtain ⟨kEA, V_EA⟩ := V_EA
  refine g_aloadN C (pc' := 1) d29_0 rfl rfl rfl ?_
  refine g_special C (pc' := 4) (k' := 0) (n' := 0) (argsL := []) (rest := []) (wd hw 202 rfl) (wd hw 203 rfl) (wd hw 206 rfl) (wd hw 207 rfl) (by decide) rfl d29_1 pd_4 rfl rfl rfl (iN_1 l Z a0 hw n0 h O s_DEF s_EL s_EA s_EM cs mr H a E0) (Nat.le_of_ble_eq_true rfl) (Nat.le_of_ble_eq_true rfl) (Nat.le_of_ble_eq_true rfl) (Nat.le_of_ble_eq_true rfl) rfl rfl rfl (fun v370 h369 q371 => ?_)
  obtain ⟨rfl, eh369⟩ := q371
  subst h369
  show G w _ h 0 0 4 #[.val (.ref a)] []
  exact g_return C d29_4 rfl (Nat.le_of_ble_eq_true rfl) (Nat.le_of_ble_eq_true rfl) (⟨rfl, rfl⟩)
theorem d28_0 : decode jdk_45_method_1_code 0 = .ok (.aload_n 0, 1) := by decide +kernel
theorem d28_1 : decode jdk_45_method_1_code 1 = .ok (.invokespecial 1, 3) := by decide +kernel
theorem d28_4 : decode jdk_45_method_1_code 4 = .ok (.aload_n 0, 1) := by decide +kernel
theorem d28_5 : decode jdk_45_method_1_code 5 = .ok (.aload_n 1, 1) := by decide +kernel
theorem d28_6 : decode jdk_45_method_1_code 6 = .ok (.putfield 7, 3) := by decide +kernel
theorem d28_9 : decode jdk_45_method_1_code 9 = .ok (.aload_n 0, 1) := by decide +kernel
theorem d28_10 : decode jdk_45_method_1_code 10 = .ok (.iload_n 2, 1) := by decide +kernel
theorem d28_11 : decode jdk_45_method_1_code 11 = .ok (.putfield 13, 3) := by decide +kernel
theorem d28_14 : decode jdk_45_method_1_code 14 = .ok (.return_, 1) := by decide +kernel
theorem pn_16 : plainName "java/util/ImmutableCollections$ListN" = true := by first | (simp [plainName, overriddenIn]; done) | decide +kernel
set_option maxRecDepth 65536 in
set_option maxHeartbeats 40000000 in
theorem lN (l : Launch) (Z : State) (a0 : Array Value) (hw : ∀ d ∈ tables_1, d.before a0 Z = true) (n0 : Nat) (h : Heap) (O : Old Z n0 h) (s_DEF : Addr) (s_EL : Addr) (s_EA : Addr) (s_EM : Addr) (cs : Int32) (mr : Addr) (H : En Z s_DEF s_EL s_EA s_EM cs mr) (a ar : Addr) (ga : n0 ≤ a) (E0 : Exa Z h a "java/util/ImmutableCollections$ListN") (F0 : Fld Z h a "java/util/ImmutableCollections$ListN" "elements" "[Ljava/lang/Object;" .null) (F1 : Fld Z h a "java/util/ImmutableCollections$ListN" "allowNulls" "Z" (.int (0 : Int32))) : Con l Z (⟨"java/util/ImmutableCollections$ListN", "<init>", "([Ljava/lang/Object;Z)V"⟩ : MethodName) jdk_45_method_1_code 3 none ({ frames := 4, cells := 0, slots := 0, locals := 48 } : Room) #[(.ref a), (.ref ar), (.int (0 : Int32))] h n0 (fun v h' => v = none ∧ Keep h h' [a] ∧ Exa Z h' a "java/util/ImmutableCollections$ListN" ∧ Fld Z h' a "java/util/ImmutableCollections$ListN" "elements" "[Ljava/lang/Object;" (.ref ar)) := by
  refine Con.mk (Ls := #[.val (.ref a), .val (.ref ar), .val (.int (0 : Int32))]) (plainFor_of_name pn_16) (fun m => by first | (simp [entryFrame, mkF, argsToLocals, Value.category]; done) | rfl) (fun w C => ?_)
  replace C : Cx w l Z "java/util/ImmutableCollections$ListN" jdk_45_method_1_code 3 none "<init>" ({ frames := 4, cells := 0, slots := 0, locals := 48 } : Room) n0 := C
  obtain ⟨S_DEF, E_DEF, V_DEF, S_EL, E_EL, F_EL, V_EA, S_EM, E_EM, S_CS, hcs, MIR⟩ := id H
  obtain ⟨kD, V_DEF⟩ := V_DEF
  obtain ⟨kEA, V_EA⟩ := V_EA
  refine g_aloadN C (pc' := 1) d28_0 rfl rfl rfl ?_
  refine g_special C (pc' := 4) (k' := 0) (n' := 0) (argsL := []) (rest := []) (wd hw 196 rfl) (wd hw 197 rfl) (wd hw 200 rfl) (wd hw 201 rfl) (by decide) rfl d28_1 pd_4 rfl rfl rfl (iN_0 l Z a0 hw n0 h O s_DEF s_EL s_EA s_EM cs mr H a E0) (Nat.le_of_ble_eq_true rfl) (Nat.le_of_ble_eq_true rfl) (Nat.le_of_ble_eq_true rfl) (Nat.le_of_ble_eq_true rfl) rfl rfl rfl (fun v373 h372 q374 => ?_)
  obtain ⟨rfl, eh372⟩ := q374
  subst h372
  show G w _ h 0 0 4 #[.val (.ref a), .val (.ref ar), .val (.int (0 : Int32))] []
  refine g_aloadN C (pc' := 5) d28_4 rfl rfl rfl ?_
  refine g_aloadN C (pc' := 6) d28_5 rfl rfl rfl ?_
  refine g_putF C (pc' := 9) (ty := (.array (.object "java/lang/Object"))) (wd hw 210 rfl) Via.refl d28_6 rfl F0 E0 (Or.inr ⟨(wd hw 211 rfl), rfl, rfl⟩) (wd hw 190 rfl) (by decide) rfl rfl ga rfl (fun h375 W376 => ?_)
  have f377 := O.wr W376 ga
  have f378 := (Keep.refl h [a]).wr W376 (Or.inl (List.mem_of_getElem? (i := 0) rfl))
  have f379 := E0.wr W376
  have f380 := F0.same W376
  have f381 := F1.other W376 (Or.inr (slot_ne (Or.inr (wd hw 213 rfl)) (Or.inr (wd hw 211 rfl)) (by decide) (t := .boolean) (t' := (.array (.object "java/lang/Object"))) (by decide) (by decide)))
  refine g_aloadN C (pc' := 10) d28_9 rfl rfl rfl ?_
  refine g_iloadN C (pc' := 11) d28_10 rfl rfl ?_
  refine g_putFN C (pc' := 14) (v' := (.int (0 : Int32))) (ty := .boolean) (wd hw 212 rfl) Via.refl d28_11 rfl f381 f379 (Or.inr ⟨(wd hw 213 rfl), rfl, rfl⟩) (wd hw 190 rfl) (by decide) rfl rfl ga rfl (fun h382 W383 => ?_)
  have f384 := f377.wr W383 ga
  have f385 := f378.wr W383 (Or.inl (List.mem_of_getElem? (i := 0) rfl))
  have f386 := f379.wr W383
  have f387 := f380.other W383 (Or.inr (slot_ne (Or.inr (wd hw 211 rfl)) (Or.inr (wd hw 213 rfl)) (by decide) (t := (.array (.object "java/lang/Object"))) (t' := .boolean) (by decide) (by decide)))
  have f388 := f381.same W383
  exact g_return C d28_14 rfl (Nat.le_of_ble_eq_true rfl) (Nat.le_of_ble_eq_true rfl) (⟨rfl, f385, f386, f387⟩)
theorem d18_0 : decode jdk_56_method_3_code 0 = .ok (.aload_n 0, 1) := by decide +kernel
theorem d18_1 : decode jdk_56_method_3_code 1 = .ok (.instanceof 10, 3) := by decide +kernel
theorem d18_4 : decode jdk_56_method_3_code 4 = .ok (.ifCond .ne 22, 3) := by decide +kernel
theorem d18_7 : decode jdk_56_method_3_code 7 = .ok (.aload_n 0, 1) := by decide +kernel
theorem d18_8 : decode jdk_56_method_3_code 8 = .ok (.instanceof 12, 3) := by decide +kernel
theorem d18_11 : decode jdk_56_method_3_code 11 = .ok (.ifCond .eq 20, 3) := by decide +kernel
theorem d18_31 : decode jdk_56_method_3_code 31 = .ok (.aload_n 0, 1) := by decide +kernel
theorem d18_32 : decode jdk_56_method_3_code 32 = .ok (.invokeinterface 20 1, 5) := by decide +kernel
theorem pd_14 : parseMethodDescriptor "()Z" = some ⟨[], some .boolean⟩ := by decide +kernel
theorem d18_37 : decode jdk_56_method_3_code 37 = .ok (.ifCond .eq 7, 3) := by decide +kernel
theorem d18_40 : decode jdk_56_method_3_code 40 = .ok (.invokestatic 26, 3) := by decide +kernel
theorem pd_15 : parseMethodDescriptor "()Ljava/util/List;" = some ⟨[], some (.object "java/util/List")⟩ := by decide +kernel
theorem d18_43 : decode jdk_56_method_3_code 43 = .ok (.areturn, 1) := by decide +kernel
theorem pn_12 : plainName "java/util/ImmutableCollections" = true := by first | (simp [plainName, overriddenIn]; done) | decide +kernel
set_option maxRecDepth 65536 in
set_option maxHeartbeats 40000000 in
theorem lcp_0 (l : Launch) (Z : State) (a0 : Array Value) (hw : ∀ d ∈ tables_1, d.before a0 Z = true) (n0 : Nat) (h : Heap) (O : Old Z n0 h) (s_DEF : Addr) (s_EL : Addr) (s_EA : Addr) (s_EM : Addr) (cs : Int32) (mr : Addr) (H : En Z s_DEF s_EL s_EA s_EM cs mr) (a : Addr) (mc : Int32) (P : AL0 Z n0 h a s_DEF mc) : Con l Z (⟨"java/util/ImmutableCollections", "listCopy", "(Ljava/util/Collection;)Ljava/util/List;"⟩ : MethodName) jdk_56_method_3_code 2 (some (.object "java/util/List")) ({ frames := 1, cells := 0, slots := 0, locals := 12 } : Room) #[(.ref a)] h n0 (fun v h' => v = some (.ref s_EL) ∧ h' = h) := by
  refine Con.mk (Ls := #[.val (.ref a), .unset]) (plainFor_of_name pn_12) (fun m => by first | (simp [entryFrame, mkF, argsToLocals, Value.category]; done) | rfl) (fun w C => ?_)
  replace C : Cx w l Z "java/util/ImmutableCollections" jdk_56_method_3_code 2 (some (.object "java/util/List")) "listCopy" ({ frames := 1, cells := 0, slots := 0, locals := 12 } : Room) n0 := C
  obtain ⟨S_DEF, E_DEF, V_DEF, S_EL, E_EL, F_EL, V_EA, S_EM, E_EM, S_CS, hcs, MIR⟩ := id H
  obtain ⟨kD, V_DEF⟩ := V_DEF
  obtain ⟨kEA, V_EA⟩ := V_EA
  have P0 := P
  obtain ⟨ga, E0, F1, F2, F3⟩ := P
  refine g_aloadN C (pc' := 1) d18_0 rfl rfl rfl ?_
  refine g_instN C (pc' := 4) (wd hw 128 rfl) d18_1 rfl E0 (ns_no (wd hw 129 rfl) (wd hw 231 rfl) (NS.step (wd hw 129 rfl) (NS.step (wd hw 130 rfl) (NS.step (wd hw 131 rfl) (ns_root (wd hw 132 rfl) (wd hw 231 rfl) (by decide)) (by decide)) (by decide)) (by decide)) (by decide)) rfl ?_
  refine g_ifN C (pc' := 7) d18_4 rfl (by decide) rfl ?_
  refine g_aloadN C (pc' := 8) d18_7 rfl rfl rfl ?_
  refine g_instN C (pc' := 11) (wd hw 133 rfl) d18_8 rfl E0 (ns_no (wd hw 129 rfl) (wd hw 190 rfl) (NS.step (wd hw 129 rfl) (NS.step (wd hw 130 rfl) (NS.step (wd hw 131 rfl) (ns_root (wd hw 132 rfl) (wd hw 190 rfl) (by decide)) (by decide)) (by decide)) (by decide)) (by decide)) rfl ?_
  refine g_ifY C (pc' := 31) d18_11 rfl (by decide) (by decide) rfl ?_
  refine g_aloadN C (pc' := 32) d18_31 rfl rfl rfl ?_
  refine g_interface C (pc' := 37) (k' := 0) (n' := 0) (argsL := []) (rest := []) (wd hw 134 rfl) (wd hw 135 rfl) (wd hw 136 rfl) rfl (wd hw 137 rfl) (wd hw 138 rfl) (wd hw 139 rfl) (wd hw 140 rfl) (wd hw 141 rfl) (wd hw 56 rfl) (wd hw 142 rfl) (by decide) d18_32 pd_14 rfl rfl rfl E0 (alEmp_0 l Z a0 hw n0 h O s_DEF s_EL s_EA s_EM cs mr H a mc P0) (Nat.le_of_ble_eq_true rfl) (Nat.le_of_ble_eq_true rfl) (Nat.le_of_ble_eq_true rfl) (Nat.le_of_ble_eq_true rfl) rfl rfl rfl (fun v390 h389 q391 => ?_)
  obtain ⟨rfl, eh389⟩ := q391
  subst h389
  show G w _ h 0 0 37 #[.val (.ref a), .unset] [(.int (1 : Int32))]
  refine g_ifN C (pc' := 40) d18_37 rfl (by decide) rfl ?_
  refine g_callS C (pc' := 43) (k' := 0) (n' := 0) (argsL := []) (rest := []) (wd hw 143 rfl) (wd hw 144 rfl) (wd hw 122 rfl) (wd hw 145 rfl) (by decide) d18_40 pd_15 rfl rfl rfl (lof l Z a0 hw n0 h O s_DEF s_EL s_EA s_EM cs mr H) (Nat.le_of_ble_eq_true rfl) (Nat.le_of_ble_eq_true rfl) (Nat.le_of_ble_eq_true rfl) (Nat.le_of_ble_eq_true rfl) rfl rfl rfl (fun v393 h392 q394 => ?_)
  obtain ⟨rfl, eh392⟩ := q394
  subst h392
  show G w _ h 0 0 43 #[.val (.ref a), .unset] [(.ref s_EL)]
  exact g_areturn C d18_43 rfl rfl rfl rfl (Nat.le_of_ble_eq_true rfl) (Nat.le_of_ble_eq_true rfl) (⟨rfl, rfl⟩)
theorem d17_0 : decode jdk_40_method_48_code 0 = .ok (.aload_n 0, 1) := by decide +kernel
theorem d17_1 : decode jdk_40_method_48_code 1 = .ok (.invokestatic 112, 3) := by decide +kernel
theorem pd_13 : parseMethodDescriptor "(Ljava/util/Collection;)Ljava/util/List;" = some ⟨[(.object "java/util/Collection")], some (.object "java/util/List")⟩ := by decide +kernel
theorem d17_4 : decode jdk_40_method_48_code 4 = .ok (.areturn, 1) := by decide +kernel
set_option maxRecDepth 65536 in
set_option maxHeartbeats 40000000 in
theorem cpo_0 (l : Launch) (Z : State) (a0 : Array Value) (hw : ∀ d ∈ tables_1, d.before a0 Z = true) (n0 : Nat) (h : Heap) (O : Old Z n0 h) (s_DEF : Addr) (s_EL : Addr) (s_EA : Addr) (s_EM : Addr) (cs : Int32) (mr : Addr) (H : En Z s_DEF s_EL s_EA s_EM cs mr) (a : Addr) (mc : Int32) (P : AL0 Z n0 h a s_DEF mc) : Con l Z (⟨"java/util/List", "copyOf", "(Ljava/util/Collection;)Ljava/util/List;"⟩ : MethodName) jdk_40_method_48_code 1 (some (.object "java/util/List")) ({ frames := 2, cells := 0, slots := 0, locals := 25 } : Room) #[(.ref a)] h n0 (fun v h' => v = some (.ref s_EL) ∧ h' = h) := by
  refine Con.mk (Ls := #[.val (.ref a)]) (plainFor_of_name pn_17) (fun m => by first | (simp [entryFrame, mkF, argsToLocals, Value.category]; done) | rfl) (fun w C => ?_)
  replace C : Cx w l Z "java/util/List" jdk_40_method_48_code 1 (some (.object "java/util/List")) "copyOf" ({ frames := 2, cells := 0, slots := 0, locals := 25 } : Room) n0 := C
  obtain ⟨S_DEF, E_DEF, V_DEF, S_EL, E_EL, F_EL, V_EA, S_EM, E_EM, S_CS, hcs, MIR⟩ := id H
  obtain ⟨kD, V_DEF⟩ := V_DEF
  obtain ⟨kEA, V_EA⟩ := V_EA
  refine g_aloadN C (pc' := 1) d17_0 rfl rfl rfl ?_
  refine g_callS C (pc' := 4) (k' := 0) (n' := 0) (argsL := [(.ref a)]) (rest := []) (wd hw 124 rfl) (wd hw 125 rfl) (wd hw 126 rfl) (wd hw 127 rfl) (by decide) d17_1 pd_13 rfl rfl rfl (lcp_0 l Z a0 hw n0 h O s_DEF s_EL s_EA s_EM cs mr H a mc  P) (Nat.le_of_ble_eq_true rfl) (Nat.le_of_ble_eq_true rfl) (Nat.le_of_ble_eq_true rfl) (Nat.le_of_ble_eq_true rfl) rfl rfl rfl (fun v396 h395 q397 => ?_)
  obtain ⟨rfl, eh395⟩ := q397
  subst h395
  show G w _ h 0 0 4 #[.val (.ref a)] [(.ref s_EL)]
  exact g_areturn C d17_4 rfl rfl rfl rfl (Nat.le_of_ble_eq_true rfl) (Nat.le_of_ble_eq_true rfl) (⟨rfl, rfl⟩)
theorem d24_0 : decode jdk_29_method_69_code 0 = .ok (.iload_n 0, 1) := by decide +kernel
theorem d24_1 : decode jdk_29_method_69_code 1 = .ok (.iload_n 1, 1) := by decide +kernel
theorem d24_2 : decode jdk_29_method_69_code 2 = .ok (.if_icmp .gt 7, 3) := by decide +kernel
theorem d24_9 : decode jdk_29_method_69_code 9 = .ok (.iload_n 1, 1) := by decide +kernel
theorem d24_10 : decode jdk_29_method_69_code 10 = .ok (.ireturn, 1) := by decide +kernel
set_option maxRecDepth 65536 in
set_option maxHeartbeats 40000000 in
theorem min_10_1 (l : Launch) (Z : State) (a0 : Array Value) (hw : ∀ d ∈ tables_1, d.before a0 Z = true) (n0 : Nat) (h : Heap) (O : Old Z n0 h) (s_DEF : Addr) (s_EL : Addr) (s_EA : Addr) (s_EM : Addr) (cs : Int32) (mr : Addr) (H : En Z s_DEF s_EL s_EA s_EM cs mr) : Con l Z (⟨"java/lang/Math", "min", "(II)I"⟩ : MethodName) jdk_29_method_69_code 2 (some .int) ({ frames := 0, cells := 0, slots := 0, locals := 0 } : Room) #[(.int (10 : Int32)), (.int (1 : Int32))] h n0 (fun v h' => v = some (.int (1 : Int32)) ∧ h' = h) := by
  refine Con.mk (Ls := #[.val (.int (10 : Int32)), .val (.int (1 : Int32))]) (Jvm.Free.JP.mathPlain rfl (by decide +kernel)) (fun m => by first | (simp [entryFrame, mkF, argsToLocals, Value.category]; done) | rfl) (fun w C => ?_)
  replace C : Cx w l Z "java/lang/Math" jdk_29_method_69_code 2 (some .int) "min" ({ frames := 0, cells := 0, slots := 0, locals := 0 } : Room) n0 := C
  obtain ⟨S_DEF, E_DEF, V_DEF, S_EL, E_EL, F_EL, V_EA, S_EM, E_EM, S_CS, hcs, MIR⟩ := id H
  refine g_iloadN C (pc' := 1) d24_0 rfl rfl ?_
  refine g_iloadN C (pc' := 2) d24_1 rfl rfl ?_
  refine g_icY C (pc' := 9) d24_2 rfl (by decide) (by decide) rfl ?_
  refine g_iloadN C (pc' := 10) d24_9 rfl rfl ?_
  exact g_ireturn C d24_10 rfl (Nat.le_of_ble_eq_true rfl) (Nat.le_of_ble_eq_true rfl) (⟨rfl, rfl⟩)
theorem d23_0 : decode jdk_65_method_120_code 0 = .ok (.aload_n 2, 1) := by decide +kernel
theorem d23_1 : decode jdk_65_method_120_code 1 = .ok (.ldc 110, 2) := by decide +kernel
theorem d23_3 : decode jdk_65_method_120_code 3 = .ok (.if_acmp .ne 10, 3) := by decide +kernel
theorem d23_6 : decode jdk_65_method_120_code 6 = .ok (.iload_n 1, 1) := by decide +kernel
theorem d23_7 : decode jdk_65_method_120_code 7 = .ok (.anewarray 2, 3) := by decide +kernel
theorem d23_10 : decode jdk_65_method_120_code 10 = .ok (.goto 14, 3) := by decide +kernel
theorem d23_24 : decode jdk_65_method_120_code 24 = .ok (.astore_n 3, 1) := by decide +kernel
theorem d23_25 : decode jdk_65_method_120_code 25 = .ok (.aload_n 0, 1) := by decide +kernel
theorem d23_26 : decode jdk_65_method_120_code 26 = .ok (.iconst 0, 1) := by decide +kernel
theorem d23_27 : decode jdk_65_method_120_code 27 = .ok (.aload_n 3, 1) := by decide +kernel
theorem d23_28 : decode jdk_65_method_120_code 28 = .ok (.iconst 0, 1) := by decide +kernel
theorem d23_29 : decode jdk_65_method_120_code 29 = .ok (.aload_n 0, 1) := by decide +kernel
theorem d23_30 : decode jdk_65_method_120_code 30 = .ok (.arraylength, 1) := by decide +kernel
theorem d23_31 : decode jdk_65_method_120_code 31 = .ok (.iload_n 1, 1) := by decide +kernel
theorem d23_32 : decode jdk_65_method_120_code 32 = .ok (.invokestatic 304, 3) := by decide +kernel
theorem d23_35 : decode jdk_65_method_120_code 35 = .ok (.invokestatic 150, 3) := by decide +kernel
theorem d23_38 : decode jdk_65_method_120_code 38 = .ok (.aload_n 3, 1) := by decide +kernel
theorem d23_39 : decode jdk_65_method_120_code 39 = .ok (.areturn, 1) := by decide +kernel
theorem pn_11 : plainName "java/util/Arrays" = true := by first | (simp [plainName, overriddenIn]; done) | decide +kernel
set_option maxRecDepth 65536 in
set_option maxHeartbeats 40000000 in
theorem cp3_1 (l : Launch) (Z : State) (a0 : Array Value) (hw : ∀ d ∈ tables_1, d.before a0 Z = true) (n0 : Nat) (h : Heap) (O : Old Z n0 h) (s_DEF : Addr) (s_EL : Addr) (s_EA : Addr) (s_EM : Addr) (cs : Int32) (mr : Addr) (H : En Z s_DEF s_EL s_EA s_EM cs mr) (ed : Addr) (kE : ClassId) (x0 : Addr) (Ex0 : Exa Z h x0 "com/example/plumbline/plumbline/Band") (A1 : Arv Z h ed kE (.object "java/lang/Object") (10 : Int32) [(.ref x0), .null, .null, .null, .null, .null, .null, .null, .null, .null] .null) : Con l Z (⟨"java/util/Arrays", "copyOf", "([Ljava/lang/Object;ILjava/lang/Class;)[Ljava/lang/Object;"⟩ : MethodName) jdk_65_method_120_code 4 (some (.array (.object "java/lang/Object"))) ({ frames := 1, cells := 1, slots := 1, locals := 18 } : Room) #[(.ref ed), (.int (1 : Int32)), (.ref mr)] h n0 (fun v h' => ∃ g kG, v = some (.ref g) ∧ h.size ≤ g ∧ Keep h h' [] ∧ Exa Z h' g "[Ljava/lang/Object;" ∧ Arv Z h' g kG (.object "java/lang/Object") (1 : Int32) [(.ref x0)] .null) := by
  refine Con.mk (Ls := #[.val (.ref ed), .val (.int (1 : Int32)), .val (.ref mr), .unset]) (plainFor_of_name pn_11) (fun m => by first | (simp [entryFrame, mkF, argsToLocals, Value.category]; done) | rfl) (fun w C => ?_)
  replace C : Cx w l Z "java/util/Arrays" jdk_65_method_120_code 4 (some (.array (.object "java/lang/Object"))) "copyOf" ({ frames := 1, cells := 1, slots := 1, locals := 18 } : Room) n0 := C
  obtain ⟨S_DEF, E_DEF, V_DEF, S_EL, E_EL, F_EL, V_EA, S_EM, E_EM, S_CS, hcs, MIR⟩ := id H
  obtain ⟨kD, V_DEF⟩ := V_DEF
  obtain ⟨kEA, V_EA⟩ := V_EA
  refine g_aloadN C (pc' := 1) d23_0 rfl rfl rfl ?_
  refine g_ldcMirror C (pc' := 3) (wd hw 170 rfl) MIR d23_1 rfl ?_
  refine g_acmp C (pc' := 6) (same := true) d23_3 rfl rfl rfl (decide_eq_true rfl) (by decide) (by decide) ?_
  refine g_iloadN C (pc' := 7) d23_6 rfl rfl ?_
  refine g_newRE C (pc' := 10) (k' := 1) (n' := 1) (cap := 1) (ad := "[Ljava/lang/Object;") (wd hw 171 rfl) (wd hw 111 rfl) (by decide) d23_7 rfl (by decide) (by decide) (by decide) (by decide) (by decide) rfl rfl rfl (fun h398 b399 kA400 ex401 E402 A403 B405 Ov404 => ?_)
  have ne_ed_b399 : ed ≠ b399 := Nat.ne_of_lt (by rw [ex401]; exact A1.lt)
  have ne_x0_b399 : x0 ≠ b399 := Nat.ne_of_lt (by rw [ex401]; exact Ex0.lt)
  have ge_b399 : n0 ≤ b399 := by rw [ex401]; exact O.1 ▸ O.2.1
  have sz_b399 : h.size ≤ b399 := by rw [ex401]; exact (Keep.refl h []).1
  have f406 := O.ext E402
  have f407 := (Keep.refl h []).ext E402
  have f408 := A1.ext E402
  have f409 := Ex0.ext E402
  have A410 : Arv Z h398 b399 kA400 (.object "java/lang/Object") (1 : Int32) [.null] .null := A403.pad (pad_rep [] .null 1)
  refine g_goto C (pc' := 24) d23_10 (by decide) rfl ?_
  refine g_astoreN C (pc' := 25) (Ls' := #[.val (.ref ed), .val (.int (1 : Int32)), .val (.ref mr), .val (.ref b399)]) d23_24 rfl rfl rfl rfl ?_
  refine g_aloadN C (pc' := 26) d23_25 rfl rfl rfl ?_
  refine g_iconst C (pc' := 27) (v := (0 : Int32)) d23_26 (by decide) rfl ?_
  refine g_aloadN C (pc' := 28) d23_27 rfl rfl rfl ?_
  refine g_iconst C (pc' := 29) (v := (0 : Int32)) d23_28 (by decide) rfl ?_
  refine g_aloadN C (pc' := 30) d23_29 rfl rfl rfl ?_
  refine g_alen C (pc' := 31) d23_30 rfl f408 rfl ?_
  refine g_iloadN C (pc' := 32) d23_31 rfl rfl ?_
  refine g_callS C (pc' := 35) (k' := 1) (n' := 1) (argsL := [(.int (10 : Int32)), (.int (1 : Int32))]) (rest := [(.int (0 : Int32)), (.ref b399), (.int (0 : Int32)), (.ref ed)]) (wd hw 172 rfl) (wd hw 173 rfl) (wd hw 108 rfl) (wd hw 174 rfl) (by decide) d23_32 pd_11 rfl rfl rfl (min_10_1 l Z a0 hw n0 h398 f406 s_DEF s_EL s_EA s_EM cs mr H) (Nat.le_of_ble_eq_true rfl) (Nat.le_of_ble_eq_true rfl) (Nat.le_of_ble_eq_true rfl) (Nat.le_of_ble_eq_true rfl) rfl rfl rfl (fun v412 h411 q413 => ?_)
  obtain ⟨rfl, eh411⟩ := q413
  subst h411
  show G w _ h398 1 1 35 #[.val (.ref ed), .val (.int (1 : Int32)), .val (.ref mr), .val (.ref b399)] [(.int (1 : Int32)), (.int (0 : Int32)), (.ref b399), (.int (0 : Int32)), (.ref ed)]
  refine g_cpA C (pc' := 38) (us := [(.ref x0)]) (wd hw 175 rfl) (wd hw 178 rfl) (wd hw 176 rfl) (wd hw 177 rfl) d23_35 rfl rfl f408 A410 (Or.inr ⟨rfl, rfl, ⟨stoR A410 Ov404 (Ins.of_exa f409 (wd hw 112 rfl)), trivial⟩⟩) (by decide) (by decide) (by decide) (Nat.le_of_ble_eq_true rfl) (Nat.le_of_ble_eq_true rfl) rfl (Nat.le_of_ble_eq_true rfl) ge_b399 (Nat.le_of_ble_eq_true rfl) (Nat.le_of_ble_eq_true rfl) rfl (fun h414 K415 A416 => ?_)
  have f417 := f406.keep K415 (allS ge_b399 all0)
  have f418 := f407.trans K415 (allS (Or.inr sz_b399) all0)
  have f419 := f408.keep K415 (ninS ne_ed_b399 nin0)
  have f420 := f409.keep K415
  have f421 := B405.keep K415
  have A422 : Arv Z h414 b399 kA400 (.object "java/lang/Object") (1 : Int32) [(.ref x0)] .null := A416
  refine g_aloadN C (pc' := 39) d23_38 rfl rfl rfl ?_
  exact g_areturn C d23_39 rfl rfl rfl rfl (Nat.le_of_ble_eq_true rfl) (Nat.le_of_ble_eq_true rfl) (⟨b399, kA400, rfl, sz_b399, f418, f421, A422⟩)
theorem d22_0 : decode jdk_65_method_119_code 0 = .ok (.aload_n 0, 1) := by decide +kernel
theorem d22_1 : decode jdk_65_method_119_code 1 = .ok (.iload_n 1, 1) := by decide +kernel
theorem d22_2 : decode jdk_65_method_119_code 2 = .ok (.aload_n 0, 1) := by decide +kernel
theorem d22_3 : decode jdk_65_method_119_code 3 = .ok (.invokevirtual 86, 3) := by decide +kernel
theorem d22_6 : decode jdk_65_method_119_code 6 = .ok (.invokestatic 300, 3) := by decide +kernel
theorem pd_18 : parseMethodDescriptor "([Ljava/lang/Object;ILjava/lang/Class;)[Ljava/lang/Object;" = some ⟨[(.array (.object "java/lang/Object")), .int, (.object "java/lang/Class")], some (.array (.object "java/lang/Object"))⟩ := by decide +kernel
theorem d22_9 : decode jdk_65_method_119_code 9 = .ok (.areturn, 1) := by decide +kernel
set_option maxRecDepth 65536 in
set_option maxHeartbeats 40000000 in
theorem cp2_1 (l : Launch) (Z : State) (a0 : Array Value) (hw : ∀ d ∈ tables_1, d.before a0 Z = true) (n0 : Nat) (h : Heap) (O : Old Z n0 h) (s_DEF : Addr) (s_EL : Addr) (s_EA : Addr) (s_EM : Addr) (cs : Int32) (mr : Addr) (H : En Z s_DEF s_EL s_EA s_EM cs mr) (ed : Addr) (kE : ClassId) (x0 : Addr) (Ex0 : Exa Z h x0 "com/example/plumbline/plumbline/Band") (Ee : Exa Z h ed "[Ljava/lang/Object;") (A1 : Arv Z h ed kE (.object "java/lang/Object") (10 : Int32) [(.ref x0), .null, .null, .null, .null, .null, .null, .null, .null, .null] .null) : Con l Z (⟨"java/util/Arrays", "copyOf", "([Ljava/lang/Object;I)[Ljava/lang/Object;"⟩ : MethodName) jdk_65_method_119_code 2 (some (.array (.object "java/lang/Object"))) ({ frames := 2, cells := 1, slots := 1, locals := 33 } : Room) #[(.ref ed), (.int (1 : Int32))] h n0 (fun v h' => ∃ g kG, v = some (.ref g) ∧ h.size ≤ g ∧ Keep h h' [] ∧ Exa Z h' g "[Ljava/lang/Object;" ∧ Arv Z h' g kG (.object "java/lang/Object") (1 : Int32) [(.ref x0)] .null) := by
  refine Con.mk (Ls := #[.val (.ref ed), .val (.int (1 : Int32))]) (plainFor_of_name pn_11) (fun m => by first | (simp [entryFrame, mkF, argsToLocals, Value.category]; done) | rfl) (fun w C => ?_)
  replace C : Cx w l Z "java/util/Arrays" jdk_65_method_119_code 2 (some (.array (.object "java/lang/Object"))) "copyOf" ({ frames := 2, cells := 1, slots := 1, locals := 33 } : Room) n0 := C
  obtain ⟨S_DEF, E_DEF, V_DEF, S_EL, E_EL, F_EL, V_EA, S_EM, E_EM, S_CS, hcs, MIR⟩ := id H
  obtain ⟨kD, V_DEF⟩ := V_DEF
  obtain ⟨kEA, V_EA⟩ := V_EA
  refine g_aloadN C (pc' := 1) d22_0 rfl rfl rfl ?_
  refine g_iloadN C (pc' := 2) d22_1 rfl rfl ?_
  refine g_aloadN C (pc' := 3) d22_2 rfl rfl rfl ?_
  refine g_getClass C (pc' := 6) (wd hw 161 rfl) (wd hw 162 rfl) (wd hw 132 rfl) (wd hw 164 rfl) (wd hw 163 rfl) (wd hw 165 rfl) d22_3 rfl rfl Ee MIR (Nat.le_of_ble_eq_true rfl) (Nat.le_of_ble_eq_true rfl) rfl ?_
  refine g_callS C (pc' := 9) (k' := 1) (n' := 1) (argsL := [(.ref ed), (.int (1 : Int32)), (.ref mr)]) (rest := []) (wd hw 167 rfl) (wd hw 168 rfl) (wd hw 159 rfl) (wd hw 169 rfl) (by decide) d22_6 pd_18 rfl rfl rfl (cp3_1 l Z a0 hw n0 h O s_DEF s_EL s_EA s_EM cs mr H ed kE x0 Ex0 A1) (Nat.le_of_ble_eq_true rfl) (Nat.le_of_ble_eq_true rfl) (Nat.le_of_ble_eq_true rfl) (Nat.le_of_ble_eq_true rfl) rfl rfl rfl (fun v424 h423 q425 => ?_)
  obtain ⟨g, kG, rfl, q1, q2, q3, q4⟩ := q425
  show G w _ h423 1 1 9 #[.val (.ref ed), .val (.int (1 : Int32))] [(.ref g)]
  exact g_areturn C d22_9 rfl rfl rfl rfl (Nat.le_of_ble_eq_true rfl) (Nat.le_of_ble_eq_true rfl) (⟨g, kG, rfl, q1, q2, q3, q4⟩)
theorem d21_0 : decode jdk_38_method_16_code 0 = .ok (.aload_n 0, 1) := by decide +kernel
theorem d21_1 : decode jdk_38_method_16_code 1 = .ok (.getfield 9, 3) := by decide +kernel
theorem d21_4 : decode jdk_38_method_16_code 4 = .ok (.aload_n 0, 1) := by decide +kernel
theorem d21_5 : decode jdk_38_method_16_code 5 = .ok (.getfield 48, 3) := by decide +kernel
theorem d21_8 : decode jdk_38_method_16_code 8 = .ok (.invokestatic 66, 3) := by decide +kernel
theorem pd_16 : parseMethodDescriptor "([Ljava/lang/Object;I)[Ljava/lang/Object;" = some ⟨[(.array (.object "java/lang/Object")), .int], some (.array (.object "java/lang/Object"))⟩ := by decide +kernel
theorem d21_11 : decode jdk_38_method_16_code 11 = .ok (.areturn, 1) := by decide +kernel
set_option maxRecDepth 65536 in
set_option maxHeartbeats 40000000 in
theorem toA_1 (l : Launch) (Z : State) (a0 : Array Value) (hw : ∀ d ∈ tables_1, d.before a0 Z = true) (n0 : Nat) (h : Heap) (O : Old Z n0 h) (s_DEF : Addr) (s_EL : Addr) (s_EA : Addr) (s_EM : Addr) (cs : Int32) (mr : Addr) (H : En Z s_DEF s_EL s_EA s_EM cs mr) (a ed : Addr) (kE : ClassId) (mc : Int32) (x0 : Addr) (Ex0 : Exa Z h x0 "com/example/plumbline/plumbline/Band") (P : AL1 Z n0 h a ed kE mc (1 : Int32) [(.ref x0), .null, .null, .null, .null, .null, .null, .null, .null, .null]) : Con l Z (⟨"java/util/ArrayList", "toArray", "()[Ljava/lang/Object;"⟩ : MethodName) jdk_38_method_16_code 1 (some (.array (.object "java/lang/Object"))) ({ frames := 3, cells := 1, slots := 1, locals := 46 } : Room) #[(.ref a)] h n0 (fun v h' => ∃ g kG, v = some (.ref g) ∧ h.size ≤ g ∧ Keep h h' [] ∧ Exa Z h' g "[Ljava/lang/Object;" ∧ Arv Z h' g kG (.object "java/lang/Object") (1 : Int32) [(.ref x0)] .null) := by
  refine Con.mk (Ls := #[.val (.ref a)]) (plainFor_of_name pn_10) (fun m => by first | (simp [entryFrame, mkF, argsToLocals, Value.category]; done) | rfl) (fun w C => ?_)
  replace C : Cx w l Z "java/util/ArrayList" jdk_38_method_16_code 1 (some (.array (.object "java/lang/Object"))) "toArray" ({ frames := 3, cells := 1, slots := 1, locals := 46 } : Room) n0 := C
  obtain ⟨S_DEF, E_DEF, V_DEF, S_EL, E_EL, F_EL, V_EA, S_EM, E_EM, S_CS, hcs, MIR⟩ := id H
  obtain ⟨kD, V_DEF⟩ := V_DEF
  obtain ⟨kEA, V_EA⟩ := V_EA
  obtain ⟨ga, ge, nae, Ov, E0, Ee, F1, F2, F3, A1⟩ := P
  refine g_aloadN C (pc' := 1) d21_0 rfl rfl rfl ?_
  refine g_getF C (pc' := 4) (wd hw 76 rfl) Via.refl d21_1 rfl F2 rfl ?_
  refine g_aloadN C (pc' := 5) d21_4 rfl rfl rfl ?_
  refine g_getF C (pc' := 8) (wd hw 89 rfl) Via.refl d21_5 rfl F3 rfl ?_
  refine g_callS C (pc' := 11) (k' := 1) (n' := 1) (argsL := [(.ref ed), (.int (1 : Int32))]) (rest := []) (wd hw 157 rfl) (wd hw 158 rfl) (wd hw 159 rfl) (wd hw 160 rfl) (by decide) d21_8 pd_16 rfl rfl rfl (cp2_1 l Z a0 hw n0 h O s_DEF s_EL s_EA s_EM cs mr H ed kE x0 Ex0 Ee A1) (Nat.le_of_ble_eq_true rfl) (Nat.le_of_ble_eq_true rfl) (Nat.le_of_ble_eq_true rfl) (Nat.le_of_ble_eq_true rfl) rfl rfl rfl (fun v427 h426 q428 => ?_)
  obtain ⟨g, kG, rfl, q1, q2, q3, q4⟩ := q428
  show G w _ h426 1 1 11 #[.val (.ref a)] [(.ref g)]
  exact g_areturn C d21_11 rfl rfl rfl rfl (Nat.le_of_ble_eq_true rfl) (Nat.le_of_ble_eq_true rfl) (⟨g, kG, rfl, q1, q2, q3, q4⟩)
theorem d25_0 : decode jdk_40_method_47_code 0 = .ok (.aload_n 0, 1) := by decide +kernel
theorem d25_1 : decode jdk_40_method_47_code 1 = .ok (.arraylength, 1) := by decide +kernel
theorem d25_2 : decode jdk_40_method_47_code 2 = .ok (.tableswitch 57 0 2 #[26, 32, 43], 26) := by decide +kernel
theorem d25_34 : decode jdk_40_method_47_code 34 = .ok (.new 96, 3) := by decide +kernel
theorem d25_37 : decode jdk_40_method_47_code 37 = .ok (.dup, 1) := by decide +kernel
theorem d25_38 : decode jdk_40_method_47_code 38 = .ok (.aload_n 0, 1) := by decide +kernel
theorem d25_39 : decode jdk_40_method_47_code 39 = .ok (.iconst 0, 1) := by decide +kernel
theorem d25_40 : decode jdk_40_method_47_code 40 = .ok (.aaload, 1) := by decide +kernel
theorem d25_41 : decode jdk_40_method_47_code 41 = .ok (.invokespecial 98, 3) := by decide +kernel
theorem pd_23 : parseMethodDescriptor "(Ljava/lang/Object;)V" = some ⟨[(.object "java/lang/Object")], none⟩ := by decide +kernel
theorem d25_44 : decode jdk_40_method_47_code 44 = .ok (.areturn, 1) := by decide +kernel
set_option maxRecDepth 65536 in
set_option maxHeartbeats 40000000 in
theorem lofA_1 (l : Launch) (Z : State) (a0 : Array Value) (hw : ∀ d ∈ tables_1, d.before a0 Z = true) (n0 : Nat) (h : Heap) (O : Old Z n0 h) (s_DEF : Addr) (s_EL : Addr) (s_EA : Addr) (s_EM : Addr) (cs : Int32) (mr : Addr) (H : En Z s_DEF s_EL s_EA s_EM cs mr) (g : Addr) (kG : ClassId) (x0 : Addr) (Ex0 : Exa Z h x0 "com/example/plumbline/plumbline/Band") (A1 : Arv Z h g kG (.object "java/lang/Object") (1 : Int32) [(.ref x0)] .null) : Con l Z (⟨"java/util/List", "of", "([Ljava/lang/Object;)Ljava/util/List;"⟩ : MethodName) jdk_40_method_47_code 2 (some (.object "java/util/List")) ({ frames := 5, cells := 1, slots := 2, locals := 62 } : Room) #[(.ref g)] h n0 (fun v h' => ∃ L, v = some (.ref L) ∧ h.size ≤ L ∧ Keep h h' [] ∧ Exa Z h' L "java/util/ImmutableCollections$List12") := by
  refine Con.mk (Ls := #[.val (.ref g), .unset]) (plainFor_of_name pn_17) (fun m => by first | (simp [entryFrame, mkF, argsToLocals, Value.category]; done) | rfl) (fun w C => ?_)
  replace C : Cx w l Z "java/util/List" jdk_40_method_47_code 2 (some (.object "java/util/List")) "of" ({ frames := 5, cells := 1, slots := 2, locals := 62 } : Room) n0 := C
  obtain ⟨S_DEF, E_DEF, V_DEF, S_EL, E_EL, F_EL, V_EA, S_EM, E_EM, S_CS, hcs, MIR⟩ := id H
  obtain ⟨kD, V_DEF⟩ := V_DEF
  obtain ⟨kEA, V_EA⟩ := V_EA
  refine g_aloadN C (pc' := 1) d25_0 rfl rfl rfl ?_
  refine g_alen C (pc' := 2) d25_1 rfl A1 rfl ?_
  refine g_tsw C (pc' := 34) d25_2 rfl (by decide) rfl (by decide) rfl ?_
  refine g_new C (pc' := 37) (k' := 1) (n' := 2) (wd hw 230 rfl) (wd hw 231 rfl) (wd hw 232 rfl) d25_34 (by decide) (by decide) rfl rfl rfl (fun h429 b430 ex431 E432 A433 D434 => ?_)
  have ne_g_b430 : g ≠ b430 := Nat.ne_of_lt (by rw [ex431]; exact A1.lt)
  have ne_x0_b430 : x0 ≠ b430 := Nat.ne_of_lt (by rw [ex431]; exact Ex0.lt)
  have ge_b430 : n0 ≤ b430 := by rw [ex431]; exact O.1 ▸ O.2.1
  have sz_b430 : h.size ≤ b430 := by rw [ex431]; exact (Keep.refl h []).1
  have f435 := O.ext E432
  have f436 := (Keep.refl h []).ext E432
  have f437 := A1.ext E432
  have f438 := Ex0.ext E432
  have F_e0_b430 : Fld Z h429 b430 "java/util/ImmutableCollections$List12" "e0" "Ljava/lang/Object;" .null := D434 (Or.inr (wd hw 243 rfl)) (ty := (.object "java/lang/Object")) (by decide)
  have F_e1_b430 : Fld Z h429 b430 "java/util/ImmutableCollections$List12" "e1" "Ljava/lang/Object;" .null := D434 (Or.inr (wd hw 246 rfl)) (ty := (.object "java/lang/Object")) (by decide)
  refine g_dup C (pc' := 38) d25_37 rfl rfl rfl ?_
  refine g_aloadN C (pc' := 39) d25_38 rfl rfl rfl ?_
  refine g_iconst C (pc' := 40) (v := (0 : Int32)) d25_39 (by decide) rfl ?_
  refine g_aaload C (pc' := 41) (x := (.ref x0)) d25_40 rfl f437 rfl (by decide) (by decide) rfl rfl ?_
  refine g_special C (pc' := 44) (k' := 1) (n' := 2) (argsL := [(.ref x0)]) (rest := [(.ref b430)]) (wd hw 233 rfl) (wd hw 234 rfl) (wd hw 232 rfl) (wd hw 236 rfl) (by decide) rfl d25_41 pd_23 rfl rfl rfl (l12_1 l Z a0 hw n0 h429 f435 s_DEF s_EL s_EA s_EM cs mr H b430 x0 ge_b430 A433 F_e0_b430 F_e1_b430) (Nat.le_of_ble_eq_true rfl) (Nat.le_of_ble_eq_true rfl) (Nat.le_of_ble_eq_true rfl) (Nat.le_of_ble_eq_true rfl) rfl rfl rfl (fun v440 h439 q441 => ?_)
  obtain ⟨rfl, k1⟩ := q441
  have f442 := f435.keep k1 (allS ge_b430 all0)
  have f443 := f436.trans k1 (allS (Or.inr sz_b430) all0)
  have f444 := f437.keep k1 (ninS ne_g_b430 nin0)
  have f445 := f438.keep k1
  have f446 := A433.keep k1
  show G w _ h439 1 2 44 #[.val (.ref g), .unset] [(.ref b430)]
  exact g_areturn C d25_44 rfl rfl rfl rfl (Nat.le_of_ble_eq_true rfl) (Nat.le_of_ble_eq_true rfl) (⟨b430, rfl, sz_b430, f443, f446⟩)
theorem d18_44 : decode jdk_56_method_3_code 44 = .ok (.aload_n 0, 1) := by decide +kernel
theorem d18_45 : decode jdk_56_method_3_code 45 = .ok (.invokeinterface 30 1, 5) := by decide +kernel
theorem d18_50 : decode jdk_56_method_3_code 50 = .ok (.invokestatic 34, 3) := by decide +kernel
theorem pd_20 : parseMethodDescriptor "([Ljava/lang/Object;)Ljava/util/List;" = some ⟨[(.array (.object "java/lang/Object"))], some (.object "java/util/List")⟩ := by decide +kernel
theorem d18_53 : decode jdk_56_method_3_code 53 = .ok (.areturn, 1) := by decide +kernel
set_option maxRecDepth 65536 in
set_option maxHeartbeats 40000000 in
theorem lcp_1 (l : Launch) (Z : State) (a0 : Array Value) (hw : ∀ d ∈ tables_1, d.before a0 Z = true) (n0 : Nat) (h : Heap) (O : Old Z n0 h) (s_DEF : Addr) (s_EL : Addr) (s_EA : Addr) (s_EM : Addr) (cs : Int32) (mr : Addr) (H : En Z s_DEF s_EL s_EA s_EM cs mr) (a ed : Addr) (kE : ClassId) (mc : Int32) (x0 : Addr) (Ex0 : Exa Z h x0 "com/example/plumbline/plumbline/Band") (P : AL1 Z n0 h a ed kE mc (1 : Int32) [(.ref x0), .null, .null, .null, .null, .null, .null, .null, .null, .null]) : Con l Z (⟨"java/util/ImmutableCollections", "listCopy", "(Ljava/util/Collection;)Ljava/util/List;"⟩ : MethodName) jdk_56_method_3_code 2 (some (.object "java/util/List")) ({ frames := 6, cells := 2, slots := 3, locals := 75 } : Room) #[(.ref a)] h n0 (fun v h' => ∃ L, v = some (.ref L) ∧ h.size ≤ L ∧ Keep h h' [] ∧ Exa Z h' L "java/util/ImmutableCollections$List12") := by
  refine Con.mk (Ls := #[.val (.ref a), .unset]) (plainFor_of_name pn_12) (fun m => by first | (simp [entryFrame, mkF, argsToLocals, Value.category]; done) | rfl) (fun w C => ?_)
  replace C : Cx w l Z "java/util/ImmutableCollections" jdk_56_method_3_code 2 (some (.object "java/util/List")) "listCopy" ({ frames := 6, cells := 2, slots := 3, locals := 75 } : Room) n0 := C
  obtain ⟨S_DEF, E_DEF, V_DEF, S_EL, E_EL, F_EL, V_EA, S_EM, E_EM, S_CS, hcs, MIR⟩ := id H
  obtain ⟨kD, V_DEF⟩ := V_DEF
  obtain ⟨kEA, V_EA⟩ := V_EA
  have P0 := P
  obtain ⟨ga, ge, nae, Ov, E0, Ee, F1, F2, F3, A1⟩ := P
  refine g_aloadN C (pc' := 1) d18_0 rfl rfl rfl ?_
  refine g_instN C (pc' := 4) (wd hw 128 rfl) d18_1 rfl E0 (ns_no (wd hw 129 rfl) (wd hw 231 rfl) (NS.step (wd hw 129 rfl) (NS.step (wd hw 130 rfl) (NS.step (wd hw 131 rfl) (ns_root (wd hw 132 rfl) (wd hw 231 rfl) (by decide)) (by decide)) (by decide)) (by decide)) (by decide)) rfl ?_
  refine g_ifN C (pc' := 7) d18_4 rfl (by decide) rfl ?_
  refine g_aloadN C (pc' := 8) d18_7 rfl rfl rfl ?_
  refine g_instN C (pc' := 11) (wd hw 133 rfl) d18_8 rfl E0 (ns_no (wd hw 129 rfl) (wd hw 190 rfl) (NS.step (wd hw 129 rfl) (NS.step (wd hw 130 rfl) (NS.step (wd hw 131 rfl) (ns_root (wd hw 132 rfl) (wd hw 190 rfl) (by decide)) (by decide)) (by decide)) (by decide)) (by decide)) rfl ?_
  refine g_ifY C (pc' := 31) d18_11 rfl (by decide) (by decide) rfl ?_
  refine g_aloadN C (pc' := 32) d18_31 rfl rfl rfl ?_
  refine g_interface C (pc' := 37) (k' := 0) (n' := 0) (argsL := []) (rest := []) (wd hw 134 rfl) (wd hw 135 rfl) (wd hw 136 rfl) rfl (wd hw 137 rfl) (wd hw 138 rfl) (wd hw 139 rfl) (wd hw 140 rfl) (wd hw 141 rfl) (wd hw 56 rfl) (wd hw 142 rfl) (by decide) d18_32 pd_14 rfl rfl rfl E0 (alEmp_1 l Z a0 hw n0 h O s_DEF s_EL s_EA s_EM cs mr H a ed kE mc x0 P0) (Nat.le_of_ble_eq_true rfl) (Nat.le_of_ble_eq_true rfl) (Nat.le_of_ble_eq_true rfl) (Nat.le_of_ble_eq_true rfl) rfl rfl rfl (fun v448 h447 q449 => ?_)
  obtain ⟨rfl, eh447⟩ := q449
  subst h447
  show G w _ h 0 0 37 #[.val (.ref a), .unset] [(.int (0 : Int32))]
  refine g_ifY C (pc' := 44) d18_37 rfl (by decide) (by decide) rfl ?_
  refine g_aloadN C (pc' := 45) d18_44 rfl rfl rfl ?_
  refine g_interface C (pc' := 50) (k' := 1) (n' := 1) (argsL := []) (rest := []) (wd hw 149 rfl) (wd hw 150 rfl) (wd hw 151 rfl) rfl (wd hw 152 rfl) (wd hw 153 rfl) (wd hw 154 rfl) (wd hw 155 rfl) (wd hw 141 rfl) (wd hw 56 rfl) (wd hw 156 rfl) (by decide) d18_45 pd_9 rfl rfl rfl E0 (toA_1 l Z a0 hw n0 h O s_DEF s_EL s_EA s_EM cs mr H a ed kE mc x0 Ex0 P0) (Nat.le_of_ble_eq_true rfl) (Nat.le_of_ble_eq_true rfl) (Nat.le_of_ble_eq_true rfl) (Nat.le_of_ble_eq_true rfl) rfl rfl rfl (fun v451 h450 q452 => ?_)
  obtain ⟨g, kG, rfl, q1, q2, q3, q4⟩ := q452
  have ne_a_g : a ≠ g := Nat.ne_of_lt (Nat.lt_of_lt_of_le E0.lt q1)
  have ne_ed_g : ed ≠ g := Nat.ne_of_lt (Nat.lt_of_lt_of_le Ee.lt q1)
  have ne_x0_g : x0 ≠ g := Nat.ne_of_lt (Nat.lt_of_lt_of_le Ex0.lt q1)
  have ge_g : n0 ≤ g := Nat.le_trans (O.1 ▸ O.2.1) q1
  have sz_g : h.size ≤ g := Nat.le_trans (Keep.refl h []).1 q1
  have f453 := O.keep q2 all0
  have f454 := (Keep.refl h []).trans q2 all0
  have f455 := E0.keep q2
  have f456 := F1.keep q2 nin0
  have f457 := F2.keep q2 nin0
  have f458 := F3.keep q2 nin0
  have f459 := Ee.keep q2
  have f460 := A1.keep q2 nin0
  have f461 := Ex0.keep q2
  show G w _ h450 1 1 50 #[.val (.ref a), .unset] [(.ref g)]
  refine g_callS C (pc' := 53) (k' := 2) (n' := 3) (argsL := [(.ref g)]) (rest := []) (wd hw 179 rfl) (wd hw 180 rfl) (wd hw 122 rfl) (wd hw 181 rfl) (by decide) d18_50 pd_20 rfl rfl rfl (lofA_1 l Z a0 hw n0 h450 f453 s_DEF s_EL s_EA s_EM cs mr H g kG x0 f461 q4) (Nat.le_of_ble_eq_true rfl) (Nat.le_of_ble_eq_true rfl) (Nat.le_of_ble_eq_true rfl) (Nat.le_of_ble_eq_true rfl) rfl rfl rfl (fun v463 h462 q464 => ?_)
  obtain ⟨L, rfl, r1, r2, r3⟩ := q464
  have u1 := Nat.le_trans q2.1 r1
  have f465 := f453.keep r2 all0
  have f466 := f454.trans r2 all0
  have f467 := f455.keep r2
  have f468 := f456.keep r2 nin0
  have f469 := f457.keep r2 nin0
  have f470 := f458.keep r2 nin0
  have f471 := f459.keep r2
  have f472 := f460.keep r2 nin0
  have f473 := f461.keep r2
  have f474 := q4.keep r2 nin0
  show G w _ h462 2 3 53 #[.val (.ref a), .unset] [(.ref L)]
  exact g_areturn C d18_53 rfl rfl rfl rfl (Nat.le_of_ble_eq_true rfl) (Nat.le_of_ble_eq_true rfl) (⟨L, rfl, u1, f466, r3⟩)
set_option maxRecDepth 65536 in
set_option maxHeartbeats 40000000 in
theorem cpo_1 (l : Launch) (Z : State) (a0 : Array Value) (hw : ∀ d ∈ tables_1, d.before a0 Z = true) (n0 : Nat) (h : Heap) (O : Old Z n0 h) (s_DEF : Addr) (s_EL : Addr) (s_EA : Addr) (s_EM : Addr) (cs : Int32) (mr : Addr) (H : En Z s_DEF s_EL s_EA s_EM cs mr) (a ed : Addr) (kE : ClassId) (mc : Int32) (x0 : Addr) (Ex0 : Exa Z h x0 "com/example/plumbline/plumbline/Band") (P : AL1 Z n0 h a ed kE mc (1 : Int32) [(.ref x0), .null, .null, .null, .null, .null, .null, .null, .null, .null]) : Con l Z (⟨"java/util/List", "copyOf", "(Ljava/util/Collection;)Ljava/util/List;"⟩ : MethodName) jdk_40_method_48_code 1 (some (.object "java/util/List")) ({ frames := 7, cells := 2, slots := 3, locals := 88 } : Room) #[(.ref a)] h n0 (fun v h' => ∃ L, v = some (.ref L) ∧ h.size ≤ L ∧ Keep h h' [] ∧ Exa Z h' L "java/util/ImmutableCollections$List12") := by
  refine Con.mk (Ls := #[.val (.ref a)]) (plainFor_of_name pn_17) (fun m => by first | (simp [entryFrame, mkF, argsToLocals, Value.category]; done) | rfl) (fun w C => ?_)
  replace C : Cx w l Z "java/util/List" jdk_40_method_48_code 1 (some (.object "java/util/List")) "copyOf" ({ frames := 7, cells := 2, slots := 3, locals := 88 } : Room) n0 := C
  obtain ⟨S_DEF, E_DEF, V_DEF, S_EL, E_EL, F_EL, V_EA, S_EM, E_EM, S_CS, hcs, MIR⟩ := id H
  obtain ⟨kD, V_DEF⟩ := V_DEF
  obtain ⟨kEA, V_EA⟩ := V_EA
  refine g_aloadN C (pc' := 1) d17_0 rfl rfl rfl ?_
  refine g_callS C (pc' := 4) (k' := 2) (n' := 3) (argsL := [(.ref a)]) (rest := []) (wd hw 124 rfl) (wd hw 125 rfl) (wd hw 126 rfl) (wd hw 127 rfl) (by decide) d17_1 pd_13 rfl rfl rfl (lcp_1 l Z a0 hw n0 h O s_DEF s_EL s_EA s_EM cs mr H a ed kE mc x0 Ex0 P) (Nat.le_of_ble_eq_true rfl) (Nat.le_of_ble_eq_true rfl) (Nat.le_of_ble_eq_true rfl) (Nat.le_of_ble_eq_true rfl) rfl rfl rfl (fun v476 h475 q477 => ?_)
  obtain ⟨L, rfl, q1, q2, q3⟩ := q477
  show G w _ h475 2 3 4 #[.val (.ref a)] [(.ref L)]
  exact g_areturn C d17_4 rfl rfl rfl rfl (Nat.le_of_ble_eq_true rfl) (Nat.le_of_ble_eq_true rfl) (⟨L, rfl, q1, q2, q3⟩)
set_option maxRecDepth 65536 in
set_option maxHeartbeats 40000000 in
theorem min_10_2 (l : Launch) (Z : State) (a0 : Array Value) (hw : ∀ d ∈ tables_1, d.before a0 Z = true) (n0 : Nat) (h : Heap) (O : Old Z n0 h) (s_DEF : Addr) (s_EL : Addr) (s_EA : Addr) (s_EM : Addr) (cs : Int32) (mr : Addr) (H : En Z s_DEF s_EL s_EA s_EM cs mr) : Con l Z (⟨"java/lang/Math", "min", "(II)I"⟩ : MethodName) jdk_29_method_69_code 2 (some .int) ({ frames := 0, cells := 0, slots := 0, locals := 0 } : Room) #[(.int (10 : Int32)), (.int (2 : Int32))] h n0 (fun v h' => v = some (.int (2 : Int32)) ∧ h' = h) := by
  refine Con.mk (Ls := #[.val (.int (10 : Int32)), .val (.int (2 : Int32))]) (Jvm.Free.JP.mathPlain rfl (by decide +kernel)) (fun m => by first | (simp [entryFrame, mkF, argsToLocals, Value.category]; done) | rfl) (fun w C => ?_)
  replace C : Cx w l Z "java/lang/Math" jdk_29_method_69_code 2 (some .int) "min" ({ frames := 0, cells := 0, slots := 0, locals := 0 } : Room) n0 := C
  obtain ⟨S_DEF, E_DEF, V_DEF, S_EL, E_EL, F_EL, V_EA, S_EM, E_EM, S_CS, hcs, MIR⟩ := id H
  refine g_iloadN C (pc' := 1) d24_0 rfl rfl ?_
  refine g_iloadN C (pc' := 2) d24_1 rfl rfl ?_
  refine g_icY C (pc' := 9) d24_2 rfl (by decide) (by decide) rfl ?_
  refine g_iloadN C (pc' := 10) d24_9 rfl rfl ?_
  exact g_ireturn C d24_10 rfl (Nat.le_of_ble_eq_true rfl) (Nat.le_of_ble_eq_true rfl) (⟨rfl, rfl⟩)
set_option maxRecDepth 65536 in
set_option maxHeartbeats 40000000 in
theorem cp3_2 (l : Launch) (Z : State) (a0 : Array Value) (hw : ∀ d ∈ tables_1, d.before a0 Z = true) (n0 : Nat) (h : Heap) (O : Old Z n0 h) (s_DEF : Addr) (s_EL : Addr) (s_EA : Addr) (s_EM : Addr) (cs : Int32) (mr : Addr) (H : En Z s_DEF s_EL s_EA s_EM cs mr) (ed : Addr) (kE : ClassId) (x0 x1 : Addr) (Ex0 : Exa Z h x0 "com/example/plumbline/plumbline/Band") (Ex1 : Exa Z h x1 "com/example/plumbline/plumbline/Band") (A1 : Arv Z h ed kE (.object "java/lang/Object") (10 : Int32) [(.ref x0), (.ref x1), .null, .null, .null, .null, .null, .null, .null, .null] .null) : Con l Z (⟨"java/util/Arrays", "copyOf", "([Ljava/lang/Object;ILjava/lang/Class;)[Ljava/lang/Object;"⟩ : MethodName) jdk_65_method_120_code 4 (some (.array (.object "java/lang/Object"))) ({ frames := 1, cells := 1, slots := 2, locals := 18 } : Room) #[(.ref ed), (.int (2 : Int32)), (.ref mr)] h n0 (fun v h' => ∃ g kG, v = some (.ref g) ∧ h.size ≤ g ∧ Keep h h' [] ∧ Exa Z h' g "[Ljava/lang/Object;" ∧ Arv Z h' g kG (.object "java/lang/Object") (2 : Int32) [(.ref x0), (.ref x1)] .null) := by
  refine Con.mk (Ls := #[.val (.ref ed), .val (.int (2 : Int32)), .val (.ref mr), .unset]) (plainFor_of_name pn_11) (fun m => by first | (simp [entryFrame, mkF, argsToLocals, Value.category]; done) | rfl) (fun w C => ?_)
  replace C : Cx w l Z "java/util/Arrays" jdk_65_method_120_code 4 (some (.array (.object "java/lang/Object"))) "copyOf" ({ frames := 1, cells := 1, slots := 2, locals := 18 } : Room) n0 := C
  obtain ⟨S_DEF, E_DEF, V_DEF, S_EL, E_EL, F_EL, V_EA, S_EM, E_EM, S_CS, hcs, MIR⟩ := id H
  obtain ⟨kD, V_DEF⟩ := V_DEF
  obtain ⟨kEA, V_EA⟩ := V_EA
  refine g_aloadN C (pc' := 1) d23_0 rfl rfl rfl ?_
  refine g_ldcMirror C (pc' := 3) (wd hw 170 rfl) MIR d23_1 rfl ?_
  refine g_acmp C (pc' := 6) (same := true) d23_3 rfl rfl rfl (decide_eq_true rfl) (by decide) (by decide) ?_
  refine g_iloadN C (pc' := 7) d23_6 rfl rfl ?_
  refine g_newRE C (pc' := 10) (k' := 1) (n' := 2) (cap := 2) (ad := "[Ljava/lang/Object;") (wd hw 171 rfl) (wd hw 111 rfl) (by decide) d23_7 rfl (by decide) (by decide) (by decide) (by decide) (by decide) rfl rfl rfl (fun h478 b479 kA480 ex481 E482 A483 B485 Ov484 => ?_)
  have ne_ed_b479 : ed ≠ b479 := Nat.ne_of_lt (by rw [ex481]; exact A1.lt)
  have ne_x0_b479 : x0 ≠ b479 := Nat.ne_of_lt (by rw [ex481]; exact Ex0.lt)
  have ne_x1_b479 : x1 ≠ b479 := Nat.ne_of_lt (by rw [ex481]; exact Ex1.lt)
  have ge_b479 : n0 ≤ b479 := by rw [ex481]; exact O.1 ▸ O.2.1
  have sz_b479 : h.size ≤ b479 := by rw [ex481]; exact (Keep.refl h []).1
  have f486 := O.ext E482
  have f487 := (Keep.refl h []).ext E482
  have f488 := A1.ext E482
  have f489 := Ex0.ext E482
  have f490 := Ex1.ext E482
  have A491 : Arv Z h478 b479 kA480 (.object "java/lang/Object") (2 : Int32) [.null, .null] .null := A483.pad (pad_rep [] .null 2)
  refine g_goto C (pc' := 24) d23_10 (by decide) rfl ?_
  refine g_astoreN C (pc' := 25) (Ls' := #[.val (.ref ed), .val (.int (2 : Int32)), .val (.ref mr), .val (.ref b479)]) d23_24 rfl rfl rfl rfl ?_
  refine g_aloadN C (pc' := 26) d23_25 rfl rfl rfl ?_
  refine g_iconst C (pc' := 27) (v := (0 : Int32)) d23_26 (by decide) rfl ?_
  refine g_aloadN C (pc' := 28) d23_27 rfl rfl rfl ?_
  refine g_iconst C (pc' := 29) (v := (0 : Int32)) d23_28 (by decide) rfl ?_
  refine g_aloadN C (pc' := 30) d23_29 rfl rfl rfl ?_
  refine g_alen C (pc' := 31) d23_30 rfl f488 rfl ?_
  refine g_iloadN C (pc' := 32) d23_31 rfl rfl ?_
  refine g_callS C (pc' := 35) (k' := 1) (n' := 2) (argsL := [(.int (10 : Int32)), (.int (2 : Int32))]) (rest := [(.int (0 : Int32)), (.ref b479), (.int (0 : Int32)), (.ref ed)]) (wd hw 172 rfl) (wd hw 173 rfl) (wd hw 108 rfl) (wd hw 174 rfl) (by decide) d23_32 pd_11 rfl rfl rfl (min_10_2 l Z a0 hw n0 h478 f486 s_DEF s_EL s_EA s_EM cs mr H) (Nat.le_of_ble_eq_true rfl) (Nat.le_of_ble_eq_true rfl) (Nat.le_of_ble_eq_true rfl) (Nat.le_of_ble_eq_true rfl) rfl rfl rfl (fun v493 h492 q494 => ?_)
  obtain ⟨rfl, eh492⟩ := q494
  subst h492
  show G w _ h478 1 2 35 #[.val (.ref ed), .val (.int (2 : Int32)), .val (.ref mr), .val (.ref b479)] [(.int (2 : Int32)), (.int (0 : Int32)), (.ref b479), (.int (0 : Int32)), (.ref ed)]
  refine g_cpA C (pc' := 38) (us := [(.ref x0), (.ref x1)]) (wd hw 175 rfl) (wd hw 178 rfl) (wd hw 176 rfl) (wd hw 177 rfl) d23_35 rfl rfl f488 A491 (Or.inr ⟨rfl, rfl, ⟨stoR A491 Ov484 (Ins.of_exa f489 (wd hw 112 rfl)), ⟨stoR A491 Ov484 (Ins.of_exa f490 (wd hw 112 rfl)), trivial⟩⟩⟩) (by decide) (by decide) (by decide) (Nat.le_of_ble_eq_true rfl) (Nat.le_of_ble_eq_true rfl) rfl (Nat.le_of_ble_eq_true rfl) ge_b479 (Nat.le_of_ble_eq_true rfl) (Nat.le_of_ble_eq_true rfl) rfl (fun h495 K496 A497 => ?_)
  have f498 := f486.keep K496 (allS ge_b479 all0)
  have f499 := f487.trans K496 (allS (Or.inr sz_b479) all0)
  have f500 := f488.keep K496 (ninS ne_ed_b479 nin0)
  have f501 := f489.keep K496
  have f502 := f490.keep K496
  have f503 := B485.keep K496
  have A504 : Arv Z h495 b479 kA480 (.object "java/lang/Object") (2 : Int32) [(.ref x0), (.ref x1)] .null := A497
  refine g_aloadN C (pc' := 39) d23_38 rfl rfl rfl ?_
  exact g_areturn C d23_39 rfl rfl rfl rfl (Nat.le_of_ble_eq_true rfl) (Nat.le_of_ble_eq_true rfl) (⟨b479, kA480, rfl, sz_b479, f499, f503, A504⟩)
set_option maxRecDepth 65536 in
set_option maxHeartbeats 40000000 in
theorem cp2_2 (l : Launch) (Z : State) (a0 : Array Value) (hw : ∀ d ∈ tables_1, d.before a0 Z = true) (n0 : Nat) (h : Heap) (O : Old Z n0 h) (s_DEF : Addr) (s_EL : Addr) (s_EA : Addr) (s_EM : Addr) (cs : Int32) (mr : Addr) (H : En Z s_DEF s_EL s_EA s_EM cs mr) (ed : Addr) (kE : ClassId) (x0 x1 : Addr) (Ex0 : Exa Z h x0 "com/example/plumbline/plumbline/Band") (Ex1 : Exa Z h x1 "com/example/plumbline/plumbline/Band") (Ee : Exa Z h ed "[Ljava/lang/Object;") (A1 : Arv Z h ed kE (.object "java/lang/Object") (10 : Int32) [(.ref x0), (.ref x1), .null, .null, .null, .null, .null, .null, .null, .null] .null) : Con l Z (⟨"java/util/Arrays", "copyOf", "([Ljava/lang/Object;I)[Ljava/lang/Object;"⟩ : MethodName) jdk_65_method_119_code 2 (some (.array (.object "java/lang/Object"))) ({ frames := 2, cells := 1, slots := 2, locals := 33 } : Room) #[(.ref ed), (.int (2 : Int32))] h n0 (fun v h' => ∃ g kG, v = some (.ref g) ∧ h.size ≤ g ∧ Keep h h' [] ∧ Exa Z h' g "[Ljava/lang/Object;" ∧ Arv Z h' g kG (.object "java/lang/Object") (2 : Int32) [(.ref x0), (.ref x1)] .null) := by
  refine Con.mk (Ls := #[.val (.ref ed), .val (.int (2 : Int32))]) (plainFor_of_name pn_11) (fun m => by first | (simp [entryFrame, mkF, argsToLocals, Value.category]; done) | rfl) (fun w C => ?_)
  replace C : Cx w l Z "java/util/Arrays" jdk_65_method_119_code 2 (some (.array (.object "java/lang/Object"))) "copyOf" ({ frames := 2, cells := 1, slots := 2, locals := 33 } : Room) n0 := C
  obtain ⟨S_DEF, E_DEF, V_DEF, S_EL, E_EL, F_EL, V_EA, S_EM, E_EM, S_CS, hcs, MIR⟩ := id H
  obtain ⟨kD, V_DEF⟩ := V_DEF
  obtain ⟨kEA, V_EA⟩ := V_EA
  refine g_aloadN C (pc' := 1) d22_0 rfl rfl rfl ?_
  refine g_iloadN C (pc' := 2) d22_1 rfl rfl ?_
  refine g_aloadN C (pc' := 3) d22_2 rfl rfl rfl ?_
  refine g_getClass C (pc' := 6) (wd hw 161 rfl) (wd hw 162 rfl) (wd hw 132 rfl) (wd hw 164 rfl) (wd hw 163 rfl) (wd hw 165 rfl) d22_3 rfl rfl Ee MIR (Nat.le_of_ble_eq_true rfl) (Nat.le_of_ble_eq_true rfl) rfl ?_
  refine g_callS C (pc' := 9) (k' := 1) (n' := 2) (argsL := [(.ref ed), (.int (2 : Int32)), (.ref mr)]) (rest := []) (wd hw 167 rfl) (wd hw 168 rfl) (wd hw 159 rfl) (wd hw 169 rfl) (by decide) d22_6 pd_18 rfl rfl rfl (cp3_2 l Z a0 hw n0 h O s_DEF s_EL s_EA s_EM cs mr H ed kE x0 x1 Ex0 Ex1 A1) (Nat.le_of_ble_eq_true rfl) (Nat.le_of_ble_eq_true rfl) (Nat.le_of_ble_eq_true rfl) (Nat.le_of_ble_eq_true rfl) rfl rfl rfl (fun v506 h505 q507 => ?_)
  obtain ⟨g, kG, rfl, q1, q2, q3, q4⟩ := q507
  show G w _ h505 1 2 9 #[.val (.ref ed), .val (.int (2 : Int32))] [(.ref g)]
  exact g_areturn C d22_9 rfl rfl rfl rfl (Nat.le_of_ble_eq_true rfl) (Nat.le_of_ble_eq_true rfl) (⟨g, kG, rfl, q1, q2, q3, q4⟩)
set_option maxRecDepth 65536 in
set_option maxHeartbeats 40000000 in
theorem toA_2 (l : Launch) (Z : State) (a0 : Array Value) (hw : ∀ d ∈ tables_1, d.before a0 Z = true) (n0 : Nat) (h : Heap) (O : Old Z n0 h) (s_DEF : Addr) (s_EL : Addr) (s_EA : Addr) (s_EM : Addr) (cs : Int32) (mr : Addr) (H : En Z s_DEF s_EL s_EA s_EM cs mr) (a ed : Addr) (kE : ClassId) (mc : Int32) (x0 x1 : Addr) (Ex0 : Exa Z h x0 "com/example/plumbline/plumbline/Band") (Ex1 : Exa Z h x1 "com/example/plumbline/plumbline/Band") (P : AL1 Z n0 h a ed kE mc (2 : Int32) [(.ref x0), (.ref x1), .null, .null, .null, .null, .null, .null, .null, .null]) : Con l Z (⟨"java/util/ArrayList", "toArray", "()[Ljava/lang/Object;"⟩ : MethodName) jdk_38_method_16_code 1 (some (.array (.object "java/lang/Object"))) ({ frames := 3, cells := 1, slots := 2, locals := 46 } : Room) #[(.ref a)] h n0 (fun v h' => ∃ g kG, v = some (.ref g) ∧ h.size ≤ g ∧ Keep h h' [] ∧ Exa Z h' g "[Ljava/lang/Object;" ∧ Arv Z h' g kG (.object "java/lang/Object") (2 : Int32) [(.ref x0), (.ref x1)] .null) := by
  refine Con.mk (Ls := #[.val (.ref a)]) (plainFor_of_name pn_10) (fun m => by first | (simp [entryFrame, mkF, argsToLocals, Value.category]; done) | rfl) (fun w C => ?_)
  replace C : Cx w l Z "java/util/ArrayList" jdk_38_method_16_code 1 (some (.array (.object "java/lang/Object"))) "toArray" ({ frames := 3, cells := 1, slots := 2, locals := 46 } : Room) n0 := C
  obtain ⟨S_DEF, E_DEF, V_DEF, S_EL, E_EL, F_EL, V_EA, S_EM, E_EM, S_CS, hcs, MIR⟩ := id H
  obtain ⟨kD, V_DEF⟩ := V_DEF
  obtain ⟨kEA, V_EA⟩ := V_EA
  obtain ⟨ga, ge, nae, Ov, E0, Ee, F1, F2, F3, A1⟩ := P
  refine g_aloadN C (pc' := 1) d21_0 rfl rfl rfl ?_
  refine g_getF C (pc' := 4) (wd hw 76 rfl) Via.refl d21_1 rfl F2 rfl ?_
  refine g_aloadN C (pc' := 5) d21_4 rfl rfl rfl ?_
  refine g_getF C (pc' := 8) (wd hw 89 rfl) Via.refl d21_5 rfl F3 rfl ?_
  refine g_callS C (pc' := 11) (k' := 1) (n' := 2) (argsL := [(.ref ed), (.int (2 : Int32))]) (rest := []) (wd hw 157 rfl) (wd hw 158 rfl) (wd hw 159 rfl) (wd hw 160 rfl) (by decide) d21_8 pd_16 rfl rfl rfl (cp2_2 l Z a0 hw n0 h O s_DEF s_EL s_EA s_EM cs mr H ed kE x0 x1 Ex0 Ex1 Ee A1) (Nat.le_of_ble_eq_true rfl) (Nat.le_of_ble_eq_true rfl) (Nat.le_of_ble_eq_true rfl) (Nat.le_of_ble_eq_true rfl) rfl rfl rfl (fun v509 h508 q510 => ?_)
  obtain ⟨g, kG, rfl, q1, q2, q3, q4⟩ := q510
  show G w _ h508 1 2 11 #[.val (.ref a)] [(.ref g)]
  exact g_areturn C d21_11 rfl rfl rfl rfl (Nat.le_of_ble_eq_true rfl) (Nat.le_of_ble_eq_true rfl) (⟨g, kG, rfl, q1, q2, q3, q4⟩)
theorem d25_45 : decode jdk_40_method_47_code 45 = .ok (.new 96, 3) := by decide +kernel
theorem d25_48 : decode jdk_40_method_47_code 48 = .ok (.dup, 1) := by decide +kernel
theorem d25_49 : decode jdk_40_method_47_code 49 = .ok (.aload_n 0, 1) := by decide +kernel
theorem d25_50 : decode jdk_40_method_47_code 50 = .ok (.iconst 0, 1) := by decide +kernel
theorem d25_51 : decode jdk_40_method_47_code 51 = .ok (.aaload, 1) := by decide +kernel
theorem d25_52 : decode jdk_40_method_47_code 52 = .ok (.aload_n 0, 1) := by decide +kernel
theorem d25_53 : decode jdk_40_method_47_code 53 = .ok (.iconst 1, 1) := by decide +kernel
theorem d25_54 : decode jdk_40_method_47_code 54 = .ok (.aaload, 1) := by decide +kernel
theorem d25_55 : decode jdk_40_method_47_code 55 = .ok (.invokespecial 100, 3) := by decide +kernel
theorem pd_24 : parseMethodDescriptor "(Ljava/lang/Object;Ljava/lang/Object;)V" = some ⟨[(.object "java/lang/Object"), (.object "java/lang/Object")], none⟩ := by decide +kernel
theorem d25_58 : decode jdk_40_method_47_code 58 = .ok (.areturn, 1) := by decide +kernel
set_option maxRecDepth 65536 in
set_option maxHeartbeats 40000000 in
theorem lofA_2 (l : Launch) (Z : State) (a0 : Array Value) (hw : ∀ d ∈ tables_1, d.before a0 Z = true) (n0 : Nat) (h : Heap) (O : Old Z n0 h) (s_DEF : Addr) (s_EL : Addr) (s_EA : Addr) (s_EM : Addr) (cs : Int32) (mr : Addr) (H : En Z s_DEF s_EL s_EA s_EM cs mr) (g : Addr) (kG : ClassId) (x0 x1 : Addr) (Ex0 : Exa Z h x0 "com/example/plumbline/plumbline/Band") (Ex1 : Exa Z h x1 "com/example/plumbline/plumbline/Band") (A1 : Arv Z h g kG (.object "java/lang/Object") (2 : Int32) [(.ref x0), (.ref x1)] .null) : Con l Z (⟨"java/util/List", "of", "([Ljava/lang/Object;)Ljava/util/List;"⟩ : MethodName) jdk_40_method_47_code 2 (some (.object "java/util/List")) ({ frames := 5, cells := 1, slots := 2, locals := 63 } : Room) #[(.ref g)] h n0 (fun v h' => ∃ L, v = some (.ref L) ∧ h.size ≤ L ∧ Keep h h' [] ∧ Exa Z h' L "java/util/ImmutableCollections$List12") := by
  refine Con.mk (Ls := #[.val (.ref g), .unset]) (plainFor_of_name pn_17) (fun m => by first | (simp [entryFrame, mkF, argsToLocals, Value.category]; done) | rfl) (fun w C => ?_)
  replace C : Cx w l Z "java/util/List" jdk_40_method_47_code 2 (some (.object "java/util/List")) "of" ({ frames := 5, cells := 1, slots := 2, locals := 63 } : Room) n0 := C
  obtain ⟨S_DEF, E_DEF, V_DEF, S_EL, E_EL, F_EL, V_EA, S_EM, E_EM, S_CS, hcs, MIR⟩ := id H
  obtain ⟨kD, V_DEF⟩ := V_DEF
  obtain ⟨kEA, V_EA⟩ := V_EA
  refine g_aloadN C (pc' := 1) d25_0 rfl rfl rfl ?_
  refine g_alen C (pc' := 2) d25_1 rfl A1 rfl ?_
  refine g_tsw C (pc' := 45) d25_2 rfl (by decide) rfl (by decide) rfl ?_
  refine g_new C (pc' := 48) (k' := 1) (n' := 2) (wd hw 230 rfl) (wd hw 231 rfl) (wd hw 232 rfl) d25_45 (by decide) (by decide) rfl rfl rfl (fun h511 b512 ex513 E514 A515 D516 => ?_)
  have ne_g_b512 : g ≠ b512 := Nat.ne_of_lt (by rw [ex513]; exact A1.lt)
  have ne_x0_b512 : x0 ≠ b512 := Nat.ne_of_lt (by rw [ex513]; exact Ex0.lt)
  have ne_x1_b512 : x1 ≠ b512 := Nat.ne_of_lt (by rw [ex513]; exact Ex1.lt)
  have ge_b512 : n0 ≤ b512 := by rw [ex513]; exact O.1 ▸ O.2.1
  have sz_b512 : h.size ≤ b512 := by rw [ex513]; exact (Keep.refl h []).1
  have f517 := O.ext E514
  have f518 := (Keep.refl h []).ext E514
  have f519 := A1.ext E514
  have f520 := Ex0.ext E514
  have f521 := Ex1.ext E514
  have F_e0_b512 : Fld Z h511 b512 "java/util/ImmutableCollections$List12" "e0" "Ljava/lang/Object;" .null := D516 (Or.inr (wd hw 243 rfl)) (ty := (.object "java/lang/Object")) (by decide)
  have F_e1_b512 : Fld Z h511 b512 "java/util/ImmutableCollections$List12" "e1" "Ljava/lang/Object;" .null := D516 (Or.inr (wd hw 246 rfl)) (ty := (.object "java/lang/Object")) (by decide)
  refine g_dup C (pc' := 49) d25_48 rfl rfl rfl ?_
  refine g_aloadN C (pc' := 50) d25_49 rfl rfl rfl ?_
  refine g_iconst C (pc' := 51) (v := (0 : Int32)) d25_50 (by decide) rfl ?_
  refine g_aaload C (pc' := 52) (x := (.ref x0)) d25_51 rfl f519 rfl (by decide) (by decide) rfl rfl ?_
  refine g_aloadN C (pc' := 53) d25_52 rfl rfl rfl ?_
  refine g_iconst C (pc' := 54) (v := (1 : Int32)) d25_53 (by decide) rfl ?_
  refine g_aaload C (pc' := 55) (x := (.ref x1)) d25_54 rfl f519 rfl (by decide) (by decide) rfl rfl ?_
  refine g_special C (pc' := 58) (k' := 1) (n' := 2) (argsL := [(.ref x0), (.ref x1)]) (rest := [(.ref b512)]) (wd hw 247 rfl) (wd hw 248 rfl) (wd hw 232 rfl) (wd hw 249 rfl) (by decide) rfl d25_55 pd_24 rfl rfl rfl (l12_2 l Z a0 hw n0 h511 f517 s_DEF s_EL s_EA s_EM cs mr H b512 x0 x1 ge_b512 A515 F_e0_b512 F_e1_b512) (Nat.le_of_ble_eq_true rfl) (Nat.le_of_ble_eq_true rfl) (Nat.le_of_ble_eq_true rfl) (Nat.le_of_ble_eq_true rfl) rfl rfl rfl (fun v523 h522 q524 => ?_)
  obtain ⟨rfl, k1⟩ := q524
  have f525 := f517.keep k1 (allS ge_b512 all0)
  have f526 := f518.trans k1 (allS (Or.inr sz_b512) all0)
  have f527 := f519.keep k1 (ninS ne_g_b512 nin0)
  have f528 := f520.keep k1
  have f529 := f521.keep k1
  have f530 := A515.keep k1
  show G w _ h522 1 2 58 #[.val (.ref g), .unset] [(.ref b512)]
  exact g_areturn C d25_58 rfl rfl rfl rfl (Nat.le_of_ble_eq_true rfl) (Nat.le_of_ble_eq_true rfl) (⟨b512, rfl, sz_b512, f526, f530⟩)
set_option maxRecDepth 65536 in
set_option maxHeartbeats 40000000 in
theorem lcp_2 (l : Launch) (Z : State) (a0 : Array Value) (hw : ∀ d ∈ tables_1, d.before a0 Z = true) (n0 : Nat) (h : Heap) (O : Old Z n0 h) (s_DEF : Addr) (s_EL : Addr) (s_EA : Addr) (s_EM : Addr) (cs : Int32) (mr : Addr) (H : En Z s_DEF s_EL s_EA s_EM cs mr) (a ed : Addr) (kE : ClassId) (mc : Int32) (x0 x1 : Addr) (Ex0 : Exa Z h x0 "com/example/plumbline/plumbline/Band") (Ex1 : Exa Z h x1 "com/example/plumbline/plumbline/Band") (P : AL1 Z n0 h a ed kE mc (2 : Int32) [(.ref x0), (.ref x1), .null, .null, .null, .null, .null, .null, .null, .null]) : Con l Z (⟨"java/util/ImmutableCollections", "listCopy", "(Ljava/util/Collection;)Ljava/util/List;"⟩ : MethodName) jdk_56_method_3_code 2 (some (.object "java/util/List")) ({ frames := 6, cells := 2, slots := 4, locals := 76 } : Room) #[(.ref a)] h n0 (fun v h' => ∃ L, v = some (.ref L) ∧ h.size ≤ L ∧ Keep h h' [] ∧ Exa Z h' L "java/util/ImmutableCollections$List12") := by
  refine Con.mk (Ls := #[.val (.ref a), .unset]) (plainFor_of_name pn_12) (fun m => by first | (simp [entryFrame, mkF, argsToLocals, Value.category]; done) | rfl) (fun w C => ?_)
  replace C : Cx w l Z "java/util/ImmutableCollections" jdk_56_method_3_code 2 (some (.object "java/util/List")) "listCopy" ({ frames := 6, cells := 2, slots := 4, locals := 76 } : Room) n0 := C
  obtain ⟨S_DEF, E_DEF, V_DEF, S_EL, E_EL, F_EL, V_EA, S_EM, E_EM, S_CS, hcs, MIR⟩ := id H
  obtain ⟨kD, V_DEF⟩ := V_DEF
  obtain ⟨kEA, V_EA⟩ := V_EA
  have P0 := P
  obtain ⟨ga, ge, nae, Ov, E0, Ee, F1, F2, F3, A1⟩ := P
  refine g_aloadN C (pc' := 1) d18_0 rfl rfl rfl ?_
  refine g_instN C (pc' := 4) (wd hw 128 rfl) d18_1 rfl E0 (ns_no (wd hw 129 rfl) (wd hw 231 rfl) (NS.step (wd hw 129 rfl) (NS.step (wd hw 130 rfl) (NS.step (wd hw 131 rfl) (ns_root (wd hw 132 rfl) (wd hw 231 rfl) (by decide)) (by decide)) (by decide)) (by decide)) (by decide)) rfl ?_
  refine g_ifN C (pc' := 7) d18_4 rfl (by decide) rfl ?_
  refine g_aloadN C (pc' := 8) d18_7 rfl rfl rfl ?_
  refine g_instN C (pc' := 11) (wd hw 133 rfl) d18_8 rfl E0 (ns_no (wd hw 129 rfl) (wd hw 190 rfl) (NS.step (wd hw 129 rfl) (NS.step (wd hw 130 rfl) (NS.step (wd hw 131 rfl) (ns_root (wd hw 132 rfl) (wd hw 190 rfl) (by decide)) (by decide)) (by decide)) (by decide)) (by decide)) rfl ?_
  refine g_ifY C (pc' := 31) d18_11 rfl (by decide) (by decide) rfl ?_
  refine g_aloadN C (pc' := 32) d18_31 rfl rfl rfl ?_
  refine g_interface C (pc' := 37) (k' := 0) (n' := 0) (argsL := []) (rest := []) (wd hw 134 rfl) (wd hw 135 rfl) (wd hw 136 rfl) rfl (wd hw 137 rfl) (wd hw 138 rfl) (wd hw 139 rfl) (wd hw 140 rfl) (wd hw 141 rfl) (wd hw 56 rfl) (wd hw 142 rfl) (by decide) d18_32 pd_14 rfl rfl rfl E0 (alEmp_2 l Z a0 hw n0 h O s_DEF s_EL s_EA s_EM cs mr H a ed kE mc x0 x1 P0) (Nat.le_of_ble_eq_true rfl) (Nat.le_of_ble_eq_true rfl) (Nat.le_of_ble_eq_true rfl) (Nat.le_of_ble_eq_true rfl) rfl rfl rfl (fun v532 h531 q533 => ?_)
  obtain ⟨rfl, eh531⟩ := q533
  subst h531
  show G w _ h 0 0 37 #[.val (.ref a), .unset] [(.int (0 : Int32))]
  refine g_ifY C (pc' := 44) d18_37 rfl (by decide) (by decide) rfl ?_
  refine g_aloadN C (pc' := 45) d18_44 rfl rfl rfl ?_
  refine g_interface C (pc' := 50) (k' := 1) (n' := 2) (argsL := []) (rest := []) (wd hw 149 rfl) (wd hw 150 rfl) (wd hw 151 rfl) rfl (wd hw 152 rfl) (wd hw 153 rfl) (wd hw 154 rfl) (wd hw 155 rfl) (wd hw 141 rfl) (wd hw 56 rfl) (wd hw 156 rfl) (by decide) d18_45 pd_9 rfl rfl rfl E0 (toA_2 l Z a0 hw n0 h O s_DEF s_EL s_EA s_EM cs mr H a ed kE mc x0 x1 Ex0 Ex1 P0) (Nat.le_of_ble_eq_true rfl) (Nat.le_of_ble_eq_true rfl) (Nat.le_of_ble_eq_true rfl) (Nat.le_of_ble_eq_true rfl) rfl rfl rfl (fun v535 h534 q536 => ?_)
  obtain ⟨g, kG, rfl, q1, q2, q3, q4⟩ := q536
  have ne_a_g : a ≠ g := Nat.ne_of_lt (Nat.lt_of_lt_of_le E0.lt q1)
  have ne_ed_g : ed ≠ g := Nat.ne_of_lt (Nat.lt_of_lt_of_le Ee.lt q1)
  have ne_x0_g : x0 ≠ g := Nat.ne_of_lt (Nat.lt_of_lt_of_le Ex0.lt q1)
  have ne_x1_g : x1 ≠ g := Nat.ne_of_lt (Nat.lt_of_lt_of_le Ex1.lt q1)
  have ge_g : n0 ≤ g := Nat.le_trans (O.1 ▸ O.2.1) q1
  have sz_g : h.size ≤ g := Nat.le_trans (Keep.refl h []).1 q1
  have f537 := O.keep q2 all0
  have f538 := (Keep.refl h []).trans q2 all0
  have f539 := E0.keep q2
  have f540 := F1.keep q2 nin0
  have f541 := F2.keep q2 nin0
  have f542 := F3.keep q2 nin0
  have f543 := Ee.keep q2
  have f544 := A1.keep q2 nin0
  have f545 := Ex0.keep q2
  have f546 := Ex1.keep q2
  show G w _ h534 1 2 50 #[.val (.ref a), .unset] [(.ref g)]
  refine g_callS C (pc' := 53) (k' := 2) (n' := 4) (argsL := [(.ref g)]) (rest := []) (wd hw 179 rfl) (wd hw 180 rfl) (wd hw 122 rfl) (wd hw 181 rfl) (by decide) d18_50 pd_20 rfl rfl rfl (lofA_2 l Z a0 hw n0 h534 f537 s_DEF s_EL s_EA s_EM cs mr H g kG x0 x1 f545 f546 q4) (Nat.le_of_ble_eq_true rfl) (Nat.le_of_ble_eq_true rfl) (Nat.le_of_ble_eq_true rfl) (Nat.le_of_ble_eq_true rfl) rfl rfl rfl (fun v548 h547 q549 => ?_)
  obtain ⟨L, rfl, r1, r2, r3⟩ := q549
  have u1 := Nat.le_trans q2.1 r1
  have f550 := f537.keep r2 all0
  have f551 := f538.trans r2 all0
  have f552 := f539.keep r2
  have f553 := f540.keep r2 nin0
  have f554 := f541.keep r2 nin0
  have f555 := f542.keep r2 nin0
  have f556 := f543.keep r2
  have f557 := f544.keep r2 nin0
  have f558 := f545.keep r2
  have f559 := f546.keep r2
  have f560 := q4.keep r2 nin0
  show G w _ h547 2 4 53 #[.val (.ref a), .unset] [(.ref L)]
  exact g_areturn C d18_53 rfl rfl rfl rfl (Nat.le_of_ble_eq_true rfl) (Nat.le_of_ble_eq_true rfl) (⟨L, rfl, u1, f551, r3⟩)
set_option maxRecDepth 65536 in
set_option maxHeartbeats 40000000 in
theorem cpo_2 (l : Launch) (Z : State) (a0 : Array Value) (hw : ∀ d ∈ tables_1, d.before a0 Z = true) (n0 : Nat) (h : Heap) (O : Old Z n0 h) (s_DEF : Addr) (s_EL : Addr) (s_EA : Addr) (s_EM : Addr) (cs : Int32) (mr : Addr) (H : En Z s_DEF s_EL s_EA s_EM cs mr) (a ed : Addr) (kE : ClassId) (mc : Int32) (x0 x1 : Addr) (Ex0 : Exa Z h x0 "com/example/plumbline/plumbline/Band") (Ex1 : Exa Z h x1 "com/example/plumbline/plumbline/Band") (P : AL1 Z n0 h a ed kE mc (2 : Int32) [(.ref x0), (.ref x1), .null, .null, .null, .null, .null, .null, .null, .null]) : Con l Z (⟨"java/util/List", "copyOf", "(Ljava/util/Collection;)Ljava/util/List;"⟩ : MethodName) jdk_40_method_48_code 1 (some (.object "java/util/List")) ({ frames := 7, cells := 2, slots := 4, locals := 89 } : Room) #[(.ref a)] h n0 (fun v h' => ∃ L, v = some (.ref L) ∧ h.size ≤ L ∧ Keep h h' [] ∧ Exa Z h' L "java/util/ImmutableCollections$List12") := by
  refine Con.mk (Ls := #[.val (.ref a)]) (plainFor_of_name pn_17) (fun m => by first | (simp [entryFrame, mkF, argsToLocals, Value.category]; done) | rfl) (fun w C => ?_)
  replace C : Cx w l Z "java/util/List" jdk_40_method_48_code 1 (some (.object "java/util/List")) "copyOf" ({ frames := 7, cells := 2, slots := 4, locals := 89 } : Room) n0 := C
  obtain ⟨S_DEF, E_DEF, V_DEF, S_EL, E_EL, F_EL, V_EA, S_EM, E_EM, S_CS, hcs, MIR⟩ := id H
  obtain ⟨kD, V_DEF⟩ := V_DEF
  obtain ⟨kEA, V_EA⟩ := V_EA
  refine g_aloadN C (pc' := 1) d17_0 rfl rfl rfl ?_
  refine g_callS C (pc' := 4) (k' := 2) (n' := 4) (argsL := [(.ref a)]) (rest := []) (wd hw 124 rfl) (wd hw 125 rfl) (wd hw 126 rfl) (wd hw 127 rfl) (by decide) d17_1 pd_13 rfl rfl rfl (lcp_2 l Z a0 hw n0 h O s_DEF s_EL s_EA s_EM cs mr H a ed kE mc x0 x1 Ex0 Ex1 P) (Nat.le_of_ble_eq_true rfl) (Nat.le_of_ble_eq_true rfl) (Nat.le_of_ble_eq_true rfl) (Nat.le_of_ble_eq_true rfl) rfl rfl rfl (fun v562 h561 q563 => ?_)
  obtain ⟨L, rfl, q1, q2, q3⟩ := q563
  show G w _ h561 2 4 4 #[.val (.ref a)] [(.ref L)]
  exact g_areturn C d17_4 rfl rfl rfl rfl (Nat.le_of_ble_eq_true rfl) (Nat.le_of_ble_eq_true rfl) (⟨L, rfl, q1, q2, q3⟩)
set_option maxRecDepth 65536 in
set_option maxHeartbeats 40000000 in
theorem min_10_3 (l : Launch) (Z : State) (a0 : Array Value) (hw : ∀ d ∈ tables_1, d.before a0 Z = true) (n0 : Nat) (h : Heap) (O : Old Z n0 h) (s_DEF : Addr) (s_EL : Addr) (s_EA : Addr) (s_EM : Addr) (cs : Int32) (mr : Addr) (H : En Z s_DEF s_EL s_EA s_EM cs mr) : Con l Z (⟨"java/lang/Math", "min", "(II)I"⟩ : MethodName) jdk_29_method_69_code 2 (some .int) ({ frames := 0, cells := 0, slots := 0, locals := 0 } : Room) #[(.int (10 : Int32)), (.int (3 : Int32))] h n0 (fun v h' => v = some (.int (3 : Int32)) ∧ h' = h) := by
  refine Con.mk (Ls := #[.val (.int (10 : Int32)), .val (.int (3 : Int32))]) (Jvm.Free.JP.mathPlain rfl (by decide +kernel)) (fun m => by first | (simp [entryFrame, mkF, argsToLocals, Value.category]; done) | rfl) (fun w C => ?_)
  replace C : Cx w l Z "java/lang/Math" jdk_29_method_69_code 2 (some .int) "min" ({ frames := 0, cells := 0, slots := 0, locals := 0 } : Room) n0 := C
  obtain ⟨S_DEF, E_DEF, V_DEF, S_EL, E_EL, F_EL, V_EA, S_EM, E_EM, S_CS, hcs, MIR⟩ := id H
  refine g_iloadN C (pc' := 1) d24_0 rfl rfl ?_
  refine g_iloadN C (pc' := 2) d24_1 rfl rfl ?_
  refine g_icY C (pc' := 9) d24_2 rfl (by decide) (by decide) rfl ?_
  refine g_iloadN C (pc' := 10) d24_9 rfl rfl ?_
  exact g_ireturn C d24_10 rfl (Nat.le_of_ble_eq_true rfl) (Nat.le_of_ble_eq_true rfl) (⟨rfl, rfl⟩)
set_option maxRecDepth 65536 in
set_option maxHeartbeats 40000000 in
theorem cp3_3 (l : Launch) (Z : State) (a0 : Array Value) (hw : ∀ d ∈ tables_1, d.before a0 Z = true) (n0 : Nat) (h : Heap) (O : Old Z n0 h) (s_DEF : Addr) (s_EL : Addr) (s_EA : Addr) (s_EM : Addr) (cs : Int32) (mr : Addr) (H : En Z s_DEF s_EL s_EA s_EM cs mr) (ed : Addr) (kE : ClassId) (x0 x1 x2 : Addr) (Ex0 : Exa Z h x0 "com/example/plumbline/plumbline/Band") (Ex1 : Exa Z h x1 "com/example/plumbline/plumbline/Band") (Ex2 : Exa Z h x2 "com/example/plumbline/plumbline/Band") (A1 : Arv Z h ed kE (.object "java/lang/Object") (10 : Int32) [(.ref x0), (.ref x1), (.ref x2), .null, .null, .null, .null, .null, .null, .null] .null) : Con l Z (⟨"java/util/Arrays", "copyOf", "([Ljava/lang/Object;ILjava/lang/Class;)[Ljava/lang/Object;"⟩ : MethodName) jdk_65_method_120_code 4 (some (.array (.object "java/lang/Object"))) ({ frames := 1, cells := 1, slots := 3, locals := 18 } : Room) #[(.ref ed), (.int (3 : Int32)), (.ref mr)] h n0 (fun v h' => ∃ g kG, v = some (.ref g) ∧ h.size ≤ g ∧ Keep h h' [] ∧ Exa Z h' g "[Ljava/lang/Object;" ∧ Arv Z h' g kG (.object "java/lang/Object") (3 : Int32) [(.ref x0), (.ref x1), (.ref x2)] .null) := by
  refine Con.mk (Ls := #[.val (.ref ed), .val (.int (3 : Int32)), .val (.ref mr), .unset]) (plainFor_of_name pn_11) (fun m => by first | (simp [entryFrame, mkF, argsToLocals, Value.category]; done) | rfl) (fun w C => ?_)
  replace C : Cx w l Z "java/util/Arrays" jdk_65_method_120_code 4 (some (.array (.object "java/lang/Object"))) "copyOf" ({ frames := 1, cells := 1, slots := 3, locals := 18 } : Room) n0 := C
  obtain ⟨S_DEF, E_DEF, V_DEF, S_EL, E_EL, F_EL, V_EA, S_EM, E_EM, S_CS, hcs, MIR⟩ := id H
  obtain ⟨kD, V_DEF⟩ := V_DEF
  obtain ⟨kEA, V_EA⟩ := V_EA
  refine g_aloadN C (pc' := 1) d23_0 rfl rfl rfl ?_
  refine g_ldcMirror C (pc' := 3) (wd hw 170 rfl) MIR d23_1 rfl ?_
  refine g_acmp C (pc' := 6) (same := true) d23_3 rfl rfl rfl (decide_eq_true rfl) (by decide) (by decide) ?_
  refine g_iloadN C (pc' := 7) d23_6 rfl rfl ?_
  refine g_newRE C (pc' := 10) (k' := 1) (n' := 3) (cap := 3) (ad := "[Ljava/lang/Object;") (wd hw 171 rfl) (wd hw 111 rfl) (by decide) d23_7 rfl (by decide) (by decide) (by decide) (by decide) (by decide) rfl rfl rfl (fun h564 b565 kA566 ex567 E568 A569 B571 Ov570 => ?_)
  have ne_ed_b565 : ed ≠ b565 := Nat.ne_of_lt (by rw [ex567]; exact A1.lt)
  have ne_x0_b565 : x0 ≠ b565 := Nat.ne_of_lt (by rw [ex567]; exact Ex0.lt)
  have ne_x1_b565 : x1 ≠ b565 := Nat.ne_of_lt (by rw [ex567]; exact Ex1.lt)
  have ne_x2_b565 : x2 ≠ b565 := Nat.ne_of_lt (by rw [ex567]; exact Ex2.lt)
  have ge_b565 : n0 ≤ b565 := by rw [ex567]; exact O.1 ▸ O.2.1
  have sz_b565 : h.size ≤ b565 := by rw [ex567]; exact (Keep.refl h []).1
  have f572 := O.ext E568
  have f573 := (Keep.refl h []).ext E568
  have f574 := A1.ext E568
  have f575 := Ex0.ext E568
  have f576 := Ex1.ext E568
  have f577 := Ex2.ext E568
  have A578 : Arv Z h564 b565 kA566 (.object "java/lang/Object") (3 : Int32) [.null, .null, .null] .null := A569.pad (pad_rep [] .null 3)
  refine g_goto C (pc' := 24) d23_10 (by decide) rfl ?_
  refine g_astoreN C (pc' := 25) (Ls' := #[.val (.ref ed), .val (.int (3 : Int32)), .val (.ref mr), .val (.ref b565)]) d23_24 rfl rfl rfl rfl ?_
  refine g_aloadN C (pc' := 26) d23_25 rfl rfl rfl ?_
  refine g_iconst C (pc' := 27) (v := (0 : Int32)) d23_26 (by decide) rfl ?_
  refine g_aloadN C (pc' := 28) d23_27 rfl rfl rfl ?_
  refine g_iconst C (pc' := 29) (v := (0 : Int32)) d23_28 (by decide) rfl ?_
  refine g_aloadN C (pc' := 30) d23_29 rfl rfl rfl ?_
  refine g_alen C (pc' := 31) d23_30 rfl f574 rfl ?_
  refine g_iloadN C (pc' := 32) d23_31 rfl rfl ?_
  refine g_callS C (pc' := 35) (k' := 1) (n' := 3) (argsL := [(.int (10 : Int32)), (.int (3 : Int32))]) (rest := [(.int (0 : Int32)), (.ref b565), (.int (0 : Int32)), (.ref ed)]) (wd hw 172 rfl) (wd hw 173 rfl) (wd hw 108 rfl) (wd hw 174 rfl) (by decide) d23_32 pd_11 rfl rfl rfl (min_10_3 l Z a0 hw n0 h564 f572 s_DEF s_EL s_EA s_EM cs mr H) (Nat.le_of_ble_eq_true rfl) (Nat.le_of_ble_eq_true rfl) (Nat.le_of_ble_eq_true rfl) (Nat.le_of_ble_eq_true rfl) rfl rfl rfl (fun v580 h579 q581 => ?_)
  obtain ⟨rfl, eh579⟩ := q581
  subst h579
  show G w _ h564 1 3 35 #[.val (.ref ed), .val (.int (3 : Int32)), .val (.ref mr), .val (.ref b565)] [(.int (3 : Int32)), (.int (0 : Int32)), (.ref b565), (.int (0 : Int32)), (.ref ed)]
  refine g_cpA C (pc' := 38) (us := [(.ref x0), (.ref x1), (.ref x2)]) (wd hw 175 rfl) (wd hw 178 rfl) (wd hw 176 rfl) (wd hw 177 rfl) d23_35 rfl rfl f574 A578 (Or.inr ⟨rfl, rfl, ⟨stoR A578 Ov570 (Ins.of_exa f575 (wd hw 112 rfl)), ⟨stoR A578 Ov570 (Ins.of_exa f576 (wd hw 112 rfl)), ⟨stoR A578 Ov570 (Ins.of_exa f577 (wd hw 112 rfl)), trivial⟩⟩⟩⟩) (by decide) (by decide) (by decide) (Nat.le_of_ble_eq_true rfl) (Nat.le_of_ble_eq_true rfl) rfl (Nat.le_of_ble_eq_true rfl) ge_b565 (Nat.le_of_ble_eq_true rfl) (Nat.le_of_ble_eq_true rfl) rfl (fun h582 K583 A584 => ?_)
  have f585 := f572.keep K583 (allS ge_b565 all0)
  have f586 := f573.trans K583 (allS (Or.inr sz_b565) all0)
  have f587 := f574.keep K583 (ninS ne_ed_b565 nin0)
  have f588 := f575.keep K583
  have f589 := f576.keep K583
  have f590 := f577.keep K583
  have f591 := B571.keep K583
  have A592 : Arv Z h582 b565 kA566 (.object "java/lang/Object") (3 : Int32) [(.ref x0), (.ref x1), (.ref x2)] .null := A584
  refine g_aloadN C (pc' := 39) d23_38 rfl rfl rfl ?_
  exact g_areturn C d23_39 rfl rfl rfl rfl (Nat.le_of_ble_eq_true rfl) (Nat.le_of_ble_eq_true rfl) (⟨b565, kA566, rfl, sz_b565, f586, f591, A592⟩)
set_option maxRecDepth 65536 in
set_option maxHeartbeats 40000000 in
theorem cp2_3 (l : Launch) (Z : State) (a0 : Array Value) (hw : ∀ d ∈ tables_1, d.before a0 Z = true) (n0 : Nat) (h : Heap) (O : Old Z n0 h) (s_DEF : Addr) (s_EL : Addr) (s_EA : Addr) (s_EM : Addr) (cs : Int32) (mr : Addr) (H : En Z s_DEF s_EL s_EA s_EM cs mr) (ed : Addr) (kE : ClassId) (x0 x1 x2 : Addr) (Ex0 : Exa Z h x0 "com/example/plumbline/plumbline/Band") (Ex1 : Exa Z h x1 "com/example/plumbline/plumbline/Band") (Ex2 : Exa Z h x2 "com/example/plumbline/plumbline/Band") (Ee : Exa Z h ed "[Ljava/lang/Object;") (A1 : Arv Z h ed kE (.object "java/lang/Object") (10 : Int32) [(.ref x0), (.ref x1), (.ref x2), .null, .null, .null, .null, .null, .null, .null] .null) : Con l Z (⟨"java/util/Arrays", "copyOf", "([Ljava/lang/Object;I)[Ljava/lang/Object;"⟩ : MethodName) jdk_65_method_119_code 2 (some (.array (.object "java/lang/Object"))) ({ frames := 2, cells := 1, slots := 3, locals := 33 } : Room) #[(.ref ed), (.int (3 : Int32))] h n0 (fun v h' => ∃ g kG, v = some (.ref g) ∧ h.size ≤ g ∧ Keep h h' [] ∧ Exa Z h' g "[Ljava/lang/Object;" ∧ Arv Z h' g kG (.object "java/lang/Object") (3 : Int32) [(.ref x0), (.ref x1), (.ref x2)] .null) := by
  refine Con.mk (Ls := #[.val (.ref ed), .val (.int (3 : Int32))]) (plainFor_of_name pn_11) (fun m => by first | (simp [entryFrame, mkF, argsToLocals, Value.category]; done) | rfl) (fun w C => ?_)
  replace C : Cx w l Z "java/util/Arrays" jdk_65_method_119_code 2 (some (.array (.object "java/lang/Object"))) "copyOf" ({ frames := 2, cells := 1, slots := 3, locals := 33 } : Room) n0 := C
  obtain ⟨S_DEF, E_DEF, V_DEF, S_EL, E_EL, F_EL, V_EA, S_EM, E_EM, S_CS, hcs, MIR⟩ := id H
  obtain ⟨kD, V_DEF⟩ := V_DEF
  obtain ⟨kEA, V_EA⟩ := V_EA
  refine g_aloadN C (pc' := 1) d22_0 rfl rfl rfl ?_
  refine g_iloadN C (pc' := 2) d22_1 rfl rfl ?_
  refine g_aloadN C (pc' := 3) d22_2 rfl rfl rfl ?_
  refine g_getClass C (pc' := 6) (wd hw 161 rfl) (wd hw 162 rfl) (wd hw 132 rfl) (wd hw 164 rfl) (wd hw 163 rfl) (wd hw 165 rfl) d22_3 rfl rfl Ee MIR (Nat.le_of_ble_eq_true rfl) (Nat.le_of_ble_eq_true rfl) rfl ?_
  refine g_callS C (pc' := 9) (k' := 1) (n' := 3) (argsL := [(.ref ed), (.int (3 : Int32)), (.ref mr)]) (rest := []) (wd hw 167 rfl) (wd hw 168 rfl) (wd hw 159 rfl) (wd hw 169 rfl) (by decide) d22_6 pd_18 rfl rfl rfl (cp3_3 l Z a0 hw n0 h O s_DEF s_EL s_EA s_EM cs mr H ed kE x0 x1 x2 Ex0 Ex1 Ex2 A1) (Nat.le_of_ble_eq_true rfl) (Nat.le_of_ble_eq_true rfl) (Nat.le_of_ble_eq_true rfl) (Nat.le_of_ble_eq_true rfl) rfl rfl rfl (fun v594 h593 q595 => ?_)
  obtain ⟨g, kG, rfl, q1, q2, q3, q4⟩ := q595
  show G w _ h593 1 3 9 #[.val (.ref ed), .val (.int (3 : Int32))] [(.ref g)]
  exact g_areturn C d22_9 rfl rfl rfl rfl (Nat.le_of_ble_eq_true rfl) (Nat.le_of_ble_eq_true rfl) (⟨g, kG, rfl, q1, q2, q3, q4⟩)
set_option maxRecDepth 65536 in
set_option maxHeartbeats 40000000 in
theorem toA_3 (l : Launch) (Z : State) (a0 : Array Value) (hw : ∀ d ∈ tables_1, d.before a0 Z = true) (n0 : Nat) (h : Heap) (O : Old Z n0 h) (s_DEF : Addr) (s_EL : Addr) (s_EA : Addr) (s_EM : Addr) (cs : Int32) (mr : Addr) (H : En Z s_DEF s_EL s_EA s_EM cs mr) (a ed : Addr) (kE : ClassId) (mc : Int32) (x0 x1 x2 : Addr) (Ex0 : Exa Z h x0 "com/example/plumbline/plumbline/Band") (Ex1 : Exa Z h x1 "com/example/plumbline/plumbline/Band") (Ex2 : Exa Z h x2 "com/example/plumbline/plumbline/Band") (P : AL1 Z n0 h a ed kE mc (3 : Int32) [(.ref x0), (.ref x1), (.ref x2), .null, .null, .null, .null, .null, .null, .null]) : Con l Z (⟨"java/util/ArrayList", "toArray", "()[Ljava/lang/Object;"⟩ : MethodName) jdk_38_method_16_code 1 (some (.array (.object "java/lang/Object"))) ({ frames := 3, cells := 1, slots := 3, locals := 46 } : Room) #[(.ref a)] h n0 (fun v h' => ∃ g kG, v = some (.ref g) ∧ h.size ≤ g ∧ Keep h h' [] ∧ Exa Z h' g "[Ljava/lang/Object;" ∧ Arv Z h' g kG (.object "java/lang/Object") (3 : Int32) [(.ref x0), (.ref x1), (.ref x2)] .null) := by
  refine Con.mk (Ls := #[.val (.ref a)]) (plainFor_of_name pn_10) (fun m => by first | (simp [entryFrame, mkF, argsToLocals, Value.category]; done) | rfl) (fun w C => ?_)
  replace C : Cx w l Z "java/util/ArrayList" jdk_38_method_16_code 1 (some (.array (.object "java/lang/Object"))) "toArray" ({ frames := 3, cells := 1, slots := 3, locals := 46 } : Room) n0 := C
  obtain ⟨S_DEF, E_DEF, V_DEF, S_EL, E_EL, F_EL, V_EA, S_EM, E_EM, S_CS, hcs, MIR⟩ := id H
  obtain ⟨kD, V_DEF⟩ := V_DEF
  obtain ⟨kEA, V_EA⟩ := V_EA
  obtain ⟨ga, ge, nae, Ov, E0, Ee, F1, F2, F3, A1⟩ := P
  refine g_aloadN C (pc' := 1) d21_0 rfl rfl rfl ?_
  refine g_getF C (pc' := 4) (wd hw 76 rfl) Via.refl d21_1 rfl F2 rfl ?_
  refine g_aloadN C (pc' := 5) d21_4 rfl rfl rfl ?_
  refine g_getF C (pc' := 8) (wd hw 89 rfl) Via.refl d21_5 rfl F3 rfl ?_
  refine g_callS C (pc' := 11) (k' := 1) (n' := 3) (argsL := [(.ref ed), (.int (3 : Int32))]) (rest := []) (wd hw 157 rfl) (wd hw 158 rfl) (wd hw 159 rfl) (wd hw 160 rfl) (by decide) d21_8 pd_16 rfl rfl rfl (cp2_3 l Z a0 hw n0 h O s_DEF s_EL s_EA s_EM cs mr H ed kE x0 x1 x2 Ex0 Ex1 Ex2 Ee A1) (Nat.le_of_ble_eq_true rfl) (Nat.le_of_ble_eq_true rfl) (Nat.le_of_ble_eq_true rfl) (Nat.le_of_ble_eq_true rfl) rfl rfl rfl (fun v597 h596 q598 => ?_)
  obtain ⟨g, kG, rfl, q1, q2, q3, q4⟩ := q598
  show G w _ h596 1 3 11 #[.val (.ref a)] [(.ref g)]
  exact g_areturn C d21_11 rfl rfl rfl rfl (Nat.le_of_ble_eq_true rfl) (Nat.le_of_ble_eq_true rfl) (⟨g, kG, rfl, q1, q2, q3, q4⟩)
theorem d26_0 : decode jdk_56_method_4_code 0 = .ok (.aload_n 0, 1) := by decide +kernel
theorem d26_1 : decode jdk_56_method_4_code 1 = .ok (.arraylength, 1) := by decide +kernel
theorem d26_2 : decode jdk_56_method_4_code 2 = .ok (.anewarray 2, 3) := by decide +kernel
theorem d26_5 : decode jdk_56_method_4_code 5 = .ok (.astore_n 1, 1) := by decide +kernel
theorem d26_6 : decode jdk_56_method_4_code 6 = .ok (.iconst 0, 1) := by decide +kernel
theorem d26_7 : decode jdk_56_method_4_code 7 = .ok (.istore_n 2, 1) := by decide +kernel
theorem d26_8 : decode jdk_56_method_4_code 8 = .ok (.iload_n 2, 1) := by decide +kernel
theorem d26_9 : decode jdk_56_method_4_code 9 = .ok (.aload_n 0, 1) := by decide +kernel
theorem d26_10 : decode jdk_56_method_4_code 10 = .ok (.arraylength, 1) := by decide +kernel
theorem d26_11 : decode jdk_56_method_4_code 11 = .ok (.if_icmp .ge 18, 3) := by decide +kernel
theorem d26_14 : decode jdk_56_method_4_code 14 = .ok (.aload_n 1, 1) := by decide +kernel
theorem d26_15 : decode jdk_56_method_4_code 15 = .ok (.iload_n 2, 1) := by decide +kernel
theorem d26_16 : decode jdk_56_method_4_code 16 = .ok (.aload_n 0, 1) := by decide +kernel
theorem d26_17 : decode jdk_56_method_4_code 17 = .ok (.iload_n 2, 1) := by decide +kernel
theorem d26_18 : decode jdk_56_method_4_code 18 = .ok (.aaload, 1) := by decide +kernel
theorem d26_19 : decode jdk_56_method_4_code 19 = .ok (.invokestatic 37, 3) := by decide +kernel
theorem d26_22 : decode jdk_56_method_4_code 22 = .ok (.aastore, 1) := by decide +kernel
theorem d26_23 : decode jdk_56_method_4_code 23 = .ok (.iinc 2 1, 3) := by decide +kernel
theorem d26_26 : decode jdk_56_method_4_code 26 = .ok (.goto (-18), 3) := by decide +kernel
theorem d26_29 : decode jdk_56_method_4_code 29 = .ok (.new 12, 3) := by decide +kernel
theorem d26_32 : decode jdk_56_method_4_code 32 = .ok (.dup, 1) := by decide +kernel
theorem d26_33 : decode jdk_56_method_4_code 33 = .ok (.aload_n 1, 1) := by decide +kernel
theorem d26_34 : decode jdk_56_method_4_code 34 = .ok (.iconst 0, 1) := by decide +kernel
theorem d26_35 : decode jdk_56_method_4_code 35 = .ok (.invokespecial 43, 3) := by decide +kernel
theorem pd_22 : parseMethodDescriptor "([Ljava/lang/Object;Z)V" = some ⟨[(.array (.object "java/lang/Object")), .boolean], none⟩ := by decide +kernel
theorem d26_38 : decode jdk_56_method_4_code 38 = .ok (.areturn, 1) := by decide +kernel
set_option maxRecDepth 65536 in
set_option maxHeartbeats 40000000 in
theorem fromA_3 (l : Launch) (Z : State) (a0 : Array Value) (hw : ∀ d ∈ tables_1, d.before a0 Z = true) (n0 : Nat) (h : Heap) (O : Old Z n0 h) (s_DEF : Addr) (s_EL : Addr) (s_EA : Addr) (s_EM : Addr) (cs : Int32) (mr : Addr) (H : En Z s_DEF s_EL s_EA s_EM cs mr) (g : Addr) (kG : ClassId) (x0 x1 x2 : Addr) (Ex0 : Exa Z h x0 "com/example/plumbline/plumbline/Band") (Ex1 : Exa Z h x1 "com/example/plumbline/plumbline/Band") (Ex2 : Exa Z h x2 "com/example/plumbline/plumbline/Band") (A1 : Arv Z h g kG (.object "java/lang/Object") (3 : Int32) [(.ref x0), (.ref x1), (.ref x2)] .null) : Con l Z (⟨"java/util/ImmutableCollections", "listFromArray", "([Ljava/lang/Object;)Ljava/util/List;"⟩ : MethodName) jdk_56_method_4_code 3 (some (.object "java/util/List")) ({ frames := 5, cells := 2, slots := 5, locals := 63 } : Room) #[(.ref g)] h n0 (fun v h' => ∃ L ar kA, v = some (.ref L) ∧ h.size ≤ L ∧ h.size ≤ ar ∧ Keep h h' [] ∧ Exa Z h' L "java/util/ImmutableCollections$ListN" ∧ Fld Z h' L "java/util/ImmutableCollections$ListN" "elements" "[Ljava/lang/Object;" (.ref ar) ∧ Arv Z h' ar kA (.object "java/lang/Object") (3 : Int32) [(.ref x0), (.ref x1), (.ref x2)] .null) := by
  refine Con.mk (Ls := #[.val (.ref g), .unset, .unset]) (plainFor_of_name pn_12) (fun m => by first | (simp [entryFrame, mkF, argsToLocals, Value.category]; done) | rfl) (fun w C => ?_)
  replace C : Cx w l Z "java/util/ImmutableCollections" jdk_56_method_4_code 3 (some (.object "java/util/List")) "listFromArray" ({ frames := 5, cells := 2, slots := 5, locals := 63 } : Room) n0 := C
  obtain ⟨S_DEF, E_DEF, V_DEF, S_EL, E_EL, F_EL, V_EA, S_EM, E_EM, S_CS, hcs, MIR⟩ := id H
  obtain ⟨kD, V_DEF⟩ := V_DEF
  obtain ⟨kEA, V_EA⟩ := V_EA
  refine g_aloadN C (pc' := 1) d26_0 rfl rfl rfl ?_
  refine g_alen C (pc' := 2) d26_1 rfl A1 rfl ?_
  refine g_newRE C (pc' := 5) (k' := 1) (n' := 3) (cap := 3) (ad := "[Ljava/lang/Object;") (wd hw 185 rfl) (wd hw 111 rfl) (by decide) d26_2 rfl (by decide) (by decide) (by decide) (by decide) (by decide) rfl rfl rfl (fun h599 b600 kA601 ex602 E603 A604 B606 Ov605 => ?_)
  have ne_g_b600 : g ≠ b600 := Nat.ne_of_lt (by rw [ex602]; exact A1.lt)
  have ne_x0_b600 : x0 ≠ b600 := Nat.ne_of_lt (by rw [ex602]; exact Ex0.lt)
  have ne_x1_b600 : x1 ≠ b600 := Nat.ne_of_lt (by rw [ex602]; exact Ex1.lt)
  have ne_x2_b600 : x2 ≠ b600 := Nat.ne_of_lt (by rw [ex602]; exact Ex2.lt)
  have ge_b600 : n0 ≤ b600 := by rw [ex602]; exact O.1 ▸ O.2.1
  have sz_b600 : h.size ≤ b600 := by rw [ex602]; exact (Keep.refl h []).1
  have f607 := O.ext E603
  have f608 := (Keep.refl h []).ext E603
  have f609 := A1.ext E603
  have f610 := Ex0.ext E603
  have f611 := Ex1.ext E603
  have f612 := Ex2.ext E603
  have A613 : Arv Z h599 b600 kA601 (.object "java/lang/Object") (3 : Int32) [.null, .null, .null] .null := A604.pad (pad_rep [] .null 3)
  refine g_astoreN C (pc' := 6) (Ls' := #[.val (.ref g), .val (.ref b600), .unset]) d26_5 rfl rfl rfl rfl ?_
  refine g_iconst C (pc' := 7) (v := (0 : Int32)) d26_6 (by decide) rfl ?_
  refine g_istoreN C (pc' := 8) (Ls' := #[.val (.ref g), .val (.ref b600), .val (.int (0 : Int32))]) d26_7 rfl rfl rfl ?_
  refine g_iloadN C (pc' := 9) d26_8 rfl rfl ?_
  refine g_aloadN C (pc' := 10) d26_9 rfl rfl rfl ?_
  refine g_alen C (pc' := 11) d26_10 rfl f609 rfl ?_
  refine g_icN C (pc' := 14) d26_11 rfl (by decide) rfl ?_
  refine g_aloadN C (pc' := 15) d26_14 rfl rfl rfl ?_
  refine g_iloadN C (pc' := 16) d26_15 rfl rfl ?_
  refine g_aloadN C (pc' := 17) d26_16 rfl rfl rfl ?_
  refine g_iloadN C (pc' := 18) d26_17 rfl rfl ?_
  refine g_aaload C (pc' := 19) (x := (.ref x0)) d26_18 rfl f609 rfl (by decide) (by decide) rfl rfl ?_
  refine g_callS C (pc' := 22) (k' := 1) (n' := 3) (argsL := [(.ref x0)]) (rest := [(.int (0 : Int32)), (.ref b600)]) (wd hw 186 rfl) (wd hw 187 rfl) (wd hw 188 rfl) (wd hw 189 rfl) (by decide) d26_19 pd_21 rfl rfl rfl (rnn l Z a0 hw n0 h599 f607 s_DEF s_EL s_EA s_EM cs mr H x0) (Nat.le_of_ble_eq_true rfl) (Nat.le_of_ble_eq_true rfl) (Nat.le_of_ble_eq_true rfl) (Nat.le_of_ble_eq_true rfl) rfl rfl rfl (fun v615 h614 q616 => ?_)
  obtain ⟨rfl, eh614⟩ := q616
  subst h614
  show G w _ h599 1 3 22 #[.val (.ref g), .val (.ref b600), .val (.int (0 : Int32))] [(.ref x0), (.int (0 : Int32)), (.ref b600)]
  refine g_aastore C (pc' := 23) d26_22 rfl A613 rfl (stoR A613 Ov605 (Ins.of_exa f610 (wd hw 112 rfl))) (by decide) (by decide) ge_b600 rfl (fun h617 W618 => ?_)
  have f619 := f607.wr W618 ge_b600
  have f620 := f608.wr W618 (Or.inr sz_b600)
  have f621 := f609.other W618 ne_g_b600
  have f622 := f610.wr W618
  have f623 := f611.wr W618
  have f624 := f612.wr W618
  have f625 := (arv_put A613 rfl W618 (i := 0) rfl (Nat.le_of_ble_eq_true rfl) : Arv Z h617 b600 kA601 (.object "java/lang/Object") (3 : Int32) [(.ref x0), .null, .null] .null)
  have f626 := B606.wr W618
  refine g_iinc C (pc' := 26) (Ls' := #[.val (.ref g), .val (.ref b600), .val (.int (1 : Int32))]) d26_23 rfl rfl rfl ?_
  refine g_goto C (pc' := 8) d26_26 (by decide) rfl ?_
  refine g_iloadN C (pc' := 9) d26_8 rfl rfl ?_
  refine g_aloadN C (pc' := 10) d26_9 rfl rfl rfl ?_
  refine g_alen C (pc' := 11) d26_10 rfl f621 rfl ?_
  refine g_icN C (pc' := 14) d26_11 rfl (by decide) rfl ?_
  refine g_aloadN C (pc' := 15) d26_14 rfl rfl rfl ?_
  refine g_iloadN C (pc' := 16) d26_15 rfl rfl ?_
  refine g_aloadN C (pc' := 17) d26_16 rfl rfl rfl ?_
  refine g_iloadN C (pc' := 18) d26_17 rfl rfl ?_
  refine g_aaload C (pc' := 19) (x := (.ref x1)) d26_18 rfl f621 rfl (by decide) (by decide) rfl rfl ?_
  refine g_callS C (pc' := 22) (k' := 1) (n' := 3) (argsL := [(.ref x1)]) (rest := [(.int (1 : Int32)), (.ref b600)]) (wd hw 186 rfl) (wd hw 187 rfl) (wd hw 188 rfl) (wd hw 189 rfl) (by decide) d26_19 pd_21 rfl rfl rfl (rnn l Z a0 hw n0 h617 f619 s_DEF s_EL s_EA s_EM cs mr H x1) (Nat.le_of_ble_eq_true rfl) (Nat.le_of_ble_eq_true rfl) (Nat.le_of_ble_eq_true rfl) (Nat.le_of_ble_eq_true rfl) rfl rfl rfl (fun v628 h627 q629 => ?_)
  obtain ⟨rfl, eh627⟩ := q629
  subst h627
  show G w _ h617 1 3 22 #[.val (.ref g), .val (.ref b600), .val (.int (1 : Int32))] [(.ref x1), (.int (1 : Int32)), (.ref b600)]
  refine g_aastore C (pc' := 23) d26_22 rfl f625 rfl (stoR f625 Ov605 (Ins.of_exa f623 (wd hw 112 rfl))) (by decide) (by decide) ge_b600 rfl (fun h630 W631 => ?_)
  have f632 := f619.wr W631 ge_b600
  have f633 := f620.wr W631 (Or.inr sz_b600)
  have f634 := f621.other W631 ne_g_b600
  have f635 := f622.wr W631
  have f636 := f623.wr W631
  have f637 := f624.wr W631
  have f638 := (arv_put f625 rfl W631 (i := 1) rfl (Nat.le_of_ble_eq_true rfl) : Arv Z h630 b600 kA601 (.object "java/lang/Object") (3 : Int32) [(.ref x0), (.ref x1), .null] .null)
  have f639 := f626.wr W631
  refine g_iinc C (pc' := 26) (Ls' := #[.val (.ref g), .val (.ref b600), .val (.int (2 : Int32))]) d26_23 rfl rfl rfl ?_
  refine g_goto C (pc' := 8) d26_26 (by decide) rfl ?_
  refine g_iloadN C (pc' := 9) d26_8 rfl rfl ?_
  refine g_aloadN C (pc' := 10) d26_9 rfl rfl rfl ?_
  refine g_alen C (pc' := 11) d26_10 rfl f634 rfl ?_
  refine g_icN C (pc' := 14) d26_11 rfl (by decide) rfl ?_
  refine g_aloadN C (pc' := 15) d26_14 rfl rfl rfl ?_
  refine g_iloadN C (pc' := 16) d26_15 rfl rfl ?_
  refine g_aloadN C (pc' := 17) d26_16 rfl rfl rfl ?_
  refine g_iloadN C (pc' := 18) d26_17 rfl rfl ?_
  refine g_aaload C (pc' := 19) (x := (.ref x2)) d26_18 rfl f634 rfl (by decide) (by decide) rfl rfl ?_
  refine g_callS C (pc' := 22) (k' := 1) (n' := 3) (argsL := [(.ref x2)]) (rest := [(.int (2 : Int32)), (.ref b600)]) (wd hw 186 rfl) (wd hw 187 rfl) (wd hw 188 rfl) (wd hw 189 rfl) (by decide) d26_19 pd_21 rfl rfl rfl (rnn l Z a0 hw n0 h630 f632 s_DEF s_EL s_EA s_EM cs mr H x2) (Nat.le_of_ble_eq_true rfl) (Nat.le_of_ble_eq_true rfl) (Nat.le_of_ble_eq_true rfl) (Nat.le_of_ble_eq_true rfl) rfl rfl rfl (fun v641 h640 q642 => ?_)
  obtain ⟨rfl, eh640⟩ := q642
  subst h640
  show G w _ h630 1 3 22 #[.val (.ref g), .val (.ref b600), .val (.int (2 : Int32))] [(.ref x2), (.int (2 : Int32)), (.ref b600)]
  refine g_aastore C (pc' := 23) d26_22 rfl f638 rfl (stoR f638 Ov605 (Ins.of_exa f637 (wd hw 112 rfl))) (by decide) (by decide) ge_b600 rfl (fun h643 W644 => ?_)
  have f645 := f632.wr W644 ge_b600
  have f646 := f633.wr W644 (Or.inr sz_b600)
  have f647 := f634.other W644 ne_g_b600
  have f648 := f635.wr W644
  have f649 := f636.wr W644
  have f650 := f637.wr W644
  have f651 := (arv_put f638 rfl W644 (i := 2) rfl (Nat.le_of_ble_eq_true rfl) : Arv Z h643 b600 kA601 (.object "java/lang/Object") (3 : Int32) [(.ref x0), (.ref x1), (.ref x2)] .null)
  have f652 := f639.wr W644
  refine g_iinc C (pc' := 26) (Ls' := #[.val (.ref g), .val (.ref b600), .val (.int (3 : Int32))]) d26_23 rfl rfl rfl ?_
  refine g_goto C (pc' := 8) d26_26 (by decide) rfl ?_
  refine g_iloadN C (pc' := 9) d26_8 rfl rfl ?_
  refine g_aloadN C (pc' := 10) d26_9 rfl rfl rfl ?_
  refine g_alen C (pc' := 11) d26_10 rfl f647 rfl ?_
  refine g_icY C (pc' := 29) d26_11 rfl (by decide) (by decide) rfl ?_
  refine g_new C (pc' := 32) (k' := 2) (n' := 5) (wd hw 133 rfl) (wd hw 190 rfl) (wd hw 191 rfl) d26_29 (by decide) (by decide) rfl rfl rfl (fun h653 b654 ex655 E656 A657 D658 => ?_)
  have ne_g_b654 : g ≠ b654 := Nat.ne_of_lt (by rw [ex655]; exact f647.lt)
  have ne_x0_b654 : x0 ≠ b654 := Nat.ne_of_lt (by rw [ex655]; exact f648.lt)
  have ne_x1_b654 : x1 ≠ b654 := Nat.ne_of_lt (by rw [ex655]; exact f649.lt)
  have ne_x2_b654 : x2 ≠ b654 := Nat.ne_of_lt (by rw [ex655]; exact f650.lt)
  have ne_b600_b654 : b600 ≠ b654 := Nat.ne_of_lt (by rw [ex655]; exact f651.lt)
  have ge_b654 : n0 ≤ b654 := by rw [ex655]; exact f645.1 ▸ f645.2.1
  have sz_b654 : h.size ≤ b654 := by rw [ex655]; exact f646.1
  have f659 := f645.ext E656
  have f660 := f646.ext E656
  have f661 := f647.ext E656
  have f662 := f648.ext E656
  have f663 := f649.ext E656
  have f664 := f650.ext E656
  have f665 := f651.ext E656
  have f666 := f652.ext E656
  have F_elements_b654 : Fld Z h653 b654 "java/util/ImmutableCollections$ListN" "elements" "[Ljava/lang/Object;" .null := D658 (Or.inr (wd hw 211 rfl)) (ty := (.array (.object "java/lang/Object"))) (by decide)
  have F_allowNulls_b654 : Fld Z h653 b654 "java/util/ImmutableCollections$ListN" "allowNulls" "Z" (.int (0 : Int32)) := D658 (Or.inr (wd hw 213 rfl)) (ty := .boolean) (by decide)
  refine g_dup C (pc' := 33) d26_32 rfl rfl rfl ?_
  refine g_aloadN C (pc' := 34) d26_33 rfl rfl rfl ?_
  refine g_iconst C (pc' := 35) (v := (0 : Int32)) d26_34 (by decide) rfl ?_
  refine g_specialNest C (pc' := 38) (k' := 2) (n' := 5) (argsL := [(.ref b600), (.int (0 : Int32))]) (rest := [(.ref b654)]) (wd hw 192 rfl) (wd hw 193 rfl) (wd hw 191 rfl) (wd hw 195 rfl) (by decide) rfl d26_35 pd_22 rfl rfl rfl (lN l Z a0 hw n0 h653 f659 s_DEF s_EL s_EA s_EM cs mr H b654 b600 ge_b654 A657 F_elements_b654 F_allowNulls_b654) (Nat.le_of_ble_eq_true rfl) (Nat.le_of_ble_eq_true rfl) (Nat.le_of_ble_eq_true rfl) (Nat.le_of_ble_eq_true rfl) rfl rfl rfl (fun v668 h667 q669 => ?_)
  obtain ⟨rfl, k1, k2, k3⟩ := q669
  have f670 := f659.keep k1 (allS ge_b654 all0)
  have f671 := f660.trans k1 (allS (Or.inr sz_b654) all0)
  have f672 := f661.keep k1 (ninS ne_g_b654 nin0)
  have f673 := f662.keep k1
  have f674 := f663.keep k1
  have f675 := f664.keep k1
  have f676 := f665.keep k1 (ninS ne_b600_b654 nin0)
  have f677 := f666.keep k1
  have f678 := A657.keep k1
  show G w _ h667 2 5 38 #[.val (.ref g), .val (.ref b600), .val (.int (3 : Int32))] [(.ref b654)]
  exact g_areturn C d26_38 rfl rfl rfl rfl (Nat.le_of_ble_eq_true rfl) (Nat.le_of_ble_eq_true rfl) (⟨b654, b600, kA601, rfl, sz_b654, sz_b600, f671, k2, k3, f676⟩)
theorem d25_59 : decode jdk_40_method_47_code 59 = .ok (.aload_n 0, 1) := by decide +kernel
theorem d25_60 : decode jdk_40_method_47_code 60 = .ok (.invokestatic 109, 3) := by decide +kernel
theorem d25_63 : decode jdk_40_method_47_code 63 = .ok (.areturn, 1) := by decide +kernel
set_option maxRecDepth 65536 in
set_option maxHeartbeats 40000000 in
theorem lofA_3 (l : Launch) (Z : State) (a0 : Array Value) (hw : ∀ d ∈ tables_1, d.before a0 Z = true) (n0 : Nat) (h : Heap) (O : Old Z n0 h) (s_DEF : Addr) (s_EL : Addr) (s_EA : Addr) (s_EM : Addr) (cs : Int32) (mr : Addr) (H : En Z s_DEF s_EL s_EA s_EM cs mr) (g : Addr) (kG : ClassId) (x0 x1 x2 : Addr) (Ex0 : Exa Z h x0 "com/example/plumbline/plumbline/Band") (Ex1 : Exa Z h x1 "com/example/plumbline/plumbline/Band") (Ex2 : Exa Z h x2 "com/example/plumbline/plumbline/Band") (A1 : Arv Z h g kG (.object "java/lang/Object") (3 : Int32) [(.ref x0), (.ref x1), (.ref x2)] .null) : Con l Z (⟨"java/util/List", "of", "([Ljava/lang/Object;)Ljava/util/List;"⟩ : MethodName) jdk_40_method_47_code 2 (some (.object "java/util/List")) ({ frames := 6, cells := 2, slots := 5, locals := 77 } : Room) #[(.ref g)] h n0 (fun v h' => ∃ L ar kA, v = some (.ref L) ∧ h.size ≤ L ∧ h.size ≤ ar ∧ Keep h h' [] ∧ Exa Z h' L "java/util/ImmutableCollections$ListN" ∧ Fld Z h' L "java/util/ImmutableCollections$ListN" "elements" "[Ljava/lang/Object;" (.ref ar) ∧ Arv Z h' ar kA (.object "java/lang/Object") (3 : Int32) [(.ref x0), (.ref x1), (.ref x2)] .null) := by
  refine Con.mk (Ls := #[.val (.ref g), .unset]) (plainFor_of_name pn_17) (fun m => by first | (simp [entryFrame, mkF, argsToLocals, Value.category]; done) | rfl) (fun w C => ?_)
  replace C : Cx w l Z "java/util/List" jdk_40_method_47_code 2 (some (.object "java/util/List")) "of" ({ frames := 6, cells := 2, slots := 5, locals := 77 } : Room) n0 := C
  obtain ⟨S_DEF, E_DEF, V_DEF, S_EL, E_EL, F_EL, V_EA, S_EM, E_EM, S_CS, hcs, MIR⟩ := id H
  obtain ⟨kD, V_DEF⟩ := V_DEF
  obtain ⟨kEA, V_EA⟩ := V_EA
  refine g_aloadN C (pc' := 1) d25_0 rfl rfl rfl ?_
  refine g_alen C (pc' := 2) d25_1 rfl A1 rfl ?_
  refine g_tswOut C (pc' := 59) d25_2 rfl (by decide) (by decide) rfl ?_
  refine g_aloadN C (pc' := 60) d25_59 rfl rfl rfl ?_
  refine g_callS C (pc' := 63) (k' := 2) (n' := 5) (argsL := [(.ref g)]) (rest := []) (wd hw 182 rfl) (wd hw 183 rfl) (wd hw 126 rfl) (wd hw 184 rfl) (by decide) d25_60 pd_20 rfl rfl rfl (fromA_3 l Z a0 hw n0 h O s_DEF s_EL s_EA s_EM cs mr H g kG x0 x1 x2 Ex0 Ex1 Ex2 A1) (Nat.le_of_ble_eq_true rfl) (Nat.le_of_ble_eq_true rfl) (Nat.le_of_ble_eq_true rfl) (Nat.le_of_ble_eq_true rfl) rfl rfl rfl (fun v680 h679 q681 => ?_)
  obtain ⟨L, ar, kA, rfl, q1, q2, q3, q4, q5, q6⟩ := q681
  show G w _ h679 2 5 63 #[.val (.ref g), .unset] [(.ref L)]
  exact g_areturn C d25_63 rfl rfl rfl rfl (Nat.le_of_ble_eq_true rfl) (Nat.le_of_ble_eq_true rfl) (⟨L, ar, kA, rfl, q1, q2, q3, q4, q5, q6⟩)
set_option maxRecDepth 65536 in
set_option maxHeartbeats 40000000 in
theorem lcp_3 (l : Launch) (Z : State) (a0 : Array Value) (hw : ∀ d ∈ tables_1, d.before a0 Z = true) (n0 : Nat) (h : Heap) (O : Old Z n0 h) (s_DEF : Addr) (s_EL : Addr) (s_EA : Addr) (s_EM : Addr) (cs : Int32) (mr : Addr) (H : En Z s_DEF s_EL s_EA s_EM cs mr) (a ed : Addr) (kE : ClassId) (mc : Int32) (x0 x1 x2 : Addr) (Ex0 : Exa Z h x0 "com/example/plumbline/plumbline/Band") (Ex1 : Exa Z h x1 "com/example/plumbline/plumbline/Band") (Ex2 : Exa Z h x2 "com/example/plumbline/plumbline/Band") (P : AL1 Z n0 h a ed kE mc (3 : Int32) [(.ref x0), (.ref x1), (.ref x2), .null, .null, .null, .null, .null, .null, .null]) : Con l Z (⟨"java/util/ImmutableCollections", "listCopy", "(Ljava/util/Collection;)Ljava/util/List;"⟩ : MethodName) jdk_56_method_3_code 2 (some (.object "java/util/List")) ({ frames := 7, cells := 3, slots := 8, locals := 90 } : Room) #[(.ref a)] h n0 (fun v h' => ∃ L ar kA, v = some (.ref L) ∧ h.size ≤ L ∧ h.size ≤ ar ∧ Keep h h' [] ∧ Exa Z h' L "java/util/ImmutableCollections$ListN" ∧ Fld Z h' L "java/util/ImmutableCollections$ListN" "elements" "[Ljava/lang/Object;" (.ref ar) ∧ Arv Z h' ar kA (.object "java/lang/Object") (3 : Int32) [(.ref x0), (.ref x1), (.ref x2)] .null) := by
  refine Con.mk (Ls := #[.val (.ref a), .unset]) (plainFor_of_name pn_12) (fun m => by first | (simp [entryFrame, mkF, argsToLocals, Value.category]; done) | rfl) (fun w C => ?_)
  replace C : Cx w l Z "java/util/ImmutableCollections" jdk_56_method_3_code 2 (some (.object "java/util/List")) "listCopy" ({ frames := 7, cells := 3, slots := 8, locals := 90 } : Room) n0 := C
  obtain ⟨S_DEF, E_DEF, V_DEF, S_EL, E_EL, F_EL, V_EA, S_EM, E_EM, S_CS, hcs, MIR⟩ := id H
  obtain ⟨kD, V_DEF⟩ := V_DEF
  obtain ⟨kEA, V_EA⟩ := V_EA
  have P0 := P
  obtain ⟨ga, ge, nae, Ov, E0, Ee, F1, F2, F3, A1⟩ := P
  refine g_aloadN C (pc' := 1) d18_0 rfl rfl rfl ?_
  refine g_instN C (pc' := 4) (wd hw 128 rfl) d18_1 rfl E0 (ns_no (wd hw 129 rfl) (wd hw 231 rfl) (NS.step (wd hw 129 rfl) (NS.step (wd hw 130 rfl) (NS.step (wd hw 131 rfl) (ns_root (wd hw 132 rfl) (wd hw 231 rfl) (by decide)) (by decide)) (by decide)) (by decide)) (by decide)) rfl ?_
  refine g_ifN C (pc' := 7) d18_4 rfl (by decide) rfl ?_
  refine g_aloadN C (pc' := 8) d18_7 rfl rfl rfl ?_
  refine g_instN C (pc' := 11) (wd hw 133 rfl) d18_8 rfl E0 (ns_no (wd hw 129 rfl) (wd hw 190 rfl) (NS.step (wd hw 129 rfl) (NS.step (wd hw 130 rfl) (NS.step (wd hw 131 rfl) (ns_root (wd hw 132 rfl) (wd hw 190 rfl) (by decide)) (by decide)) (by decide)) (by decide)) (by decide)) rfl ?_
  refine g_ifY C (pc' := 31) d18_11 rfl (by decide) (by decide) rfl ?_
  refine g_aloadN C (pc' := 32) d18_31 rfl rfl rfl ?_
  refine g_interface C (pc' := 37) (k' := 0) (n' := 0) (argsL := []) (rest := []) (wd hw 134 rfl) (wd hw 135 rfl) (wd hw 136 rfl) rfl (wd hw 137 rfl) (wd hw 138 rfl) (wd hw 139 rfl) (wd hw 140 rfl) (wd hw 141 rfl) (wd hw 56 rfl) (wd hw 142 rfl) (by decide) d18_32 pd_14 rfl rfl rfl E0 (alEmp_3 l Z a0 hw n0 h O s_DEF s_EL s_EA s_EM cs mr H a ed kE mc x0 x1 x2 P0) (Nat.le_of_ble_eq_true rfl) (Nat.le_of_ble_eq_true rfl) (Nat.le_of_ble_eq_true rfl) (Nat.le_of_ble_eq_true rfl) rfl rfl rfl (fun v683 h682 q684 => ?_)
  obtain ⟨rfl, eh682⟩ := q684
  subst h682
  show G w _ h 0 0 37 #[.val (.ref a), .unset] [(.int (0 : Int32))]
  refine g_ifY C (pc' := 44) d18_37 rfl (by decide) (by decide) rfl ?_
  refine g_aloadN C (pc' := 45) d18_44 rfl rfl rfl ?_
  refine g_interface C (pc' := 50) (k' := 1) (n' := 3) (argsL := []) (rest := []) (wd hw 149 rfl) (wd hw 150 rfl) (wd hw 151 rfl) rfl (wd hw 152 rfl) (wd hw 153 rfl) (wd hw 154 rfl) (wd hw 155 rfl) (wd hw 141 rfl) (wd hw 56 rfl) (wd hw 156 rfl) (by decide) d18_45 pd_9 rfl rfl rfl E0 (toA_3 l Z a0 hw n0 h O s_DEF s_EL s_EA s_EM cs mr H a ed kE mc x0 x1 x2 Ex0 Ex1 Ex2 P0) (Nat.le_of_ble_eq_true rfl) (Nat.le_of_ble_eq_true rfl) (Nat.le_of_ble_eq_true rfl) (Nat.le_of_ble_eq_true rfl) rfl rfl rfl (fun v686 h685 q687 => ?_)
  obtain ⟨g, kG, rfl, q1, q2, q3, q4⟩ := q687
  have ne_a_g : a ≠ g := Nat.ne_of_lt (Nat.lt_of_lt_of_le E0.lt q1)
  have ne_ed_g : ed ≠ g := Nat.ne_of_lt (Nat.lt_of_lt_of_le Ee.lt q1)
  have ne_x0_g : x0 ≠ g := Nat.ne_of_lt (Nat.lt_of_lt_of_le Ex0.lt q1)
  have ne_x1_g : x1 ≠ g := Nat.ne_of_lt (Nat.lt_of_lt_of_le Ex1.lt q1)
  have ne_x2_g : x2 ≠ g := Nat.ne_of_lt (Nat.lt_of_lt_of_le Ex2.lt q1)
  have ge_g : n0 ≤ g := Nat.le_trans (O.1 ▸ O.2.1) q1
  have sz_g : h.size ≤ g := Nat.le_trans (Keep.refl h []).1 q1
  have f688 := O.keep q2 all0
  have f689 := (Keep.refl h []).trans q2 all0
  have f690 := E0.keep q2
  have f691 := F1.keep q2 nin0
  have f692 := F2.keep q2 nin0
  have f693 := F3.keep q2 nin0
  have f694 := Ee.keep q2
  have f695 := A1.keep q2 nin0
  have f696 := Ex0.keep q2
  have f697 := Ex1.keep q2
  have f698 := Ex2.keep q2
  show G w _ h685 1 3 50 #[.val (.ref a), .unset] [(.ref g)]
  refine g_callS C (pc' := 53) (k' := 3) (n' := 8) (argsL := [(.ref g)]) (rest := []) (wd hw 179 rfl) (wd hw 180 rfl) (wd hw 122 rfl) (wd hw 181 rfl) (by decide) d18_50 pd_20 rfl rfl rfl (lofA_3 l Z a0 hw n0 h685 f688 s_DEF s_EL s_EA s_EM cs mr H g kG x0 x1 x2 f696 f697 f698 q4) (Nat.le_of_ble_eq_true rfl) (Nat.le_of_ble_eq_true rfl) (Nat.le_of_ble_eq_true rfl) (Nat.le_of_ble_eq_true rfl) rfl rfl rfl (fun v700 h699 q701 => ?_)
  obtain ⟨L, ar, kA, rfl, r1, r2, r3, r4, r5, r6⟩ := q701
  have u1 := Nat.le_trans q2.1 r1
  have f702 := f688.keep r3 all0
  have f703 := f689.trans r3 all0
  have f704 := f690.keep r3
  have f705 := f691.keep r3 nin0
  have f706 := f692.keep r3 nin0
  have f707 := f693.keep r3 nin0
  have f708 := f694.keep r3
  have f709 := f695.keep r3 nin0
  have f710 := f696.keep r3
  have f711 := f697.keep r3
  have f712 := f698.keep r3
  have f713 := q4.keep r3 nin0
  have u2 := Nat.le_trans q2.1 r2
  show G w _ h699 3 8 53 #[.val (.ref a), .unset] [(.ref L)]
  exact g_areturn C d18_53 rfl rfl rfl rfl (Nat.le_of_ble_eq_true rfl) (Nat.le_of_ble_eq_true rfl) (⟨L, ar, kA, rfl, u1, u2, f703, r4, r5, r6⟩)
set_option maxRecDepth 65536 in
set_option maxHeartbeats 40000000 in
theorem cpo_3 (l : Launch) (Z : State) (a0 : Array Value) (hw : ∀ d ∈ tables_1, d.before a0 Z = true) (n0 : Nat) (h : Heap) (O : Old Z n0 h) (s_DEF : Addr) (s_EL : Addr) (s_EA : Addr) (s_EM : Addr) (cs : Int32) (mr : Addr) (H : En Z s_DEF s_EL s_EA s_EM cs mr) (a ed : Addr) (kE : ClassId) (mc : Int32) (x0 x1 x2 : Addr) (Ex0 : Exa Z h x0 "com/example/plumbline/plumbline/Band") (Ex1 : Exa Z h x1 "com/example/plumbline/plumbline/Band") (Ex2 : Exa Z h x2 "com/example/plumbline/plumbline/Band") (P : AL1 Z n0 h a ed kE mc (3 : Int32) [(.ref x0), (.ref x1), (.ref x2), .null, .null, .null, .null, .null, .null, .null]) : Con l Z (⟨"java/util/List", "copyOf", "(Ljava/util/Collection;)Ljava/util/List;"⟩ : MethodName) jdk_40_method_48_code 1 (some (.object "java/util/List")) ({ frames := 8, cells := 3, slots := 8, locals := 103 } : Room) #[(.ref a)] h n0 (fun v h' => ∃ L ar kA, v = some (.ref L) ∧ h.size ≤ L ∧ h.size ≤ ar ∧ Keep h h' [] ∧ Exa Z h' L "java/util/ImmutableCollections$ListN" ∧ Fld Z h' L "java/util/ImmutableCollections$ListN" "elements" "[Ljava/lang/Object;" (.ref ar) ∧ Arv Z h' ar kA (.object "java/lang/Object") (3 : Int32) [(.ref x0), (.ref x1), (.ref x2)] .null) := by
  refine Con.mk (Ls := #[.val (.ref a)]) (plainFor_of_name pn_17) (fun m => by first | (simp [entryFrame, mkF, argsToLocals, Value.category]; done) | rfl) (fun w C => ?_)
  replace C : Cx w l Z "java/util/List" jdk_40_method_48_code 1 (some (.object "java/util/List")) "copyOf" ({ frames := 8, cells := 3, slots := 8, locals := 103 } : Room) n0 := C
  obtain ⟨S_DEF, E_DEF, V_DEF, S_EL, E_EL, F_EL, V_EA, S_EM, E_EM, S_CS, hcs, MIR⟩ := id H
  obtain ⟨kD, V_DEF⟩ := V_DEF
  obtain ⟨kEA, V_EA⟩ := V_EA
  refine g_aloadN C (pc' := 1) d17_0 rfl rfl rfl ?_
  refine g_callS C (pc' := 4) (k' := 3) (n' := 8) (argsL := [(.ref a)]) (rest := []) (wd hw 124 rfl) (wd hw 125 rfl) (wd hw 126 rfl) (wd hw 127 rfl) (by decide) d17_1 pd_13 rfl rfl rfl (lcp_3 l Z a0 hw n0 h O s_DEF s_EL s_EA s_EM cs mr H a ed kE mc x0 x1 x2 Ex0 Ex1 Ex2 P) (Nat.le_of_ble_eq_true rfl) (Nat.le_of_ble_eq_true rfl) (Nat.le_of_ble_eq_true rfl) (Nat.le_of_ble_eq_true rfl) rfl rfl rfl (fun v715 h714 q716 => ?_)
  obtain ⟨L, ar, kA, rfl, q1, q2, q3, q4, q5, q6⟩ := q716
  show G w _ h714 3 8 4 #[.val (.ref a)] [(.ref L)]
  exact g_areturn C d17_4 rfl rfl rfl rfl (Nat.le_of_ble_eq_true rfl) (Nat.le_of_ble_eq_true rfl) (⟨L, ar, kA, rfl, q1, q2, q3, q4, q5, q6⟩)
theorem d32_0 : decode jdk_45_method_2_code 0 = .ok (.aload_n 0, 1) := by decide +kernel
theorem d32_1 : decode jdk_45_method_2_code 1 = .ok (.getfield 7, 3) := by decide +kernel
theorem d32_4 : decode jdk_45_method_2_code 4 = .ok (.arraylength, 1) := by decide +kernel
theorem d32_5 : decode jdk_45_method_2_code 5 = .ok (.ifCond .ne 7, 3) := by decide +kernel
theorem d32_8 : decode jdk_45_method_2_code 8 = .ok (.iconst 1, 1) := by decide +kernel
theorem d32_9 : decode jdk_45_method_2_code 9 = .ok (.goto 4, 3) := by decide +kernel
theorem d32_13 : decode jdk_45_method_2_code 13 = .ok (.ireturn, 1) := by decide +kernel
set_option maxRecDepth 65536 in
set_option maxHeartbeats 40000000 in
theorem lnE_0 (l : Launch) (Z : State) (a0 : Array Value) (hw : ∀ d ∈ tables_1, d.before a0 Z = true) (n0 : Nat) (h : Heap) (O : Old Z n0 h) (s_DEF : Addr) (s_EL : Addr) (s_EA : Addr) (s_EM : Addr) (cs : Int32) (mr : Addr) (H : En Z s_DEF s_EL s_EA s_EM cs mr) : Con l Z (⟨"java/util/ImmutableCollections$ListN", "isEmpty", "()Z"⟩ : MethodName) jdk_45_method_2_code 1 (some .boolean) ({ frames := 0, cells := 0, slots := 0, locals := 0 } : Room) #[(.ref s_EL)] h n0 (fun v h' => v = some (.int (1 : Int32)) ∧ h' = h) := by
  refine Con.mk (Ls := #[.val (.ref s_EL)]) (plainFor_of_name pn_16) (fun m => by first | (simp [entryFrame, mkF, argsToLocals, Value.category]; done) | rfl) (fun w C => ?_)
  replace C : Cx w l Z "java/util/ImmutableCollections$ListN" jdk_45_method_2_code 1 (some .boolean) "isEmpty" ({ frames := 0, cells := 0, slots := 0, locals := 0 } : Room) n0 := C
  obtain ⟨S_DEF, E_DEF, V_DEF, S_EL, E_EL, F_EL, V_EA, S_EM, E_EM, S_CS, hcs, MIR⟩ := id H
  obtain ⟨kD, V_DEF⟩ := V_DEF
  obtain ⟨kEA, V_EA⟩ := V_EA
  refine g_aloadN C (pc' := 1) d32_0 rfl rfl rfl ?_
  refine g_getF C (pc' := 4) (wd hw 210 rfl) Via.refl d32_1 rfl (F_EL.ext O.2) rfl ?_
  refine g_alen C (pc' := 5) d32_4 rfl (V_EA.ext O.2) rfl ?_
  refine g_ifN C (pc' := 8) d32_5 rfl (by decide) rfl ?_
  refine g_iconst C (pc' := 9) (v := (1 : Int32)) d32_8 (by decide) rfl ?_
  refine g_goto C (pc' := 13) d32_9 (by decide) rfl ?_
  exact g_zreturn C d32_13 rfl rfl (Nat.le_of_ble_eq_true rfl) (Nat.le_of_ble_eq_true rfl) (⟨rfl, rfl⟩)
theorem d32_12 : decode jdk_45_method_2_code 12 = .ok (.iconst 0, 1) := by decide +kernel
set_option maxRecDepth 65536 in
set_option maxHeartbeats 40000000 in
theorem lnE_3 (l : Launch) (Z : State) (a0 : Array Value) (hw : ∀ d ∈ tables_1, d.before a0 Z = true) (n0 : Nat) (h : Heap) (O : Old Z n0 h) (s_DEF : Addr) (s_EL : Addr) (s_EA : Addr) (s_EM : Addr) (cs : Int32) (mr : Addr) (H : En Z s_DEF s_EL s_EA s_EM cs mr) (L ar : Addr) (kA : ClassId) (x0 x1 x2 : Addr) (F0 : Fld Z h L "java/util/ImmutableCollections$ListN" "elements" "[Ljava/lang/Object;" (.ref ar)) (A1 : Arv Z h ar kA (.object "java/lang/Object") (3 : Int32) [(.ref x0), (.ref x1), (.ref x2)] .null) : Con l Z (⟨"java/util/ImmutableCollections$ListN", "isEmpty", "()Z"⟩ : MethodName) jdk_45_method_2_code 1 (some .boolean) ({ frames := 0, cells := 0, slots := 0, locals := 0 } : Room) #[(.ref L)] h n0 (fun v h' => v = some (.int (0 : Int32)) ∧ h' = h) := by
  refine Con.mk (Ls := #[.val (.ref L)]) (plainFor_of_name pn_16) (fun m => by first | (simp [entryFrame, mkF, argsToLocals, Value.category]; done) | rfl) (fun w C => ?_)
  replace C : Cx w l Z "java/util/ImmutableCollections$ListN" jdk_45_method_2_code 1 (some .boolean) "isEmpty" ({ frames := 0, cells := 0, slots := 0, locals := 0 } : Room) n0 := C
  obtain ⟨S_DEF, E_DEF, V_DEF, S_EL, E_EL, F_EL, V_EA, S_EM, E_EM, S_CS, hcs, MIR⟩ := id H
  obtain ⟨kD, V_DEF⟩ := V_DEF
  obtain ⟨kEA, V_EA⟩ := V_EA
  refine g_aloadN C (pc' := 1) d32_0 rfl rfl rfl ?_
  refine g_getF C (pc' := 4) (wd hw 210 rfl) Via.refl d32_1 rfl F0 rfl ?_
  refine g_alen C (pc' := 5) d32_4 rfl A1 rfl ?_
  refine g_ifY C (pc' := 12) d32_5 rfl (by decide) (by decide) rfl ?_
  refine g_iconst C (pc' := 13) (v := (0 : Int32)) d32_12 (by decide) rfl ?_
  exact g_zreturn C d32_13 rfl rfl (Nat.le_of_ble_eq_true rfl) (Nat.le_of_ble_eq_true rfl) (⟨rfl, rfl⟩)
theorem d35_0 : decode jdk_44_method_4_code 0 = .ok (.iconst 0, 1) := by decide +kernel
theorem d35_1 : decode jdk_44_method_4_code 1 = .ok (.ireturn, 1) := by decide +kernel
set_option maxRecDepth 65536 in
set_option maxHeartbeats 40000000 in
theorem l12E (l : Launch) (Z : State) (a0 : Array Value) (hw : ∀ d ∈ tables_1, d.before a0 Z = true) (n0 : Nat) (h : Heap) (O : Old Z n0 h) (s_DEF : Addr) (s_EL : Addr) (s_EA : Addr) (s_EM : Addr) (cs : Int32) (mr : Addr) (H : En Z s_DEF s_EL s_EA s_EM cs mr) (L : Addr) : Con l Z (⟨"java/util/ImmutableCollections$List12", "isEmpty", "()Z"⟩ : MethodName) jdk_44_method_4_code 1 (some .boolean) ({ frames := 0, cells := 0, slots := 0, locals := 0 } : Room) #[(.ref L)] h n0 (fun v h' => v = some (.int (0 : Int32)) ∧ h' = h) := by
  refine Con.mk (Ls := #[.val (.ref L)]) (plainFor_of_name pn_15) (fun m => by first | (simp [entryFrame, mkF, argsToLocals, Value.category]; done) | rfl) (fun w C => ?_)
  replace C : Cx w l Z "java/util/ImmutableCollections$List12" jdk_44_method_4_code 1 (some .boolean) "isEmpty" ({ frames := 0, cells := 0, slots := 0, locals := 0 } : Room) n0 := C
  obtain ⟨S_DEF, E_DEF, V_DEF, S_EL, E_EL, F_EL, V_EA, S_EM, E_EM, S_CS, hcs, MIR⟩ := id H
  refine g_iconst C (pc' := 1) (v := (0 : Int32)) d35_0 (by decide) rfl ?_
  exact g_zreturn C d35_1 rfl rfl (Nat.le_of_ble_eq_true rfl) (Nat.le_of_ble_eq_true rfl) (⟨rfl, rfl⟩)
theorem d16_0 : decode prog_32_method_1_code 0 = .ok (.aload_n 0, 1) := by decide +kernel
theorem d16_1 : decode prog_32_method_1_code 1 = .ok (.invokespecial 1, 3) := by decide +kernel
theorem d16_4 : decode prog_32_method_1_code 4 = .ok (.aload_n 0, 1) := by decide +kernel
theorem d16_5 : decode prog_32_method_1_code 5 = .ok (.aload_n 1, 1) := by decide +kernel
theorem d16_6 : decode prog_32_method_1_code 6 = .ok (.invokestatic 7, 3) := by decide +kernel
theorem d16_9 : decode prog_32_method_1_code 9 = .ok (.putfield 13, 3) := by decide +kernel
theorem d16_12 : decode prog_32_method_1_code 12 = .ok (.aload_n 0, 1) := by decide +kernel
theorem d16_13 : decode prog_32_method_1_code 13 = .ok (.aload_n 2, 1) := by decide +kernel
theorem d16_14 : decode prog_32_method_1_code 14 = .ok (.invokestatic 7, 3) := by decide +kernel
theorem d16_17 : decode prog_32_method_1_code 17 = .ok (.putfield 19, 3) := by decide +kernel
theorem d16_20 : decode prog_32_method_1_code 20 = .ok (.return_, 1) := by decide +kernel
theorem pn_2 : plainName "com/example/plumbline/plumbline/Grades" = true := by first | (simp [plainName, overriddenIn]; done) | decide +kernel
set_option maxRecDepth 65536 in
set_option maxHeartbeats 40000000 in
theorem gsI_00 (l : Launch) (Z : State) (a0 : Array Value) (hw : ∀ d ∈ tables_1, d.before a0 Z = true) (n0 : Nat) (h : Heap) (O : Old Z n0 h) (s_DEF : Addr) (s_EL : Addr) (s_EA : Addr) (s_EM : Addr) (cs : Int32) (mr : Addr) (H : En Z s_DEF s_EL s_EA s_EM cs mr) (a x : Addr) (ga : n0 ≤ a) (ua : Addr) (umc : Int32) (va : Addr) (vmc : Int32) (E0 : Exa Z h a "com/example/plumbline/plumbline/Grades") (F1 : Fld Z h a "com/example/plumbline/plumbline/Grades" "area" "Ljava/util/List;" .null) (F2 : Fld Z h a "com/example/plumbline/plumbline/Grades" "total" "Ljava/util/List;" .null) (Ex : Exa Z h x "com/example/plumbline/plumbline/Band") (uP : AL0 Z n0 h ua s_DEF umc) (vP : AL0 Z n0 h va s_DEF vmc) (nau : a ≠ ua) (nav : a ≠ va) : Con l Z (⟨"com/example/plumbline/plumbline/Grades", "<init>", "(Ljava/util/List;Ljava/util/List;)V"⟩ : MethodName) prog_32_method_1_code 3 none ({ frames := 3, cells := 0, slots := 0, locals := 38 } : Room) #[(.ref a), (.ref ua), (.ref va)] h n0 (fun v h' => v = none ∧ Keep h h' [a] ∧ Exa Z h' a "com/example/plumbline/plumbline/Grades" ∧ Fld Z h' a "com/example/plumbline/plumbline/Grades" "total" "Ljava/util/List;" (.ref s_EL)) := by
  refine Con.mk (Ls := #[.val (.ref a), .val (.ref ua), .val (.ref va)]) (plainFor_of_name pn_2) (fun m => by first | (simp [entryFrame, mkF, argsToLocals, Value.category]; done) | rfl) (fun w C => ?_)
  replace C : Cx w l Z "com/example/plumbline/plumbline/Grades" prog_32_method_1_code 3 none "<init>" ({ frames := 3, cells := 0, slots := 0, locals := 38 } : Room) n0 := C
  obtain ⟨S_DEF, E_DEF, V_DEF, S_EL, E_EL, F_EL, V_EA, S_EM, E_EM, S_CS, hcs, MIR⟩ := id H
  obtain ⟨kD, V_DEF⟩ := V_DEF
  obtain ⟨kEA, V_EA⟩ := V_EA
  refine g_aloadN C (pc' := 1) d16_0 rfl rfl rfl ?_
  refine g_initO C (pc' := 4) (wd hw 119 rfl) (wd hw 20 rfl) (wd hw 21 rfl) d16_1 rfl rfl (Nat.le_of_ble_eq_true rfl) (Nat.le_of_ble_eq_true rfl) rfl ?_
  refine g_aloadN C (pc' := 5) d16_4 rfl rfl rfl ?_
  refine g_aloadN C (pc' := 6) d16_5 rfl rfl rfl ?_
  refine g_callS C (pc' := 9) (k' := 0) (n' := 0) (argsL := [(.ref ua)]) (rest := [(.ref a)]) (wd hw 120 rfl) (wd hw 121 rfl) (wd hw 122 rfl) (wd hw 123 rfl) (by decide) d16_6 pd_13 rfl rfl rfl (cpo_0 l Z a0 hw n0 h O s_DEF s_EL s_EA s_EM cs mr H ua umc  uP) (Nat.le_of_ble_eq_true rfl) (Nat.le_of_ble_eq_true rfl) (Nat.le_of_ble_eq_true rfl) (Nat.le_of_ble_eq_true rfl) rfl rfl rfl (fun v718 h717 q719 => ?_)
  obtain ⟨rfl, eh717⟩ := q719
  subst h717
  show G w _ h 0 0 9 #[.val (.ref a), .val (.ref ua), .val (.ref va)] [(.ref s_EL), (.ref a)]
  refine g_putF C (pc' := 12) (ty := (.object "java/util/List")) (wd hw 147 rfl) Via.refl d16_9 rfl F1 E0 (Or.inr ⟨(wd hw 148 rfl), rfl, rfl⟩) (wd hw 114 rfl) (by decide) rfl rfl ga rfl (fun h720 W721 => ?_)
  have f722 := O.wr W721 ga
  have f723 := (Keep.refl h [a]).wr W721 (Or.inl (List.mem_of_getElem? (i := 0) rfl))
  have f724 := E0.wr W721
  have f725 := F1.same W721
  have f726 := F2.other W721 (Or.inr (slot_ne (Or.inr (wd hw 215 rfl)) (Or.inr (wd hw 148 rfl)) (by decide) (t := (.object "java/util/List")) (t' := (.object "java/util/List")) (by decide) (by decide)))
  have f727 := Ex.wr W721
  have f728 := own_AL0_keep uP (Keep.of_wr W721) (ninS (Ne.symm nau) nin0)
  have f729 := own_AL0_keep vP (Keep.of_wr W721) (ninS (Ne.symm nav) nin0)
  refine g_aloadN C (pc' := 13) d16_12 rfl rfl rfl ?_
  refine g_aloadN C (pc' := 14) d16_13 rfl rfl rfl ?_
  refine g_callS C (pc' := 17) (k' := 0) (n' := 0) (argsL := [(.ref va)]) (rest := [(.ref a)]) (wd hw 120 rfl) (wd hw 121 rfl) (wd hw 122 rfl) (wd hw 123 rfl) (by decide) d16_14 pd_13 rfl rfl rfl (cpo_0 l Z a0 hw n0 h720 f722 s_DEF s_EL s_EA s_EM cs mr H va vmc  f729) (Nat.le_of_ble_eq_true rfl) (Nat.le_of_ble_eq_true rfl) (Nat.le_of_ble_eq_true rfl) (Nat.le_of_ble_eq_true rfl) rfl rfl rfl (fun v731 h730 q732 => ?_)
  obtain ⟨rfl, eh730⟩ := q732
  subst h730
  show G w _ h720 0 0 17 #[.val (.ref a), .val (.ref ua), .val (.ref va)] [(.ref s_EL), (.ref a)]
  refine g_putF C (pc' := 20) (ty := (.object "java/util/List")) (wd hw 214 rfl) Via.refl d16_17 rfl f726 f724 (Or.inr ⟨(wd hw 215 rfl), rfl, rfl⟩) (wd hw 114 rfl) (by decide) rfl rfl ga rfl (fun h733 W734 => ?_)
  have f735 := f722.wr W734 ga
  have f736 := f723.wr W734 (Or.inl (List.mem_of_getElem? (i := 0) rfl))
  have f737 := f724.wr W734
  have f738 := f725.other W734 (Or.inr (slot_ne (Or.inr (wd hw 148 rfl)) (Or.inr (wd hw 215 rfl)) (by decide) (t := (.object "java/util/List")) (t' := (.object "java/util/List")) (by decide) (by decide)))
  have f739 := f726.same W734
  have f740 := f727.wr W734
  have f741 := own_AL0_keep f728 (Keep.of_wr W734) (ninS (Ne.symm nau) nin0)
  have f742 := own_AL0_keep f729 (Keep.of_wr W734) (ninS (Ne.symm nav) nin0)
  exact g_return C d16_20 rfl (Nat.le_of_ble_eq_true rfl) (Nat.le_of_ble_eq_true rfl) (⟨rfl, f736, f737, f739⟩)
set_option maxRecDepth 65536 in
set_option maxHeartbeats 40000000 in
theorem gsI_01 (l : Launch) (Z : State) (a0 : Array Value) (hw : ∀ d ∈ tables_1, d.before a0 Z = true) (n0 : Nat) (h : Heap) (O : Old Z n0 h) (s_DEF : Addr) (s_EL : Addr) (s_EA : Addr) (s_EM : Addr) (cs : Int32) (mr : Addr) (H : En Z s_DEF s_EL s_EA s_EM cs mr) (a x : Addr) (ga : n0 ≤ a) (ua ued : Addr) (ukE : ClassId) (umc : Int32) (va : Addr) (vmc : Int32) (E0 : Exa Z h a "com/example/plumbline/plumbline/Grades") (F1 : Fld Z h a "com/example/plumbline/plumbline/Grades" "area" "Ljava/util/List;" .null) (F2 : Fld Z h a "com/example/plumbline/plumbline/Grades" "total" "Ljava/util/List;" .null) (Ex : Exa Z h x "com/example/plumbline/plumbline/Band") (uP : AL1 Z n0 h ua ued ukE umc (1 : Int32) [(.ref x), .null, .null, .null, .null, .null, .null, .null, .null, .null]) (vP : AL0 Z n0 h va s_DEF vmc) (nau : a ≠ ua) (nav : a ≠ va) (naue : a ≠ ued) : Con l Z (⟨"com/example/plumbline/plumbline/Grades", "<init>", "(Ljava/util/List;Ljava/util/List;)V"⟩ : MethodName) prog_32_method_1_code 3 none ({ frames := 8, cells := 2, slots := 3, locals := 101 } : Room) #[(.ref a), (.ref ua), (.ref va)] h n0 (fun v h' => v = none ∧ Keep h h' [a] ∧ Exa Z h' a "com/example/plumbline/plumbline/Grades" ∧ Fld Z h' a "com/example/plumbline/plumbline/Grades" "total" "Ljava/util/List;" (.ref s_EL)) := by
  refine Con.mk (Ls := #[.val (.ref a), .val (.ref ua), .val (.ref va)]) (plainFor_of_name pn_2) (fun m => by first | (simp [entryFrame, mkF, argsToLocals, Value.category]; done) | rfl) (fun w C => ?_)
  replace C : Cx w l Z "com/example/plumbline/plumbline/Grades" prog_32_method_1_code 3 none "<init>" ({ frames := 8, cells := 2, slots := 3, locals := 101 } : Room) n0 := C
  obtain ⟨S_DEF, E_DEF, V_DEF, S_EL, E_EL, F_EL, V_EA, S_EM, E_EM, S_CS, hcs, MIR⟩ := id H
  obtain ⟨kD, V_DEF⟩ := V_DEF
  obtain ⟨kEA, V_EA⟩ := V_EA
  refine g_aloadN C (pc' := 1) d16_0 rfl rfl rfl ?_
  refine g_initO C (pc' := 4) (wd hw 119 rfl) (wd hw 20 rfl) (wd hw 21 rfl) d16_1 rfl rfl (Nat.le_of_ble_eq_true rfl) (Nat.le_of_ble_eq_true rfl) rfl ?_
  refine g_aloadN C (pc' := 5) d16_4 rfl rfl rfl ?_
  refine g_aloadN C (pc' := 6) d16_5 rfl rfl rfl ?_
  refine g_callS C (pc' := 9) (k' := 2) (n' := 3) (argsL := [(.ref ua)]) (rest := [(.ref a)]) (wd hw 120 rfl) (wd hw 121 rfl) (wd hw 122 rfl) (wd hw 123 rfl) (by decide) d16_6 pd_13 rfl rfl rfl (cpo_1 l Z a0 hw n0 h O s_DEF s_EL s_EA s_EM cs mr H ua ued ukE umc x Ex uP) (Nat.le_of_ble_eq_true rfl) (Nat.le_of_ble_eq_true rfl) (Nat.le_of_ble_eq_true rfl) (Nat.le_of_ble_eq_true rfl) rfl rfl rfl (fun v744 h743 q745 => ?_)
  obtain ⟨uL, rfl, uq1, uq2, uq3⟩ := q745
  have ne_a_uL : a ≠ uL := Nat.ne_of_lt (Nat.lt_of_lt_of_le E0.lt uq1)
  have ne_x_uL : x ≠ uL := Nat.ne_of_lt (Nat.lt_of_lt_of_le Ex.lt uq1)
  have ge_uL : n0 ≤ uL := Nat.le_trans (O.1 ▸ O.2.1) uq1
  have sz_uL : h.size ≤ uL := Nat.le_trans (Keep.refl h [a]).1 uq1
  have f746 := O.keep uq2 all0
  have f747 := (Keep.refl h [a]).trans uq2 all0
  have f748 := E0.keep uq2
  have f749 := F1.keep uq2 nin0
  have f750 := F2.keep uq2 nin0
  have f751 := Ex.keep uq2
  have f752 := own_AL1_keep uP uq2 nin0 nin0
  have f753 := own_AL0_keep vP uq2 nin0
  show G w _ h743 2 3 9 #[.val (.ref a), .val (.ref ua), .val (.ref va)] [(.ref uL), (.ref a)]
  refine g_putF C (pc' := 12) (ty := (.object "java/util/List")) (wd hw 147 rfl) Via.refl d16_9 rfl f749 f748 (Or.inr ⟨(wd hw 148 rfl), rfl, rfl⟩) (wd hw 114 rfl) (by decide) rfl rfl ga rfl (fun h754 W755 => ?_)
  have f756 := f746.wr W755 ga
  have f757 := f747.wr W755 (Or.inl (List.mem_of_getElem? (i := 0) rfl))
  have f758 := f748.wr W755
  have f759 := f749.same W755
  have f760 := f750.other W755 (Or.inr (slot_ne (Or.inr (wd hw 215 rfl)) (Or.inr (wd hw 148 rfl)) (by decide) (t := (.object "java/util/List")) (t' := (.object "java/util/List")) (by decide) (by decide)))
  have f761 := f751.wr W755
  have f762 := own_AL1_keep f752 (Keep.of_wr W755) (ninS (Ne.symm nau) nin0) (ninS (Ne.symm naue) nin0)
  have f763 := own_AL0_keep f753 (Keep.of_wr W755) (ninS (Ne.symm nav) nin0)
  have f764 := uq3.wr W755
  refine g_aloadN C (pc' := 13) d16_12 rfl rfl rfl ?_
  refine g_aloadN C (pc' := 14) d16_13 rfl rfl rfl ?_
  refine g_callS C (pc' := 17) (k' := 2) (n' := 3) (argsL := [(.ref va)]) (rest := [(.ref a)]) (wd hw 120 rfl) (wd hw 121 rfl) (wd hw 122 rfl) (wd hw 123 rfl) (by decide) d16_14 pd_13 rfl rfl rfl (cpo_0 l Z a0 hw n0 h754 f756 s_DEF s_EL s_EA s_EM cs mr H va vmc  f763) (Nat.le_of_ble_eq_true rfl) (Nat.le_of_ble_eq_true rfl) (Nat.le_of_ble_eq_true rfl) (Nat.le_of_ble_eq_true rfl) rfl rfl rfl (fun v766 h765 q767 => ?_)
  obtain ⟨rfl, eh765⟩ := q767
  subst h765
  show G w _ h754 2 3 17 #[.val (.ref a), .val (.ref ua), .val (.ref va)] [(.ref s_EL), (.ref a)]
  refine g_putF C (pc' := 20) (ty := (.object "java/util/List")) (wd hw 214 rfl) Via.refl d16_17 rfl f760 f758 (Or.inr ⟨(wd hw 215 rfl), rfl, rfl⟩) (wd hw 114 rfl) (by decide) rfl rfl ga rfl (fun h768 W769 => ?_)
  have f770 := f756.wr W769 ga
  have f771 := f757.wr W769 (Or.inl (List.mem_of_getElem? (i := 0) rfl))
  have f772 := f758.wr W769
  have f773 := f759.other W769 (Or.inr (slot_ne (Or.inr (wd hw 148 rfl)) (Or.inr (wd hw 215 rfl)) (by decide) (t := (.object "java/util/List")) (t' := (.object "java/util/List")) (by decide) (by decide)))
  have f774 := f760.same W769
  have f775 := f761.wr W769
  have f776 := own_AL1_keep f762 (Keep.of_wr W769) (ninS (Ne.symm nau) nin0) (ninS (Ne.symm naue) nin0)
  have f777 := own_AL0_keep f763 (Keep.of_wr W769) (ninS (Ne.symm nav) nin0)
  have f778 := f764.wr W769
  exact g_return C d16_20 rfl (Nat.le_of_ble_eq_true rfl) (Nat.le_of_ble_eq_true rfl) (⟨rfl, f771, f772, f774⟩)
set_option maxRecDepth 65536 in
set_option maxHeartbeats 40000000 in
theorem gsI_02 (l : Launch) (Z : State) (a0 : Array Value) (hw : ∀ d ∈ tables_1, d.before a0 Z = true) (n0 : Nat) (h : Heap) (O : Old Z n0 h) (s_DEF : Addr) (s_EL : Addr) (s_EA : Addr) (s_EM : Addr) (cs : Int32) (mr : Addr) (H : En Z s_DEF s_EL s_EA s_EM cs mr) (a x : Addr) (ga : n0 ≤ a) (ua ued : Addr) (ukE : ClassId) (umc : Int32) (va : Addr) (vmc : Int32) (E0 : Exa Z h a "com/example/plumbline/plumbline/Grades") (F1 : Fld Z h a "com/example/plumbline/plumbline/Grades" "area" "Ljava/util/List;" .null) (F2 : Fld Z h a "com/example/plumbline/plumbline/Grades" "total" "Ljava/util/List;" .null) (Ex : Exa Z h x "com/example/plumbline/plumbline/Band") (uP : AL1 Z n0 h ua ued ukE umc (2 : Int32) [(.ref x), (.ref x), .null, .null, .null, .null, .null, .null, .null, .null]) (vP : AL0 Z n0 h va s_DEF vmc) (nau : a ≠ ua) (nav : a ≠ va) (naue : a ≠ ued) : Con l Z (⟨"com/example/plumbline/plumbline/Grades", "<init>", "(Ljava/util/List;Ljava/util/List;)V"⟩ : MethodName) prog_32_method_1_code 3 none ({ frames := 8, cells := 2, slots := 4, locals := 102 } : Room) #[(.ref a), (.ref ua), (.ref va)] h n0 (fun v h' => v = none ∧ Keep h h' [a] ∧ Exa Z h' a "com/example/plumbline/plumbline/Grades" ∧ Fld Z h' a "com/example/plumbline/plumbline/Grades" "total" "Ljava/util/List;" (.ref s_EL)) := by
  refine Con.mk (Ls := #[.val (.ref a), .val (.ref ua), .val (.ref va)]) (plainFor_of_name pn_2) (fun m => by first | (simp [entryFrame, mkF, argsToLocals, Value.category]; done) | rfl) (fun w C => ?_)
  replace C : Cx w l Z "com/example/plumbline/plumbline/Grades" prog_32_method_1_code 3 none "<init>" ({ frames := 8, cells := 2, slots := 4, locals := 102 } : Room) n0 := C
  obtain ⟨S_DEF, E_DEF, V_DEF, S_EL, E_EL, F_EL, V_EA, S_EM, E_EM, S_CS, hcs, MIR⟩ := id H
  obtain ⟨kD, V_DEF⟩ := V_DEF
  obtain ⟨kEA, V_EA⟩ := V_EA
  refine g_aloadN C (pc' := 1) d16_0 rfl rfl rfl ?_
  refine g_initO C (pc' := 4) (wd hw 119 rfl) (wd hw 20 rfl) (wd hw 21 rfl) d16_1 rfl rfl (Nat.le_of_ble_eq_true rfl) (Nat.le_of_ble_eq_true rfl) rfl ?_
  refine g_aloadN C (pc' := 5) d16_4 rfl rfl rfl ?_
  refine g_aloadN C (pc' := 6) d16_5 rfl rfl rfl ?_
  refine g_callS C (pc' := 9) (k' := 2) (n' := 4) (argsL := [(.ref ua)]) (rest := [(.ref a)]) (wd hw 120 rfl) (wd hw 121 rfl) (wd hw 122 rfl) (wd hw 123 rfl) (by decide) d16_6 pd_13 rfl rfl rfl (cpo_2 l Z a0 hw n0 h O s_DEF s_EL s_EA s_EM cs mr H ua ued ukE umc x x Ex Ex uP) (Nat.le_of_ble_eq_true rfl) (Nat.le_of_ble_eq_true rfl) (Nat.le_of_ble_eq_true rfl) (Nat.le_of_ble_eq_true rfl) rfl rfl rfl (fun v780 h779 q781 => ?_)
  obtain ⟨uL, rfl, uq1, uq2, uq3⟩ := q781
  have ne_a_uL : a ≠ uL := Nat.ne_of_lt (Nat.lt_of_lt_of_le E0.lt uq1)
  have ne_x_uL : x ≠ uL := Nat.ne_of_lt (Nat.lt_of_lt_of_le Ex.lt uq1)
  have ge_uL : n0 ≤ uL := Nat.le_trans (O.1 ▸ O.2.1) uq1
  have sz_uL : h.size ≤ uL := Nat.le_trans (Keep.refl h [a]).1 uq1
  have f782 := O.keep uq2 all0
  have f783 := (Keep.refl h [a]).trans uq2 all0
  have f784 := E0.keep uq2
  have f785 := F1.keep uq2 nin0
  have f786 := F2.keep uq2 nin0
  have f787 := Ex.keep uq2
  have f788 := own_AL1_keep uP uq2 nin0 nin0
  have f789 := own_AL0_keep vP uq2 nin0
  show G w _ h779 2 4 9 #[.val (.ref a), .val (.ref ua), .val (.ref va)] [(.ref uL), (.ref a)]
  refine g_putF C (pc' := 12) (ty := (.object "java/util/List")) (wd hw 147 rfl) Via.refl d16_9 rfl f785 f784 (Or.inr ⟨(wd hw 148 rfl), rfl, rfl⟩) (wd hw 114 rfl) (by decide) rfl rfl ga rfl (fun h790 W791 => ?_)
  have f792 := f782.wr W791 ga
  have f793 := f783.wr W791 (Or.inl (List.mem_of_getElem? (i := 0) rfl))
  have f794 := f784.wr W791
  have f795 := f785.same W791
  have f796 := f786.other W791 (Or.inr (slot_ne (Or.inr (wd hw 215 rfl)) (Or.inr (wd hw 148 rfl)) (by decide) (t := (.object "java/util/List")) (t' := (.object "java/util/List")) (by decide) (by decide)))
  have f797 := f787.wr W791
  have f798 := own_AL1_keep f788 (Keep.of_wr W791) (ninS (Ne.symm nau) nin0) (ninS (Ne.symm naue) nin0)
  have f799 := own_AL0_keep f789 (Keep.of_wr W791) (ninS (Ne.symm nav) nin0)
  have f800 := uq3.wr W791
  refine g_aloadN C (pc' := 13) d16_12 rfl rfl rfl ?_
  refine g_aloadN C (pc' := 14) d16_13 rfl rfl rfl ?_
  refine g_callS C (pc' := 17) (k' := 2) (n' := 4) (argsL := [(.ref va)]) (rest := [(.ref a)]) (wd hw 120 rfl) (wd hw 121 rfl) (wd hw 122 rfl) (wd hw 123 rfl) (by decide) d16_14 pd_13 rfl rfl rfl (cpo_0 l Z a0 hw n0 h790 f792 s_DEF s_EL s_EA s_EM cs mr H va vmc  f799) (Nat.le_of_ble_eq_true rfl) (Nat.le_of_ble_eq_true rfl) (Nat.le_of_ble_eq_true rfl) (Nat.le_of_ble_eq_true rfl) rfl rfl rfl (fun v802 h801 q803 => ?_)
  obtain ⟨rfl, eh801⟩ := q803
  subst h801
  show G w _ h790 2 4 17 #[.val (.ref a), .val (.ref ua), .val (.ref va)] [(.ref s_EL), (.ref a)]
  refine g_putF C (pc' := 20) (ty := (.object "java/util/List")) (wd hw 214 rfl) Via.refl d16_17 rfl f796 f794 (Or.inr ⟨(wd hw 215 rfl), rfl, rfl⟩) (wd hw 114 rfl) (by decide) rfl rfl ga rfl (fun h804 W805 => ?_)
  have f806 := f792.wr W805 ga
  have f807 := f793.wr W805 (Or.inl (List.mem_of_getElem? (i := 0) rfl))
  have f808 := f794.wr W805
  have f809 := f795.other W805 (Or.inr (slot_ne (Or.inr (wd hw 148 rfl)) (Or.inr (wd hw 215 rfl)) (by decide) (t := (.object "java/util/List")) (t' := (.object "java/util/List")) (by decide) (by decide)))
  have f810 := f796.same W805
  have f811 := f797.wr W805
  have f812 := own_AL1_keep f798 (Keep.of_wr W805) (ninS (Ne.symm nau) nin0) (ninS (Ne.symm naue) nin0)
  have f813 := own_AL0_keep f799 (Keep.of_wr W805) (ninS (Ne.symm nav) nin0)
  have f814 := f800.wr W805
  exact g_return C d16_20 rfl (Nat.le_of_ble_eq_true rfl) (Nat.le_of_ble_eq_true rfl) (⟨rfl, f807, f808, f810⟩)
set_option maxRecDepth 65536 in
set_option maxHeartbeats 40000000 in
theorem gsI_03 (l : Launch) (Z : State) (a0 : Array Value) (hw : ∀ d ∈ tables_1, d.before a0 Z = true) (n0 : Nat) (h : Heap) (O : Old Z n0 h) (s_DEF : Addr) (s_EL : Addr) (s_EA : Addr) (s_EM : Addr) (cs : Int32) (mr : Addr) (H : En Z s_DEF s_EL s_EA s_EM cs mr) (a x : Addr) (ga : n0 ≤ a) (ua ued : Addr) (ukE : ClassId) (umc : Int32) (va : Addr) (vmc : Int32) (E0 : Exa Z h a "com/example/plumbline/plumbline/Grades") (F1 : Fld Z h a "com/example/plumbline/plumbline/Grades" "area" "Ljava/util/List;" .null) (F2 : Fld Z h a "com/example/plumbline/plumbline/Grades" "total" "Ljava/util/List;" .null) (Ex : Exa Z h x "com/example/plumbline/plumbline/Band") (uP : AL1 Z n0 h ua ued ukE umc (3 : Int32) [(.ref x), (.ref x), (.ref x), .null, .null, .null, .null, .null, .null, .null]) (vP : AL0 Z n0 h va s_DEF vmc) (nau : a ≠ ua) (nav : a ≠ va) (naue : a ≠ ued) : Con l Z (⟨"com/example/plumbline/plumbline/Grades", "<init>", "(Ljava/util/List;Ljava/util/List;)V"⟩ : MethodName) prog_32_method_1_code 3 none ({ frames := 9, cells := 3, slots := 8, locals := 116 } : Room) #[(.ref a), (.ref ua), (.ref va)] h n0 (fun v h' => v = none ∧ Keep h h' [a] ∧ Exa Z h' a "com/example/plumbline/plumbline/Grades" ∧ Fld Z h' a "com/example/plumbline/plumbline/Grades" "total" "Ljava/util/List;" (.ref s_EL)) := by
  refine Con.mk (Ls := #[.val (.ref a), .val (.ref ua), .val (.ref va)]) (plainFor_of_name pn_2) (fun m => by first | (simp [entryFrame, mkF, argsToLocals, Value.category]; done) | rfl) (fun w C => ?_)
  replace C : Cx w l Z "com/example/plumbline/plumbline/Grades" prog_32_method_1_code 3 none "<init>" ({ frames := 9, cells := 3, slots := 8, locals := 116 } : Room) n0 := C
  obtain ⟨S_DEF, E_DEF, V_DEF, S_EL, E_EL, F_EL, V_EA, S_EM, E_EM, S_CS, hcs, MIR⟩ := id H
  obtain ⟨kD, V_DEF⟩ := V_DEF
  obtain ⟨kEA, V_EA⟩ := V_EA
  refine g_aloadN C (pc' := 1) d16_0 rfl rfl rfl ?_
  refine g_initO C (pc' := 4) (wd hw 119 rfl) (wd hw 20 rfl) (wd hw 21 rfl) d16_1 rfl rfl (Nat.le_of_ble_eq_true rfl) (Nat.le_of_ble_eq_true rfl) rfl ?_
  refine g_aloadN C (pc' := 5) d16_4 rfl rfl rfl ?_
  refine g_aloadN C (pc' := 6) d16_5 rfl rfl rfl ?_
  refine g_callS C (pc' := 9) (k' := 3) (n' := 8) (argsL := [(.ref ua)]) (rest := [(.ref a)]) (wd hw 120 rfl) (wd hw 121 rfl) (wd hw 122 rfl) (wd hw 123 rfl) (by decide) d16_6 pd_13 rfl rfl rfl (cpo_3 l Z a0 hw n0 h O s_DEF s_EL s_EA s_EM cs mr H ua ued ukE umc x x x Ex Ex Ex uP) (Nat.le_of_ble_eq_true rfl) (Nat.le_of_ble_eq_true rfl) (Nat.le_of_ble_eq_true rfl) (Nat.le_of_ble_eq_true rfl) rfl rfl rfl (fun v816 h815 q817 => ?_)
  obtain ⟨uL, uar, ukA, rfl, uq1, uq0, uq2, uq3, uq4, uq5⟩ := q817
  have ne_a_uL : a ≠ uL := Nat.ne_of_lt (Nat.lt_of_lt_of_le E0.lt uq1)
  have ne_x_uL : x ≠ uL := Nat.ne_of_lt (Nat.lt_of_lt_of_le Ex.lt uq1)
  have ge_uL : n0 ≤ uL := Nat.le_trans (O.1 ▸ O.2.1) uq1
  have sz_uL : h.size ≤ uL := Nat.le_trans (Keep.refl h [a]).1 uq1
  have ne_a_uar : a ≠ uar := Nat.ne_of_lt (Nat.lt_of_lt_of_le E0.lt uq0)
  have ne_x_uar : x ≠ uar := Nat.ne_of_lt (Nat.lt_of_lt_of_le Ex.lt uq0)
  have ge_uar : n0 ≤ uar := Nat.le_trans (O.1 ▸ O.2.1) uq0
  have sz_uar : h.size ≤ uar := Nat.le_trans (Keep.refl h [a]).1 uq0
  have f818 := O.keep uq2 all0
  have f819 := (Keep.refl h [a]).trans uq2 all0
  have f820 := E0.keep uq2
  have f821 := F1.keep uq2 nin0
  have f822 := F2.keep uq2 nin0
  have f823 := Ex.keep uq2
  have f824 := own_AL1_keep uP uq2 nin0 nin0
  have f825 := own_AL0_keep vP uq2 nin0
  show G w _ h815 3 8 9 #[.val (.ref a), .val (.ref ua), .val (.ref va)] [(.ref uL), (.ref a)]
  refine g_putF C (pc' := 12) (ty := (.object "java/util/List")) (wd hw 147 rfl) Via.refl d16_9 rfl f821 f820 (Or.inr ⟨(wd hw 148 rfl), rfl, rfl⟩) (wd hw 114 rfl) (by decide) rfl rfl ga rfl (fun h826 W827 => ?_)
  have f828 := f818.wr W827 ga
  have f829 := f819.wr W827 (Or.inl (List.mem_of_getElem? (i := 0) rfl))
  have f830 := f820.wr W827
  have f831 := f821.same W827
  have f832 := f822.other W827 (Or.inr (slot_ne (Or.inr (wd hw 215 rfl)) (Or.inr (wd hw 148 rfl)) (by decide) (t := (.object "java/util/List")) (t' := (.object "java/util/List")) (by decide) (by decide)))
  have f833 := f823.wr W827
  have f834 := own_AL1_keep f824 (Keep.of_wr W827) (ninS (Ne.symm nau) nin0) (ninS (Ne.symm naue) nin0)
  have f835 := own_AL0_keep f825 (Keep.of_wr W827) (ninS (Ne.symm nav) nin0)
  have f836 := uq3.wr W827
  have f837 := uq4.other W827 (Or.inl (Ne.symm ne_a_uL))
  have f838 := uq5.other W827 (Ne.symm ne_a_uar)
  refine g_aloadN C (pc' := 13) d16_12 rfl rfl rfl ?_
  refine g_aloadN C (pc' := 14) d16_13 rfl rfl rfl ?_
  refine g_callS C (pc' := 17) (k' := 3) (n' := 8) (argsL := [(.ref va)]) (rest := [(.ref a)]) (wd hw 120 rfl) (wd hw 121 rfl) (wd hw 122 rfl) (wd hw 123 rfl) (by decide) d16_14 pd_13 rfl rfl rfl (cpo_0 l Z a0 hw n0 h826 f828 s_DEF s_EL s_EA s_EM cs mr H va vmc  f835) (Nat.le_of_ble_eq_true rfl) (Nat.le_of_ble_eq_true rfl) (Nat.le_of_ble_eq_true rfl) (Nat.le_of_ble_eq_true rfl) rfl rfl rfl (fun v840 h839 q841 => ?_)
  obtain ⟨rfl, eh839⟩ := q841
  subst h839
  show G w _ h826 3 8 17 #[.val (.ref a), .val (.ref ua), .val (.ref va)] [(.ref s_EL), (.ref a)]
  refine g_putF C (pc' := 20) (ty := (.object "java/util/List")) (wd hw 214 rfl) Via.refl d16_17 rfl f832 f830 (Or.inr ⟨(wd hw 215 rfl), rfl, rfl⟩) (wd hw 114 rfl) (by decide) rfl rfl ga rfl (fun h842 W843 => ?_)
  have f844 := f828.wr W843 ga
  have f845 := f829.wr W843 (Or.inl (List.mem_of_getElem? (i := 0) rfl))
  have f846 := f830.wr W843
  have f847 := f831.other W843 (Or.inr (slot_ne (Or.inr (wd hw 148 rfl)) (Or.inr (wd hw 215 rfl)) (by decide) (t := (.object "java/util/List")) (t' := (.object "java/util/List")) (by decide) (by decide)))
  have f848 := f832.same W843
  have f849 := f833.wr W843
  have f850 := own_AL1_keep f834 (Keep.of_wr W843) (ninS (Ne.symm nau) nin0) (ninS (Ne.symm naue) nin0)
  have f851 := own_AL0_keep f835 (Keep.of_wr W843) (ninS (Ne.symm nav) nin0)
  have f852 := f836.wr W843
  have f853 := f837.other W843 (Or.inl (Ne.symm ne_a_uL))
  have f854 := f838.other W843 (Ne.symm ne_a_uar)
  exact g_return C d16_20 rfl (Nat.le_of_ble_eq_true rfl) (Nat.le_of_ble_eq_true rfl) (⟨rfl, f845, f846, f848⟩)
set_option maxRecDepth 65536 in
set_option maxHeartbeats 40000000 in
theorem gsI_10 (l : Launch) (Z : State) (a0 : Array Value) (hw : ∀ d ∈ tables_1, d.before a0 Z = true) (n0 : Nat) (h : Heap) (O : Old Z n0 h) (s_DEF : Addr) (s_EL : Addr) (s_EA : Addr) (s_EM : Addr) (cs : Int32) (mr : Addr) (H : En Z s_DEF s_EL s_EA s_EM cs mr) (a x : Addr) (ga : n0 ≤ a) (ua : Addr) (umc : Int32) (va ved : Addr) (vkE : ClassId) (vmc : Int32) (E0 : Exa Z h a "com/example/plumbline/plumbline/Grades") (F1 : Fld Z h a "com/example/plumbline/plumbline/Grades" "area" "Ljava/util/List;" .null) (F2 : Fld Z h a "com/example/plumbline/plumbline/Grades" "total" "Ljava/util/List;" .null) (Ex : Exa Z h x "com/example/plumbline/plumbline/Band") (uP : AL0 Z n0 h ua s_DEF umc) (vP : AL1 Z n0 h va ved vkE vmc (1 : Int32) [(.ref x), .null, .null, .null, .null, .null, .null, .null, .null, .null]) (nau : a ≠ ua) (nav : a ≠ va) (nave : a ≠ ved) : Con l Z (⟨"com/example/plumbline/plumbline/Grades", "<init>", "(Ljava/util/List;Ljava/util/List;)V"⟩ : MethodName) prog_32_method_1_code 3 none ({ frames := 8, cells := 2, slots := 3, locals := 101 } : Room) #[(.ref a), (.ref ua), (.ref va)] h n0 (fun v h' => v = none ∧ Keep h h' [a] ∧ Exa Z h' a "com/example/plumbline/plumbline/Grades" ∧ ∃ L, Fld Z h' a "com/example/plumbline/plumbline/Grades" "total" "Ljava/util/List;" (.ref L) ∧ Exa Z h' L "java/util/ImmutableCollections$List12") := by
  refine Con.mk (Ls := #[.val (.ref a), .val (.ref ua), .val (.ref va)]) (plainFor_of_name pn_2) (fun m => by first | (simp [entryFrame, mkF, argsToLocals, Value.category]; done) | rfl) (fun w C => ?_)
  replace C : Cx w l Z "com/example/plumbline/plumbline/Grades" prog_32_method_1_code 3 none "<init>" ({ frames := 8, cells := 2, slots := 3, locals := 101 } : Room) n0 := C
  obtain ⟨S_DEF, E_DEF, V_DEF, S_EL, E_EL, F_EL, V_EA, S_EM, E_EM, S_CS, hcs, MIR⟩ := id H
  obtain ⟨kD, V_DEF⟩ := V_DEF
  obtain ⟨kEA, V_EA⟩ := V_EA
  refine g_aloadN C (pc' := 1) d16_0 rfl rfl rfl ?_
  refine g_initO C (pc' := 4) (wd hw 119 rfl) (wd hw 20 rfl) (wd hw 21 rfl) d16_1 rfl rfl (Nat.le_of_ble_eq_true rfl) (Nat.le_of_ble_eq_true rfl) rfl ?_
  refine g_aloadN C (pc' := 5) d16_4 rfl rfl rfl ?_
  refine g_aloadN C (pc' := 6) d16_5 rfl rfl rfl ?_
  refine g_callS C (pc' := 9) (k' := 0) (n' := 0) (argsL := [(.ref ua)]) (rest := [(.ref a)]) (wd hw 120 rfl) (wd hw 121 rfl) (wd hw 122 rfl) (wd hw 123 rfl) (by decide) d16_6 pd_13 rfl rfl rfl (cpo_0 l Z a0 hw n0 h O s_DEF s_EL s_EA s_EM cs mr H ua umc  uP) (Nat.le_of_ble_eq_true rfl) (Nat.le_of_ble_eq_true rfl) (Nat.le_of_ble_eq_true rfl) (Nat.le_of_ble_eq_true rfl) rfl rfl rfl (fun v856 h855 q857 => ?_)
  obtain ⟨rfl, eh855⟩ := q857
  subst h855
  show G w _ h 0 0 9 #[.val (.ref a), .val (.ref ua), .val (.ref va)] [(.ref s_EL), (.ref a)]
  refine g_putF C (pc' := 12) (ty := (.object "java/util/List")) (wd hw 147 rfl) Via.refl d16_9 rfl F1 E0 (Or.inr ⟨(wd hw 148 rfl), rfl, rfl⟩) (wd hw 114 rfl) (by decide) rfl rfl ga rfl (fun h858 W859 => ?_)
  have f860 := O.wr W859 ga
  have f861 := (Keep.refl h [a]).wr W859 (Or.inl (List.mem_of_getElem? (i := 0) rfl))
  have f862 := E0.wr W859
  have f863 := F1.same W859
  have f864 := F2.other W859 (Or.inr (slot_ne (Or.inr (wd hw 215 rfl)) (Or.inr (wd hw 148 rfl)) (by decide) (t := (.object "java/util/List")) (t' := (.object "java/util/List")) (by decide) (by decide)))
  have f865 := Ex.wr W859
  have f866 := own_AL0_keep uP (Keep.of_wr W859) (ninS (Ne.symm nau) nin0)
  have f867 := own_AL1_keep vP (Keep.of_wr W859) (ninS (Ne.symm nav) nin0) (ninS (Ne.symm nave) nin0)
  refine g_aloadN C (pc' := 13) d16_12 rfl rfl rfl ?_
  refine g_aloadN C (pc' := 14) d16_13 rfl rfl rfl ?_
  refine g_callS C (pc' := 17) (k' := 2) (n' := 3) (argsL := [(.ref va)]) (rest := [(.ref a)]) (wd hw 120 rfl) (wd hw 121 rfl) (wd hw 122 rfl) (wd hw 123 rfl) (by decide) d16_14 pd_13 rfl rfl rfl (cpo_1 l Z a0 hw n0 h858 f860 s_DEF s_EL s_EA s_EM cs mr H va ved vkE vmc x f865 f867) (Nat.le_of_ble_eq_true rfl) (Nat.le_of_ble_eq_true rfl) (Nat.le_of_ble_eq_true rfl) (Nat.le_of_ble_eq_true rfl) rfl rfl rfl (fun v869 h868 q870 => ?_)
  obtain ⟨vL, rfl, vq1, vq2, vq3⟩ := q870
  have ne_a_vL : a ≠ vL := Nat.ne_of_lt (Nat.lt_of_lt_of_le f862.lt vq1)
  have ne_x_vL : x ≠ vL := Nat.ne_of_lt (Nat.lt_of_lt_of_le f865.lt vq1)
  have ge_vL : n0 ≤ vL := Nat.le_trans (f860.1 ▸ f860.2.1) vq1
  have sz_vL : h.size ≤ vL := Nat.le_trans f861.1 vq1
  have f871 := f860.keep vq2 all0
  have f872 := f861.trans vq2 all0
  have f873 := f862.keep vq2
  have f874 := f863.keep vq2 nin0
  have f875 := f864.keep vq2 nin0
  have f876 := f865.keep vq2
  have f877 := own_AL0_keep f866 vq2 nin0
  have f878 := own_AL1_keep f867 vq2 nin0 nin0
  show G w _ h868 2 3 17 #[.val (.ref a), .val (.ref ua), .val (.ref va)] [(.ref vL), (.ref a)]
  refine g_putF C (pc' := 20) (ty := (.object "java/util/List")) (wd hw 214 rfl) Via.refl d16_17 rfl f875 f873 (Or.inr ⟨(wd hw 215 rfl), rfl, rfl⟩) (wd hw 114 rfl) (by decide) rfl rfl ga rfl (fun h879 W880 => ?_)
  have f881 := f871.wr W880 ga
  have f882 := f872.wr W880 (Or.inl (List.mem_of_getElem? (i := 0) rfl))
  have f883 := f873.wr W880
  have f884 := f874.other W880 (Or.inr (slot_ne (Or.inr (wd hw 148 rfl)) (Or.inr (wd hw 215 rfl)) (by decide) (t := (.object "java/util/List")) (t' := (.object "java/util/List")) (by decide) (by decide)))
  have f885 := f875.same W880
  have f886 := f876.wr W880
  have f887 := own_AL0_keep f877 (Keep.of_wr W880) (ninS (Ne.symm nau) nin0)
  have f888 := own_AL1_keep f878 (Keep.of_wr W880) (ninS (Ne.symm nav) nin0) (ninS (Ne.symm nave) nin0)
  have f889 := vq3.wr W880
  exact g_return C d16_20 rfl (Nat.le_of_ble_eq_true rfl) (Nat.le_of_ble_eq_true rfl) (⟨rfl, f882, f883, vL, f885, f889⟩)
set_option maxRecDepth 65536 in
set_option maxHeartbeats 40000000 in
theorem gsI_11 (l : Launch) (Z : State) (a0 : Array Value) (hw : ∀ d ∈ tables_1, d.before a0 Z = true) (n0 : Nat) (h : Heap) (O : Old Z n0 h) (s_DEF : Addr) (s_EL : Addr) (s_EA : Addr) (s_EM : Addr) (cs : Int32) (mr : Addr) (H : En Z s_DEF s_EL s_EA s_EM cs mr) (a x : Addr) (ga : n0 ≤ a) (ua ued : Addr) (ukE : ClassId) (umc : Int32) (va ved : Addr) (vkE : ClassId) (vmc : Int32) (E0 : Exa Z h a "com/example/plumbline/plumbline/Grades") (F1 : Fld Z h a "com/example/plumbline/plumbline/Grades" "area" "Ljava/util/List;" .null) (F2 : Fld Z h a "com/example/plumbline/plumbline/Grades" "total" "Ljava/util/List;" .null) (Ex : Exa Z h x "com/example/plumbline/plumbline/Band") (uP : AL1 Z n0 h ua ued ukE umc (1 : Int32) [(.ref x), .null, .null, .null, .null, .null, .null, .null, .null, .null]) (vP : AL1 Z n0 h va ved vkE vmc (1 : Int32) [(.ref x), .null, .null, .null, .null, .null, .null, .null, .null, .null]) (nau : a ≠ ua) (nav : a ≠ va) (naue : a ≠ ued) (nave : a ≠ ved) : Con l Z (⟨"com/example/plumbline/plumbline/Grades", "<init>", "(Ljava/util/List;Ljava/util/List;)V"⟩ : MethodName) prog_32_method_1_code 3 none ({ frames := 8, cells := 4, slots := 6, locals := 101 } : Room) #[(.ref a), (.ref ua), (.ref va)] h n0 (fun v h' => v = none ∧ Keep h h' [a] ∧ Exa Z h' a "com/example/plumbline/plumbline/Grades" ∧ ∃ L, Fld Z h' a "com/example/plumbline/plumbline/Grades" "total" "Ljava/util/List;" (.ref L) ∧ Exa Z h' L "java/util/ImmutableCollections$List12") := by
  refine Con.mk (Ls := #[.val (.ref a), .val (.ref ua), .val (.ref va)]) (plainFor_of_name pn_2) (fun m => by first | (simp [entryFrame, mkF, argsToLocals, Value.category]; done) | rfl) (fun w C => ?_)
  replace C : Cx w l Z "com/example/plumbline/plumbline/Grades" prog_32_method_1_code 3 none "<init>" ({ frames := 8, cells := 4, slots := 6, locals := 101 } : Room) n0 := C
  obtain ⟨S_DEF, E_DEF, V_DEF, S_EL, E_EL, F_EL, V_EA, S_EM, E_EM, S_CS, hcs, MIR⟩ := id H
  obtain ⟨kD, V_DEF⟩ := V_DEF
  obtain ⟨kEA, V_EA⟩ := V_EA
  refine g_aloadN C (pc' := 1) d16_0 rfl rfl rfl ?_
  refine g_initO C (pc' := 4) (wd hw 119 rfl) (wd hw 20 rfl) (wd hw 21 rfl) d16_1 rfl rfl (Nat.le_of_ble_eq_true rfl) (Nat.le_of_ble_eq_true rfl) rfl ?_
  refine g_aloadN C (pc' := 5) d16_4 rfl rfl rfl ?_
  refine g_aloadN C (pc' := 6) d16_5 rfl rfl rfl ?_
  refine g_callS C (pc' := 9) (k' := 2) (n' := 3) (argsL := [(.ref ua)]) (rest := [(.ref a)]) (wd hw 120 rfl) (wd hw 121 rfl) (wd hw 122 rfl) (wd hw 123 rfl) (by decide) d16_6 pd_13 rfl rfl rfl (cpo_1 l Z a0 hw n0 h O s_DEF s_EL s_EA s_EM cs mr H ua ued ukE umc x Ex uP) (Nat.le_of_ble_eq_true rfl) (Nat.le_of_ble_eq_true rfl) (Nat.le_of_ble_eq_true rfl) (Nat.le_of_ble_eq_true rfl) rfl rfl rfl (fun v891 h890 q892 => ?_)
  obtain ⟨uL, rfl, uq1, uq2, uq3⟩ := q892
  have ne_a_uL : a ≠ uL := Nat.ne_of_lt (Nat.lt_of_lt_of_le E0.lt uq1)
  have ne_x_uL : x ≠ uL := Nat.ne_of_lt (Nat.lt_of_lt_of_le Ex.lt uq1)
  have ge_uL : n0 ≤ uL := Nat.le_trans (O.1 ▸ O.2.1) uq1
  have sz_uL : h.size ≤ uL := Nat.le_trans (Keep.refl h [a]).1 uq1
  have f893 := O.keep uq2 all0
  have f894 := (Keep.refl h [a]).trans uq2 all0
  have f895 := E0.keep uq2
  have f896 := F1.keep uq2 nin0
  have f897 := F2.keep uq2 nin0
  have f898 := Ex.keep uq2
  have f899 := own_AL1_keep uP uq2 nin0 nin0
  have f900 := own_AL1_keep vP uq2 nin0 nin0
  show G w _ h890 2 3 9 #[.val (.ref a), .val (.ref ua), .val (.ref va)] [(.ref uL), (.ref a)]
  refine g_putF C (pc' := 12) (ty := (.object "java/util/List")) (wd hw 147 rfl) Via.refl d16_9 rfl f896 f895 (Or.inr ⟨(wd hw 148 rfl), rfl, rfl⟩) (wd hw 114 rfl) (by decide) rfl rfl ga rfl (fun h901 W902 => ?_)
  have f903 := f893.wr W902 ga
  have f904 := f894.wr W902 (Or.inl (List.mem_of_getElem? (i := 0) rfl))
  have f905 := f895.wr W902
  have f906 := f896.same W902
  have f907 := f897.other W902 (Or.inr (slot_ne (Or.inr (wd hw 215 rfl)) (Or.inr (wd hw 148 rfl)) (by decide) (t := (.object "java/util/List")) (t' := (.object "java/util/List")) (by decide) (by decide)))
  have f908 := f898.wr W902
  have f909 := own_AL1_keep f899 (Keep.of_wr W902) (ninS (Ne.symm nau) nin0) (ninS (Ne.symm naue) nin0)
  have f910 := own_AL1_keep f900 (Keep.of_wr W902) (ninS (Ne.symm nav) nin0) (ninS (Ne.symm nave) nin0)
  have f911 := uq3.wr W902
  refine g_aloadN C (pc' := 13) d16_12 rfl rfl rfl ?_
  refine g_aloadN C (pc' := 14) d16_13 rfl rfl rfl ?_
  refine g_callS C (pc' := 17) (k' := 4) (n' := 6) (argsL := [(.ref va)]) (rest := [(.ref a)]) (wd hw 120 rfl) (wd hw 121 rfl) (wd hw 122 rfl) (wd hw 123 rfl) (by decide) d16_14 pd_13 rfl rfl rfl (cpo_1 l Z a0 hw n0 h901 f903 s_DEF s_EL s_EA s_EM cs mr H va ved vkE vmc x f908 f910) (Nat.le_of_ble_eq_true rfl) (Nat.le_of_ble_eq_true rfl) (Nat.le_of_ble_eq_true rfl) (Nat.le_of_ble_eq_true rfl) rfl rfl rfl (fun v913 h912 q914 => ?_)
  obtain ⟨vL, rfl, vq1, vq2, vq3⟩ := q914
  have ne_a_vL : a ≠ vL := Nat.ne_of_lt (Nat.lt_of_lt_of_le f905.lt vq1)
  have ne_x_vL : x ≠ vL := Nat.ne_of_lt (Nat.lt_of_lt_of_le f908.lt vq1)
  have ne_uL_vL : uL ≠ vL := Nat.ne_of_lt (Nat.lt_of_lt_of_le f911.lt vq1)
  have ge_vL : n0 ≤ vL := Nat.le_trans (f903.1 ▸ f903.2.1) vq1
  have sz_vL : h.size ≤ vL := Nat.le_trans f904.1 vq1
  have f915 := f903.keep vq2 all0
  have f916 := f904.trans vq2 all0
  have f917 := f905.keep vq2
  have f918 := f906.keep vq2 nin0
  have f919 := f907.keep vq2 nin0
  have f920 := f908.keep vq2
  have f921 := own_AL1_keep f909 vq2 nin0 nin0
  have f922 := own_AL1_keep f910 vq2 nin0 nin0
  have f923 := f911.keep vq2
  show G w _ h912 4 6 17 #[.val (.ref a), .val (.ref ua), .val (.ref va)] [(.ref vL), (.ref a)]
  refine g_putF C (pc' := 20) (ty := (.object "java/util/List")) (wd hw 214 rfl) Via.refl d16_17 rfl f919 f917 (Or.inr ⟨(wd hw 215 rfl), rfl, rfl⟩) (wd hw 114 rfl) (by decide) rfl rfl ga rfl (fun h924 W925 => ?_)
  have f926 := f915.wr W925 ga
  have f927 := f916.wr W925 (Or.inl (List.mem_of_getElem? (i := 0) rfl))
  have f928 := f917.wr W925
  have f929 := f918.other W925 (Or.inr (slot_ne (Or.inr (wd hw 148 rfl)) (Or.inr (wd hw 215 rfl)) (by decide) (t := (.object "java/util/List")) (t' := (.object "java/util/List")) (by decide) (by decide)))
  have f930 := f919.same W925
  have f931 := f920.wr W925
  have f932 := own_AL1_keep f921 (Keep.of_wr W925) (ninS (Ne.symm nau) nin0) (ninS (Ne.symm naue) nin0)
  have f933 := own_AL1_keep f922 (Keep.of_wr W925) (ninS (Ne.symm nav) nin0) (ninS (Ne.symm nave) nin0)
  have f934 := f923.wr W925
  have f935 := vq3.wr W925
  exact g_return C d16_20 rfl (Nat.le_of_ble_eq_true rfl) (Nat.le_of_ble_eq_true rfl) (⟨rfl, f927, f928, vL, f930, f935⟩)
set_option maxRecDepth 65536 in
set_option maxHeartbeats 40000000 in
theorem gsI_12 (l : Launch) (Z : State) (a0 : Array Value) (hw : ∀ d ∈ tables_1, d.before a0 Z = true) (n0 : Nat) (h : Heap) (O : Old Z n0 h) (s_DEF : Addr) (s_EL : Addr) (s_EA : Addr) (s_EM : Addr) (cs : Int32) (mr : Addr) (H : En Z s_DEF s_EL s_EA s_EM cs mr) (a x : Addr) (ga : n0 ≤ a) (ua ued : Addr) (ukE : ClassId) (umc : Int32) (va ved : Addr) (vkE : ClassId) (vmc : Int32) (E0 : Exa Z h a "com/example/plumbline/plumbline/Grades") (F1 : Fld Z h a "com/example/plumbline/plumbline/Grades" "area" "Ljava/util/List;" .null) (F2 : Fld Z h a "com/example/plumbline/plumbline/Grades" "total" "Ljava/util/List;" .null) (Ex : Exa Z h x "com/example/plumbline/plumbline/Band") (uP : AL1 Z n0 h ua ued ukE umc (2 : Int32) [(.ref x), (.ref x), .null, .null, .null, .null, .null, .null, .null, .null]) (vP : AL1 Z n0 h va ved vkE vmc (1 : Int32) [(.ref x), .null, .null, .null, .null, .null, .null, .null, .null, .null]) (nau : a ≠ ua) (nav : a ≠ va) (naue : a ≠ ued) (nave : a ≠ ved) : Con l Z (⟨"com/example/plumbline/plumbline/Grades", "<init>", "(Ljava/util/List;Ljava/util/List;)V"⟩ : MethodName) prog_32_method_1_code 3 none ({ frames := 8, cells := 4, slots := 7, locals := 102 } : Room) #[(.ref a), (.ref ua), (.ref va)] h n0 (fun v h' => v = none ∧ Keep h h' [a] ∧ Exa Z h' a "com/example/plumbline/plumbline/Grades" ∧ ∃ L, Fld Z h' a "com/example/plumbline/plumbline/Grades" "total" "Ljava/util/List;" (.ref L) ∧ Exa Z h' L "java/util/ImmutableCollections$List12") := by
  refine Con.mk (Ls := #[.val (.ref a), .val (.ref ua), .val (.ref va)]) (plainFor_of_name pn_2) (fun m => by first | (simp [entryFrame, mkF, argsToLocals, Value.category]; done) | rfl) (fun w C => ?_)
  replace C : Cx w l Z "com/example/plumbline/plumbline/Grades" prog_32_method_1_code 3 none "<init>" ({ frames := 8, cells := 4, slots := 7, locals := 102 } : Room) n0 := C
  obtain ⟨S_DEF, E_DEF, V_DEF, S_EL, E_EL, F_EL, V_EA, S_EM, E_EM, S_CS, hcs, MIR⟩ := id H
  obtain ⟨kD, V_DEF⟩ := V_DEF
  obtain ⟨kEA, V_EA⟩ := V_EA
  refine g_aloadN C (pc' := 1) d16_0 rfl rfl rfl ?_
  refine g_initO C (pc' := 4) (wd hw 119 rfl) (wd hw 20 rfl) (wd hw 21 rfl) d16_1 rfl rfl (Nat.le_of_ble_eq_true rfl) (Nat.le_of_ble_eq_true rfl) rfl ?_
  refine g_aloadN C (pc' := 5) d16_4 rfl rfl rfl ?_
  refine g_aloadN C (pc' := 6) d16_5 rfl rfl rfl ?_
  refine g_callS C (pc' := 9) (k' := 2) (n' := 4) (argsL := [(.ref ua)]) (rest := [(.ref a)]) (wd hw 120 rfl) (wd hw 121 rfl) (wd hw 122 rfl) (wd hw 123 rfl) (by decide) d16_6 pd_13 rfl rfl rfl (cpo_2 l Z a0 hw n0 h O s_DEF s_EL s_EA s_EM cs mr H ua ued ukE umc x x Ex Ex uP) (Nat.le_of_ble_eq_true rfl) (Nat.le_of_ble_eq_true rfl) (Nat.le_of_ble_eq_true rfl) (Nat.le_of_ble_eq_true rfl) rfl rfl rfl (fun v937 h936 q938 => ?_)
  obtain ⟨uL, rfl, uq1, uq2, uq3⟩ := q938
  have ne_a_uL : a ≠ uL := Nat.ne_of_lt (Nat.lt_of_lt_of_le E0.lt uq1)
  have ne_x_uL : x ≠ uL := Nat.ne_of_lt (Nat.lt_of_lt_of_le Ex.lt uq1)
  have ge_uL : n0 ≤ uL := Nat.le_trans (O.1 ▸ O.2.1) uq1
  have sz_uL : h.size ≤ uL := Nat.le_trans (Keep.refl h [a]).1 uq1
  have f939 := O.keep uq2 all0
  have f940 := (Keep.refl h [a]).trans uq2 all0
  have f941 := E0.keep uq2
  have f942 := F1.keep uq2 nin0
  have f943 := F2.keep uq2 nin0
  have f944 := Ex.keep uq2
  have f945 := own_AL1_keep uP uq2 nin0 nin0
  have f946 := own_AL1_keep vP uq2 nin0 nin0
  show G w _ h936 2 4 9 #[.val (.ref a), .val (.ref ua), .val (.ref va)] [(.ref uL), (.ref a)]
  refine g_putF C (pc' := 12) (ty := (.object "java/util/List")) (wd hw 147 rfl) Via.refl d16_9 rfl f942 f941 (Or.inr ⟨(wd hw 148 rfl), rfl, rfl⟩) (wd hw 114 rfl) (by decide) rfl rfl ga rfl (fun h947 W948 => ?_)
  have f949 := f939.wr W948 ga
  have f950 := f940.wr W948 (Or.inl (List.mem_of_getElem? (i := 0) rfl))
  have f951 := f941.wr W948
  have f952 := f942.same W948
  have f953 := f943.other W948 (Or.inr (slot_ne (Or.inr (wd hw 215 rfl)) (Or.inr (wd hw 148 rfl)) (by decide) (t := (.object "java/util/List")) (t' := (.object "java/util/List")) (by decide) (by decide)))
  have f954 := f944.wr W948
  have f955 := own_AL1_keep f945 (Keep.of_wr W948) (ninS (Ne.symm nau) nin0) (ninS (Ne.symm naue) nin0)
  have f956 := own_AL1_keep f946 (Keep.of_wr W948) (ninS (Ne.symm nav) nin0) (ninS (Ne.symm nave) nin0)
  have f957 := uq3.wr W948
  refine g_aloadN C (pc' := 13) d16_12 rfl rfl rfl ?_
  refine g_aloadN C (pc' := 14) d16_13 rfl rfl rfl ?_
  refine g_callS C (pc' := 17) (k' := 4) (n' := 7) (argsL := [(.ref va)]) (rest := [(.ref a)]) (wd hw 120 rfl) (wd hw 121 rfl) (wd hw 122 rfl) (wd hw 123 rfl) (by decide) d16_14 pd_13 rfl rfl rfl (cpo_1 l Z a0 hw n0 h947 f949 s_DEF s_EL s_EA s_EM cs mr H va ved vkE vmc x f954 f956) (Nat.le_of_ble_eq_true rfl) (Nat.le_of_ble_eq_true rfl) (Nat.le_of_ble_eq_true rfl) (Nat.le_of_ble_eq_true rfl) rfl rfl rfl (fun v959 h958 q960 => ?_)
  obtain ⟨vL, rfl, vq1, vq2, vq3⟩ := q960
  have ne_a_vL : a ≠ vL := Nat.ne_of_lt (Nat.lt_of_lt_of_le f951.lt vq1)
  have ne_x_vL : x ≠ vL := Nat.ne_of_lt (Nat.lt_of_lt_of_le f954.lt vq1)
  have ne_uL_vL : uL ≠ vL := Nat.ne_of_lt (Nat.lt_of_lt_of_le f957.lt vq1)
  have ge_vL : n0 ≤ vL := Nat.le_trans (f949.1 ▸ f949.2.1) vq1
  have sz_vL : h.size ≤ vL := Nat.le_trans f950.1 vq1
  have f961 := f949.keep vq2 all0
  have f962 := f950.trans vq2 all0
  have f963 := f951.keep vq2
  have f964 := f952.keep vq2 nin0
  have f965 := f953.keep vq2 nin0
  have f966 := f954.keep vq2
  have f967 := own_AL1_keep f955 vq2 nin0 nin0
  have f968 := own_AL1_keep f956 vq2 nin0 nin0
  have f969 := f957.keep vq2
  show G w _ h958 4 7 17 #[.val (.ref a), .val (.ref ua), .val (.ref va)] [(.ref vL), (.ref a)]
  refine g_putF C (pc' := 20) (ty := (.object "java/util/List")) (wd hw 214 rfl) Via.refl d16_17 rfl f965 f963 (Or.inr ⟨(wd hw 215 rfl), rfl, rfl⟩) (wd hw 114 rfl) (by decide) rfl rfl ga rfl (fun h970 W971 => ?_)
  have f972 := f961.wr W971 ga
  have f973 := f962.wr W971 (Or.inl (List.mem_of_getElem? (i := 0) rfl))
  have f974 := f963.wr W971
  have f975 := f964.other W971 (Or.inr (slot_ne (Or.inr (wd hw 148 rfl)) (Or.inr (wd hw 215 rfl)) (by decide) (t := (.object "java/util/List")) (t' := (.object "java/util/List")) (by decide) (by decide)))
  have f976 := f965.same W971
  have f977 := f966.wr W971
  have f978 := own_AL1_keep f967 (Keep.of_wr W971) (ninS (Ne.symm nau) nin0) (ninS (Ne.symm naue) nin0)
  have f979 := own_AL1_keep f968 (Keep.of_wr W971) (ninS (Ne.symm nav) nin0) (ninS (Ne.symm nave) nin0)
  have f980 := f969.wr W971
  have f981 := vq3.wr W971
  exact g_return C d16_20 rfl (Nat.le_of_ble_eq_true rfl) (Nat.le_of_ble_eq_true rfl) (⟨rfl, f973, f974, vL, f976, f981⟩)
set_option maxRecDepth 65536 in
set_option maxHeartbeats 40000000 in
theorem gsI_13 (l : Launch) (Z : State) (a0 : Array Value) (hw : ∀ d ∈ tables_1, d.before a0 Z = true) (n0 : Nat) (h : Heap) (O : Old Z n0 h) (s_DEF : Addr) (s_EL : Addr) (s_EA : Addr) (s_EM : Addr) (cs : Int32) (mr : Addr) (H : En Z s_DEF s_EL s_EA s_EM cs mr) (a x : Addr) (ga : n0 ≤ a) (ua ued : Addr) (ukE : ClassId) (umc : Int32) (va ved : Addr) (vkE : ClassId) (vmc : Int32) (E0 : Exa Z h a "com/example/plumbline/plumbline/Grades") (F1 : Fld Z h a "com/example/plumbline/plumbline/Grades" "area" "Ljava/util/List;" .null) (F2 : Fld Z h a "com/example/plumbline/plumbline/Grades" "total" "Ljava/util/List;" .null) (Ex : Exa Z h x "com/example/plumbline/plumbline/Band") (uP : AL1 Z n0 h ua ued ukE umc (3 : Int32) [(.ref x), (.ref x), (.ref x), .null, .null, .null, .null, .null, .null, .null]) (vP : AL1 Z n0 h va ved vkE vmc (1 : Int32) [(.ref x), .null, .null, .null, .null, .null, .null, .null, .null, .null]) (nau : a ≠ ua) (nav : a ≠ va) (naue : a ≠ ued) (nave : a ≠ ved) : Con l Z (⟨"com/example/plumbline/plumbline/Grades", "<init>", "(Ljava/util/List;Ljava/util/List;)V"⟩ : MethodName) prog_32_method_1_code 3 none ({ frames := 9, cells := 5, slots := 11, locals := 116 } : Room) #[(.ref a), (.ref ua), (.ref va)] h n0 (fun v h' => v = none ∧ Keep h h' [a] ∧ Exa Z h' a "com/example/plumbline/plumbline/Grades" ∧ ∃ L, Fld Z h' a "com/example/plumbline/plumbline/Grades" "total" "Ljava/util/List;" (.ref L) ∧ Exa Z h' L "java/util/ImmutableCollections$List12") := by
  refine Con.mk (Ls := #[.val (.ref a), .val (.ref ua), .val (.ref va)]) (plainFor_of_name pn_2) (fun m => by first | (simp [entryFrame, mkF, argsToLocals, Value.category]; done) | rfl) (fun w C => ?_)
  replace C : Cx w l Z "com/example/plumbline/plumbline/Grades" prog_32_method_1_code 3 none "<init>" ({ frames := 9, cells := 5, slots := 11, locals := 116 } : Room) n0 := C
  obtain ⟨S_DEF, E_DEF, V_DEF, S_EL, E_EL, F_EL, V_EA, S_EM, E_EM, S_CS, hcs, MIR⟩ := id H
  obtain ⟨kD, V_DEF⟩ := V_DEF
  obtain ⟨kEA, V_EA⟩ := V_EA
  refine g_aloadN C (pc' := 1) d16_0 rfl rfl rfl ?_
  refine g_initO C (pc' := 4) (wd hw 119 rfl) (wd hw 20 rfl) (wd hw 21 rfl) d16_1 rfl rfl (Nat.le_of_ble_eq_true rfl) (Nat.le_of_ble_eq_true rfl) rfl ?_
  refine g_aloadN C (pc' := 5) d16_4 rfl rfl rfl ?_
  refine g_aloadN C (pc' := 6) d16_5 rfl rfl rfl ?_
  refine g_callS C (pc' := 9) (k' := 3) (n' := 8) (argsL := [(.ref ua)]) (rest := [(.ref a)]) (wd hw 120 rfl) (wd hw 121 rfl) (wd hw 122 rfl) (wd hw 123 rfl) (by decide) d16_6 pd_13 rfl rfl rfl (cpo_3 l Z a0 hw n0 h O s_DEF s_EL s_EA s_EM cs mr H ua ued ukE umc x x x Ex Ex Ex uP) (Nat.le_of_ble_eq_true rfl) (Nat.le_of_ble_eq_true rfl) (Nat.le_of_ble_eq_true rfl) (Nat.le_of_ble_eq_true rfl) rfl rfl rfl (fun v983 h982 q984 => ?_)
  obtain ⟨uL, uar, ukA, rfl, uq1, uq0, uq2, uq3, uq4, uq5⟩ := q984
  have ne_a_uL : a ≠ uL := Nat.ne_of_lt (Nat.lt_of_lt_of_le E0.lt uq1)
  have ne_x_uL : x ≠ uL := Nat.ne_of_lt (Nat.lt_of_lt_of_le Ex.lt uq1)
  have ge_uL : n0 ≤ uL := Nat.le_trans (O.1 ▸ O.2.1) uq1
  have sz_uL : h.size ≤ uL := Nat.le_trans (Keep.refl h [a]).1 uq1
  have ne_a_uar : a ≠ uar := Nat.ne_of_lt (Nat.lt_of_lt_of_le E0.lt uq0)
  have ne_x_uar : x ≠ uar := Nat.ne_of_lt (Nat.lt_of_lt_of_le Ex.lt uq0)
  have ge_uar : n0 ≤ uar := Nat.le_trans (O.1 ▸ O.2.1) uq0
  have sz_uar : h.size ≤ uar := Nat.le_trans (Keep.refl h [a]).1 uq0
  have f985 := O.keep uq2 all0
  have f986 := (Keep.refl h [a]).trans uq2 all0
  have f987 := E0.keep uq2
  have f988 := F1.keep uq2 nin0
  have f989 := F2.keep uq2 nin0
  have f990 := Ex.keep uq2
  have f991 := own_AL1_keep uP uq2 nin0 nin0
  have f992 := own_AL1_keep vP uq2 nin0 nin0
  show G w _ h982 3 8 9 #[.val (.ref a), .val (.ref ua), .val (.ref va)] [(.ref uL), (.ref a)]
  refine g_putF C (pc' := 12) (ty := (.object "java/util/List")) (wd hw 147 rfl) Via.refl d16_9 rfl f988 f987 (Or.inr ⟨(wd hw 148 rfl), rfl, rfl⟩) (wd hw 114 rfl) (by decide) rfl rfl ga rfl (fun h993 W994 => ?_)
  have f995 := f985.wr W994 ga
  have f996 := f986.wr W994 (Or.inl (List.mem_of_getElem? (i := 0) rfl))
  have f997 := f987.wr W994
  have f998 := f988.same W994
  have f999 := f989.other W994 (Or.inr (slot_ne (Or.inr (wd hw 215 rfl)) (Or.inr (wd hw 148 rfl)) (by decide) (t := (.object "java/util/List")) (t' := (.object "java/util/List")) (by decide) (by decide)))
  have f1000 := f990.wr W994
  have f1001 := own_AL1_keep f991 (Keep.of_wr W994) (ninS (Ne.symm nau) nin0) (ninS (Ne.symm naue) nin0)
  have f1002 := own_AL1_keep f992 (Keep.of_wr W994) (ninS (Ne.symm nav) nin0) (ninS (Ne.symm nave) nin0)
  have f1003 := uq3.wr W994
  have f1004 := uq4.other W994 (Or.inl (Ne.symm ne_a_uL))
  have f1005 := uq5.other W994 (Ne.symm ne_a_uar)
  refine g_aloadN C (pc' := 13) d16_12 rfl rfl rfl ?_
  refine g_aloadN C (pc' := 14) d16_13 rfl rfl rfl ?_
  refine g_callS C (pc' := 17) (k' := 5) (n' := 11) (argsL := [(.ref va)]) (rest := [(.ref a)]) (wd hw 120 rfl) (wd hw 121 rfl) (wd hw 122 rfl) (wd hw 123 rfl) (by decide) d16_14 pd_13 rfl rfl rfl (cpo_1 l Z a0 hw n0 h993 f995 s_DEF s_EL s_EA s_EM cs mr H va ved vkE vmc x f1000 f1002) (Nat.le_of_ble_eq_true rfl) (Nat.le_of_ble_eq_true rfl) (Nat.le_of_ble_eq_true rfl) (Nat.le_of_ble_eq_true rfl) rfl rfl rfl (fun v1007 h1006 q1008 => ?_)
  obtain ⟨vL, rfl, vq1, vq2, vq3⟩ := q1008
  have ne_a_vL : a ≠ vL := Nat.ne_of_lt (Nat.lt_of_lt_of_le f997.lt vq1)
  have ne_x_vL : x ≠ vL := Nat.ne_of_lt (Nat.lt_of_lt_of_le f1000.lt vq1)
  have ne_uL_vL : uL ≠ vL := Nat.ne_of_lt (Nat.lt_of_lt_of_le f1003.lt vq1)
  have ne_uar_vL : uar ≠ vL := Nat.ne_of_lt (Nat.lt_of_lt_of_le f1005.lt vq1)
  have ge_vL : n0 ≤ vL := Nat.le_trans (f995.1 ▸ f995.2.1) vq1
  have sz_vL : h.size ≤ vL := Nat.le_trans f996.1 vq1
  have f1009 := f995.keep vq2 all0
  have f1010 := f996.trans vq2 all0
  have f1011 := f997.keep vq2
  have f1012 := f998.keep vq2 nin0
  have f1013 := f999.keep vq2 nin0
  have f1014 := f1000.keep vq2
  have f1015 := own_AL1_keep f1001 vq2 nin0 nin0
  have f1016 := own_AL1_keep f1002 vq2 nin0 nin0
  have f1017 := f1003.keep vq2
  have f1018 := f1004.keep vq2 nin0
  have f1019 := f1005.keep vq2 nin0
  show G w _ h1006 5 11 17 #[.val (.ref a), .val (.ref ua), .val (.ref va)] [(.ref vL), (.ref a)]
  refine g_putF C (pc' := 20) (ty := (.object "java/util/List")) (wd hw 214 rfl) Via.refl d16_17 rfl f1013 f1011 (Or.inr ⟨(wd hw 215 rfl), rfl, rfl⟩) (wd hw 114 rfl) (by decide) rfl rfl ga rfl (fun h1020 W1021 => ?_)
  have f1022 := f1009.wr W1021 ga
  have f1023 := f1010.wr W1021 (Or.inl (List.mem_of_getElem? (i := 0) rfl))
  have f1024 := f1011.wr W1021
  have f1025 := f1012.other W1021 (Or.inr (slot_ne (Or.inr (wd hw 148 rfl)) (Or.inr (wd hw 215 rfl)) (by decide) (t := (.object "java/util/List")) (t' := (.object "java/util/List")) (by decide) (by decide)))
  have f1026 := f1013.same W1021
  have f1027 := f1014.wr W1021
  have f1028 := own_AL1_keep f1015 (Keep.of_wr W1021) (ninS (Ne.symm nau) nin0) (ninS (Ne.symm naue) nin0)
  have f1029 := own_AL1_keep f1016 (Keep.of_wr W1021) (ninS (Ne.symm nav) nin0) (ninS (Ne.symm nave) nin0)
  have f1030 := f1017.wr W1021
  have f1031 := f1018.other W1021 (Or.inl (Ne.symm ne_a_uL))
  have f1032 := f1019.other W1021 (Ne.symm ne_a_uar)
  have f1033 := vq3.wr W1021
  exact g_return C d16_20 rfl (Nat.le_of_ble_eq_true rfl) (Nat.le_of_ble_eq_true rfl) (⟨rfl, f1023, f1024, vL, f1026, f1033⟩)
set_option maxRecDepth 65536 in
set_option maxHeartbeats 40000000 in
theorem gsI_20 (l : Launch) (Z : State) (a0 : Array Value) (hw : ∀ d ∈ tables_1, d.before a0 Z = true) (n0 : Nat) (h : Heap) (O : Old Z n0 h) (s_DEF : Addr) (s_EL : Addr) (s_EA : Addr) (s_EM : Addr) (cs : Int32) (mr : Addr) (H : En Z s_DEF s_EL s_EA s_EM cs mr) (a x : Addr) (ga : n0 ≤ a) (ua : Addr) (umc : Int32) (va ved : Addr) (vkE : ClassId) (vmc : Int32) (E0 : Exa Z h a "com/example/plumbline/plumbline/Grades") (F1 : Fld Z h a "com/example/plumbline/plumbline/Grades" "area" "Ljava/util/List;" .null) (F2 : Fld Z h a "com/example/plumbline/plumbline/Grades" "total" "Ljava/util/List;" .null) (Ex : Exa Z h x "com/example/plumbline/plumbline/Band") (uP : AL0 Z n0 h ua s_DEF umc) (vP : AL1 Z n0 h va ved vkE vmc (2 : Int32) [(.ref x), (.ref x), .null, .null, .null, .null, .null, .null, .null, .null]) (nau : a ≠ ua) (nav : a ≠ va) (nave : a ≠ ved) : Con l Z (⟨"com/example/plumbline/plumbline/Grades", "<init>", "(Ljava/util/List;Ljava/util/List;)V"⟩ : MethodName) prog_32_method_1_code 3 none ({ frames := 8, cells := 2, slots := 4, locals := 102 } : Room) #[(.ref a), (.ref ua), (.ref va)] h n0 (fun v h' => v = none ∧ Keep h h' [a] ∧ Exa Z h' a "com/example/plumbline/plumbline/Grades" ∧ ∃ L, Fld Z h' a "com/example/plumbline/plumbline/Grades" "total" "Ljava/util/List;" (.ref L) ∧ Exa Z h' L "java/util/ImmutableCollections$List12") := by
  refine Con.mk (Ls := #[.val (.ref a), .val (.ref ua), .val (.ref va)]) (plainFor_of_name pn_2) (fun m => by first | (simp [entryFrame, mkF, argsToLocals, Value.category]; done) | rfl) (fun w C => ?_)
  replace C : Cx w l Z "com/example/plumbline/plumbline/Grades" prog_32_method_1_code 3 none "<init>" ({ frames := 8, cells := 2, slots := 4, locals := 102 } : Room) n0 := C
  obtain ⟨S_DEF, E_DEF, V_DEF, S_EL, E_EL, F_EL, V_EA, S_EM, E_EM, S_CS, hcs, MIR⟩ := id H
  obtain ⟨kD, V_DEF⟩ := V_DEF
  obtain ⟨kEA, V_EA⟩ := V_EA
  refine g_aloadN C (pc' := 1) d16_0 rfl rfl rfl ?_
  refine g_initO C (pc' := 4) (wd hw 119 rfl) (wd hw 20 rfl) (wd hw 21 rfl) d16_1 rfl rfl (Nat.le_of_ble_eq_true rfl) (Nat.le_of_ble_eq_true rfl) rfl ?_
  refine g_aloadN C (pc' := 5) d16_4 rfl rfl rfl ?_
  refine g_aloadN C (pc' := 6) d16_5 rfl rfl rfl ?_
  refine g_callS C (pc' := 9) (k' := 0) (n' := 0) (argsL := [(.ref ua)]) (rest := [(.ref a)]) (wd hw 120 rfl) (wd hw 121 rfl) (wd hw 122 rfl) (wd hw 123 rfl) (by decide) d16_6 pd_13 rfl rfl rfl (cpo_0 l Z a0 hw n0 h O s_DEF s_EL s_EA s_EM cs mr H ua umc  uP) (Nat.le_of_ble_eq_true rfl) (Nat.le_of_ble_eq_true rfl) (Nat.le_of_ble_eq_true rfl) (Nat.le_of_ble_eq_true rfl) rfl rfl rfl (fun v1035 h1034 q1036 => ?_)
  obtain ⟨rfl, eh1034⟩ := q1036
  subst h1034
  show G w _ h 0 0 9 #[.val (.ref a), .val (.ref ua), .val (.ref va)] [(.ref s_EL), (.ref a)]
  refine g_putF C (pc' := 12) (ty := (.object "java/util/List")) (wd hw 147 rfl) Via.refl d16_9 rfl F1 E0 (Or.inr ⟨(wd hw 148 rfl), rfl, rfl⟩) (wd hw 114 rfl) (by decide) rfl rfl ga rfl (fun h1037 W1038 => ?_)
  have f1039 := O.wr W1038 ga
  have f1040 := (Keep.refl h [a]).wr W1038 (Or.inl (List.mem_of_getElem? (i := 0) rfl))
  have f1041 := E0.wr W1038
  have f1042 := F1.same W1038
  have f1043 := F2.other W1038 (Or.inr (slot_ne (Or.inr (wd hw 215 rfl)) (Or.inr (wd hw 148 rfl)) (by decide) (t := (.object "java/util/List")) (t' := (.object "java/util/List")) (by decide) (by decide)))
  have f1044 := Ex.wr W1038
  have f1045 := own_AL0_keep uP (Keep.of_wr W1038) (ninS (Ne.symm nau) nin0)
  have f1046 := own_AL1_keep vP (Keep.of_wr W1038) (ninS (Ne.symm nav) nin0) (ninS (Ne.symm nave) nin0)
  refine g_aloadN C (pc' := 13) d16_12 rfl rfl rfl ?_
  refine g_aloadN C (pc' := 14) d16_13 rfl rfl rfl ?_
  refine g_callS C (pc' := 17) (k' := 2) (n' := 4) (argsL := [(.ref va)]) (rest := [(.ref a)]) (wd hw 120 rfl) (wd hw 121 rfl) (wd hw 122 rfl) (wd hw 123 rfl) (by decide) d16_14 pd_13 rfl rfl rfl (cpo_2 l Z a0 hw n0 h1037 f1039 s_DEF s_EL s_EA s_EM cs mr H va ved vkE vmc x x f1044 f1044 f1046) (Nat.le_of_ble_eq_true rfl) (Nat.le_of_ble_eq_true rfl) (Nat.le_of_ble_eq_true rfl) (Nat.le_of_ble_eq_true rfl) rfl rfl rfl (fun v1048 h1047 q1049 => ?_)
  obtain ⟨vL, rfl, vq1, vq2, vq3⟩ := q1049
  have ne_a_vL : a ≠ vL := Nat.ne_of_lt (Nat.lt_of_lt_of_le f1041.lt vq1)
  have ne_x_vL : x ≠ vL := Nat.ne_of_lt (Nat.lt_of_lt_of_le f1044.lt vq1)
  have ge_vL : n0 ≤ vL := Nat.le_trans (f1039.1 ▸ f1039.2.1) vq1
  have sz_vL : h.size ≤ vL := Nat.le_trans f1040.1 vq1
  have f1050 := f1039.keep vq2 all0
  have f1051 := f1040.trans vq2 all0
  have f1052 := f1041.keep vq2
  have f1053 := f1042.keep vq2 nin0
  have f1054 := f1043.keep vq2 nin0
  have f1055 := f1044.keep vq2
  have f1056 := own_AL0_keep f1045 vq2 nin0
  have f1057 := own_AL1_keep f1046 vq2 nin0 nin0
  show G w _ h1047 2 4 17 #[.val (.ref a), .val (.ref ua), .val (.ref va)] [(.ref vL), (.ref a)]
  refine g_putF C (pc' := 20) (ty := (.object "java/util/List")) (wd hw 214 rfl) Via.refl d16_17 rfl f1054 f1052 (Or.inr ⟨(wd hw 215 rfl), rfl, rfl⟩) (wd hw 114 rfl) (by decide) rfl rfl ga rfl (fun h1058 W1059 => ?_)
  have f1060 := f1050.wr W1059 ga
  have f1061 := f1051.wr W1059 (Or.inl (List.mem_of_getElem? (i := 0) rfl))
  have f1062 := f1052.wr W1059
  have f1063 := f1053.other W1059 (Or.inr (slot_ne (Or.inr (wd hw 148 rfl)) (Or.inr (wd hw 215 rfl)) (by decide) (t := (.object "java/util/List")) (t' := (.object "java/util/List")) (by decide) (by decide)))
  have f1064 := f1054.same W1059
  have f1065 := f1055.wr W1059
  have f1066 := own_AL0_keep f1056 (Keep.of_wr W1059) (ninS (Ne.symm nau) nin0)
  have f1067 := own_AL1_keep f1057 (Keep.of_wr W1059) (ninS (Ne.symm nav) nin0) (ninS (Ne.symm nave) nin0)
  have f1068 := vq3.wr W1059
  exact g_return C d16_20 rfl (Nat.le_of_ble_eq_true rfl) (Nat.le_of_ble_eq_true rfl) (⟨rfl, f1061, f1062, vL, f1064, f1068⟩)
set_option maxRecDepth 65536 in
set_option maxHeartbeats 40000000 in
theorem gsI_21 (l : Launch) (Z : State) (a0 : Array Value) (hw : ∀ d ∈ tables_1, d.before a0 Z = true) (n0 : Nat) (h : Heap) (O : Old Z n0 h) (s_DEF : Addr) (s_EL : Addr) (s_EA : Addr) (s_EM : Addr) (cs : Int32) (mr : Addr) (H : En Z s_DEF s_EL s_EA s_EM cs mr) (a x : Addr) (ga : n0 ≤ a) (ua ued : Addr) (ukE : ClassId) (umc : Int32) (va ved : Addr) (vkE : ClassId) (vmc : Int32) (E0 : Exa Z h a "com/example/plumbline/plumbline/Grades") (F1 : Fld Z h a "com/example/plumbline/plumbline/Grades" "area" "Ljava/util/List;" .null) (F2 : Fld Z h a "com/example/plumbline/plumbline/Grades" "total" "Ljava/util/List;" .null) (Ex : Exa Z h x "com/example/plumbline/plumbline/Band") (uP : AL1 Z n0 h ua ued ukE umc (1 : Int32) [(.ref x), .null, .null, .null, .null, .null, .null, .null, .null, .null]) (vP : AL1 Z n0 h va ved vkE vmc (2 : Int32) [(.ref x), (.ref x), .null, .null, .null, .null, .null, .null, .null, .null]) (nau : a ≠ ua) (nav : a ≠ va) (naue : a ≠ ued) (nave : a ≠ ved) : Con l Z (⟨"com/example/plumbline/plumbline/Grades", "<init>", "(Ljava/util/List;Ljava/util/List;)V"⟩ : MethodName) prog_32_method_1_code 3 none ({ frames := 8, cells := 4, slots := 7, locals := 102 } : Room) #[(.ref a), (.ref ua), (.ref va)] h n0 (fun v h' => v = none ∧ Keep h h' [a] ∧ Exa Z h' a "com/example/plumbline/plumbline/Grades" ∧ ∃ L, Fld Z h' a "com/example/plumbline/plumbline/Grades" "total" "Ljava/util/List;" (.ref L) ∧ Exa Z h' L "java/util/ImmutableCollections$List12") := by
  refine Con.mk (Ls := #[.val (.ref a), .val (.ref ua), .val (.ref va)]) (plainFor_of_name pn_2) (fun m => by first | (simp [entryFrame, mkF, argsToLocals, Value.category]; done) | rfl) (fun w C => ?_)
  replace C : Cx w l Z "com/example/plumbline/plumbline/Grades" prog_32_method_1_code 3 none "<init>" ({ frames := 8, cells := 4, slots := 7, locals := 102 } : Room) n0 := C
  obtain ⟨S_DEF, E_DEF, V_DEF, S_EL, E_EL, F_EL, V_EA, S_EM, E_EM, S_CS, hcs, MIR⟩ := id H
  obtain ⟨kD, V_DEF⟩ := V_DEF
  obtain ⟨kEA, V_EA⟩ := V_EA
  refine g_aloadN C (pc' := 1) d16_0 rfl rfl rfl ?_
  refine g_initO C (pc' := 4) (wd hw 119 rfl) (wd hw 20 rfl) (wd hw 21 rfl) d16_1 rfl rfl (Nat.le_of_ble_eq_true rfl) (Nat.le_of_ble_eq_true rfl) rfl ?_
  refine g_aloadN C (pc' := 5) d16_4 rfl rfl rfl ?_
  refine g_aloadN C (pc' := 6) d16_5 rfl rfl rfl ?_
  refine g_callS C (pc' := 9) (k' := 2) (n' := 3) (argsL := [(.ref ua)]) (rest := [(.ref a)]) (wd hw 120 rfl) (wd hw 121 rfl) (wd hw 122 rfl) (wd hw 123 rfl) (by decide) d16_6 pd_13 rfl rfl rfl (cpo_1 l Z a0 hw n0 h O s_DEF s_EL s_EA s_EM cs mr H ua ued ukE umc x Ex uP) (Nat.le_of_ble_eq_true rfl) (Nat.le_of_ble_eq_true rfl) (Nat.le_of_ble_eq_true rfl) (Nat.le_of_ble_eq_true rfl) rfl rfl rfl (fun v1070 h1069 q1071 => ?_)
  obtain ⟨uL, rfl, uq1, uq2, uq3⟩ := q1071
  have ne_a_uL : a ≠ uL := Nat.ne_of_lt (Nat.lt_of_lt_of_le E0.lt uq1)
  have ne_x_uL : x ≠ uL := Nat.ne_of_lt (Nat.lt_of_lt_of_le Ex.lt uq1)
  have ge_uL : n0 ≤ uL := Nat.le_trans (O.1 ▸ O.2.1) uq1
  have sz_uL : h.size ≤ uL := Nat.le_trans (Keep.refl h [a]).1 uq1
  have f1072 := O.keep uq2 all0
  have f1073 := (Keep.refl h [a]).trans uq2 all0
  have f1074 := E0.keep uq2
  have f1075 := F1.keep uq2 nin0
  have f1076 := F2.keep uq2 nin0
  have f1077 := Ex.keep uq2
  have f1078 := own_AL1_keep uP uq2 nin0 nin0
  have f1079 := own_AL1_keep vP uq2 nin0 nin0
  show G w _ h1069 2 3 9 #[.val (.ref a), .val (.ref ua), .val (.ref va)] [(.ref uL), (.ref a)]
  refine g_putF C (pc' := 12) (ty := (.object "java/util/List")) (wd hw 147 rfl) Via.refl d16_9 rfl f1075 f1074 (Or.inr ⟨(wd hw 148 rfl), rfl, rfl⟩) (wd hw 114 rfl) (by decide) rfl rfl ga rfl (fun h1080 W1081 => ?_)
  have f1082 := f1072.wr W1081 ga
  have f1083 := f1073.wr W1081 (Or.inl (List.mem_of_getElem? (i := 0) rfl))
  have f1084 := f1074.wr W1081
  have f1085 := f1075.same W1081
  have f1086 := f1076.other W1081 (Or.inr (slot_ne (Or.inr (wd hw 215 rfl)) (Or.inr (wd hw 148 rfl)) (by decide) (t := (.object "java/util/List")) (t' := (.object "java/util/List")) (by decide) (by decide)))
  have f1087 := f1077.wr W1081
  have f1088 := own_AL1_keep f1078 (Keep.of_wr W1081) (ninS (Ne.symm nau) nin0) (ninS (Ne.symm naue) nin0)
  have f1089 := own_AL1_keep f1079 (Keep.of_wr W1081) (ninS (Ne.symm nav) nin0) (ninS (Ne.symm nave) nin0)
  have f1090 := uq3.wr W1081
  refine g_aloadN C (pc' := 13) d16_12 rfl rfl rfl ?_
  refine g_aloadN C (pc' := 14) d16_13 rfl rfl rfl ?_
  refine g_callS C (pc' := 17) (k' := 4) (n' := 7) (argsL := [(.ref va)]) (rest := [(.ref a)]) (wd hw 120 rfl) (wd hw 121 rfl) (wd hw 122 rfl) (wd hw 123 rfl) (by decide) d16_14 pd_13 rfl rfl rfl (cpo_2 l Z a0 hw n0 h1080 f1082 s_DEF s_EL s_EA s_EM cs mr H va ved vkE vmc x x f1087 f1087 f1089) (Nat.le_of_ble_eq_true rfl) (Nat.le_of_ble_eq_true rfl) (Nat.le_of_ble_eq_true rfl) (Nat.le_of_ble_eq_true rfl) rfl rfl rfl (fun v1092 h1091 q1093 => ?_)
  obtain ⟨vL, rfl, vq1, vq2, vq3⟩ := q1093
  have ne_a_vL : a ≠ vL := Nat.ne_of_lt (Nat.lt_of_lt_of_le f1084.lt vq1)
  have ne_x_vL : x ≠ vL := Nat.ne_of_lt (Nat.lt_of_lt_of_le f1087.lt vq1)
  have ne_uL_vL : uL ≠ vL := Nat.ne_of_lt (Nat.lt_of_lt_of_le f1090.lt vq1)
  have ge_vL : n0 ≤ vL := Nat.le_trans (f1082.1 ▸ f1082.2.1) vq1
  have sz_vL : h.size ≤ vL := Nat.le_trans f1083.1 vq1
  have f1094 := f1082.keep vq2 all0
  have f1095 := f1083.trans vq2 all0
  have f1096 := f1084.keep vq2
  have f1097 := f1085.keep vq2 nin0
  have f1098 := f1086.keep vq2 nin0
  have f1099 := f1087.keep vq2
  have f1100 := own_AL1_keep f1088 vq2 nin0 nin0
  have f1101 := own_AL1_keep f1089 vq2 nin0 nin0
  have f1102 := f1090.keep vq2
  show G w _ h1091 4 7 17 #[.val (.ref a), .val (.ref ua), .val (.ref va)] [(.ref vL), (.ref a)]
  refine g_putF C (pc' := 20) (ty := (.object "java/util/List")) (wd hw 214 rfl) Via.refl d16_17 rfl f1098 f1096 (Or.inr ⟨(wd hw 215 rfl), rfl, rfl⟩) (wd hw 114 rfl) (by decide) rfl rfl ga rfl (fun h1103 W1104 => ?_)
  have f1105 := f1094.wr W1104 ga
  have f1106 := f1095.wr W1104 (Or.inl (List.mem_of_getElem? (i := 0) rfl))
  have f1107 := f1096.wr W1104
  have f1108 := f1097.other W1104 (Or.inr (slot_ne (Or.inr (wd hw 148 rfl)) (Or.inr (wd hw 215 rfl)) (by decide) (t := (.object "java/util/List")) (t' := (.object "java/util/List")) (by decide) (by decide)))
  have f1109 := f1098.same W1104
  have f1110 := f1099.wr W1104
  have f1111 := own_AL1_keep f1100 (Keep.of_wr W1104) (ninS (Ne.symm nau) nin0) (ninS (Ne.symm naue) nin0)
  have f1112 := own_AL1_keep f1101 (Keep.of_wr W1104) (ninS (Ne.symm nav) nin0) (ninS (Ne.symm nave) nin0)
  have f1113 := f1102.wr W1104
  have f1114 := vq3.wr W1104
  exact g_return C d16_20 rfl (Nat.le_of_ble_eq_true rfl) (Nat.le_of_ble_eq_true rfl) (⟨rfl, f1106, f1107, vL, f1109, f1114⟩)
set_option maxRecDepth 65536 in
set_option maxHeartbeats 40000000 in
theorem gsI_22 (l : Launch) (Z : State) (a0 : Array Value) (hw : ∀ d ∈ tables_1, d.before a0 Z = true) (n0 : Nat) (h : Heap) (O : Old Z n0 h) (s_DEF : Addr) (s_EL : Addr) (s_EA : Addr) (s_EM : Addr) (cs : Int32) (mr : Addr) (H : En Z s_DEF s_EL s_EA s_EM cs mr) (a x : Addr) (ga : n0 ≤ a) (ua ued : Addr) (ukE : ClassId) (umc : Int32) (va ved : Addr) (vkE : ClassId) (vmc : Int32) (E0 : Exa Z h a "com/example/plumbline/plumbline/Grades") (F1 : Fld Z h a "com/example/plumbline/plumbline/Grades" "area" "Ljava/util/List;" .null) (F2 : Fld Z h a "com/example/plumbline/plumbline/Grades" "total" "Ljava/util/List;" .null) (Ex : Exa Z h x "com/example/plumbline/plumbline/Band") (uP : AL1 Z n0 h ua ued ukE umc (2 : Int32) [(.ref x), (.ref x), .null, .null, .null, .null, .null, .null, .null, .null]) (vP : AL1 Z n0 h va ved vkE vmc (2 : Int32) [(.ref x), (.ref x), .null, .null, .null, .null, .null, .null, .null, .null]) (nau : a ≠ ua) (nav : a ≠ va) (naue : a ≠ ued) (nave : a ≠ ved) : Con l Z (⟨"com/example/plumbline/plumbline/Grades", "<init>", "(Ljava/util/List;Ljava/util/List;)V"⟩ : MethodName) prog_32_method_1_code 3 none ({ frames := 8, cells := 4, slots := 8, locals := 102 } : Room) #[(.ref a), (.ref ua), (.ref va)] h n0 (fun v h' => v = none ∧ Keep h h' [a] ∧ Exa Z h' a "com/example/plumbline/plumbline/Grades" ∧ ∃ L, Fld Z h' a "com/example/plumbline/plumbline/Grades" "total" "Ljava/util/List;" (.ref L) ∧ Exa Z h' L "java/util/ImmutableCollections$List12") := by
  refine Con.mk (Ls := #[.val (.ref a), .val (.ref ua), .val (.ref va)]) (plainFor_of_name pn_2) (fun m => by first | (simp [entryFrame, mkF, argsToLocals, Value.category]; done) | rfl) (fun w C => ?_)
  replace C : Cx w l Z "com/example/plumbline/plumbline/Grades" prog_32_method_1_code 3 none "<init>" ({ frames := 8, cells := 4, slots := 8, locals := 102 } : Room) n0 := C
  obtain ⟨S_DEF, E_DEF, V_DEF, S_EL, E_EL, F_EL, V_EA, S_EM, E_EM, S_CS, hcs, MIR⟩ := id H
  obtain ⟨kD, V_DEF⟩ := V_DEF
  obtain ⟨kEA, V_EA⟩ := V_EA
  refine g_aloadN C (pc' := 1) d16_0 rfl rfl rfl ?_
  refine g_initO C (pc' := 4) (wd hw 119 rfl) (wd hw 20 rfl) (wd hw 21 rfl) d16_1 rfl rfl (Nat.le_of_ble_eq_true rfl) (Nat.le_of_ble_eq_true rfl) rfl ?_
  refine g_aloadN C (pc' := 5) d16_4 rfl rfl rfl ?_
  refine g_aloadN C (pc' := 6) d16_5 rfl rfl rfl ?_
  refine g_callS C (pc' := 9) (k' := 2) (n' := 4) (argsL := [(.ref ua)]) (rest := [(.ref a)]) (wd hw 120 rfl) (wd hw 121 rfl) (wd hw 122 rfl) (wd hw 123 rfl) (by decide) d16_6 pd_13 rfl rfl rfl (cpo_2 l Z a0 hw n0 h O s_DEF s_EL s_EA s_EM cs mr H ua ued ukE umc x x Ex Ex uP) (Nat.le_of_ble_eq_true rfl) (Nat.le_of_ble_eq_true rfl) (Nat.le_of_ble_eq_true rfl) (Nat.le_of_ble_eq_true rfl) rfl rfl rfl (fun v1116 h1115 q1117 => ?_)
  obtain ⟨uL, rfl, uq1, uq2, uq3⟩ := q1117
  have ne_a_uL : a ≠ uL := Nat.ne_of_lt (Nat.lt_of_lt_of_le E0.lt uq1)
  have ne_x_uL : x ≠ uL := Nat.ne_of_lt (Nat.lt_of_lt_of_le Ex.lt uq1)
  have ge_uL : n0 ≤ uL := Nat.le_trans (O.1 ▸ O.2.1) uq1
  have sz_uL : h.size ≤ uL := Nat.le_trans (Keep.refl h [a]).1 uq1
  have f1118 := O.keep uq2 all0
  have f1119 := (Keep.refl h [a]).trans uq2 all0
  have f1120 := E0.keep uq2
  have f1121 := F1.keep uq2 nin0
  have f1122 := F2.keep uq2 nin0
  have f1123 := Ex.keep uq2
  have f1124 := own_AL1_keep uP uq2 nin0 nin0
  have f1125 := own_AL1_keep vP uq2 nin0 nin0
  show G w _ h1115 2 4 9 #[.val (.ref a), .val (.ref ua), .val (.ref va)] [(.ref uL), (.ref a)]
  refine g_putF C (pc' := 12) (ty := (.object "java/util/List")) (wd hw 147 rfl) Via.refl d16_9 rfl f1121 f1120 (Or.inr ⟨(wd hw 148 rfl), rfl, rfl⟩) (wd hw 114 rfl) (by decide) rfl rfl ga rfl (fun h1126 W1127 => ?_)
  have f1128 := f1118.wr W1127 ga
  have f1129 := f1119.wr W1127 (Or.inl (List.mem_of_getElem? (i := 0) rfl))
  have f1130 := f1120.wr W1127
  have f1131 := f1121.same W1127
  have f1132 := f1122.other W1127 (Or.inr (slot_ne (Or.inr (wd hw 215 rfl)) (Or.inr (wd hw 148 rfl)) (by decide) (t := (.object "java/util/List")) (t' := (.object "java/util/List")) (by decide) (by decide)))
  have f1133 := f1123.wr W1127
  have f1134 := own_AL1_keep f1124 (Keep.of_wr W1127) (ninS (Ne.symm nau) nin0) (ninS (Ne.symm naue) nin0)
  have f1135 := own_AL1_keep f1125 (Keep.of_wr W1127) (ninS (Ne.symm nav) nin0) (ninS (Ne.symm nave) nin0)
  have f1136 := uq3.wr W1127
  refine g_aloadN C (pc' := 13) d16_12 rfl rfl rfl ?_
  refine g_aloadN C (pc' := 14) d16_13 rfl rfl rfl ?_
  refine g_callS C (pc' := 17) (k' := 4) (n' := 8) (argsL := [(.ref va)]) (rest := [(.ref a)]) (wd hw 120 rfl) (wd hw 121 rfl) (wd hw 122 rfl) (wd hw 123 rfl) (by decide) d16_14 pd_13 rfl rfl rfl (cpo_2 l Z a0 hw n0 h1126 f1128 s_DEF s_EL s_EA s_EM cs mr H va ved vkE vmc x x f1133 f1133 f1135) (Nat.le_of_ble_eq_true rfl) (Nat.le_of_ble_eq_true rfl) (Nat.le_of_ble_eq_true rfl) (Nat.le_of_ble_eq_true rfl) rfl rfl rfl (fun v1138 h1137 q1139 => ?_)
  obtain ⟨vL, rfl, vq1, vq2, vq3⟩ := q1139
  have ne_a_vL : a ≠ vL := Nat.ne_of_lt (Nat.lt_of_lt_of_le f1130.lt vq1)
  have ne_x_vL : x ≠ vL := Nat.ne_of_lt (Nat.lt_of_lt_of_le f1133.lt vq1)
  have ne_uL_vL : uL ≠ vL := Nat.ne_of_lt (Nat.lt_of_lt_of_le f1136.lt vq1)
  have ge_vL : n0 ≤ vL := Nat.le_trans (f1128.1 ▸ f1128.2.1) vq1
  have sz_vL : h.size ≤ vL := Nat.le_trans f1129.1 vq1
  have f1140 := f1128.keep vq2 all0
  have f1141 := f1129.trans vq2 all0
  have f1142 := f1130.keep vq2
  have f1143 := f1131.keep vq2 nin0
  have f1144 := f1132.keep vq2 nin0
  have f1145 := f1133.keep vq2
  have f1146 := own_AL1_keep f1134 vq2 nin0 nin0
  have f1147 := own_AL1_keep f1135 vq2 nin0 nin0
  have f1148 := f1136.keep vq2
  show G w _ h1137 4 8 17 #[.val (.ref a), .val (.ref ua), .val (.ref va)] [(.ref vL), (.ref a)]
  refine g_putF C (pc' := 20) (ty := (.object "java/util/List")) (wd hw 214 rfl) Via.refl d16_17 rfl f1144 f1142 (Or.inr ⟨(wd hw 215 rfl), rfl, rfl⟩) (wd hw 114 rfl) (by decide) rfl rfl ga rfl (fun h1149 W1150 => ?_)
  have f1151 := f1140.wr W1150 ga
  have f1152 := f1141.wr W1150 (Or.inl (List.mem_of_getElem? (i := 0) rfl))
  have f1153 := f1142.wr W1150
  have f1154 := f1143.other W1150 (Or.inr (slot_ne (Or.inr (wd hw 148 rfl)) (Or.inr (wd hw 215 rfl)) (by decide) (t := (.object "java/util/List")) (t' := (.object "java/util/List")) (by decide) (by decide)))
  have f1155 := f1144.same W1150
  have f1156 := f1145.wr W1150
  have f1157 := own_AL1_keep f1146 (Keep.of_wr W1150) (ninS (Ne.symm nau) nin0) (ninS (Ne.symm naue) nin0)
  have f1158 := own_AL1_keep f1147 (Keep.of_wr W1150) (ninS (Ne.symm nav) nin0) (ninS (Ne.symm nave) nin0)
  have f1159 := f1148.wr W1150
  have f1160 := vq3.wr W1150
  exact g_return C d16_20 rfl (Nat.le_of_ble_eq_true rfl) (Nat.le_of_ble_eq_true rfl) (⟨rfl, f1152, f1153, vL, f1155, f1160⟩)
set_option maxRecDepth 65536 in
set_option maxHeartbeats 40000000 in
theorem gsI_23 (l : Launch) (Z : State) (a0 : Array Value) (hw : ∀ d ∈ tables_1, d.before a0 Z = true) (n0 : Nat) (h : Heap) (O : Old Z n0 h) (s_DEF : Addr) (s_EL : Addr) (s_EA : Addr) (s_EM : Addr) (cs : Int32) (mr : Addr) (H : En Z s_DEF s_EL s_EA s_EM cs mr) (a x : Addr) (ga : n0 ≤ a) (ua ued : Addr) (ukE : ClassId) (umc : Int32) (va ved : Addr) (vkE : ClassId) (vmc : Int32) (E0 : Exa Z h a "com/example/plumbline/plumbline/Grades") (F1 : Fld Z h a "com/example/plumbline/plumbline/Grades" "area" "Ljava/util/List;" .null) (F2 : Fld Z h a "com/example/plumbline/plumbline/Grades" "total" "Ljava/util/List;" .null) (Ex : Exa Z h x "com/example/plumbline/plumbline/Band") (uP : AL1 Z n0 h ua ued ukE umc (3 : Int32) [(.ref x), (.ref x), (.ref x), .null, .null, .null, .null, .null, .null, .null]) (vP : AL1 Z n0 h va ved vkE vmc (2 : Int32) [(.ref x), (.ref x), .null, .null, .null, .null, .null, .null, .null, .null]) (nau : a ≠ ua) (nav : a ≠ va) (naue : a ≠ ued) (nave : a ≠ ved) : Con l Z (⟨"com/example/plumbline/plumbline/Grades", "<init>", "(Ljava/util/List;Ljava/util/List;)V"⟩ : MethodName) prog_32_method_1_code 3 none ({ frames := 9, cells := 5, slots := 12, locals := 116 } : Room) #[(.ref a), (.ref ua), (.ref va)] h n0 (fun v h' => v = none ∧ Keep h h' [a] ∧ Exa Z h' a "com/example/plumbline/plumbline/Grades" ∧ ∃ L, Fld Z h' a "com/example/plumbline/plumbline/Grades" "total" "Ljava/util/List;" (.ref L) ∧ Exa Z h' L "java/util/ImmutableCollections$List12") := by
  refine Con.mk (Ls := #[.val (.ref a), .val (.ref ua), .val (.ref va)]) (plainFor_of_name pn_2) (fun m => by first | (simp [entryFrame, mkF, argsToLocals, Value.category]; done) | rfl) (fun w C => ?_)
  replace C : Cx w l Z "com/example/plumbline/plumbline/Grades" prog_32_method_1_code 3 none "<init>" ({ frames := 9, cells := 5, slots := 12, locals := 116 } : Room) n0 := C
  obtain ⟨S_DEF, E_DEF, V_DEF, S_EL, E_EL, F_EL, V_EA, S_EM, E_EM, S_CS, hcs, MIR⟩ := id H
  obtain ⟨kD, V_DEF⟩ := V_DEF
  obtain ⟨kEA, V_EA⟩ := V_EA
  refine g_aloadN C (pc' := 1) d16_0 rfl rfl rfl ?_
  refine g_initO C (pc' := 4) (wd hw 119 rfl) (wd hw 20 rfl) (wd hw 21 rfl) d16_1 rfl rfl (Nat.le_of_ble_eq_true rfl) (Nat.le_of_ble_eq_true rfl) rfl ?_
  refine g_aloadN C (pc' := 5) d16_4 rfl rfl rfl ?_
  refine g_aloadN C (pc' := 6) d16_5 rfl rfl rfl ?_
  refine g_callS C (pc' := 9) (k' := 3) (n' := 8) (argsL := [(.ref ua)]) (rest := [(.ref a)]) (wd hw 120 rfl) (wd hw 121 rfl) (wd hw 122 rfl) (wd hw 123 rfl) (by decide) d16_6 pd_13 rfl rfl rfl (cpo_3 l Z a0 hw n0 h O s_DEF s_EL s_EA s_EM cs mr H ua ued ukE umc x x x Ex Ex Ex uP) (Nat.le_of_ble_eq_true rfl) (Nat.le_of_ble_eq_true rfl) (Nat.le_of_ble_eq_true rfl) (Nat.le_of_ble_eq_true rfl) rfl rfl rfl (fun v1162 h1161 q1163 => ?_)
  obtain ⟨uL, uar, ukA, rfl, uq1, uq0, uq2, uq3, uq4, uq5⟩ := q1163
  have ne_a_uL : a ≠ uL := Nat.ne_of_lt (Nat.lt_of_lt_of_le E0.lt uq1)
  have ne_x_uL : x ≠ uL := Nat.ne_of_lt (Nat.lt_of_lt_of_le Ex.lt uq1)
  have ge_uL : n0 ≤ uL := Nat.le_trans (O.1 ▸ O.2.1) uq1
  have sz_uL : h.size ≤ uL := Nat.le_trans (Keep.refl h [a]).1 uq1
  have ne_a_uar : a ≠ uar := Nat.ne_of_lt (Nat.lt_of_lt_of_le E0.lt uq0)
  have ne_x_uar : x ≠ uar := Nat.ne_of_lt (Nat.lt_of_lt_of_le Ex.lt uq0)
  have ge_uar : n0 ≤ uar := Nat.le_trans (O.1 ▸ O.2.1) uq0
  have sz_uar : h.size ≤ uar := Nat.le_trans (Keep.refl h [a]).1 uq0
  have f1164 := O.keep uq2 all0
  have f1165 := (Keep.refl h [a]).trans uq2 all0
  have f1166 := E0.keep uq2
  have f1167 := F1.keep uq2 nin0
  have f1168 := F2.keep uq2 nin0
  have f1169 := Ex.keep uq2
  have f1170 := own_AL1_keep uP uq2 nin0 nin0
  have f1171 := own_AL1_keep vP uq2 nin0 nin0
  show G w _ h1161 3 8 9 #[.val (.ref a), .val (.ref ua), .val (.ref va)] [(.ref uL), (.ref a)]
  refine g_putF C (pc' := 12) (ty := (.object "java/util/List")) (wd hw 147 rfl) Via.refl d16_9 rfl f1167 f1166 (Or.inr ⟨(wd hw 148 rfl), rfl, rfl⟩) (wd hw 114 rfl) (by decide) rfl rfl ga rfl (fun h1172 W1173 => ?_)
  have f1174 := f1164.wr W1173 ga
  have f1175 := f1165.wr W1173 (Or.inl (List.mem_of_getElem? (i := 0) rfl))
  have f1176 := f1166.wr W1173
  have f1177 := f1167.same W1173
  have f1178 := f1168.other W1173 (Or.inr (slot_ne (Or.inr (wd hw 215 rfl)) (Or.inr (wd hw 148 rfl)) (by decide) (t := (.object "java/util/List")) (t' := (.object "java/util/List")) (by decide) (by decide)))
  have f1179 := f1169.wr W1173
  have f1180 := own_AL1_keep f1170 (Keep.of_wr W1173) (ninS (Ne.symm nau) nin0) (ninS (Ne.symm naue) nin0)
  have f1181 := own_AL1_keep f1171 (Keep.of_wr W1173) (ninS (Ne.symm nav) nin0) (ninS (Ne.symm nave) nin0)
  have f1182 := uq3.wr W1173
  have f1183 := uq4.other W1173 (Or.inl (Ne.symm ne_a_uL))
  have f1184 := uq5.other W1173 (Ne.symm ne_a_uar)
  refine g_aloadN C (pc' := 13) d16_12 rfl rfl rfl ?_
  refine g_aloadN C (pc' := 14) d16_13 rfl rfl rfl ?_
  refine g_callS C (pc' := 17) (k' := 5) (n' := 12) (argsL := [(.ref va)]) (rest := [(.ref a)]) (wd hw 120 rfl) (wd hw 121 rfl) (wd hw 122 rfl) (wd hw 123 rfl) (by decide) d16_14 pd_13 rfl rfl rfl (cpo_2 l Z a0 hw n0 h1172 f1174 s_DEF s_EL s_EA s_EM cs mr H va ved vkE vmc x x f1179 f1179 f1181) (Nat.le_of_ble_eq_true rfl) (Nat.le_of_ble_eq_true rfl) (Nat.le_of_ble_eq_true rfl) (Nat.le_of_ble_eq_true rfl) rfl rfl rfl (fun v1186 h1185 q1187 => ?_)
  obtain ⟨vL, rfl, vq1, vq2, vq3⟩ := q1187
  have ne_a_vL : a ≠ vL := Nat.ne_of_lt (Nat.lt_of_lt_of_le f1176.lt vq1)
  have ne_x_vL : x ≠ vL := Nat.ne_of_lt (Nat.lt_of_lt_of_le f1179.lt vq1)
  have ne_uL_vL : uL ≠ vL := Nat.ne_of_lt (Nat.lt_of_lt_of_le f1182.lt vq1)
  have ne_uar_vL : uar ≠ vL := Nat.ne_of_lt (Nat.lt_of_lt_of_le f1184.lt vq1)
  have ge_vL : n0 ≤ vL := Nat.le_trans (f1174.1 ▸ f1174.2.1) vq1
  have sz_vL : h.size ≤ vL := Nat.le_trans f1175.1 vq1
  have f1188 := f1174.keep vq2 all0
  have f1189 := f1175.trans vq2 all0
  have f1190 := f1176.keep vq2
  have f1191 := f1177.keep vq2 nin0
  have f1192 := f1178.keep vq2 nin0
  have f1193 := f1179.keep vq2
  have f1194 := own_AL1_keep f1180 vq2 nin0 nin0
  have f1195 := own_AL1_keep f1181 vq2 nin0 nin0
  have f1196 := f1182.keep vq2
  have f1197 := f1183.keep vq2 nin0
  have f1198 := f1184.keep vq2 nin0
  show G w _ h1185 5 12 17 #[.val (.ref a), .val (.ref ua), .val (.ref va)] [(.ref vL), (.ref a)]
  refine g_putF C (pc' := 20) (ty := (.object "java/util/List")) (wd hw 214 rfl) Via.refl d16_17 rfl f1192 f1190 (Or.inr ⟨(wd hw 215 rfl), rfl, rfl⟩) (wd hw 114 rfl) (by decide) rfl rfl ga rfl (fun h1199 W1200 => ?_)
  have f1201 := f1188.wr W1200 ga
  have f1202 := f1189.wr W1200 (Or.inl (List.mem_of_getElem? (i := 0) rfl))
  have f1203 := f1190.wr W1200
  have f1204 := f1191.other W1200 (Or.inr (slot_ne (Or.inr (wd hw 148 rfl)) (Or.inr (wd hw 215 rfl)) (by decide) (t := (.object "java/util/List")) (t' := (.object "java/util/List")) (by decide) (by decide)))
  have f1205 := f1192.same W1200
  have f1206 := f1193.wr W1200
  have f1207 := own_AL1_keep f1194 (Keep.of_wr W1200) (ninS (Ne.symm nau) nin0) (ninS (Ne.symm naue) nin0)
  have f1208 := own_AL1_keep f1195 (Keep.of_wr W1200) (ninS (Ne.symm nav) nin0) (ninS (Ne.symm nave) nin0)
  have f1209 := f1196.wr W1200
  have f1210 := f1197.other W1200 (Or.inl (Ne.symm ne_a_uL))
  have f1211 := f1198.other W1200 (Ne.symm ne_a_uar)
  have f1212 := vq3.wr W1200
  exact g_return C d16_20 rfl (Nat.le_of_ble_eq_true rfl) (Nat.le_of_ble_eq_true rfl) (⟨rfl, f1202, f1203, vL, f1205, f1212⟩)
set_option maxRecDepth 65536 in
set_option maxHeartbeats 40000000 in
theorem gsI_30 (l : Launch) (Z : State) (a0 : Array Value) (hw : ∀ d ∈ tables_1, d.before a0 Z = true) (n0 : Nat) (h : Heap) (O : Old Z n0 h) (s_DEF : Addr) (s_EL : Addr) (s_EA : Addr) (s_EM : Addr) (cs : Int32) (mr : Addr) (H : En Z s_DEF s_EL s_EA s_EM cs mr) (a x : Addr) (ga : n0 ≤ a) (ua : Addr) (umc : Int32) (va ved : Addr) (vkE : ClassId) (vmc : Int32) (E0 : Exa Z h a "com/example/plumbline/plumbline/Grades") (F1 : Fld Z h a "com/example/plumbline/plumbline/Grades" "area" "Ljava/util/List;" .null) (F2 : Fld Z h a "com/example/plumbline/plumbline/Grades" "total" "Ljava/util/List;" .null) (Ex : Exa Z h x "com/example/plumbline/plumbline/Band") (uP : AL0 Z n0 h ua s_DEF umc) (vP : AL1 Z n0 h va ved vkE vmc (3 : Int32) [(.ref x), (.ref x), (.ref x), .null, .null, .null, .null, .null, .null, .null]) (nau : a ≠ ua) (nav : a ≠ va) (nave : a ≠ ved) : Con l Z (⟨"com/example/plumbline/plumbline/Grades", "<init>", "(Ljava/util/List;Ljava/util/List;)V"⟩ : MethodName) prog_32_method_1_code 3 none ({ frames := 9, cells := 3, slots := 8, locals := 116 } : Room) #[(.ref a), (.ref ua), (.ref va)] h n0 (fun v h' => v = none ∧ Keep h h' [a] ∧ Exa Z h' a "com/example/plumbline/plumbline/Grades" ∧ ∃ L ar kA, Fld Z h' a "com/example/plumbline/plumbline/Grades" "total" "Ljava/util/List;" (.ref L) ∧ Exa Z h' L "java/util/ImmutableCollections$ListN" ∧ Fld Z h' L "java/util/ImmutableCollections$ListN" "elements" "[Ljava/lang/Object;" (.ref ar) ∧ Arv Z h' ar kA (.object "java/lang/Object") (3 : Int32) [(.ref x), (.ref x), (.ref x)] .null) := by
  refine Con.mk (Ls := #[.val (.ref a), .val (.ref ua), .val (.ref va)]) (plainFor_of_name pn_2) (fun m => by first | (simp [entryFrame, mkF, argsToLocals, Value.category]; done) | rfl) (fun w C => ?_)
  replace C : Cx w l Z "com/example/plumbline/plumbline/Grades" prog_32_method_1_code 3 none "<init>" ({ frames := 9, cells := 3, slots := 8, locals := 116 } : Room) n0 := C
  obtain ⟨S_DEF, E_DEF, V_DEF, S_EL, E_EL, F_EL, V_EA, S_EM, E_EM, S_CS, hcs, MIR⟩ := id H
  obtain ⟨kD, V_DEF⟩ := V_DEF
  obtain ⟨kEA, V_EA⟩ := V_EA
  refine g_aloadN C (pc' := 1) d16_0 rfl rfl rfl ?_
  refine g_initO C (pc' := 4) (wd hw 119 rfl) (wd hw 20 rfl) (wd hw 21 rfl) d16_1 rfl rfl (Nat.le_of_ble_eq_true rfl) (Nat.le_of_ble_eq_true rfl) rfl ?_
  refine g_aloadN C (pc' := 5) d16_4 rfl rfl rfl ?_
  refine g_aloadN C (pc' := 6) d16_5 rfl rfl rfl ?_
  refine g_callS C (pc' := 9) (k' := 0) (n' := 0) (argsL := [(.ref ua)]) (rest := [(.ref a)]) (wd hw 120 rfl) (wd hw 121 rfl) (wd hw 122 rfl) (wd hw 123 rfl) (by decide) d16_6 pd_13 rfl rfl rfl (cpo_0 l Z a0 hw n0 h O s_DEF s_EL s_EA s_EM cs mr H ua umc  uP) (Nat.le_of_ble_eq_true rfl) (Nat.le_of_ble_eq_true rfl) (Nat.le_of_ble_eq_true rfl) (Nat.le_of_ble_eq_true rfl) rfl rfl rfl (fun v1214 h1213 q1215 => ?_)
  obtain ⟨rfl, eh1213⟩ := q1215
  subst h1213
  show G w _ h 0 0 9 #[.val (.ref a), .val (.ref ua), .val (.ref va)] [(.ref s_EL), (.ref a)]
  refine g_putF C (pc' := 12) (ty := (.object "java/util/List")) (wd hw 147 rfl) Via.refl d16_9 rfl F1 E0 (Or.inr ⟨(wd hw 148 rfl), rfl, rfl⟩) (wd hw 114 rfl) (by decide) rfl rfl ga rfl (fun h1216 W1217 => ?_)
  have f1218 := O.wr W1217 ga
  have f1219 := (Keep.refl h [a]).wr W1217 (Or.inl (List.mem_of_getElem? (i := 0) rfl))
  have f1220 := E0.wr W1217
  have f1221 := F1.same W1217
  have f1222 := F2.other W1217 (Or.inr (slot_ne (Or.inr (wd hw 215 rfl)) (Or.inr (wd hw 148 rfl)) (by decide) (t := (.object "java/util/List")) (t' := (.object "java/util/List")) (by decide) (by decide)))
  have f1223 := Ex.wr W1217
  have f1224 := own_AL0_keep uP (Keep.of_wr W1217) (ninS (Ne.symm nau) nin0)
  have f1225 := own_AL1_keep vP (Keep.of_wr W1217) (ninS (Ne.symm nav) nin0) (ninS (Ne.symm nave) nin0)
  refine g_aloadN C (pc' := 13) d16_12 rfl rfl rfl ?_
  refine g_aloadN C (pc' := 14) d16_13 rfl rfl rfl ?_
  refine g_callS C (pc' := 17) (k' := 3) (n' := 8) (argsL := [(.ref va)]) (rest := [(.ref a)]) (wd hw 120 rfl) (wd hw 121 rfl) (wd hw 122 rfl) (wd hw 123 rfl) (by decide) d16_14 pd_13 rfl rfl rfl (cpo_3 l Z a0 hw n0 h1216 f1218 s_DEF s_EL s_EA s_EM cs mr H va ved vkE vmc x x x f1223 f1223 f1223 f1225) (Nat.le_of_ble_eq_true rfl) (Nat.le_of_ble_eq_true rfl) (Nat.le_of_ble_eq_true rfl) (Nat.le_of_ble_eq_true rfl) rfl rfl rfl (fun v1227 h1226 q1228 => ?_)
  obtain ⟨vL, var, vkA, rfl, vq1, vq0, vq2, vq3, vq4, vq5⟩ := q1228
  have ne_a_vL : a ≠ vL := Nat.ne_of_lt (Nat.lt_of_lt_of_le f1220.lt vq1)
  have ne_x_vL : x ≠ vL := Nat.ne_of_lt (Nat.lt_of_lt_of_le f1223.lt vq1)
  have ge_vL : n0 ≤ vL := Nat.le_trans (f1218.1 ▸ f1218.2.1) vq1
  have sz_vL : h.size ≤ vL := Nat.le_trans f1219.1 vq1
  have ne_a_var : a ≠ var := Nat.ne_of_lt (Nat.lt_of_lt_of_le f1220.lt vq0)
  have ne_x_var : x ≠ var := Nat.ne_of_lt (Nat.lt_of_lt_of_le f1223.lt vq0)
  have ge_var : n0 ≤ var := Nat.le_trans (f1218.1 ▸ f1218.2.1) vq0
  have sz_var : h.size ≤ var := Nat.le_trans f1219.1 vq0
  have f1229 := f1218.keep vq2 all0
  have f1230 := f1219.trans vq2 all0
  have f1231 := f1220.keep vq2
  have f1232 := f1221.keep vq2 nin0
  have f1233 := f1222.keep vq2 nin0
  have f1234 := f1223.keep vq2
  have f1235 := own_AL0_keep f1224 vq2 nin0
  have f1236 := own_AL1_keep f1225 vq2 nin0 nin0
  show G w _ h1226 3 8 17 #[.val (.ref a), .val (.ref ua), .val (.ref va)] [(.ref vL), (.ref a)]
  refine g_putF C (pc' := 20) (ty := (.object "java/util/List")) (wd hw 214 rfl) Via.refl d16_17 rfl f1233 f1231 (Or.inr ⟨(wd hw 215 rfl), rfl, rfl⟩) (wd hw 114 rfl) (by decide) rfl rfl ga rfl (fun h1237 W1238 => ?_)
  have f1239 := f1229.wr W1238 ga
  have f1240 := f1230.wr W1238 (Or.inl (List.mem_of_getElem? (i := 0) rfl))
  have f1241 := f1231.wr W1238
  have f1242 := f1232.other W1238 (Or.inr (slot_ne (Or.inr (wd hw 148 rfl)) (Or.inr (wd hw 215 rfl)) (by decide) (t := (.object "java/util/List")) (t' := (.object "java/util/List")) (by decide) (by decide)))
  have f1243 := f1233.same W1238
  have f1244 := f1234.wr W1238
  have f1245 := own_AL0_keep f1235 (Keep.of_wr W1238) (ninS (Ne.symm nau) nin0)
  have f1246 := own_AL1_keep f1236 (Keep.of_wr W1238) (ninS (Ne.symm nav) nin0) (ninS (Ne.symm nave) nin0)
  have f1247 := vq3.wr W1238
  have f1248 := vq4.other W1238 (Or.inl (Ne.symm ne_a_vL))
  have f1249 := vq5.other W1238 (Ne.symm ne_a_var)
  exact g_return C d16_20 rfl (Nat.le_of_ble_eq_true rfl) (Nat.le_of_ble_eq_true rfl) (⟨rfl, f1240, f1241, vL, var, vkA, f1243, f1247, f1248, f1249⟩)
set_option maxRecDepth 65536 in
set_option maxHeartbeats 40000000 in
theorem gsI_31 (l : Launch) (Z : State) (a0 : Array Value) (hw : ∀ d ∈ tables_1, d.before a0 Z = true) (n0 : Nat) (h : Heap) (O : Old Z n0 h) (s_DEF : Addr) (s_EL : Addr) (s_EA : Addr) (s_EM : Addr) (cs : Int32) (mr : Addr) (H : En Z s_DEF s_EL s_EA s_EM cs mr) (a x : Addr) (ga : n0 ≤ a) (ua ued : Addr) (ukE : ClassId) (umc : Int32) (va ved : Addr) (vkE : ClassId) (vmc : Int32) (E0 : Exa Z h a "com/example/plumbline/plumbline/Grades") (F1 : Fld Z h a "com/example/plumbline/plumbline/Grades" "area" "Ljava/util/List;" .null) (F2 : Fld Z h a "com/example/plumbline/plumbline/Grades" "total" "Ljava/util/List;" .null) (Ex : Exa Z h x "com/example/plumbline/plumbline/Band") (uP : AL1 Z n0 h ua ued ukE umc (1 : Int32) [(.ref x), .null, .null, .null, .null, .null, .null, .null, .null, .null]) (vP : AL1 Z n0 h va ved vkE vmc (3 : Int32) [(.ref x), (.ref x), (.ref x), .null, .null, .null, .null, .null, .null, .null]) (nau : a ≠ ua) (nav : a ≠ va) (naue : a ≠ ued) (nave : a ≠ ved) : Con l Z (⟨"com/example/plumbline/plumbline/Grades", "<init>", "(Ljava/util/List;Ljava/util/List;)V"⟩ : MethodName) prog_32_method_1_code 3 none ({ frames := 9, cells := 5, slots := 11, locals := 116 } : Room) #[(.ref a), (.ref ua), (.ref va)] h n0 (fun v h' => v = none ∧ Keep h h' [a] ∧ Exa Z h' a "com/example/plumbline/plumbline/Grades" ∧ ∃ L ar kA, Fld Z h' a "com/example/plumbline/plumbline/Grades" "total" "Ljava/util/List;" (.ref L) ∧ Exa Z h' L "java/util/ImmutableCollections$ListN" ∧ Fld Z h' L "java/util/ImmutableCollections$ListN" "elements" "[Ljava/lang/Object;" (.ref ar) ∧ Arv Z h' ar kA (.object "java/lang/Object") (3 : Int32) [(.ref x), (.ref x), (.ref x)] .null) := by
  refine Con.mk (Ls := #[.val (.ref a), .val (.ref ua), .val (.ref va)]) (plainFor_of_name pn_2) (fun m => by first | (simp [entryFrame, mkF, argsToLocals, Value.category]; done) | rfl) (fun w C => ?_)
  replace C : Cx w l Z "com/example/plumbline/plumbline/Grades" prog_32_method_1_code 3 none "<init>" ({ frames := 9, cells := 5, slots := 11, locals := 116 } : Room) n0 := C
  obtain ⟨S_DEF, E_DEF, V_DEF, S_EL, E_EL, F_EL, V_EA, S_EM, E_EM, S_CS, hcs, MIR⟩ := id H
  obtain ⟨kD, V_DEF⟩ := V_DEF
  obtain ⟨kEA, V_EA⟩ := V_EA
  refine g_aloadN C (pc' := 1) d16_0 rfl rfl rfl ?_
  refine g_initO C (pc' := 4) (wd hw 119 rfl) (wd hw 20 rfl) (wd hw 21 rfl) d16_1 rfl rfl (Nat.le_of_ble_eq_true rfl) (Nat.le_of_ble_eq_true rfl) rfl ?_
  refine g_aloadN C (pc' := 5) d16_4 rfl rfl rfl ?_
  refine g_aloadN C (pc' := 6) d16_5 rfl rfl rfl ?_
  refine g_callS C (pc' := 9) (k' := 2) (n' := 3) (argsL := [(.ref ua)]) (rest := [(.ref a)]) (wd hw 120 rfl) (wd hw 121 rfl) (wd hw 122 rfl) (wd hw 123 rfl) (by decide) d16_6 pd_13 rfl rfl rfl (cpo_1 l Z a0 hw n0 h O s_DEF s_EL s_EA s_EM cs mr H ua ued ukE umc x Ex uP) (Nat.le_of_ble_eq_true rfl) (Nat.le_of_ble_eq_true rfl) (Nat.le_of_ble_eq_true rfl) (Nat.le_of_ble_eq_true rfl) rfl rfl rfl (fun v1251 h1250 q1252 => ?_)
  obtain ⟨uL, rfl, uq1, uq2, uq3⟩ := q1252
  have ne_a_uL : a ≠ uL := Nat.ne_of_lt (Nat.lt_of_lt_of_le E0.lt uq1)
  have ne_x_uL : x ≠ uL := Nat.ne_of_lt (Nat.lt_of_lt_of_le Ex.lt uq1)
  have ge_uL : n0 ≤ uL := Nat.le_trans (O.1 ▸ O.2.1) uq1
  have sz_uL : h.size ≤ uL := Nat.le_trans (Keep.refl h [a]).1 uq1
  have f1253 := O.keep uq2 all0
  have f1254 := (Keep.refl h [a]).trans uq2 all0
  have f1255 := E0.keep uq2
  have f1256 := F1.keep uq2 nin0
  have f1257 := F2.keep uq2 nin0
  have f1258 := Ex.keep uq2
  have f1259 := own_AL1_keep uP uq2 nin0 nin0
  have f1260 := own_AL1_keep vP uq2 nin0 nin0
  show G w _ h1250 2 3 9 #[.val (.ref a), .val (.ref ua), .val (.ref va)] [(.ref uL), (.ref a)]
  refine g_putF C (pc' := 12) (ty := (.object "java/util/List")) (wd hw 147 rfl) Via.refl d16_9 rfl f1256 f1255 (Or.inr ⟨(wd hw 148 rfl), rfl, rfl⟩) (wd hw 114 rfl) (by decide) rfl rfl ga rfl (fun h1261 W1262 => ?_)
  have f1263 := f1253.wr W1262 ga
  have f1264 := f1254.wr W1262 (Or.inl (List.mem_of_getElem? (i := 0) rfl))
  have f1265 := f1255.wr W1262
  have f1266 := f1256.same W1262
  have f1267 := f1257.other W1262 (Or.inr (slot_ne (Or.inr (wd hw 215 rfl)) (Or.inr (wd hw 148 rfl)) (by decide) (t := (.object "java/util/List")) (t' := (.object "java/util/List")) (by decide) (by decide)))
  have f1268 := f1258.wr W1262
  have f1269 := own_AL1_keep f1259 (Keep.of_wr W1262) (ninS (Ne.symm nau) nin0) (ninS (Ne.symm naue) nin0)
  have f1270 := own_AL1_keep f1260 (Keep.of_wr W1262) (ninS (Ne.symm nav) nin0) (ninS (Ne.symm nave) nin0)
  have f1271 := uq3.wr W1262
  refine g_aloadN C (pc' := 13) d16_12 rfl rfl rfl ?_
  refine g_aloadN C (pc' := 14) d16_13 rfl rfl rfl ?_
  refine g_callS C (pc' := 17) (k' := 5) (n' := 11) (argsL := [(.ref va)]) (rest := [(.ref a)]) (wd hw 120 rfl) (wd hw 121 rfl) (wd hw 122 rfl) (wd hw 123 rfl) (by decide) d16_14 pd_13 rfl rfl rfl (cpo_3 l Z a0 hw n0 h1261 f1263 s_DEF s_EL s_EA s_EM cs mr H va ved vkE vmc x x x f1268 f1268 f1268 f1270) (Nat.le_of_ble_eq_true rfl) (Nat.le_of_ble_eq_true rfl) (Nat.le_of_ble_eq_true rfl) (Nat.le_of_ble_eq_true rfl) rfl rfl rfl (fun v1273 h1272 q1274 => ?_)
  obtain ⟨vL, var, vkA, rfl, vq1, vq0, vq2, vq3, vq4, vq5⟩ := q1274
  have ne_a_vL : a ≠ vL := Nat.ne_of_lt (Nat.lt_of_lt_of_le f1265.lt vq1)
  have ne_x_vL : x ≠ vL := Nat.ne_of_lt (Nat.lt_of_lt_of_le f1268.lt vq1)
  have ne_uL_vL : uL ≠ vL := Nat.ne_of_lt (Nat.lt_of_lt_of_le f1271.lt vq1)
  have ge_vL : n0 ≤ vL := Nat.le_trans (f1263.1 ▸ f1263.2.1) vq1
  have sz_vL : h.size ≤ vL := Nat.le_trans f1264.1 vq1
  have ne_a_var : a ≠ var := Nat.ne_of_lt (Nat.lt_of_lt_of_le f1265.lt vq0)
  have ne_x_var : x ≠ var := Nat.ne_of_lt (Nat.lt_of_lt_of_le f1268.lt vq0)
  have ne_uL_var : uL ≠ var := Nat.ne_of_lt (Nat.lt_of_lt_of_le f1271.lt vq0)
  have ge_var : n0 ≤ var := Nat.le_trans (f1263.1 ▸ f1263.2.1) vq0
  have sz_var : h.size ≤ var := Nat.le_trans f1264.1 vq0
  have f1275 := f1263.keep vq2 all0
  have f1276 := f1264.trans vq2 all0
  have f1277 := f1265.keep vq2
  have f1278 := f1266.keep vq2 nin0
  have f1279 := f1267.keep vq2 nin0
  have f1280 := f1268.keep vq2
  have f1281 := own_AL1_keep f1269 vq2 nin0 nin0
  have f1282 := own_AL1_keep f1270 vq2 nin0 nin0
  have f1283 := f1271.keep vq2
  show G w _ h1272 5 11 17 #[.val (.ref a), .val (.ref ua), .val (.ref va)] [(.ref vL), (.ref a)]
  refine g_putF C (pc' := 20) (ty := (.object "java/util/List")) (wd hw 214 rfl) Via.refl d16_17 rfl f1279 f1277 (Or.inr ⟨(wd hw 215 rfl), rfl, rfl⟩) (wd hw 114 rfl) (by decide) rfl rfl ga rfl (fun h1284 W1285 => ?_)
  have f1286 := f1275.wr W1285 ga
  have f1287 := f1276.wr W1285 (Or.inl (List.mem_of_getElem? (i := 0) rfl))
  have f1288 := f1277.wr W1285
  have f1289 := f1278.other W1285 (Or.inr (slot_ne (Or.inr (wd hw 148 rfl)) (Or.inr (wd hw 215 rfl)) (by decide) (t := (.object "java/util/List")) (t' := (.object "java/util/List")) (by decide) (by decide)))
  have f1290 := f1279.same W1285
  have f1291 := f1280.wr W1285
  have f1292 := own_AL1_keep f1281 (Keep.of_wr W1285) (ninS (Ne.symm nau) nin0) (ninS (Ne.symm naue) nin0)
  have f1293 := own_AL1_keep f1282 (Keep.of_wr W1285) (ninS (Ne.symm nav) nin0) (ninS (Ne.symm nave) nin0)
  have f1294 := f1283.wr W1285
  have f1295 := vq3.wr W1285
  have f1296 := vq4.other W1285 (Or.inl (Ne.symm ne_a_vL))
  have f1297 := vq5.other W1285 (Ne.symm ne_a_var)
  exact g_return C d16_20 rfl (Nat.le_of_ble_eq_true rfl) (Nat.le_of_ble_eq_true rfl) (⟨rfl, f1287, f1288, vL, var, vkA, f1290, f1295, f1296, f1297⟩)
set_option maxRecDepth 65536 in
set_option maxHeartbeats 40000000 in
theorem gsI_32 (l : Launch) (Z : State) (a0 : Array Value) (hw : ∀ d ∈ tables_1, d.before a0 Z = true) (n0 : Nat) (h : Heap) (O : Old Z n0 h) (s_DEF : Addr) (s_EL : Addr) (s_EA : Addr) (s_EM : Addr) (cs : Int32) (mr : Addr) (H : En Z s_DEF s_EL s_EA s_EM cs mr) (a x : Addr) (ga : n0 ≤ a) (ua ued : Addr) (ukE : ClassId) (umc : Int32) (va ved : Addr) (vkE : ClassId) (vmc : Int32) (E0 : Exa Z h a "com/example/plumbline/plumbline/Grades") (F1 : Fld Z h a "com/example/plumbline/plumbline/Grades" "area" "Ljava/util/List;" .null) (F2 : Fld Z h a "com/example/plumbline/plumbline/Grades" "total" "Ljava/util/List;" .null) (Ex : Exa Z h x "com/example/plumbline/plumbline/Band") (uP : AL1 Z n0 h ua ued ukE umc (2 : Int32) [(.ref x), (.ref x), .null, .null, .null, .null, .null, .null, .null, .null]) (vP : AL1 Z n0 h va ved vkE vmc (3 : Int32) [(.ref x), (.ref x), (.ref x), .null, .null, .null, .null, .null, .null, .null]) (nau : a ≠ ua) (nav : a ≠ va) (naue : a ≠ ued) (nave : a ≠ ved) : Con l Z (⟨"com/example/plumbline/plumbline/Grades", "<init>", "(Ljava/util/List;Ljava/util/List;)V"⟩ : MethodName) prog_32_method_1_code 3 none ({ frames := 9, cells := 5, slots := 12, locals := 116 } : Room) #[(.ref a), (.ref ua), (.ref va)] h n0 (fun v h' => v = none ∧ Keep h h' [a] ∧ Exa Z h' a "com/example/plumbline/plumbline/Grades" ∧ ∃ L ar kA, Fld Z h' a "com/example/plumbline/plumbline/Grades" "total" "Ljava/util/List;" (.ref L) ∧ Exa Z h' L "java/util/ImmutableCollections$ListN" ∧ Fld Z h' L "java/util/ImmutableCollections$ListN" "elements" "[Ljava/lang/Object;" (.ref ar) ∧ Arv Z h' ar kA (.object "java/lang/Object") (3 : Int32) [(.ref x), (.ref x), (.ref x)] .null) := by
  refine Con.mk (Ls := #[.val (.ref a), .val (.ref ua), .val (.ref va)]) (plainFor_of_name pn_2) (fun m => by first | (simp [entryFrame, mkF, argsToLocals, Value.category]; done) | rfl) (fun w C => ?_)
  replace C : Cx w l Z "com/example/plumbline/plumbline/Grades" prog_32_method_1_code 3 none "<init>" ({ frames := 9, cells := 5, slots := 12, locals := 116 } : Room) n0 := C
  obtain ⟨S_DEF, E_DEF, V_DEF, S_EL, E_EL, F_EL, V_EA, S_EM, E_EM, S_CS, hcs, MIR⟩ := id H
  obtain ⟨kD, V_DEF⟩ := V_DEF
  obtain ⟨kEA, V_EA⟩ := V_EA
  refine g_aloadN C (pc' := 1) d16_0 rfl rfl rfl ?_
  refine g_initO C (pc' := 4) (wd hw 119 rfl) (wd hw 20 rfl) (wd hw 21 rfl) d16_1 rfl rfl (Nat.le_of_ble_eq_true rfl) (Nat.le_of_ble_eq_true rfl) rfl ?_
  refine g_aloadN C (pc' := 5) d16_4 rfl rfl rfl ?_
  refine g_aloadN C (pc' := 6) d16_5 rfl rfl rfl ?_
  refine g_callS C (pc' := 9) (k' := 2) (n' := 4) (argsL := [(.ref ua)]) (rest := [(.ref a)]) (wd hw 120 rfl) (wd hw 121 rfl) (wd hw 122 rfl) (wd hw 123 rfl) (by decide) d16_6 pd_13 rfl rfl rfl (cpo_2 l Z a0 hw n0 h O s_DEF s_EL s_EA s_EM cs mr H ua ued ukE umc x x Ex Ex uP) (Nat.le_of_ble_eq_true rfl) (Nat.le_of_ble_eq_true rfl) (Nat.le_of_ble_eq_true rfl) (Nat.le_of_ble_eq_true rfl) rfl rfl rfl (fun v1299 h1298 q1300 => ?_)
  obtain ⟨uL, rfl, uq1, uq2, uq3⟩ := q1300
  have ne_a_uL : a ≠ uL := Nat.ne_of_lt (Nat.lt_of_lt_of_le E0.lt uq1)
  have ne_x_uL : x ≠ uL := Nat.ne_of_lt (Nat.lt_of_lt_of_le Ex.lt uq1)
  have ge_uL : n0 ≤ uL := Nat.le_trans (O.1 ▸ O.2.1) uq1
  have sz_uL : h.size ≤ uL := Nat.le_trans (Keep.refl h [a]).1 uq1
  have f1301 := O.keep uq2 all0
  have f1302 := (Keep.refl h [a]).trans uq2 all0
  have f1303 := E0.keep uq2
  have f1304 := F1.keep uq2 nin0
  have f1305 := F2.keep uq2 nin0
  have f1306 := Ex.keep uq2
  have f1307 := own_AL1_keep uP uq2 nin0 nin0
  have f1308 := own_AL1_keep vP uq2 nin0 nin0
  show G w _ h1298 2 4 9 #[.val (.ref a), .val (.ref ua), .val (.ref va)] [(.ref uL), (.ref a)]
  refine g_putF C (pc' := 12) (ty := (.object "java/util/List")) (wd hw 147 rfl) Via.refl d16_9 rfl f1304 f1303 (Or.inr ⟨(wd hw 148 rfl), rfl, rfl⟩) (wd hw 114 rfl) (by decide) rfl rfl ga rfl (fun h1309 W1310 => ?_)
  have f1311 := f1301.wr W1310 ga
  have f1312 := f1302.wr W1310 (Or.inl (List.mem_of_getElem? (i := 0) rfl))
  have f1313 := f1303.wr W1310
  have f1314 := f1304.same W1310
  have f1315 := f1305.other W1310 (Or.inr (slot_ne (Or.inr (wd hw 215 rfl)) (Or.inr (wd hw 148 rfl)) (by decide) (t := (.object "java/util/List")) (t' := (.object "java/util/List")) (by decide) (by decide)))
  have f1316 := f1306.wr W1310
  have f1317 := own_AL1_keep f1307 (Keep.of_wr W1310) (ninS (Ne.symm nau) nin0) (ninS (Ne.symm naue) nin0)
  have f1318 := own_AL1_keep f1308 (Keep.of_wr W1310) (ninS (Ne.symm nav) nin0) (ninS (Ne.symm nave) nin0)
  have f1319 := uq3.wr W1310
  refine g_aloadN C (pc' := 13) d16_12 rfl rfl rfl ?_
  refine g_aloadN C (pc' := 14) d16_13 rfl rfl rfl ?_
  refine g_callS C (pc' := 17) (k' := 5) (n' := 12) (argsL := [(.ref va)]) (rest := [(.ref a)]) (wd hw 120 rfl) (wd hw 121 rfl) (wd hw 122 rfl) (wd hw 123 rfl) (by decide) d16_14 pd_13 rfl rfl rfl (cpo_3 l Z a0 hw n0 h1309 f1311 s_DEF s_EL s_EA s_EM cs mr H va ved vkE vmc x x x f1316 f1316 f1316 f1318) (Nat.le_of_ble_eq_true rfl) (Nat.le_of_ble_eq_true rfl) (Nat.le_of_ble_eq_true rfl) (Nat.le_of_ble_eq_true rfl) rfl rfl rfl (fun v1321 h1320 q1322 => ?_)
  obtain ⟨vL, var, vkA, rfl, vq1, vq0, vq2, vq3, vq4, vq5⟩ := q1322
  have ne_a_vL : a ≠ vL := Nat.ne_of_lt (Nat.lt_of_lt_of_le f1313.lt vq1)
  have ne_x_vL : x ≠ vL := Nat.ne_of_lt (Nat.lt_of_lt_of_le f1316.lt vq1)
  have ne_uL_vL : uL ≠ vL := Nat.ne_of_lt (Nat.lt_of_lt_of_le f1319.lt vq1)
  have ge_vL : n0 ≤ vL := Nat.le_trans (f1311.1 ▸ f1311.2.1) vq1
  have sz_vL : h.size ≤ vL := Nat.le_trans f1312.1 vq1
  have ne_a_var : a ≠ var := Nat.ne_of_lt (Nat.lt_of_lt_of_le f1313.lt vq0)
  have ne_x_var : x ≠ var := Nat.ne_of_lt (Nat.lt_of_lt_of_le f1316.lt vq0)
  have ne_uL_var : uL ≠ var := Nat.ne_of_lt (Nat.lt_of_lt_of_le f1319.lt vq0)
  have ge_var : n0 ≤ var := Nat.le_trans (f1311.1 ▸ f1311.2.1) vq0
  have sz_var : h.size ≤ var := Nat.le_trans f1312.1 vq0
  have f1323 := f1311.keep vq2 all0
  have f1324 := f1312.trans vq2 all0
  have f1325 := f1313.keep vq2
  have f1326 := f1314.keep vq2 nin0
  have f1327 := f1315.keep vq2 nin0
  have f1328 := f1316.keep vq2
  have f1329 := own_AL1_keep f1317 vq2 nin0 nin0
  have f1330 := own_AL1_keep f1318 vq2 nin0 nin0
  have f1331 := f1319.keep vq2
  show G w _ h1320 5 12 17 #[.val (.ref a), .val (.ref ua), .val (.ref va)] [(.ref vL), (.ref a)]
  refine g_putF C (pc' := 20) (ty := (.object "java/util/List")) (wd hw 214 rfl) Via.refl d16_17 rfl f1327 f1325 (Or.inr ⟨(wd hw 215 rfl), rfl, rfl⟩) (wd hw 114 rfl) (by decide) rfl rfl ga rfl (fun h1332 W1333 => ?_)
  have f1334 := f1323.wr W1333 ga
  have f1335 := f1324.wr W1333 (Or.inl (List.mem_of_getElem? (i := 0) rfl))
  have f1336 := f1325.wr W1333
  have f1337 := f1326.other W1333 (Or.inr (slot_ne (Or.inr (wd hw 148 rfl)) (Or.inr (wd hw 215 rfl)) (by decide) (t := (.object "java/util/List")) (t' := (.object "java/util/List")) (by decide) (by decide)))
  have f1338 := f1327.same W1333
  have f1339 := f1328.wr W1333
  have f1340 := own_AL1_keep f1329 (Keep.of_wr W1333) (ninS (Ne.symm nau) nin0) (ninS (Ne.symm naue) nin0)
  have f1341 := own_AL1_keep f1330 (Keep.of_wr W1333) (ninS (Ne.symm nav) nin0) (ninS (Ne.symm nave) nin0)
  have f1342 := f1331.wr W1333
  have f1343 := vq3.wr W1333
  have f1344 := vq4.other W1333 (Or.inl (Ne.symm ne_a_vL))
  have f1345 := vq5.other W1333 (Ne.symm ne_a_var)
  exact g_return C d16_20 rfl (Nat.le_of_ble_eq_true rfl) (Nat.le_of_ble_eq_true rfl) (⟨rfl, f1335, f1336, vL, var, vkA, f1338, f1343, f1344, f1345⟩)
set_option maxRecDepth 65536 in
set_option maxHeartbeats 40000000 in
theorem gsI_33 (l : Launch) (Z : State) (a0 : Array Value) (hw : ∀ d ∈ tables_1, d.before a0 Z = true) (n0 : Nat) (h : Heap) (O : Old Z n0 h) (s_DEF : Addr) (s_EL : Addr) (s_EA : Addr) (s_EM : Addr) (cs : Int32) (mr : Addr) (H : En Z s_DEF s_EL s_EA s_EM cs mr) (a x : Addr) (ga : n0 ≤ a) (ua ued : Addr) (ukE : ClassId) (umc : Int32) (va ved : Addr) (vkE : ClassId) (vmc : Int32) (E0 : Exa Z h a "com/example/plumbline/plumbline/Grades") (F1 : Fld Z h a "com/example/plumbline/plumbline/Grades" "area" "Ljava/util/List;" .null) (F2 : Fld Z h a "com/example/plumbline/plumbline/Grades" "total" "Ljava/util/List;" .null) (Ex : Exa Z h x "com/example/plumbline/plumbline/Band") (uP : AL1 Z n0 h ua ued ukE umc (3 : Int32) [(.ref x), (.ref x), (.ref x), .null, .null, .null, .null, .null, .null, .null]) (vP : AL1 Z n0 h va ved vkE vmc (3 : Int32) [(.ref x), (.ref x), (.ref x), .null, .null, .null, .null, .null, .null, .null]) (nau : a ≠ ua) (nav : a ≠ va) (naue : a ≠ ued) (nave : a ≠ ved) : Con l Z (⟨"com/example/plumbline/plumbline/Grades", "<init>", "(Ljava/util/List;Ljava/util/List;)V"⟩ : MethodName) prog_32_method_1_code 3 none ({ frames := 9, cells := 6, slots := 16, locals := 116 } : Room) #[(.ref a), (.ref ua), (.ref va)] h n0 (fun v h' => v = none ∧ Keep h h' [a] ∧ Exa Z h' a "com/example/plumbline/plumbline/Grades" ∧ ∃ L ar kA, Fld Z h' a "com/example/plumbline/plumbline/Grades" "total" "Ljava/util/List;" (.ref L) ∧ Exa Z h' L "java/util/ImmutableCollections$ListN" ∧ Fld Z h' L "java/util/ImmutableCollections$ListN" "elements" "[Ljava/lang/Object;" (.ref ar) ∧ Arv Z h' ar kA (.object "java/lang/Object") (3 : Int32) [(.ref x), (.ref x), (.ref x)] .null) := by
  refine Con.mk (Ls := #[.val (.ref a), .val (.ref ua), .val (.ref va)]) (plainFor_of_name pn_2) (fun m => by first | (simp [entryFrame, mkF, argsToLocals, Value.category]; done) | rfl) (fun w C => ?_)
  replace C : Cx w l Z "com/example/plumbline/plumbline/Grades" prog_32_method_1_code 3 none "<init>" ({ frames := 9, cells := 6, slots := 16, locals := 116 } : Room) n0 := C
  obtain ⟨S_DEF, E_DEF, V_DEF, S_EL, E_EL, F_EL, V_EA, S_EM, E_EM, S_CS, hcs, MIR⟩ := id H
  obtain ⟨kD, V_DEF⟩ := V_DEF
  obtain ⟨kEA, V_EA⟩ := V_EA
  refine g_aloadN C (pc' := 1) d16_0 rfl rfl rfl ?_
  refine g_initO C (pc' := 4) (wd hw 119 rfl) (wd hw 20 rfl) (wd hw 21 rfl) d16_1 rfl rfl (Nat.le_of_ble_eq_true rfl) (Nat.le_of_ble_eq_true rfl) rfl ?_
  refine g_aloadN C (pc' := 5) d16_4 rfl rfl rfl ?_
  refine g_aloadN C (pc' := 6) d16_5 rfl rfl rfl ?_
  refine g_callS C (pc' := 9) (k' := 3) (n' := 8) (argsL := [(.ref ua)]) (rest := [(.ref a)]) (wd hw 120 rfl) (wd hw 121 rfl) (wd hw 122 rfl) (wd hw 123 rfl) (by decide) d16_6 pd_13 rfl rfl rfl (cpo_3 l Z a0 hw n0 h O s_DEF s_EL s_EA s_EM cs mr H ua ued ukE umc x x x Ex Ex Ex uP) (Nat.le_of_ble_eq_true rfl) (Nat.le_of_ble_eq_true rfl) (Nat.le_of_ble_eq_true rfl) (Nat.le_of_ble_eq_true rfl) rfl rfl rfl (fun v1347 h1346 q1348 => ?_)
  obtain ⟨uL, uar, ukA, rfl, uq1, uq0, uq2, uq3, uq4, uq5⟩ := q1348
  have ne_a_uL : a ≠ uL := Nat.ne_of_lt (Nat.lt_of_lt_of_le E0.lt uq1)
  have ne_x_uL : x ≠ uL := Nat.ne_of_lt (Nat.lt_of_lt_of_le Ex.lt uq1)
  have ge_uL : n0 ≤ uL := Nat.le_trans (O.1 ▸ O.2.1) uq1
  have sz_uL : h.size ≤ uL := Nat.le_trans (Keep.refl h [a]).1 uq1
  have ne_a_uar : a ≠ uar := Nat.ne_of_lt (Nat.lt_of_lt_of_le E0.lt uq0)
  have ne_x_uar : x ≠ uar := Nat.ne_of_lt (Nat.lt_of_lt_of_le Ex.lt uq0)
  have ge_uar : n0 ≤ uar := Nat.le_trans (O.1 ▸ O.2.1) uq0
  have sz_uar : h.size ≤ uar := Nat.le_trans (Keep.refl h [a]).1 uq0
  have f1349 := O.keep uq2 all0
  have f1350 := (Keep.refl h [a]).trans uq2 all0
  have f1351 := E0.keep uq2
  have f1352 := F1.keep uq2 nin0
  have f1353 := F2.keep uq2 nin0
  have f1354 := Ex.keep uq2
  have f1355 := own_AL1_keep uP uq2 nin0 nin0
  have f1356 := own_AL1_keep vP uq2 nin0 nin0
  show G w _ h1346 3 8 9 #[.val (.ref a), .val (.ref ua), .val (.ref va)] [(.ref uL), (.ref a)]
  refine g_putF C (pc' := 12) (ty := (.object "java/util/List")) (wd hw 147 rfl) Via.refl d16_9 rfl f1352 f1351 (Or.inr ⟨(wd hw 148 rfl), rfl, rfl⟩) (wd hw 114 rfl) (by decide) rfl rfl ga rfl (fun h1357 W1358 => ?_)
  have f1359 := f1349.wr W1358 ga
  have f1360 := f1350.wr W1358 (Or.inl (List.mem_of_getElem? (i := 0) rfl))
  have f1361 := f1351.wr W1358
  have f1362 := f1352.same W1358
  have f1363 := f1353.other W1358 (Or.inr (slot_ne (Or.inr (wd hw 215 rfl)) (Or.inr (wd hw 148 rfl)) (by decide) (t := (.object "java/util/List")) (t' := (.object "java/util/List")) (by decide) (by decide)))
  have f1364 := f1354.wr W1358
  have f1365 := own_AL1_keep f1355 (Keep.of_wr W1358) (ninS (Ne.symm nau) nin0) (ninS (Ne.symm naue) nin0)
  have f1366 := own_AL1_keep f1356 (Keep.of_wr W1358) (ninS (Ne.symm nav) nin0) (ninS (Ne.symm nave) nin0)
  have f1367 := uq3.wr W1358
  have f1368 := uq4.other W1358 (Or.inl (Ne.symm ne_a_uL))
  have f1369 := uq5.other W1358 (Ne.symm ne_a_uar)
  refine g_aloadN C (pc' := 13) d16_12 rfl rfl rfl ?_
  refine g_aloadN C (pc' := 14) d16_13 rfl rfl rfl ?_
  refine g_callS C (pc' := 17) (k' := 6) (n' := 16) (argsL := [(.ref va)]) (rest := [(.ref a)]) (wd hw 120 rfl) (wd hw 121 rfl) (wd hw 122 rfl) (wd hw 123 rfl) (by decide) d16_14 pd_13 rfl rfl rfl (cpo_3 l Z a0 hw n0 h1357 f1359 s_DEF s_EL s_EA s_EM cs mr H va ved vkE vmc x x x f1364 f1364 f1364 f1366) (Nat.le_of_ble_eq_true rfl) (Nat.le_of_ble_eq_true rfl) (Nat.le_of_ble_eq_true rfl) (Nat.le_of_ble_eq_true rfl) rfl rfl rfl (fun v1371 h1370 q1372 => ?_)
  obtain ⟨vL, var, vkA, rfl, vq1, vq0, vq2, vq3, vq4, vq5⟩ := q1372
  have ne_a_vL : a ≠ vL := Nat.ne_of_lt (Nat.lt_of_lt_of_le f1361.lt vq1)
  have ne_x_vL : x ≠ vL := Nat.ne_of_lt (Nat.lt_of_lt_of_le f1364.lt vq1)
  have ne_uL_vL : uL ≠ vL := Nat.ne_of_lt (Nat.lt_of_lt_of_le f1367.lt vq1)
  have ne_uar_vL : uar ≠ vL := Nat.ne_of_lt (Nat.lt_of_lt_of_le f1369.lt vq1)
  have ge_vL : n0 ≤ vL := Nat.le_trans (f1359.1 ▸ f1359.2.1) vq1
  have sz_vL : h.size ≤ vL := Nat.le_trans f1360.1 vq1
  have ne_a_var : a ≠ var := Nat.ne_of_lt (Nat.lt_of_lt_of_le f1361.lt vq0)
  have ne_x_var : x ≠ var := Nat.ne_of_lt (Nat.lt_of_lt_of_le f1364.lt vq0)
  have ne_uL_var : uL ≠ var := Nat.ne_of_lt (Nat.lt_of_lt_of_le f1367.lt vq0)
  have ne_uar_var : uar ≠ var := Nat.ne_of_lt (Nat.lt_of_lt_of_le f1369.lt vq0)
  have ge_var : n0 ≤ var := Nat.le_trans (f1359.1 ▸ f1359.2.1) vq0
  have sz_var : h.size ≤ var := Nat.le_trans f1360.1 vq0
  have f1373 := f1359.keep vq2 all0
  have f1374 := f1360.trans vq2 all0
  have f1375 := f1361.keep vq2
  have f1376 := f1362.keep vq2 nin0
  have f1377 := f1363.keep vq2 nin0
  have f1378 := f1364.keep vq2
  have f1379 := own_AL1_keep f1365 vq2 nin0 nin0
  have f1380 := own_AL1_keep f1366 vq2 nin0 nin0
  have f1381 := f1367.keep vq2
  have f1382 := f1368.keep vq2 nin0
  have f1383 := f1369.keep vq2 nin0
  show G w _ h1370 6 16 17 #[.val (.ref a), .val (.ref ua), .val (.ref va)] [(.ref vL), (.ref a)]
  refine g_putF C (pc' := 20) (ty := (.object "java/util/List")) (wd hw 214 rfl) Via.refl d16_17 rfl f1377 f1375 (Or.inr ⟨(wd hw 215 rfl), rfl, rfl⟩) (wd hw 114 rfl) (by decide) rfl rfl ga rfl (fun h1384 W1385 => ?_)
  have f1386 := f1373.wr W1385 ga
  have f1387 := f1374.wr W1385 (Or.inl (List.mem_of_getElem? (i := 0) rfl))
  have f1388 := f1375.wr W1385
  have f1389 := f1376.other W1385 (Or.inr (slot_ne (Or.inr (wd hw 148 rfl)) (Or.inr (wd hw 215 rfl)) (by decide) (t := (.object "java/util/List")) (t' := (.object "java/util/List")) (by decide) (by decide)))
  have f1390 := f1377.same W1385
  have f1391 := f1378.wr W1385
  have f1392 := own_AL1_keep f1379 (Keep.of_wr W1385) (ninS (Ne.symm nau) nin0) (ninS (Ne.symm naue) nin0)
  have f1393 := own_AL1_keep f1380 (Keep.of_wr W1385) (ninS (Ne.symm nav) nin0) (ninS (Ne.symm nave) nin0)
  have f1394 := f1381.wr W1385
  have f1395 := f1382.other W1385 (Or.inl (Ne.symm ne_a_uL))
  have f1396 := f1383.other W1385 (Ne.symm ne_a_uar)
  have f1397 := vq3.wr W1385
  have f1398 := vq4.other W1385 (Or.inl (Ne.symm ne_a_vL))
  have f1399 := vq5.other W1385 (Ne.symm ne_a_var)
  exact g_return C d16_20 rfl (Nat.le_of_ble_eq_true rfl) (Nat.le_of_ble_eq_true rfl) (⟨rfl, f1387, f1388, vL, var, vkA, f1390, f1397, f1398, f1399⟩)
theorem d31_0 : decode prog_32_method_3_code 0 = .ok (.aload_n 0, 1) := by decide +kernel
theorem d31_1 : decode prog_32_method_3_code 1 = .ok (.getfield 19, 3) := by decide +kernel
theorem d31_4 : decode prog_32_method_3_code 4 = .ok (.invokeinterface 22 1, 5) := by decide +kernel
theorem d31_9 : decode prog_32_method_3_code 9 = .ok (.ifCond .ne 7, 3) := by decide +kernel
theorem d31_16 : decode prog_32_method_3_code 16 = .ok (.iconst 0, 1) := by decide +kernel
theorem d31_17 : decode prog_32_method_3_code 17 = .ok (.ireturn, 1) := by decide +kernel
set_option maxRecDepth 65536 in
set_option maxHeartbeats 40000000 in
theorem gr_0 (l : Launch) (Z : State) (a0 : Array Value) (hw : ∀ d ∈ tables_1, d.before a0 Z = true) (n0 : Nat) (h : Heap) (O : Old Z n0 h) (s_DEF : Addr) (s_EL : Addr) (s_EA : Addr) (s_EM : Addr) (cs : Int32) (mr : Addr) (H : En Z s_DEF s_EL s_EA s_EM cs mr) (a : Addr) (E0 : Exa Z h a "com/example/plumbline/plumbline/Grades") (F0 : Fld Z h a "com/example/plumbline/plumbline/Grades" "total" "Ljava/util/List;" (.ref s_EL)) : Con l Z (⟨"com/example/plumbline/plumbline/Grades", "gradesTotal", "()Z"⟩ : MethodName) prog_32_method_3_code 1 (some .boolean) ({ frames := 1, cells := 0, slots := 0, locals := 12 } : Room) #[(.ref a)] h n0 (fun v h' => v = some (.int (0 : Int32)) ∧ h' = h) := by
  refine Con.mk (Ls := #[.val (.ref a)]) (plainFor_of_name pn_2) (fun m => by first | (simp [entryFrame, mkF, argsToLocals, Value.category]; done) | rfl) (fun w C => ?_)
  replace C : Cx w l Z "com/example/plumbline/plumbline/Grades" prog_32_method_3_code 1 (some .boolean) "gradesTotal" ({ frames := 1, cells := 0, slots := 0, locals := 12 } : Room) n0 := C
  obtain ⟨S_DEF, E_DEF, V_DEF, S_EL, E_EL, F_EL, V_EA, S_EM, E_EM, S_CS, hcs, MIR⟩ := id H
  obtain ⟨kD, V_DEF⟩ := V_DEF
  obtain ⟨kEA, V_EA⟩ := V_EA
  refine g_aloadN C (pc' := 1) d31_0 rfl rfl rfl ?_
  refine g_getF C (pc' := 4) (wd hw 214 rfl) Via.refl d31_1 rfl F0 rfl ?_
  refine g_interface C (pc' := 9) (k' := 0) (n' := 0) (argsL := []) (rest := []) (wd hw 221 rfl) (wd hw 222 rfl) (wd hw 223 rfl) rfl (wd hw 224 rfl) (wd hw 225 rfl) (wd hw 226 rfl) (wd hw 227 rfl) (wd hw 228 rfl) (wd hw 191 rfl) (wd hw 229 rfl) (by decide) d31_4 pd_14 rfl rfl rfl (E_EL.ext O.2) (lnE_0 l Z a0 hw n0 h O s_DEF s_EL s_EA s_EM cs mr H) (Nat.le_of_ble_eq_true rfl) (Nat.le_of_ble_eq_true rfl) (Nat.le_of_ble_eq_true rfl) (Nat.le_of_ble_eq_true rfl) rfl rfl rfl (fun v1401 h1400 q1402 => ?_)
  obtain ⟨rfl, eh1400⟩ := q1402
  subst h1400
  show G w _ h 0 0 9 #[.val (.ref a)] [(.int (1 : Int32))]
  refine g_ifY C (pc' := 16) d31_9 rfl (by decide) (by decide) rfl ?_
  refine g_iconst C (pc' := 17) (v := (0 : Int32)) d31_16 (by decide) rfl ?_
  exact g_zreturn C d31_17 rfl rfl (Nat.le_of_ble_eq_true rfl) (Nat.le_of_ble_eq_true rfl) (⟨rfl, rfl⟩)
theorem d31_12 : decode prog_32_method_3_code 12 = .ok (.iconst 1, 1) := by decide +kernel
theorem d31_13 : decode prog_32_method_3_code 13 = .ok (.goto 4, 3) := by decide +kernel
set_option maxRecDepth 65536 in
set_option maxHeartbeats 40000000 in
theorem gr_1 (l : Launch) (Z : State) (a0 : Array Value) (hw : ∀ d ∈ tables_1, d.before a0 Z = true) (n0 : Nat) (h : Heap) (O : Old Z n0 h) (s_DEF : Addr) (s_EL : Addr) (s_EA : Addr) (s_EM : Addr) (cs : Int32) (mr : Addr) (H : En Z s_DEF s_EL s_EA s_EM cs mr) (a : Addr) (E0 : Exa Z h a "com/example/plumbline/plumbline/Grades") (L : Addr) (F0 : Fld Z h a "com/example/plumbline/plumbline/Grades" "total" "Ljava/util/List;" (.ref L)) (E1 : Exa Z h L "java/util/ImmutableCollections$List12") : Con l Z (⟨"com/example/plumbline/plumbline/Grades", "gradesTotal", "()Z"⟩ : MethodName) prog_32_method_3_code 1 (some .boolean) ({ frames := 1, cells := 0, slots := 0, locals := 12 } : Room) #[(.ref a)] h n0 (fun v h' => v = some (.int (1 : Int32)) ∧ h' = h) := by
  refine Con.mk (Ls := #[.val (.ref a)]) (plainFor_of_name pn_2) (fun m => by first | (simp [entryFrame, mkF, argsToLocals, Value.category]; done) | rfl) (fun w C => ?_)
  replace C : Cx w l Z "com/example/plumbline/plumbline/Grades" prog_32_method_3_code 1 (some .boolean) "gradesTotal" ({ frames := 1, cells := 0, slots := 0, locals := 12 } : Room) n0 := C
  obtain ⟨S_DEF, E_DEF, V_DEF, S_EL, E_EL, F_EL, V_EA, S_EM, E_EM, S_CS, hcs, MIR⟩ := id H
  obtain ⟨kD, V_DEF⟩ := V_DEF
  obtain ⟨kEA, V_EA⟩ := V_EA
  refine g_aloadN C (pc' := 1) d31_0 rfl rfl rfl ?_
  refine g_getF C (pc' := 4) (wd hw 214 rfl) Via.refl d31_1 rfl F0 rfl ?_
  refine g_interface C (pc' := 9) (k' := 0) (n' := 0) (argsL := []) (rest := []) (wd hw 221 rfl) (wd hw 222 rfl) (wd hw 223 rfl) rfl (wd hw 250 rfl) (wd hw 251 rfl) (wd hw 252 rfl) (wd hw 253 rfl) (wd hw 254 rfl) (wd hw 232 rfl) (wd hw 255 rfl) (by decide) d31_4 pd_14 rfl rfl rfl E1 (l12E l Z a0 hw n0 h O s_DEF s_EL s_EA s_EM cs mr H L) (Nat.le_of_ble_eq_true rfl) (Nat.le_of_ble_eq_true rfl) (Nat.le_of_ble_eq_true rfl) (Nat.le_of_ble_eq_true rfl) rfl rfl rfl (fun v1404 h1403 q1405 => ?_)
  obtain ⟨rfl, eh1403⟩ := q1405
  subst h1403
  show G w _ h 0 0 9 #[.val (.ref a)] [(.int (0 : Int32))]
  refine g_ifN C (pc' := 12) d31_9 rfl (by decide) rfl ?_
  refine g_iconst C (pc' := 13) (v := (1 : Int32)) d31_12 (by decide) rfl ?_
  refine g_goto C (pc' := 17) d31_13 (by decide) rfl ?_
  exact g_zreturn C d31_17 rfl rfl (Nat.le_of_ble_eq_true rfl) (Nat.le_of_ble_eq_true rfl) (⟨rfl, rfl⟩)
set_option maxRecDepth 65536 in
set_option maxHeartbeats 40000000 in
theorem gr_2 (l : Launch) (Z : State) (a0 : Array Value) (hw : ∀ d ∈ tables_1, d.before a0 Z = true) (n0 : Nat) (h : Heap) (O : Old Z n0 h) (s_DEF : Addr) (s_EL : Addr) (s_EA : Addr) (s_EM : Addr) (cs : Int32) (mr : Addr) (H : En Z s_DEF s_EL s_EA s_EM cs mr) (a : Addr) (E0 : Exa Z h a "com/example/plumbline/plumbline/Grades") (L : Addr) (F0 : Fld Z h a "com/example/plumbline/plumbline/Grades" "total" "Ljava/util/List;" (.ref L)) (E1 : Exa Z h L "java/util/ImmutableCollections$List12") : Con l Z (⟨"com/example/plumbline/plumbline/Grades", "gradesTotal", "()Z"⟩ : MethodName) prog_32_method_3_code 1 (some .boolean) ({ frames := 1, cells := 0, slots := 0, locals := 12 } : Room) #[(.ref a)] h n0 (fun v h' => v = some (.int (1 : Int32)) ∧ h' = h) := by
  refine Con.mk (Ls := #[.val (.ref a)]) (plainFor_of_name pn_2) (fun m => by first | (simp [entryFrame, mkF, argsToLocals, Value.category]; done) | rfl) (fun w C => ?_)
  replace C : Cx w l Z "com/example/plumbline/plumbline/Grades" prog_32_method_3_code 1 (some .boolean) "gradesTotal" ({ frames := 1, cells := 0, slots := 0, locals := 12 } : Room) n0 := C
  obtain ⟨S_DEF, E_DEF, V_DEF, S_EL, E_EL, F_EL, V_EA, S_EM, E_EM, S_CS, hcs, MIR⟩ := id H
  obtain ⟨kD, V_DEF⟩ := V_DEF
  obtain ⟨kEA, V_EA⟩ := V_EA
  refine g_aloadN C (pc' := 1) d31_0 rfl rfl rfl ?_
  refine g_getF C (pc' := 4) (wd hw 214 rfl) Via.refl d31_1 rfl F0 rfl ?_
  refine g_interface C (pc' := 9) (k' := 0) (n' := 0) (argsL := []) (rest := []) (wd hw 221 rfl) (wd hw 222 rfl) (wd hw 223 rfl) rfl (wd hw 250 rfl) (wd hw 251 rfl) (wd hw 252 rfl) (wd hw 253 rfl) (wd hw 254 rfl) (wd hw 232 rfl) (wd hw 255 rfl) (by decide) d31_4 pd_14 rfl rfl rfl E1 (l12E l Z a0 hw n0 h O s_DEF s_EL s_EA s_EM cs mr H L) (Nat.le_of_ble_eq_true rfl) (Nat.le_of_ble_eq_true rfl) (Nat.le_of_ble_eq_true rfl) (Nat.le_of_ble_eq_true rfl) rfl rfl rfl (fun v1407 h1406 q1408 => ?_)
  obtain ⟨rfl, eh1406⟩ := q1408
  subst h1406
  show G w _ h 0 0 9 #[.val (.ref a)] [(.int (0 : Int32))]
  refine g_ifN C (pc' := 12) d31_9 rfl (by decide) rfl ?_
  refine g_iconst C (pc' := 13) (v := (1 : Int32)) d31_12 (by decide) rfl ?_
  refine g_goto C (pc' := 17) d31_13 (by decide) rfl ?_
  exact g_zreturn C d31_17 rfl rfl (Nat.le_of_ble_eq_true rfl) (Nat.le_of_ble_eq_true rfl) (⟨rfl, rfl⟩)
set_option maxRecDepth 65536 in
set_option maxHeartbeats 40000000 in
theorem gr_3 (l : Launch) (Z : State) (a0 : Array Value) (hw : ∀ d ∈ tables_1, d.before a0 Z = true) (n0 : Nat) (h : Heap) (O : Old Z n0 h) (s_DEF : Addr) (s_EL : Addr) (s_EA : Addr) (s_EM : Addr) (cs : Int32) (mr : Addr) (H : En Z s_DEF s_EL s_EA s_EM cs mr) (a : Addr) (E0 : Exa Z h a "com/example/plumbline/plumbline/Grades") (L : Addr) (ar : Addr) (kA : ClassId) (x : Addr) (F0 : Fld Z h a "com/example/plumbline/plumbline/Grades" "total" "Ljava/util/List;" (.ref L)) (E1 : Exa Z h L "java/util/ImmutableCollections$ListN") (F1 : Fld Z h L "java/util/ImmutableCollections$ListN" "elements" "[Ljava/lang/Object;" (.ref ar)) (A1 : Arv Z h ar kA (.object "java/lang/Object") (3 : Int32) [(.ref x), (.ref x), (.ref x)] .null) : Con l Z (⟨"com/example/plumbline/plumbline/Grades", "gradesTotal", "()Z"⟩ : MethodName) prog_32_method_3_code 1 (some .boolean) ({ frames := 1, cells := 0, slots := 0, locals := 12 } : Room) #[(.ref a)] h n0 (fun v h' => v = some (.int (1 : Int32)) ∧ h' = h) := by
  refine Con.mk (Ls := #[.val (.ref a)]) (plainFor_of_name pn_2) (fun m => by first | (simp [entryFrame, mkF, argsToLocals, Value.category]; done) | rfl) (fun w C => ?_)
  replace C : Cx w l Z "com/example/plumbline/plumbline/Grades" prog_32_method_3_code 1 (some .boolean) "gradesTotal" ({ frames := 1, cells := 0, slots := 0, locals := 12 } : Room) n0 := C
  obtain ⟨S_DEF, E_DEF, V_DEF, S_EL, E_EL, F_EL, V_EA, S_EM, E_EM, S_CS, hcs, MIR⟩ := id H
  obtain ⟨kD, V_DEF⟩ := V_DEF
  obtain ⟨kEA, V_EA⟩ := V_EA
  refine g_aloadN C (pc' := 1) d31_0 rfl rfl rfl ?_
  refine g_getF C (pc' := 4) (wd hw 214 rfl) Via.refl d31_1 rfl F0 rfl ?_
  refine g_interface C (pc' := 9) (k' := 0) (n' := 0) (argsL := []) (rest := []) (wd hw 221 rfl) (wd hw 222 rfl) (wd hw 223 rfl) rfl (wd hw 224 rfl) (wd hw 225 rfl) (wd hw 226 rfl) (wd hw 227 rfl) (wd hw 228 rfl) (wd hw 191 rfl) (wd hw 229 rfl) (by decide) d31_4 pd_14 rfl rfl rfl E1 (lnE_3 l Z a0 hw n0 h O s_DEF s_EL s_EA s_EM cs mr H L ar kA x x x F1 A1) (Nat.le_of_ble_eq_true rfl) (Nat.le_of_ble_eq_true rfl) (Nat.le_of_ble_eq_true rfl) (Nat.le_of_ble_eq_true rfl) rfl rfl rfl (fun v1410 h1409 q1411 => ?_)
  obtain ⟨rfl, eh1409⟩ := q1411
  subst h1409
  show G w _ h 0 0 9 #[.val (.ref a)] [(.int (0 : Int32))]
  refine g_ifN C (pc' := 12) d31_9 rfl (by decide) rfl ?_
  refine g_iconst C (pc' := 13) (v := (1 : Int32)) d31_12 (by decide) rfl ?_
  refine g_goto C (pc' := 17) d31_13 (by decide) rfl ?_
  exact g_zreturn C d31_17 rfl rfl (Nat.le_of_ble_eq_true rfl) (Nat.le_of_ble_eq_true rfl) (⟨rfl, rfl⟩)
theorem own_255 (x : Int32) : ¬ (255 : Int32) < (x &&& 255) := by
  have h := c_mask x 255 8 (by decide) (by decide)
  rw [Int32.lt_iff_toInt_lt, h]
  have e : (255 : Int32).toInt = 255 := by decide
  omega
theorem own_and3 (x : Int32) : (x &&& (3 : Int32)) = (0 : Int32) ∨ (x &&& (3 : Int32)) = (1 : Int32) ∨ (x &&& (3 : Int32)) = (2 : Int32) ∨ (x &&& (3 : Int32)) = (3 : Int32) := by
  have h2 := c_mask x 3 2 (by decide) (by decide)
  simp only [← Int32.toInt_inj, h2]
  have h3 : x.toInt % 4 = 0 ∨ x.toInt % 4 = 1 ∨ x.toInt % 4 = 2 ∨ x.toInt % 4 = 3 := by omega
  rcases h3 with h | h | h | h <;> simp [h]
def LQ : Option Value → Heap → Prop := fun v _ => v = some (.int (1 : Int32))
theorem pd_0 : parseMethodDescriptor "(C)Ljava/lang/String;" = some ⟨[.char], some (.object "java/lang/String")⟩ := by decide +kernel
theorem pd_5 : parseMethodDescriptor "(Ljava/lang/String;Ljava/lang/String;)V" = some ⟨[(.object "java/lang/String"), (.object "java/lang/String")], none⟩ := by decide +kernel
theorem pd_6 : parseMethodDescriptor "(Lcom/example/plumbline/plumbline/Points;ZLcom/example/plumbline/plumbline/Points;ZLjava/lang/Object;)V" = some ⟨[(.object "com/example/plumbline/plumbline/Points"), .boolean, (.object "com/example/plumbline/plumbline/Points"), .boolean, (.object "java/lang/Object")], none⟩ := by decide +kernel
theorem pd_12 : parseMethodDescriptor "(Ljava/util/List;Ljava/util/List;)V" = some ⟨[(.object "java/util/List"), (.object "java/util/List")], none⟩ := by decide +kernel
theorem pd_7 : parseMethodDescriptor "(Ljava/lang/Object;)Z" = some ⟨[(.object "java/lang/Object")], some .boolean⟩ := by decide +kernel
theorem pn_3 : plainName "com/example/plumbline/plumbline/GradesGradesTotalPinLaw" = true := by first | (simp [plainName, overriddenIn]; done) | decide +kernel
set_option maxRecDepth 65536 in
set_option maxHeartbeats 40000000 in
theorem rm0 (l : Launch) (Z : State) (a0 : Array Value) (hw : ∀ d ∈ tables_1, d.before a0 Z = true) (n0 : Nat) (h : Heap) (O : Old Z n0 h) (s_DEF : Addr) (s_EL : Addr) (s_EA : Addr) (s_EM : Addr) (cs : Int32) (mr : Addr) (H : En Z s_DEF s_EL s_EA s_EM cs mr) (p0 : Int32) (p1 : Int32) (p2 : Int32) : Con l Z x code maxLocals ret room_1 #[(.int p0), (.int p1), (.int p2)] h n0 (LQ) := by
  refine Con.mk (Ls := #[.val (.int p0), .val (.int p1), .val (.int p2), .unset, .unset, .unset, .unset, .unset, .unset, .unset, .unset, .unset]) (plainFor_of_name pn_3) (fun m => by first | (simp [entryFrame, mkF, argsToLocals, Value.category, maxLocals]; done) | rfl) (fun w C => ?_)
  replace C : Cx w l Z "com/example/plumbline/plumbline/GradesGradesTotalPinLaw" code 12 (some .boolean) "law" room_1 n0 := C
  obtain ⟨S_DEF, E_DEF, V_DEF, S_EL, E_EL, F_EL, V_EA, S_EM, E_EM, S_CS, hcs, MIR⟩ := id H
  obtain ⟨kD, V_DEF⟩ := V_DEF
  refine g_iloadN C (pc' := 1) at_0 rfl rfl ?_
  refine g_iconst C (pc' := 2) (v := (3 : Int32)) at_1 (by decide) rfl ?_
  refine g_iand C (pc' := 3) at_2 rfl rfl ?_
  refine g_istoreN C (pc' := 4) (Ls' := #[.val (.int p0), .val (.int p1), .val (.int p2), .val (.int (p0 &&& (3 : Int32))), .unset, .unset, .unset, .unset, .unset, .unset, .unset, .unset]) at_3 rfl rfl rfl ?_
  refine g_iloadN C (pc' := 5) at_4 rfl rfl ?_
  refine g_iconst C (pc' := 6) (v := (3 : Int32)) at_5 (by decide) rfl ?_
  refine g_iand C (pc' := 7) at_6 rfl rfl ?_
  refine g_istore C (pc' := 9) (Ls' := #[.val (.int p0), .val (.int p1), .val (.int p2), .val (.int (p0 &&& (3 : Int32))), .val (.int (p1 &&& (3 : Int32))), .unset, .unset, .unset, .unset, .unset, .unset, .unset]) at_7 rfl rfl rfl ?_
  refine g_iloadN C (pc' := 10) at_9 rfl rfl ?_
  refine g_sipush C (pc' := 13) (v := (255 : Int32)) at_10 (by decide) rfl ?_
  refine g_iand C (pc' := 14) at_13 rfl rfl ?_
  refine g_i2c C (pc' := 15) at_14 rfl rfl ?_
  rw [i2c_mask]
  refine g_callS C (pc' := 18) (k' := 2) (n' := 5) (argsL := [(.int (p2 &&& (255 : Int32)))]) (rest := []) (wd hw 0 rfl) (wd hw 1 rfl) (wd hw 2 rfl) (wd hw 3 rfl) (by decide) at_15 pd_0 rfl rfl rfl (valueOf l Z a0 hw n0 h O s_DEF s_EL s_EA s_EM cs mr H (p2 &&& (255 : Int32)) (own_255 _)) (Nat.le_of_ble_eq_true rfl) (Nat.le_of_ble_eq_true rfl) (Nat.le_of_ble_eq_true rfl) (Nat.le_of_ble_eq_true rfl) rfl rfl rfl (fun v1416 h1415 q1417 => ?_)
  obtain ⟨sg1412, rfl, hg1413, K1414⟩ := q1417
  have ge_sg1412 : n0 ≤ sg1412 := Nat.le_trans (O.1 ▸ O.2.1) hg1413
  have f1418 := O.keep K1414 all0
  show G w _ h1415 2 5 18 #[.val (.int p0), .val (.int p1), .val (.int p2), .val (.int (p0 &&& (3 : Int32))), .val (.int (p1 &&& (3 : Int32))), .unset, .unset, .unset, .unset, .unset, .unset, .unset] [(.ref sg1412)]
  refine g_astore C (pc' := 20) (Ls' := #[.val (.int p0), .val (.int p1), .val (.int p2), .val (.int (p0 &&& (3 : Int32))), .val (.int (p1 &&& (3 : Int32))), .val (.ref sg1412), .unset, .unset, .unset, .unset, .unset, .unset]) at_18 rfl rfl rfl rfl ?_
  refine g_new C (pc' := 23) (k' := 3) (n' := 7) (wd hw 26 rfl) (wd hw 27 rfl) (wd hw 28 rfl) at_20 (by decide) (by decide) rfl rfl rfl (fun h1419 b1420 ex1421 E1422 A1423 D1424 => ?_)
  have ge_b1420 : n0 ≤ b1420 := by rw [ex1421]; exact f1418.1 ▸ f1418.2.1
  have f1425 := f1418.ext E1422
  have F_name_b1420 : Fld Z h1419 b1420 "com/example/plumbline/plumbline/Grade" "name" "Ljava/lang/String;" .null := D1424 (Or.inr (wd hw 34 rfl)) (ty := (.object "java/lang/String")) (by decide)
  have F_overall_b1420 : Fld Z h1419 b1420 "com/example/plumbline/plumbline/Grade" "overall" "Ljava/lang/String;" .null := D1424 (Or.inr (wd hw 36 rfl)) (ty := (.object "java/lang/String")) (by decide)
  refine g_dup C (pc' := 24) at_23 rfl rfl rfl ?_
  refine g_aload C (pc' := 26) at_24 rfl rfl rfl ?_
  refine g_aconstNull C (pc' := 27) at_26 rfl ?_
  refine g_special C (pc' := 30) (k' := 3) (n' := 7) (argsL := [(.ref sg1412), .null]) (rest := [(.ref b1420)]) (wd hw 29 rfl) (wd hw 30 rfl) (wd hw 28 rfl) (wd hw 31 rfl) (by decide) rfl at_27 pd_5 rfl rfl rfl (grI l Z a0 hw n0 h1419 f1425 s_DEF s_EL s_EA s_EM cs mr H b1420 sg1412 ge_b1420 A1423 F_name_b1420 F_overall_b1420) (Nat.le_of_ble_eq_true rfl) (Nat.le_of_ble_eq_true rfl) (Nat.le_of_ble_eq_true rfl) (Nat.le_of_ble_eq_true rfl) rfl rfl rfl (fun v1428 h1427 q1429 => ?_)
  obtain ⟨rfl, K1426⟩ := q1429
  have f1430 := f1425.keep K1426 (allS ge_b1420 all0)
  have f1431 := A1423.keep K1426
  show G w _ h1427 3 7 30 #[.val (.int p0), .val (.int p1), .val (.int p2), .val (.int (p0 &&& (3 : Int32))), .val (.int (p1 &&& (3 : Int32))), .val (.ref sg1412), .unset, .unset, .unset, .unset, .unset, .unset] [(.ref b1420)]
  refine g_astore C (pc' := 32) (Ls' := #[.val (.int p0), .val (.int p1), .val (.int p2), .val (.int (p0 &&& (3 : Int32))), .val (.int (p1 &&& (3 : Int32))), .val (.ref sg1412), .val (.ref b1420), .unset, .unset, .unset, .unset, .unset]) at_30 rfl rfl rfl rfl ?_
  refine g_new C (pc' := 35) (k' := 4) (n' := 12) (wd hw 37 rfl) (wd hw 38 rfl) (wd hw 39 rfl) at_32 (by decide) (by decide) rfl rfl rfl (fun h1432 b1433 ex1434 E1435 A1436 D1437 => ?_)
  have ne_b1420_b1433 : b1420 ≠ b1433 := Nat.ne_of_lt (by rw [ex1434]; exact f1431.lt)
  have ge_b1433 : n0 ≤ b1433 := by rw [ex1434]; exact f1430.1 ▸ f1430.2.1
  have f1438 := f1430.ext E1435
  have f1439 := f1431.ext E1435
  have F_lower_b1433 : Fld Z h1432 b1433 "com/example/plumbline/plumbline/Band" "lower" "Lcom/example/plumbline/plumbline/Points;" .null := D1437 (Or.inr (wd hw 45 rfl)) (ty := (.object "com/example/plumbline/plumbline/Points")) (by decide)
  have F_lowerHeld_b1433 : Fld Z h1432 b1433 "com/example/plumbline/plumbline/Band" "lowerHeld" "Z" (.int (0 : Int32)) := D1437 (Or.inr (wd hw 47 rfl)) (ty := .boolean) (by decide)
  have F_upper_b1433 : Fld Z h1432 b1433 "com/example/plumbline/plumbline/Band" "upper" "Lcom/example/plumbline/plumbline/Points;" .null := D1437 (Or.inr (wd hw 49 rfl)) (ty := (.object "com/example/plumbline/plumbline/Points")) (by decide)
  have F_upperHeld_b1433 : Fld Z h1432 b1433 "com/example/plumbline/plumbline/Band" "upperHeld" "Z" (.int (0 : Int32)) := D1437 (Or.inr (wd hw 51 rfl)) (ty := .boolean) (by decide)
  have F_gives_b1433 : Fld Z h1432 b1433 "com/example/plumbline/plumbline/Band" "gives" "Ljava/lang/Object;" .null := D1437 (Or.inr (wd hw 53 rfl)) (ty := (.object "java/lang/Object")) (by decide)
  refine g_dup C (pc' := 36) at_35 rfl rfl rfl ?_
  refine g_aconstNull C (pc' := 37) at_36 rfl ?_
  refine g_iconst C (pc' := 38) (v := (0 : Int32)) at_37 (by decide) rfl ?_
  refine g_aconstNull C (pc' := 39) at_38 rfl ?_
  refine g_iconst C (pc' := 40) (v := (0 : Int32)) at_39 (by decide) rfl ?_
  refine g_aload C (pc' := 42) at_40 rfl rfl rfl ?_
  refine g_special C (pc' := 45) (k' := 4) (n' := 12) (argsL := [.null, (.int (0 : Int32)), .null, (.int (0 : Int32)), (.ref b1420)]) (rest := [(.ref b1433)]) (wd hw 40 rfl) (wd hw 41 rfl) (wd hw 39 rfl) (wd hw 42 rfl) (by decide) rfl at_42 pd_6 rfl rfl rfl (bdI l Z a0 hw n0 h1432 f1438 s_DEF s_EL s_EA s_EM cs mr H b1433 b1420 ge_b1433 A1436 F_lower_b1433 F_lowerHeld_b1433 F_upper_b1433 F_upperHeld_b1433 F_gives_b1433) (Nat.le_of_ble_eq_true rfl) (Nat.le_of_ble_eq_true rfl) (Nat.le_of_ble_eq_true rfl) (Nat.le_of_ble_eq_true rfl) rfl rfl rfl (fun v1442 h1441 q1443 => ?_)
  obtain ⟨rfl, K1440⟩ := q1443
  have f1444 := f1438.keep K1440 (allS ge_b1433 all0)
  have f1445 := f1439.keep K1440
  have f1446 := A1436.keep K1440
  show G w _ h1441 4 12 45 #[.val (.int p0), .val (.int p1), .val (.int p2), .val (.int (p0 &&& (3 : Int32))), .val (.int (p1 &&& (3 : Int32))), .val (.ref sg1412), .val (.ref b1420), .unset, .unset, .unset, .unset, .unset] [(.ref b1433)]
  refine g_astore C (pc' := 47) (Ls' := #[.val (.int p0), .val (.int p1), .val (.int p2), .val (.int (p0 &&& (3 : Int32))), .val (.int (p1 &&& (3 : Int32))), .val (.ref sg1412), .val (.ref b1420), .val (.ref b1433), .unset, .unset, .unset, .unset]) at_45 rfl rfl rfl rfl ?_
  refine g_new C (pc' := 50) (k' := 5) (n' := 15) (wd hw 54 rfl) (wd hw 55 rfl) (wd hw 56 rfl) at_47 (by decide) (by decide) rfl rfl rfl (fun h1447 b1448 ex1449 E1450 A1451 D1452 => ?_)
  have ne_b1420_b1448 : b1420 ≠ b1448 := Nat.ne_of_lt (by rw [ex1449]; exact f1445.lt)
  have ne_b1433_b1448 : b1433 ≠ b1448 := Nat.ne_of_lt (by rw [ex1449]; exact f1446.lt)
  have ge_b1448 : n0 ≤ b1448 := by rw [ex1449]; exact f1444.1 ▸ f1444.2.1
  have f1453 := f1444.ext E1450
  have f1454 := f1445.ext E1450
  have f1455 := f1446.ext E1450
  have F_modCount_b1448 : Fld Z h1447 b1448 "java/util/AbstractList" "modCount" "I" (.int (0 : Int32)) := D1452 (Or.inl (wd hw 74 rfl)) (ty := .int) (by decide)
  have F_elementData_b1448 : Fld Z h1447 b1448 "java/util/ArrayList" "elementData" "[Ljava/lang/Object;" .null := D1452 (Or.inl (wd hw 77 rfl)) (ty := (.array (.object "java/lang/Object"))) (by decide)
  have F_size_b1448 : Fld Z h1447 b1448 "java/util/ArrayList" "size" "I" (.int (0 : Int32)) := D1452 (Or.inl (wd hw 90 rfl)) (ty := .int) (by decide)
  refine g_dup C (pc' := 51) at_50 rfl rfl rfl ?_
  refine g_special C (pc' := 54) (k' := 5) (n' := 15) (argsL := []) (rest := [(.ref b1448)]) (wd hw 57 rfl) (wd hw 58 rfl) (wd hw 56 rfl) (wd hw 59 rfl) (by decide) rfl at_51 pd_4 rfl rfl rfl (al_init l Z a0 hw n0 h1447 f1453 s_DEF s_EL s_EA s_EM cs mr H b1448 ge_b1448 A1451 F_modCount_b1448 F_elementData_b1448 F_size_b1448) (Nat.le_of_ble_eq_true rfl) (Nat.le_of_ble_eq_true rfl) (Nat.le_of_ble_eq_true rfl) (Nat.le_of_ble_eq_true rfl) rfl rfl rfl (fun v1459 h1458 q1460 => ?_)
  obtain ⟨rfl, K1456, P1457⟩ := q1460
  have f1461 := f1453.keep K1456 (allS ge_b1448 all0)
  have f1462 := f1454.keep K1456
  have f1463 := f1455.keep K1456
  have f1464 := A1451.keep K1456
  show G w _ h1458 5 15 54 #[.val (.int p0), .val (.int p1), .val (.int p2), .val (.int (p0 &&& (3 : Int32))), .val (.int (p1 &&& (3 : Int32))), .val (.ref sg1412), .val (.ref b1420), .val (.ref b1433), .unset, .unset, .unset, .unset] [(.ref b1448)]
  refine g_astore C (pc' := 56) (Ls' := #[.val (.int p0), .val (.int p1), .val (.int p2), .val (.int (p0 &&& (3 : Int32))), .val (.int (p1 &&& (3 : Int32))), .val (.ref sg1412), .val (.ref b1420), .val (.ref b1433), .val (.ref b1448), .unset, .unset, .unset]) at_54 rfl rfl rfl rfl ?_
  refine g_new C (pc' := 59) (k' := 6) (n' := 18) (wd hw 54 rfl) (wd hw 55 rfl) (wd hw 56 rfl) at_56 (by decide) (by decide) rfl rfl rfl (fun h1465 b1466 ex1467 E1468 A1469 D1470 => ?_)
  have ne_b1420_b1466 : b1420 ≠ b1466 := Nat.ne_of_lt (by rw [ex1467]; exact f1462.lt)
  have ne_b1433_b1466 : b1433 ≠ b1466 := Nat.ne_of_lt (by rw [ex1467]; exact f1463.lt)
  have ne_b1448_b1466 : b1448 ≠ b1466 := Nat.ne_of_lt (by rw [ex1467]; exact f1464.lt)
  have ge_b1466 : n0 ≤ b1466 := by rw [ex1467]; exact f1461.1 ▸ f1461.2.1
  have f1471 := f1461.ext E1468
  have f1472 := f1462.ext E1468
  have f1473 := f1463.ext E1468
  have f1474 := f1464.ext E1468
  have f1475 := own_AL0_ext P1457 E1468
  have F_modCount_b1466 : Fld Z h1465 b1466 "java/util/AbstractList" "modCount" "I" (.int (0 : Int32)) := D1470 (Or.inl (wd hw 74 rfl)) (ty := .int) (by decide)
  have F_elementData_b1466 : Fld Z h1465 b1466 "java/util/ArrayList" "elementData" "[Ljava/lang/Object;" .null := D1470 (Or.inl (wd hw 77 rfl)) (ty := (.array (.object "java/lang/Object"))) (by decide)
  have F_size_b1466 : Fld Z h1465 b1466 "java/util/ArrayList" "size" "I" (.int (0 : Int32)) := D1470 (Or.inl (wd hw 90 rfl)) (ty := .int) (by decide)
  refine g_dup C (pc' := 60) at_59 rfl rfl rfl ?_
  refine g_special C (pc' := 63) (k' := 6) (n' := 18) (argsL := []) (rest := [(.ref b1466)]) (wd hw 57 rfl) (wd hw 58 rfl) (wd hw 56 rfl) (wd hw 59 rfl) (by decide) rfl at_60 pd_4 rfl rfl rfl (al_init l Z a0 hw n0 h1465 f1471 s_DEF s_EL s_EA s_EM cs mr H b1466 ge_b1466 A1469 F_modCount_b1466 F_elementData_b1466 F_size_b1466) (Nat.le_of_ble_eq_true rfl) (Nat.le_of_ble_eq_true rfl) (Nat.le_of_ble_eq_true rfl) (Nat.le_of_ble_eq_true rfl) rfl rfl rfl (fun v1479 h1478 q1480 => ?_)
  obtain ⟨rfl, K1476, P1477⟩ := q1480
  have f1481 := f1471.keep K1476 (allS ge_b1466 all0)
  have f1482 := f1472.keep K1476
  have f1483 := f1473.keep K1476
  have f1484 := f1474.keep K1476
  have f1485 := own_AL0_keep f1475 K1476 (ninS ne_b1448_b1466 nin0)
  have f1486 := A1469.keep K1476
  show G w _ h1478 6 18 63 #[.val (.int p0), .val (.int p1), .val (.int p2), .val (.int (p0 &&& (3 : Int32))), .val (.int (p1 &&& (3 : Int32))), .val (.ref sg1412), .val (.ref b1420), .val (.ref b1433), .val (.ref b1448), .unset, .unset, .unset] [(.ref b1466)]
  refine g_astore C (pc' := 65) (Ls' := #[.val (.int p0), .val (.int p1), .val (.int p2), .val (.int (p0 &&& (3 : Int32))), .val (.int (p1 &&& (3 : Int32))), .val (.ref sg1412), .val (.ref b1420), .val (.ref b1433), .val (.ref b1448), .val (.ref b1466), .unset, .unset]) at_63 rfl rfl rfl rfl ?_
  rcases own_and3 p0 with e4 | e4 | e4 | e4
  · rw [e4]
    refine g_iloadN C (pc' := 66) at_65 rfl rfl ?_
    refine g_ifY C (pc' := 79) at_66 rfl (by decide) (by decide) rfl ?_
    refine g_iloadN C (pc' := 80) at_79 rfl rfl ?_
    refine g_iconst C (pc' := 81) (v := (1 : Int32)) at_80 (by decide) rfl ?_
    refine g_icY C (pc' := 94) at_81 rfl (by decide) (by decide) rfl ?_
    refine g_iloadN C (pc' := 95) at_94 rfl rfl ?_
    refine g_iconst C (pc' := 96) (v := (2 : Int32)) at_95 (by decide) rfl ?_
    refine g_icY C (pc' := 109) at_96 rfl (by decide) (by decide) rfl ?_
    rcases own_and3 p1 with e4 | e4 | e4 | e4
    · rw [e4]
      refine g_iload C (pc' := 111) at_109 rfl rfl ?_
      refine g_ifY C (pc' := 124) at_111 rfl (by decide) (by decide) rfl ?_
      refine g_iload C (pc' := 126) at_124 rfl rfl ?_
      refine g_iconst C (pc' := 127) (v := (1 : Int32)) at_126 (by decide) rfl ?_
      refine g_icY C (pc' := 140) at_127 rfl (by decide) (by decide) rfl ?_
      refine g_iload C (pc' := 142) at_140 rfl rfl ?_
      refine g_iconst C (pc' := 143) (v := (2 : Int32)) at_142 (by decide) rfl ?_
      refine g_icY C (pc' := 156) at_143 rfl (by decide) (by decide) rfl ?_
      refine g_new C (pc' := 159) (k' := 7) (n' := 20) (wd hw 113 rfl) (wd hw 114 rfl) (wd hw 115 rfl) at_156 (by decide) (by decide) rfl rfl rfl (fun h1487 b1488 ex1489 E1490 A1491 D1492 => ?_)
      have ne_b1420_b1488 : b1420 ≠ b1488 := Nat.ne_of_lt (by rw [ex1489]; exact f1482.lt)
      have ne_b1433_b1488 : b1433 ≠ b1488 := Nat.ne_of_lt (by rw [ex1489]; exact f1483.lt)
      have ne_b1448_b1488 : b1448 ≠ b1488 := Nat.ne_of_lt (by rw [ex1489]; exact f1484.lt)
      have ne_b1466_b1488 : b1466 ≠ b1488 := Nat.ne_of_lt (by rw [ex1489]; exact f1486.lt)
      have ge_b1488 : n0 ≤ b1488 := by rw [ex1489]; exact f1481.1 ▸ f1481.2.1
      have f1493 := f1481.ext E1490
      have f1494 := f1482.ext E1490
      have f1495 := f1483.ext E1490
      have f1496 := f1484.ext E1490
      have f1497 := own_AL0_ext f1485 E1490
      have f1498 := f1486.ext E1490
      have f1499 := own_AL0_ext P1477 E1490
      have F_area_b1488 : Fld Z h1487 b1488 "com/example/plumbline/plumbline/Grades" "area" "Ljava/util/List;" .null := D1492 (Or.inr (wd hw 148 rfl)) (ty := (.object "java/util/List")) (by decide)
      have F_total_b1488 : Fld Z h1487 b1488 "com/example/plumbline/plumbline/Grades" "total" "Ljava/util/List;" .null := D1492 (Or.inr (wd hw 215 rfl)) (ty := (.object "java/util/List")) (by decide)
      refine g_dup C (pc' := 160) at_159 rfl rfl rfl ?_
      refine g_aload C (pc' := 162) at_160 rfl rfl rfl ?_
      refine g_aload C (pc' := 164) at_162 rfl rfl rfl ?_
      refine g_special C (pc' := 167) (k' := 7) (n' := 20) (argsL := [(.ref b1448), (.ref b1466)]) (rest := [(.ref b1488)]) (wd hw 116 rfl) (wd hw 117 rfl) (wd hw 115 rfl) (wd hw 118 rfl) (by decide) rfl at_164 pd_12 rfl rfl rfl (gsI_00 l Z a0 hw n0 h1487 f1493 s_DEF s_EL s_EA s_EM cs mr H b1488 b1433 ge_b1488 b1448 (0 : Int32) b1466 (0 : Int32) A1491 F_area_b1488 F_total_b1488 f1495 f1497 f1499 (Ne.symm ne_b1448_b1488) (Ne.symm ne_b1466_b1488)) (Nat.le_of_ble_eq_true rfl) (Nat.le_of_ble_eq_true rfl) (Nat.le_of_ble_eq_true rfl) (Nat.le_of_ble_eq_true rfl) rfl rfl rfl (fun v1504 h1503 q1505 => ?_)
      obtain ⟨rfl, K1500, E1501, F1502⟩ := q1505
      have f1506 := f1493.keep K1500 (allS ge_b1488 all0)
      have f1507 := f1494.keep K1500
      have f1508 := f1495.keep K1500
      have f1509 := f1496.keep K1500
      have f1510 := own_AL0_keep f1497 K1500 (ninS ne_b1448_b1488 nin0)
      have f1511 := f1498.keep K1500
      have f1512 := own_AL0_keep f1499 K1500 (ninS ne_b1466_b1488 nin0)
      have f1513 := A1491.keep K1500
      show G w _ h1503 7 20 167 #[.val (.int p0), .val (.int p1), .val (.int p2), .val (.int (0 : Int32)), .val (.int (0 : Int32)), .val (.ref sg1412), .val (.ref b1420), .val (.ref b1433), .val (.ref b1448), .val (.ref b1466), .unset, .unset] [(.ref b1488)]
      refine g_astore C (pc' := 169) (Ls' := #[.val (.int p0), .val (.int p1), .val (.int p2), .val (.int (0 : Int32)), .val (.int (0 : Int32)), .val (.ref sg1412), .val (.ref b1420), .val (.ref b1433), .val (.ref b1448), .val (.ref b1466), .val (.ref b1488), .unset]) at_167 rfl rfl rfl rfl ?_
      refine g_aload C (pc' := 171) at_169 rfl rfl rfl ?_
      refine g_virtual C (pc' := 174) (k' := 7) (n' := 20) (argsL := []) (rest := []) (wd hw 216 rfl) (wd hw 217 rfl) (nfSel (wd hw 219 rfl)) (wd hw 219 rfl) (wd hw 218 rfl) (wd hw 115 rfl) (wd hw 220 rfl) (by decide) at_171 pd_14 rfl rfl rfl E1501 (gr_0 l Z a0 hw n0 h1503 f1506 s_DEF s_EL s_EA s_EM cs mr H b1488 E1501 F1502) (Nat.le_of_ble_eq_true rfl) (Nat.le_of_ble_eq_true rfl) (Nat.le_of_ble_eq_true rfl) (Nat.le_of_ble_eq_true rfl) rfl rfl rfl (fun v1515 h1514 q1516 => ?_)
      obtain ⟨rfl, eh1514⟩ := q1516
      subst h1514
      show G w _ h1503 7 20 174 #[.val (.int p0), .val (.int p1), .val (.int p2), .val (.int (0 : Int32)), .val (.int (0 : Int32)), .val (.ref sg1412), .val (.ref b1420), .val (.ref b1433), .val (.ref b1448), .val (.ref b1466), .val (.ref b1488), .unset] [(.int (0 : Int32))]
      refine g_istore C (pc' := 176) (Ls' := #[.val (.int p0), .val (.int p1), .val (.int p2), .val (.int (0 : Int32)), .val (.int (0 : Int32)), .val (.ref sg1412), .val (.ref b1420), .val (.ref b1433), .val (.ref b1448), .val (.ref b1466), .val (.ref b1488), .val (.int (0 : Int32))]) at_174 rfl rfl rfl ?_
      refine g_iload C (pc' := 178) at_176 rfl rfl ?_
      refine g_iload C (pc' := 180) at_178 rfl rfl ?_
      refine g_ifY C (pc' := 187) at_180 rfl (by decide) (by decide) rfl ?_
      refine g_iconst C (pc' := 188) (v := (0 : Int32)) at_187 (by decide) rfl ?_
      refine g_icN C (pc' := 191) at_188 rfl (by decide) rfl ?_
      refine g_iconst C (pc' := 192) (v := (1 : Int32)) at_191 (by decide) rfl ?_
      refine g_goto C (pc' := 196) at_192 (by decide) rfl ?_
      exact g_zreturn C at_196 rfl rfl (Nat.le_of_ble_eq_true rfl) (Nat.le_of_ble_eq_true rfl) (rfl)
    · rw [e4]
      refine g_iload C (pc' := 111) at_109 rfl rfl ?_
      refine g_ifN C (pc' := 114) at_111 rfl (by decide) rfl ?_
      refine g_aload C (pc' := 116) at_114 rfl rfl rfl ?_
      refine g_aload C (pc' := 118) at_116 rfl rfl rfl ?_
      refine g_interface C (pc' := 123) (k' := 7) (n' := 28) (argsL := [(.ref b1433)]) (rest := []) (wd hw 78 rfl) (wd hw 79 rfl) (wd hw 80 rfl) rfl (wd hw 81 rfl) (wd hw 82 rfl) (wd hw 83 rfl) (wd hw 84 rfl) (wd hw 85 rfl) (wd hw 56 rfl) (wd hw 86 rfl) (by decide) at_118 pd_7 rfl rfl rfl f1486 (add_0 l Z a0 hw n0 h1478 f1481 s_DEF s_EL s_EA s_EM cs mr H b1466 (0 : Int32) b1433 f1483 P1477) (Nat.le_of_ble_eq_true rfl) (Nat.le_of_ble_eq_true rfl) (Nat.le_of_ble_eq_true rfl) (Nat.le_of_ble_eq_true rfl) rfl rfl rfl (fun v1523 h1522 q1524 => ?_)
      obtain ⟨rfl, K1517, ed1519, kE1520, hg1521, P1518⟩ := q1524
      have ne_b1420_ed1519 : b1420 ≠ ed1519 := Nat.ne_of_lt (Nat.lt_of_lt_of_le f1482.lt hg1521)
      have ne_b1433_ed1519 : b1433 ≠ ed1519 := Nat.ne_of_lt (Nat.lt_of_lt_of_le f1483.lt hg1521)
      have ne_b1448_ed1519 : b1448 ≠ ed1519 := Nat.ne_of_lt (Nat.lt_of_lt_of_le f1484.lt hg1521)
      have ne_b1466_ed1519 : b1466 ≠ ed1519 := Nat.ne_of_lt (Nat.lt_of_lt_of_le f1486.lt hg1521)
      have ge_ed1519 : n0 ≤ ed1519 := Nat.le_trans (f1481.1 ▸ f1481.2.1) hg1521
      have f1525 := f1481.keep K1517 (allS ge_b1466 all0)
      have f1526 := f1482.keep K1517
      have f1527 := f1483.keep K1517
      have f1528 := f1484.keep K1517
      have f1529 := own_AL0_keep f1485 K1517 (ninS ne_b1448_b1466 nin0)
      have f1530 := f1486.keep K1517
      have E1531 := P1518.2.2.2.2.2.1
      show G w _ h1522 7 28 123 #[.val (.int p0), .val (.int p1), .val (.int p2), .val (.int (0 : Int32)), .val (.int (1 : Int32)), .val (.ref sg1412), .val (.ref b1420), .val (.ref b1433), .val (.ref b1448), .val (.ref b1466), .unset, .unset] [(.int (1 : Int32))]
      refine g_pop C (pc' := 124) at_123 rfl rfl rfl ?_
      refine g_iload C (pc' := 126) at_124 rfl rfl ?_
      refine g_iconst C (pc' := 127) (v := (1 : Int32)) at_126 (by decide) rfl ?_
      refine g_icY C (pc' := 140) at_127 rfl (by decide) (by decide) rfl ?_
      refine g_iload C (pc' := 142) at_140 rfl rfl ?_
      refine g_iconst C (pc' := 143) (v := (2 : Int32)) at_142 (by decide) rfl ?_
      refine g_icY C (pc' := 156) at_143 rfl (by decide) (by decide) rfl ?_
      refine g_new C (pc' := 159) (k' := 8) (n' := 30) (wd hw 113 rfl) (wd hw 114 rfl) (wd hw 115 rfl) at_156 (by decide) (by decide) rfl rfl rfl (fun h1532 b1533 ex1534 E1535 A1536 D1537 => ?_)
      have ne_b1420_b1533 : b1420 ≠ b1533 := Nat.ne_of_lt (by rw [ex1534]; exact f1526.lt)
      have ne_b1433_b1533 : b1433 ≠ b1533 := Nat.ne_of_lt (by rw [ex1534]; exact f1527.lt)
      have ne_b1448_b1533 : b1448 ≠ b1533 := Nat.ne_of_lt (by rw [ex1534]; exact f1528.lt)
      have ne_b1466_b1533 : b1466 ≠ b1533 := Nat.ne_of_lt (by rw [ex1534]; exact f1530.lt)
      have ne_ed1519_b1533 : ed1519 ≠ b1533 := Nat.ne_of_lt (by rw [ex1534]; exact E1531.lt)
      have ge_b1533 : n0 ≤ b1533 := by rw [ex1534]; exact f1525.1 ▸ f1525.2.1
      have f1538 := f1525.ext E1535
      have f1539 := f1526.ext E1535
      have f1540 := f1527.ext E1535
      have f1541 := f1528.ext E1535
      have f1542 := own_AL0_ext f1529 E1535
      have f1543 := f1530.ext E1535
      have f1544 := own_AL1_ext P1518 E1535
      have f1545 := E1531.ext E1535
      have F_area_b1533 : Fld Z h1532 b1533 "com/example/plumbline/plumbline/Grades" "area" "Ljava/util/List;" .null := D1537 (Or.inr (wd hw 148 rfl)) (ty := (.object "java/util/List")) (by decide)
      have F_total_b1533 : Fld Z h1532 b1533 "com/example/plumbline/plumbline/Grades" "total" "Ljava/util/List;" .null := D1537 (Or.inr (wd hw 215 rfl)) (ty := (.object "java/util/List")) (by decide)
      refine g_dup C (pc' := 160) at_159 rfl rfl rfl ?_
      refine g_aload C (pc' := 162) at_160 rfl rfl rfl ?_
      refine g_aload C (pc' := 164) at_162 rfl rfl rfl ?_
      refine g_special C (pc' := 167) (k' := 10) (n' := 33) (argsL := [(.ref b1448), (.ref b1466)]) (rest := [(.ref b1533)]) (wd hw 116 rfl) (wd hw 117 rfl) (wd hw 115 rfl) (wd hw 118 rfl) (by decide) rfl at_164 pd_12 rfl rfl rfl (gsI_10 l Z a0 hw n0 h1532 f1538 s_DEF s_EL s_EA s_EM cs mr H b1533 b1433 ge_b1533 b1448 (0 : Int32) b1466 ed1519 kE1520 ((0 : Int32) + (1 : Int32)) A1536 F_area_b1533 F_total_b1533 f1540 f1542 f1544 (Ne.symm ne_b1448_b1533) (Ne.symm ne_b1466_b1533) (Ne.symm ne_ed1519_b1533)) (Nat.le_of_ble_eq_true rfl) (Nat.le_of_ble_eq_true rfl) (Nat.le_of_ble_eq_true rfl) (Nat.le_of_ble_eq_true rfl) rfl rfl rfl (fun v1550 h1549 q1551 => ?_)
      obtain ⟨rfl, K1546, E1547, L, F1548, EL⟩ := q1551
      have f1552 := f1538.keep K1546 (allS ge_b1533 all0)
      have f1553 := f1539.keep K1546
      have f1554 := f1540.keep K1546
      have f1555 := f1541.keep K1546
      have f1556 := own_AL0_keep f1542 K1546 (ninS ne_b1448_b1533 nin0)
      have f1557 := f1543.keep K1546
      have f1558 := own_AL1_keep f1544 K1546 (ninS ne_b1466_b1533 nin0) (ninS ne_ed1519_b1533 nin0)
      have f1559 := f1545.keep K1546
      have f1560 := A1536.keep K1546
      show G w _ h1549 10 33 167 #[.val (.int p0), .val (.int p1), .val (.int p2), .val (.int (0 : Int32)), .val (.int (1 : Int32)), .val (.ref sg1412), .val (.ref b1420), .val (.ref b1433), .val (.ref b1448), .val (.ref b1466), .unset, .unset] [(.ref b1533)]
      refine g_astore C (pc' := 169) (Ls' := #[.val (.int p0), .val (.int p1), .val (.int p2), .val (.int (0 : Int32)), .val (.int (1 : Int32)), .val (.ref sg1412), .val (.ref b1420), .val (.ref b1433), .val (.ref b1448), .val (.ref b1466), .val (.ref b1533), .unset]) at_167 rfl rfl rfl rfl ?_
      refine g_aload C (pc' := 171) at_169 rfl rfl rfl ?_
      refine g_virtual C (pc' := 174) (k' := 10) (n' := 33) (argsL := []) (rest := []) (wd hw 216 rfl) (wd hw 217 rfl) (nfSel (wd hw 219 rfl)) (wd hw 219 rfl) (wd hw 218 rfl) (wd hw 115 rfl) (wd hw 220 rfl) (by decide) at_171 pd_14 rfl rfl rfl E1547 (gr_1 l Z a0 hw n0 h1549 f1552 s_DEF s_EL s_EA s_EM cs mr H b1533 E1547 L F1548 EL) (Nat.le_of_ble_eq_true rfl) (Nat.le_of_ble_eq_true rfl) (Nat.le_of_ble_eq_true rfl) (Nat.le_of_ble_eq_true rfl) rfl rfl rfl (fun v1562 h1561 q1563 => ?_)
      obtain ⟨rfl, eh1561⟩ := q1563
      subst h1561
      show G w _ h1549 10 33 174 #[.val (.int p0), .val (.int p1), .val (.int p2), .val (.int (0 : Int32)), .val (.int (1 : Int32)), .val (.ref sg1412), .val (.ref b1420), .val (.ref b1433), .val (.ref b1448), .val (.ref b1466), .val (.ref b1533), .unset] [(.int (1 : Int32))]
      refine g_istore C (pc' := 176) (Ls' := #[.val (.int p0), .val (.int p1), .val (.int p2), .val (.int (0 : Int32)), .val (.int (1 : Int32)), .val (.ref sg1412), .val (.ref b1420), .val (.ref b1433), .val (.ref b1448), .val (.ref b1466), .val (.ref b1533), .val (.int (1 : Int32))]) at_174 rfl rfl rfl ?_
      refine g_iload C (pc' := 178) at_176 rfl rfl ?_
      refine g_iload C (pc' := 180) at_178 rfl rfl ?_
      refine g_ifN C (pc' := 183) at_180 rfl (by decide) rfl ?_
      refine g_iconst C (pc' := 184) (v := (1 : Int32)) at_183 (by decide) rfl ?_
      refine g_goto C (pc' := 188) at_184 (by decide) rfl ?_
      refine g_icN C (pc' := 191) at_188 rfl (by decide) rfl ?_
      refine g_iconst C (pc' := 192) (v := (1 : Int32)) at_191 (by decide) rfl ?_
      refine g_goto C (pc' := 196) at_192 (by decide) rfl ?_
      exact g_zreturn C at_196 rfl rfl (Nat.le_of_ble_eq_true rfl) (Nat.le_of_ble_eq_true rfl) (rfl)
    · rw [e4]
      refine g_iload C (pc' := 111) at_109 rfl rfl ?_
      refine g_ifN C (pc' := 114) at_111 rfl (by decide) rfl ?_
      refine g_aload C (pc' := 116) at_114 rfl rfl rfl ?_
      refine g_aload C (pc' := 118) at_116 rfl rfl rfl ?_
      refine g_interface C (pc' := 123) (k' := 7) (n' := 28) (argsL := [(.ref b1433)]) (rest := []) (wd hw 78 rfl) (wd hw 79 rfl) (wd hw 80 rfl) rfl (wd hw 81 rfl) (wd hw 82 rfl) (wd hw 83 rfl) (wd hw 84 rfl) (wd hw 85 rfl) (wd hw 56 rfl) (wd hw 86 rfl) (by decide) at_118 pd_7 rfl rfl rfl f1486 (add_0 l Z a0 hw n0 h1478 f1481 s_DEF s_EL s_EA s_EM cs mr H b1466 (0 : Int32) b1433 f1483 P1477) (Nat.le_of_ble_eq_true rfl) (Nat.le_of_ble_eq_true rfl) (Nat.le_of_ble_eq_true rfl) (Nat.le_of_ble_eq_true rfl) rfl rfl rfl (fun v1570 h1569 q1571 => ?_)
      obtain ⟨rfl, K1564, ed1566, kE1567, hg1568, P1565⟩ := q1571
      have ne_b1420_ed1566 : b1420 ≠ ed1566 := Nat.ne_of_lt (Nat.lt_of_lt_of_le f1482.lt hg1568)
      have ne_b1433_ed1566 : b1433 ≠ ed1566 := Nat.ne_of_lt (Nat.lt_of_lt_of_le f1483.lt hg1568)
      have ne_b1448_ed1566 : b1448 ≠ ed1566 := Nat.ne_of_lt (Nat.lt_of_lt_of_le f1484.lt hg1568)
      have ne_b1466_ed1566 : b1466 ≠ ed1566 := Nat.ne_of_lt (Nat.lt_of_lt_of_le f1486.lt hg1568)
      have ge_ed1566 : n0 ≤ ed1566 := Nat.le_trans (f1481.1 ▸ f1481.2.1) hg1568
      have f1572 := f1481.keep K1564 (allS ge_b1466 all0)
      have f1573 := f1482.keep K1564
      have f1574 := f1483.keep K1564
      have f1575 := f1484.keep K1564
      have f1576 := own_AL0_keep f1485 K1564 (ninS ne_b1448_b1466 nin0)
      have f1577 := f1486.keep K1564
      have E1578 := P1565.2.2.2.2.2.1
      show G w _ h1569 7 28 123 #[.val (.int p0), .val (.int p1), .val (.int p2), .val (.int (0 : Int32)), .val (.int (2 : Int32)), .val (.ref sg1412), .val (.ref b1420), .val (.ref b1433), .val (.ref b1448), .val (.ref b1466), .unset, .unset] [(.int (1 : Int32))]
      refine g_pop C (pc' := 124) at_123 rfl rfl rfl ?_
      refine g_iload C (pc' := 126) at_124 rfl rfl ?_
      refine g_iconst C (pc' := 127) (v := (1 : Int32)) at_126 (by decide) rfl ?_
      refine g_icN C (pc' := 130) at_127 rfl (by decide) rfl ?_
      refine g_aload C (pc' := 132) at_130 rfl rfl rfl ?_
      refine g_aload C (pc' := 134) at_132 rfl rfl rfl ?_
      refine g_interface C (pc' := 139) (k' := 7) (n' := 28) (argsL := [(.ref b1433)]) (rest := []) (wd hw 78 rfl) (wd hw 79 rfl) (wd hw 80 rfl) rfl (wd hw 81 rfl) (wd hw 82 rfl) (wd hw 83 rfl) (wd hw 84 rfl) (wd hw 85 rfl) (wd hw 56 rfl) (wd hw 86 rfl) (by decide) at_134 pd_7 rfl rfl rfl f1577 (add_1 l Z a0 hw n0 h1569 f1572 s_DEF s_EL s_EA s_EM cs mr H b1466 ed1566 kE1567 ((0 : Int32) + (1 : Int32)) b1433 b1433 f1574 P1565) (Nat.le_of_ble_eq_true rfl) (Nat.le_of_ble_eq_true rfl) (Nat.le_of_ble_eq_true rfl) (Nat.le_of_ble_eq_true rfl) rfl rfl rfl (fun v1582 h1581 q1583 => ?_)
      obtain ⟨rfl, K1579, P1580⟩ := q1583
      have f1584 := f1572.keep K1579 (allS ge_b1466 (allS ge_ed1566 all0))
      have f1585 := f1573.keep K1579
      have f1586 := f1574.keep K1579
      have f1587 := f1575.keep K1579
      have f1588 := own_AL0_keep f1576 K1579 (ninS ne_b1448_b1466 (ninS ne_b1448_ed1566 nin0))
      have f1589 := f1577.keep K1579
      have f1590 := E1578.keep K1579
      show G w _ h1581 7 28 139 #[.val (.int p0), .val (.int p1), .val (.int p2), .val (.int (0 : Int32)), .val (.int (2 : Int32)), .val (.ref sg1412), .val (.ref b1420), .val (.ref b1433), .val (.ref b1448), .val (.ref b1466), .unset, .unset] [(.int (1 : Int32))]
      refine g_pop C (pc' := 140) at_139 rfl rfl rfl ?_
      refine g_iload C (pc' := 142) at_140 rfl rfl ?_
      refine g_iconst C (pc' := 143) (v := (2 : Int32)) at_142 (by decide) rfl ?_
      refine g_icY C (pc' := 156) at_143 rfl (by decide) (by decide) rfl ?_
      refine g_new C (pc' := 159) (k' := 8) (n' := 30) (wd hw 113 rfl) (wd hw 114 rfl) (wd hw 115 rfl) at_156 (by decide) (by decide) rfl rfl rfl (fun h1591 b1592 ex1593 E1594 A1595 D1596 => ?_)
      have ne_b1420_b1592 : b1420 ≠ b1592 := Nat.ne_of_lt (by rw [ex1593]; exact f1585.lt)
      have ne_b1433_b1592 : b1433 ≠ b1592 := Nat.ne_of_lt (by rw [ex1593]; exact f1586.lt)
      have ne_b1448_b1592 : b1448 ≠ b1592 := Nat.ne_of_lt (by rw [ex1593]; exact f1587.lt)
      have ne_b1466_b1592 : b1466 ≠ b1592 := Nat.ne_of_lt (by rw [ex1593]; exact f1589.lt)
      have ne_ed1566_b1592 : ed1566 ≠ b1592 := Nat.ne_of_lt (by rw [ex1593]; exact f1590.lt)
      have ge_b1592 : n0 ≤ b1592 := by rw [ex1593]; exact f1584.1 ▸ f1584.2.1
      have f1597 := f1584.ext E1594
      have f1598 := f1585.ext E1594
      have f1599 := f1586.ext E1594
      have f1600 := f1587.ext E1594
      have f1601 := own_AL0_ext f1588 E1594
      have f1602 := f1589.ext E1594
      have f1603 := f1590.ext E1594
      have f1604 := own_AL1_ext P1580 E1594
      have F_area_b1592 : Fld Z h1591 b1592 "com/example/plumbline/plumbline/Grades" "area" "Ljava/util/List;" .null := D1596 (Or.inr (wd hw 148 rfl)) (ty := (.object "java/util/List")) (by decide)
      have F_total_b1592 : Fld Z h1591 b1592 "com/example/plumbline/plumbline/Grades" "total" "Ljava/util/List;" .null := D1596 (Or.inr (wd hw 215 rfl)) (ty := (.object "java/util/List")) (by decide)
      refine g_dup C (pc' := 160) at_159 rfl rfl rfl ?_
      refine g_aload C (pc' := 162) at_160 rfl rfl rfl ?_
      refine g_aload C (pc' := 164) at_162 rfl rfl rfl ?_
      refine g_special C (pc' := 167) (k' := 10) (n' := 34) (argsL := [(.ref b1448), (.ref b1466)]) (rest := [(.ref b1592)]) (wd hw 116 rfl) (wd hw 117 rfl) (wd hw 115 rfl) (wd hw 118 rfl) (by decide) rfl at_164 pd_12 rfl rfl rfl (gsI_20 l Z a0 hw n0 h1591 f1597 s_DEF s_EL s_EA s_EM cs mr H b1592 b1433 ge_b1592 b1448 (0 : Int32) b1466 ed1566 kE1567 (((0 : Int32) + (1 : Int32)) + (1 : Int32)) A1595 F_area_b1592 F_total_b1592 f1599 f1601 f1604 (Ne.symm ne_b1448_b1592) (Ne.symm ne_b1466_b1592) (Ne.symm ne_ed1566_b1592)) (Nat.le_of_ble_eq_true rfl) (Nat.le_of_ble_eq_true rfl) (Nat.le_of_ble_eq_true rfl) (Nat.le_of_ble_eq_true rfl) rfl rfl rfl (fun v1609 h1608 q1610 => ?_)
      obtain ⟨rfl, K1605, E1606, L, F1607, EL⟩ := q1610
      have f1611 := f1597.keep K1605 (allS ge_b1592 all0)
      have f1612 := f1598.keep K1605
      have f1613 := f1599.keep K1605
      have f1614 := f1600.keep K1605
      have f1615 := own_AL0_keep f1601 K1605 (ninS ne_b1448_b1592 nin0)
      have f1616 := f1602.keep K1605
      have f1617 := f1603.keep K1605
      have f1618 := own_AL1_keep f1604 K1605 (ninS ne_b1466_b1592 nin0) (ninS ne_ed1566_b1592 nin0)
      have f1619 := A1595.keep K1605
      show G w _ h1608 10 34 167 #[.val (.int p0), .val (.int p1), .val (.int p2), .val (.int (0 : Int32)), .val (.int (2 : Int32)), .val (.ref sg1412), .val (.ref b1420), .val (.ref b1433), .val (.ref b1448), .val (.ref b1466), .unset, .unset] [(.ref b1592)]
      refine g_astore C (pc' := 169) (Ls' := #[.val (.int p0), .val (.int p1), .val (.int p2), .val (.int (0 : Int32)), .val (.int (2 : Int32)), .val (.ref sg1412), .val (.ref b1420), .val (.ref b1433), .val (.ref b1448), .val (.ref b1466), .val (.ref b1592), .unset]) at_167 rfl rfl rfl rfl ?_
      refine g_aload C (pc' := 171) at_169 rfl rfl rfl ?_
      refine g_virtual C (pc' := 174) (k' := 10) (n' := 34) (argsL := []) (rest := []) (wd hw 216 rfl) (wd hw 217 rfl) (nfSel (wd hw 219 rfl)) (wd hw 219 rfl) (wd hw 218 rfl) (wd hw 115 rfl) (wd hw 220 rfl) (by decide) at_171 pd_14 rfl rfl rfl E1606 (gr_2 l Z a0 hw n0 h1608 f1611 s_DEF s_EL s_EA s_EM cs mr H b1592 E1606 L F1607 EL) (Nat.le_of_ble_eq_true rfl) (Nat.le_of_ble_eq_true rfl) (Nat.le_of_ble_eq_true rfl) (Nat.le_of_ble_eq_true rfl) rfl rfl rfl (fun v1621 h1620 q1622 => ?_)
      obtain ⟨rfl, eh1620⟩ := q1622
      subst h1620
      show G w _ h1608 10 34 174 #[.val (.int p0), .val (.int p1), .val (.int p2), .val (.int (0 : Int32)), .val (.int (2 : Int32)), .val (.ref sg1412), .val (.ref b1420), .val (.ref b1433), .val (.ref b1448), .val (.ref b1466), .val (.ref b1592), .unset] [(.int (1 : Int32))]
      refine g_istore C (pc' := 176) (Ls' := #[.val (.int p0), .val (.int p1), .val (.int p2), .val (.int (0 : Int32)), .val (.int (2 : Int32)), .val (.ref sg1412), .val (.ref b1420), .val (.ref b1433), .val (.ref b1448), .val (.ref b1466), .val (.ref b1592), .val (.int (1 : Int32))]) at_174 rfl rfl rfl ?_
      refine g_iload C (pc' := 178) at_176 rfl rfl ?_
      refine g_iload C (pc' := 180) at_178 rfl rfl ?_
      refine g_ifN C (pc' := 183) at_180 rfl (by decide) rfl ?_
      refine g_iconst C (pc' := 184) (v := (1 : Int32)) at_183 (by decide) rfl ?_
      refine g_goto C (pc' := 188) at_184 (by decide) rfl ?_
      refine g_icN C (pc' := 191) at_188 rfl (by decide) rfl ?_
      refine g_iconst C (pc' := 192) (v := (1 : Int32)) at_191 (by decide) rfl ?_
      refine g_goto C (pc' := 196) at_192 (by decide) rfl ?_
      exact g_zreturn C at_196 rfl rfl (Nat.le_of_ble_eq_true rfl) (Nat.le_of_ble_eq_true rfl) (rfl)
    · rw [e4]
      refine g_iload C (pc' := 111) at_109 rfl rfl ?_
      refine g_ifN C (pc' := 114) at_111 rfl (by decide) rfl ?_
      refine g_aload C (pc' := 116) at_114 rfl rfl rfl ?_
      refine g_aload C (pc' := 118) at_116 rfl rfl rfl ?_
      refine g_interface C (pc' := 123) (k' := 7) (n' := 28) (argsL := [(.ref b1433)]) (rest := []) (wd hw 78 rfl) (wd hw 79 rfl) (wd hw 80 rfl) rfl (wd hw 81 rfl) (wd hw 82 rfl) (wd hw 83 rfl) (wd hw 84 rfl) (wd hw 85 rfl) (wd hw 56 rfl) (wd hw 86 rfl) (by decide) at_118 pd_7 rfl rfl rfl f1486 (add_0 l Z a0 hw n0 h1478 f1481 s_DEF s_EL s_EA s_EM cs mr H b1466 (0 : Int32) b1433 f1483 P1477) (Nat.le_of_ble_eq_true rfl) (Nat.le_of_ble_eq_true rfl) (Nat.le_of_ble_eq_true rfl) (Nat.le_of_ble_eq_true rfl) rfl rfl rfl (fun v1629 h1628 q1630 => ?_)
      obtain ⟨rfl, K1623, ed1625, kE1626, hg1627, P1624⟩ := q1630
      have ne_b1420_ed1625 : b1420 ≠ ed1625 := Nat.ne_of_lt (Nat.lt_of_lt_of_le f1482.lt hg1627)
      have ne_b1433_ed1625 : b1433 ≠ ed1625 := Nat.ne_of_lt (Nat.lt_of_lt_of_le f1483.lt hg1627)
      have ne_b1448_ed1625 : b1448 ≠ ed1625 := Nat.ne_of_lt (Nat.lt_of_lt_of_le f1484.lt hg1627)
      have ne_b1466_ed1625 : b1466 ≠ ed1625 := Nat.ne_of_lt (Nat.lt_of_lt_of_le f1486.lt hg1627)
      have ge_ed1625 : n0 ≤ ed1625 := Nat.le_trans (f1481.1 ▸ f1481.2.1) hg1627
      have f1631 := f1481.keep K1623 (allS ge_b1466 all0)
      have f1632 := f1482.keep K1623
      have f1633 := f1483.keep K1623
      have f1634 := f1484.keep K1623
      have f1635 := own_AL0_keep f1485 K1623 (ninS ne_b1448_b1466 nin0)
      have f1636 := f1486.keep K1623
      have E1637 := P1624.2.2.2.2.2.1
      show G w _ h1628 7 28 123 #[.val (.int p0), .val (.int p1), .val (.int p2), .val (.int (0 : Int32)), .val (.int (3 : Int32)), .val (.ref sg1412), .val (.ref b1420), .val (.ref b1433), .val (.ref b1448), .val (.ref b1466), .unset, .unset] [(.int (1 : Int32))]
      refine g_pop C (pc' := 124) at_123 rfl rfl rfl ?_
      refine g_iload C (pc' := 126) at_124 rfl rfl ?_
      refine g_iconst C (pc' := 127) (v := (1 : Int32)) at_126 (by decide) rfl ?_
      refine g_icN C (pc' := 130) at_127 rfl (by decide) rfl ?_
      refine g_aload C (pc' := 132) at_130 rfl rfl rfl ?_
      refine g_aload C (pc' := 134) at_132 rfl rfl rfl ?_
      refine g_interface C (pc' := 139) (k' := 7) (n' := 28) (argsL := [(.ref b1433)]) (rest := []) (wd hw 78 rfl) (wd hw 79 rfl) (wd hw 80 rfl) rfl (wd hw 81 rfl) (wd hw 82 rfl) (wd hw 83 rfl) (wd hw 84 rfl) (wd hw 85 rfl) (wd hw 56 rfl) (wd hw 86 rfl) (by decide) at_134 pd_7 rfl rfl rfl f1636 (add_1 l Z a0 hw n0 h1628 f1631 s_DEF s_EL s_EA s_EM cs mr H b1466 ed1625 kE1626 ((0 : Int32) + (1 : Int32)) b1433 b1433 f1633 P1624) (Nat.le_of_ble_eq_true rfl) (Nat.le_of_ble_eq_true rfl) (Nat.le_of_ble_eq_true rfl) (Nat.le_of_ble_eq_true rfl) rfl rfl rfl (fun v1641 h1640 q1642 => ?_)
      obtain ⟨rfl, K1638, P1639⟩ := q1642
      have f1643 := f1631.keep K1638 (allS ge_b1466 (allS ge_ed1625 all0))
      have f1644 := f1632.keep K1638
      have f1645 := f1633.keep K1638
      have f1646 := f1634.keep K1638
      have f1647 := own_AL0_keep f1635 K1638 (ninS ne_b1448_b1466 (ninS ne_b1448_ed1625 nin0))
      have f1648 := f1636.keep K1638
      have f1649 := E1637.keep K1638
      show G w _ h1640 7 28 139 #[.val (.int p0), .val (.int p1), .val (.int p2), .val (.int (0 : Int32)), .val (.int (3 : Int32)), .val (.ref sg1412), .val (.ref b1420), .val (.ref b1433), .val (.ref b1448), .val (.ref b1466), .unset, .unset] [(.int (1 : Int32))]
      refine g_pop C (pc' := 140) at_139 rfl rfl rfl ?_
      refine g_iload C (pc' := 142) at_140 rfl rfl ?_
      refine g_iconst C (pc' := 143) (v := (2 : Int32)) at_142 (by decide) rfl ?_
      refine g_icN C (pc' := 146) at_143 rfl (by decide) rfl ?_
      refine g_aload C (pc' := 148) at_146 rfl rfl rfl ?_
      refine g_aload C (pc' := 150) at_148 rfl rfl rfl ?_
      refine g_interface C (pc' := 155) (k' := 7) (n' := 28) (argsL := [(.ref b1433)]) (rest := []) (wd hw 78 rfl) (wd hw 79 rfl) (wd hw 80 rfl) rfl (wd hw 81 rfl) (wd hw 82 rfl) (wd hw 83 rfl) (wd hw 84 rfl) (wd hw 85 rfl) (wd hw 56 rfl) (wd hw 86 rfl) (by decide) at_150 pd_7 rfl rfl rfl f1648 (add_2 l Z a0 hw n0 h1640 f1643 s_DEF s_EL s_EA s_EM cs mr H b1466 ed1625 kE1626 (((0 : Int32) + (1 : Int32)) + (1 : Int32)) b1433 b1433 b1433 f1645 P1639) (Nat.le_of_ble_eq_true rfl) (Nat.le_of_ble_eq_true rfl) (Nat.le_of_ble_eq_true rfl) (Nat.le_of_ble_eq_true rfl) rfl rfl rfl (fun v1653 h1652 q1654 => ?_)
      obtain ⟨rfl, K1650, P1651⟩ := q1654
      have f1655 := f1643.keep K1650 (allS ge_b1466 (allS ge_ed1625 all0))
      have f1656 := f1644.keep K1650
      have f1657 := f1645.keep K1650
      have f1658 := f1646.keep K1650
      have f1659 := own_AL0_keep f1647 K1650 (ninS ne_b1448_b1466 (ninS ne_b1448_ed1625 nin0))
      have f1660 := f1648.keep K1650
      have f1661 := f1649.keep K1650
      show G w _ h1652 7 28 155 #[.val (.int p0), .val (.int p1), .val (.int p2), .val (.int (0 : Int32)), .val (.int (3 : Int32)), .val (.ref sg1412), .val (.ref b1420), .val (.ref b1433), .val (.ref b1448), .val (.ref b1466), .unset, .unset] [(.int (1 : Int32))]
      refine g_pop C (pc' := 156) at_155 rfl rfl rfl ?_
      refine g_new C (pc' := 159) (k' := 8) (n' := 30) (wd hw 113 rfl) (wd hw 114 rfl) (wd hw 115 rfl) at_156 (by decide) (by decide) rfl rfl rfl (fun h1662 b1663 ex1664 E1665 A1666 D1667 => ?_)
      have ne_b1420_b1663 : b1420 ≠ b1663 := Nat.ne_of_lt (by rw [ex1664]; exact f1656.lt)
      have ne_b1433_b1663 : b1433 ≠ b1663 := Nat.ne_of_lt (by rw [ex1664]; exact f1657.lt)
      have ne_b1448_b1663 : b1448 ≠ b1663 := Nat.ne_of_lt (by rw [ex1664]; exact f1658.lt)
      have ne_b1466_b1663 : b1466 ≠ b1663 := Nat.ne_of_lt (by rw [ex1664]; exact f1660.lt)
      have ne_ed1625_b1663 : ed1625 ≠ b1663 := Nat.ne_of_lt (by rw [ex1664]; exact f1661.lt)
      have ge_b1663 : n0 ≤ b1663 := by rw [ex1664]; exact f1655.1 ▸ f1655.2.1
      have f1668 := f1655.ext E1665
      have f1669 := f1656.ext E1665
      have f1670 := f1657.ext E1665
      have f1671 := f1658.ext E1665
      have f1672 := own_AL0_ext f1659 E1665
      have f1673 := f1660.ext E1665
      have f1674 := f1661.ext E1665
      have f1675 := own_AL1_ext P1651 E1665
      have F_area_b1663 : Fld Z h1662 b1663 "com/example/plumbline/plumbline/Grades" "area" "Ljava/util/List;" .null := D1667 (Or.inr (wd hw 148 rfl)) (ty := (.object "java/util/List")) (by decide)
      have F_total_b1663 : Fld Z h1662 b1663 "com/example/plumbline/plumbline/Grades" "total" "Ljava/util/List;" .null := D1667 (Or.inr (wd hw 215 rfl)) (ty := (.object "java/util/List")) (by decide)
      refine g_dup C (pc' := 160) at_159 rfl rfl rfl ?_
      refine g_aload C (pc' := 162) at_160 rfl rfl rfl ?_
      refine g_aload C (pc' := 164) at_162 rfl rfl rfl ?_
      refine g_special C (pc' := 167) (k' := 11) (n' := 38) (argsL := [(.ref b1448), (.ref b1466)]) (rest := [(.ref b1663)]) (wd hw 116 rfl) (wd hw 117 rfl) (wd hw 115 rfl) (wd hw 118 rfl) (by decide) rfl at_164 pd_12 rfl rfl rfl (gsI_30 l Z a0 hw n0 h1662 f1668 s_DEF s_EL s_EA s_EM cs mr H b1663 b1433 ge_b1663 b1448 (0 : Int32) b1466 ed1625 kE1626 ((((0 : Int32) + (1 : Int32)) + (1 : Int32)) + (1 : Int32)) A1666 F_area_b1663 F_total_b1663 f1670 f1672 f1675 (Ne.symm ne_b1448_b1663) (Ne.symm ne_b1466_b1663) (Ne.symm ne_ed1625_b1663)) (Nat.le_of_ble_eq_true rfl) (Nat.le_of_ble_eq_true rfl) (Nat.le_of_ble_eq_true rfl) (Nat.le_of_ble_eq_true rfl) rfl rfl rfl (fun v1680 h1679 q1681 => ?_)
      obtain ⟨rfl, K1676, E1677, L, ar, kA, F1678, EL, FL, AL_⟩ := q1681
      have f1682 := f1668.keep K1676 (allS ge_b1663 all0)
      have f1683 := f1669.keep K1676
      have f1684 := f1670.keep K1676
      have f1685 := f1671.keep K1676
      have f1686 := own_AL0_keep f1672 K1676 (ninS ne_b1448_b1663 nin0)
      have f1687 := f1673.keep K1676
      have f1688 := f1674.keep K1676
      have f1689 := own_AL1_keep f1675 K1676 (ninS ne_b1466_b1663 nin0) (ninS ne_ed1625_b1663 nin0)
      have f1690 := A1666.keep K1676
      show G w _ h1679 11 38 167 #[.val (.int p0), .val (.int p1), .val (.int p2), .val (.int (0 : Int32)), .val (.int (3 : Int32)), .val (.ref sg1412), .val (.ref b1420), .val (.ref b1433), .val (.ref b1448), .val (.ref b1466), .unset, .unset] [(.ref b1663)]
      refine g_astore C (pc' := 169) (Ls' := #[.val (.int p0), .val (.int p1), .val (.int p2), .val (.int (0 : Int32)), .val (.int (3 : Int32)), .val (.ref sg1412), .val (.ref b1420), .val (.ref b1433), .val (.ref b1448), .val (.ref b1466), .val (.ref b1663), .unset]) at_167 rfl rfl rfl rfl ?_
      refine g_aload C (pc' := 171) at_169 rfl rfl rfl ?_
      refine g_virtual C (pc' := 174) (k' := 11) (n' := 38) (argsL := []) (rest := []) (wd hw 216 rfl) (wd hw 217 rfl) (nfSel (wd hw 219 rfl)) (wd hw 219 rfl) (wd hw 218 rfl) (wd hw 115 rfl) (wd hw 220 rfl) (by decide) at_171 pd_14 rfl rfl rfl E1677 (gr_3 l Z a0 hw n0 h1679 f1682 s_DEF s_EL s_EA s_EM cs mr H b1663 E1677 L ar kA b1433 F1678 EL FL AL_) (Nat.le_of_ble_eq_true rfl) (Nat.le_of_ble_eq_true rfl) (Nat.le_of_ble_eq_true rfl) (Nat.le_of_ble_eq_true rfl) rfl rfl rfl (fun v1692 h1691 q1693 => ?_)
      obtain ⟨rfl, eh1691⟩ := q1693
      subst h1691
      show G w _ h1679 11 38 174 #[.val (.int p0), .val (.int p1), .val (.int p2), .val (.int (0 : Int32)), .val (.int (3 : Int32)), .val (.ref sg1412), .val (.ref b1420), .val (.ref b1433), .val (.ref b1448), .val (.ref b1466), .val (.ref b1663), .unset] [(.int (1 : Int32))]
      refine g_istore C (pc' := 176) (Ls' := #[.val (.int p0), .val (.int p1), .val (.int p2), .val (.int (0 : Int32)), .val (.int (3 : Int32)), .val (.ref sg1412), .val (.ref b1420), .val (.ref b1433), .val (.ref b1448), .val (.ref b1466), .val (.ref b1663), .val (.int (1 : Int32))]) at_174 rfl rfl rfl ?_
      refine g_iload C (pc' := 178) at_176 rfl rfl ?_
      refine g_iload C (pc' := 180) at_178 rfl rfl ?_
      refine g_ifN C (pc' := 183) at_180 rfl (by decide) rfl ?_
      refine g_iconst C (pc' := 184) (v := (1 : Int32)) at_183 (by decide) rfl ?_
      refine g_goto C (pc' := 188) at_184 (by decide) rfl ?_
      refine g_icN C (pc' := 191) at_188 rfl (by decide) rfl ?_
      refine g_iconst C (pc' := 192) (v := (1 : Int32)) at_191 (by decide) rfl ?_
      refine g_goto C (pc' := 196) at_192 (by decide) rfl ?_
      exact g_zreturn C at_196 rfl rfl (Nat.le_of_ble_eq_true rfl) (Nat.le_of_ble_eq_true rfl) (rfl)
  · rw [e4]
    refine g_iloadN C (pc' := 66) at_65 rfl rfl ?_
    refine g_ifN C (pc' := 69) at_66 rfl (by decide) rfl ?_
    refine g_aload C (pc' := 71) at_69 rfl rfl rfl ?_
    refine g_aload C (pc' := 73) at_71 rfl rfl rfl ?_
    refine g_interface C (pc' := 78) (k' := 7) (n' := 28) (argsL := [(.ref b1433)]) (rest := []) (wd hw 78 rfl) (wd hw 79 rfl) (wd hw 80 rfl) rfl (wd hw 81 rfl) (wd hw 82 rfl) (wd hw 83 rfl) (wd hw 84 rfl) (wd hw 85 rfl) (wd hw 56 rfl) (wd hw 86 rfl) (by decide) at_73 pd_7 rfl rfl rfl f1484 (add_0 l Z a0 hw n0 h1478 f1481 s_DEF s_EL s_EA s_EM cs mr H b1448 (0 : Int32) b1433 f1483 f1485) (Nat.le_of_ble_eq_true rfl) (Nat.le_of_ble_eq_true rfl) (Nat.le_of_ble_eq_true rfl) (Nat.le_of_ble_eq_true rfl) rfl rfl rfl (fun v1700 h1699 q1701 => ?_)
    obtain ⟨rfl, K1694, ed1696, kE1697, hg1698, P1695⟩ := q1701
    have ne_b1420_ed1696 : b1420 ≠ ed1696 := Nat.ne_of_lt (Nat.lt_of_lt_of_le f1482.lt hg1698)
    have ne_b1433_ed1696 : b1433 ≠ ed1696 := Nat.ne_of_lt (Nat.lt_of_lt_of_le f1483.lt hg1698)
    have ne_b1448_ed1696 : b1448 ≠ ed1696 := Nat.ne_of_lt (Nat.lt_of_lt_of_le f1484.lt hg1698)
    have ne_b1466_ed1696 : b1466 ≠ ed1696 := Nat.ne_of_lt (Nat.lt_of_lt_of_le f1486.lt hg1698)
    have ge_ed1696 : n0 ≤ ed1696 := Nat.le_trans (f1481.1 ▸ f1481.2.1) hg1698
    have f1702 := f1481.keep K1694 (allS ge_b1448 all0)
    have f1703 := f1482.keep K1694
    have f1704 := f1483.keep K1694
    have f1705 := f1484.keep K1694
    have f1706 := f1486.keep K1694
    have f1707 := own_AL0_keep P1477 K1694 (ninS (Ne.symm ne_b1448_b1466) nin0)
    have E1708 := P1695.2.2.2.2.2.1
    show G w _ h1699 7 28 78 #[.val (.int p0), .val (.int p1), .val (.int p2), .val (.int (1 : Int32)), .val (.int (p1 &&& (3 : Int32))), .val (.ref sg1412), .val (.ref b1420), .val (.ref b1433), .val (.ref b1448), .val (.ref b1466), .unset, .unset] [(.int (1 : Int32))]
    refine g_pop C (pc' := 79) at_78 rfl rfl rfl ?_
    refine g_iloadN C (pc' := 80) at_79 rfl rfl ?_
    refine g_iconst C (pc' := 81) (v := (1 : Int32)) at_80 (by decide) rfl ?_
    refine g_icY C (pc' := 94) at_81 rfl (by decide) (by decide) rfl ?_
    refine g_iloadN C (pc' := 95) at_94 rfl rfl ?_
    refine g_iconst C (pc' := 96) (v := (2 : Int32)) at_95 (by decide) rfl ?_
    refine g_icY C (pc' := 109) at_96 rfl (by decide) (by decide) rfl ?_
    rcases own_and3 p1 with e4 | e4 | e4 | e4
    · rw [e4]
      refine g_iload C (pc' := 111) at_109 rfl rfl ?_
      refine g_ifY C (pc' := 124) at_111 rfl (by decide) (by decide) rfl ?_
      refine g_iload C (pc' := 126) at_124 rfl rfl ?_
      refine g_iconst C (pc' := 127) (v := (1 : Int32)) at_126 (by decide) rfl ?_
      refine g_icY C (pc' := 140) at_127 rfl (by decide) (by decide) rfl ?_
      refine g_iload C (pc' := 142) at_140 rfl rfl ?_
      refine g_iconst C (pc' := 143) (v := (2 : Int32)) at_142 (by decide) rfl ?_
      refine g_icY C (pc' := 156) at_143 rfl (by decide) (by decide) rfl ?_
      refine g_new C (pc' := 159) (k' := 8) (n' := 30) (wd hw 113 rfl) (wd hw 114 rfl) (wd hw 115 rfl) at_156 (by decide) (by decide) rfl rfl rfl (fun h1709 b1710 ex1711 E1712 A1713 D1714 => ?_)
      have ne_b1420_b1710 : b1420 ≠ b1710 := Nat.ne_of_lt (by rw [ex1711]; exact f1703.lt)
      have ne_b1433_b1710 : b1433 ≠ b1710 := Nat.ne_of_lt (by rw [ex1711]; exact f1704.lt)
      have ne_b1448_b1710 : b1448 ≠ b1710 := Nat.ne_of_lt (by rw [ex1711]; exact f1705.lt)
      have ne_b1466_b1710 : b1466 ≠ b1710 := Nat.ne_of_lt (by rw [ex1711]; exact f1706.lt)
      have ne_ed1696_b1710 : ed1696 ≠ b1710 := Nat.ne_of_lt (by rw [ex1711]; exact E1708.lt)
      have ge_b1710 : n0 ≤ b1710 := by rw [ex1711]; exact f1702.1 ▸ f1702.2.1
      have f1715 := f1702.ext E1712
      have f1716 := f1703.ext E1712
      have f1717 := f1704.ext E1712
      have f1718 := f1705.ext E1712
      have f1719 := f1706.ext E1712
      have f1720 := own_AL0_ext f1707 E1712
      have f1721 := own_AL1_ext P1695 E1712
      have f1722 := E1708.ext E1712
      have F_area_b1710 : Fld Z h1709 b1710 "com/example/plumbline/plumbline/Grades" "area" "Ljava/util/List;" .null := D1714 (Or.inr (wd hw 148 rfl)) (ty := (.object "java/util/List")) (by decide)
      have F_total_b1710 : Fld Z h1709 b1710 "com/example/plumbline/plumbline/Grades" "total" "Ljava/util/List;" .null := D1714 (Or.inr (wd hw 215 rfl)) (ty := (.object "java/util/List")) (by decide)
      refine g_dup C (pc' := 160) at_159 rfl rfl rfl ?_
      refine g_aload C (pc' := 162) at_160 rfl rfl rfl ?_
      refine g_aload C (pc' := 164) at_162 rfl rfl rfl ?_
      refine g_special C (pc' := 167) (k' := 10) (n' := 33) (argsL := [(.ref b1448), (.ref b1466)]) (rest := [(.ref b1710)]) (wd hw 116 rfl) (wd hw 117 rfl) (wd hw 115 rfl) (wd hw 118 rfl) (by decide) rfl at_164 pd_12 rfl rfl rfl (gsI_01 l Z a0 hw n0 h1709 f1715 s_DEF s_EL s_EA s_EM cs mr H b1710 b1433 ge_b1710 b1448 ed1696 kE1697 ((0 : Int32) + (1 : Int32)) b1466 (0 : Int32) A1713 F_area_b1710 F_total_b1710 f1717 f1721 f1720 (Ne.symm ne_b1448_b1710) (Ne.symm ne_b1466_b1710) (Ne.symm ne_ed1696_b1710)) (Nat.le_of_ble_eq_true rfl) (Nat.le_of_ble_eq_true rfl) (Nat.le_of_ble_eq_true rfl) (Nat.le_of_ble_eq_true rfl) rfl rfl rfl (fun v1727 h1726 q1728 => ?_)
      obtain ⟨rfl, K1723, E1724, F1725⟩ := q1728
      have f1729 := f1715.keep K1723 (allS ge_b1710 all0)
      have f1730 := f1716.keep K1723
      have f1731 := f1717.keep K1723
      have f1732 := f1718.keep K1723
      have f1733 := f1719.keep K1723
      have f1734 := own_AL0_keep f1720 K1723 (ninS ne_b1466_b1710 nin0)
      have f1735 := own_AL1_keep f1721 K1723 (ninS ne_b1448_b1710 nin0) (ninS ne_ed1696_b1710 nin0)
      have f1736 := f1722.keep K1723
      have f1737 := A1713.keep K1723
      show G w _ h1726 10 33 167 #[.val (.int p0), .val (.int p1), .val (.int p2), .val (.int (1 : Int32)), .val (.int (0 : Int32)), .val (.ref sg1412), .val (.ref b1420), .val (.ref b1433), .val (.ref b1448), .val (.ref b1466), .unset, .unset] [(.ref b1710)]
      refine g_astore C (pc' := 169) (Ls' := #[.val (.int p0), .val (.int p1), .val (.int p2), .val (.int (1 : Int32)), .val (.int (0 : Int32)), .val (.ref sg1412), .val (.ref b1420), .val (.ref b1433), .val (.ref b1448), .val (.ref b1466), .val (.ref b1710), .unset]) at_167 rfl rfl rfl rfl ?_
      refine g_aload C (pc' := 171) at_169 rfl rfl rfl ?_
      refine g_virtual C (pc' := 174) (k' := 10) (n' := 33) (argsL := []) (rest := []) (wd hw 216 rfl) (wd hw 217 rfl) (nfSel (wd hw 219 rfl)) (wd hw 219 rfl) (wd hw 218 rfl) (wd hw 115 rfl) (wd hw 220 rfl) (by decide) at_171 pd_14 rfl rfl rfl E1724 (gr_0 l Z a0 hw n0 h1726 f1729 s_DEF s_EL s_EA s_EM cs mr H b1710 E1724 F1725) (Nat.le_of_ble_eq_true rfl) (Nat.le_of_ble_eq_true rfl) (Nat.le_of_ble_eq_true rfl) (Nat.le_of_ble_eq_true rfl) rfl rfl rfl (fun v1739 h1738 q1740 => ?_)
      obtain ⟨rfl, eh1738⟩ := q1740
      subst h1738
      show G w _ h1726 10 33 174 #[.val (.int p0), .val (.int p1), .val (.int p2), .val (.int (1 : Int32)), .val (.int (0 : Int32)), .val (.ref sg1412), .val (.ref b1420), .val (.ref b1433), .val (.ref b1448), .val (.ref b1466), .val (.ref b1710), .unset] [(.int (0 : Int32))]
      refine g_istore C (pc' := 176) (Ls' := #[.val (.int p0), .val (.int p1), .val (.int p2), .val (.int (1 : Int32)), .val (.int (0 : Int32)), .val (.ref sg1412), .val (.ref b1420), .val (.ref b1433), .val (.ref b1448), .val (.ref b1466), .val (.ref b1710), .val (.int (0 : Int32))]) at_174 rfl rfl rfl ?_
      refine g_iload C (pc' := 178) at_176 rfl rfl ?_
      refine g_iload C (pc' := 180) at_178 rfl rfl ?_
      refine g_ifY C (pc' := 187) at_180 rfl (by decide) (by decide) rfl ?_
      refine g_iconst C (pc' := 188) (v := (0 : Int32)) at_187 (by decide) rfl ?_
      refine g_icN C (pc' := 191) at_188 rfl (by decide) rfl ?_
      refine g_iconst C (pc' := 192) (v := (1 : Int32)) at_191 (by decide) rfl ?_
      refine g_goto C (pc' := 196) at_192 (by decide) rfl ?_
      exact g_zreturn C at_196 rfl rfl (Nat.le_of_ble_eq_true rfl) (Nat.le_of_ble_eq_true rfl) (rfl)
    · rw [e4]
      refine g_iload C (pc' := 111) at_109 rfl rfl ?_
      refine g_ifN C (pc' := 114) at_111 rfl (by decide) rfl ?_
      refine g_aload C (pc' := 116) at_114 rfl rfl rfl ?_
      refine g_aload C (pc' := 118) at_116 rfl rfl rfl ?_
      refine g_interface C (pc' := 123) (k' := 8) (n' := 38) (argsL := [(.ref b1433)]) (rest := []) (wd hw 78 rfl) (wd hw 79 rfl) (wd hw 80 rfl) rfl (wd hw 81 rfl) (wd hw 82 rfl) (wd hw 83 rfl) (wd hw 84 rfl) (wd hw 85 rfl) (wd hw 56 rfl) (wd hw 86 rfl) (by decide) at_118 pd_7 rfl rfl rfl f1706 (add_0 l Z a0 hw n0 h1699 f1702 s_DEF s_EL s_EA s_EM cs mr H b1466 (0 : Int32) b1433 f1704 f1707) (Nat.le_of_ble_eq_true rfl) (Nat.le_of_ble_eq_true rfl) (Nat.le_of_ble_eq_true rfl) (Nat.le_of_ble_eq_true rfl) rfl rfl rfl (fun v1747 h1746 q1748 => ?_)
      obtain ⟨rfl, K1741, ed1743, kE1744, hg1745, P1742⟩ := q1748
      have ne_b1420_ed1743 : b1420 ≠ ed1743 := Nat.ne_of_lt (Nat.lt_of_lt_of_le f1703.lt hg1745)
      have ne_b1433_ed1743 : b1433 ≠ ed1743 := Nat.ne_of_lt (Nat.lt_of_lt_of_le f1704.lt hg1745)
      have ne_b1448_ed1743 : b1448 ≠ ed1743 := Nat.ne_of_lt (Nat.lt_of_lt_of_le f1705.lt hg1745)
      have ne_b1466_ed1743 : b1466 ≠ ed1743 := Nat.ne_of_lt (Nat.lt_of_lt_of_le f1706.lt hg1745)
      have ne_ed1696_ed1743 : ed1696 ≠ ed1743 := Nat.ne_of_lt (Nat.lt_of_lt_of_le E1708.lt hg1745)
      have ge_ed1743 : n0 ≤ ed1743 := Nat.le_trans (f1702.1 ▸ f1702.2.1) hg1745
      have f1749 := f1702.keep K1741 (allS ge_b1466 all0)
      have f1750 := f1703.keep K1741
      have f1751 := f1704.keep K1741
      have f1752 := f1705.keep K1741
      have f1753 := f1706.keep K1741
      have f1754 := own_AL1_keep P1695 K1741 (ninS ne_b1448_b1466 nin0) (ninS (Ne.symm ne_b1466_ed1696) nin0)
      have f1755 := E1708.keep K1741
      have E1756 := P1742.2.2.2.2.2.1
      show G w _ h1746 8 38 123 #[.val (.int p0), .val (.int p1), .val (.int p2), .val (.int (1 : Int32)), .val (.int (1 : Int32)), .val (.ref sg1412), .val (.ref b1420), .val (.ref b1433), .val (.ref b1448), .val (.ref b1466), .unset, .unset] [(.int (1 : Int32))]
      refine g_pop C (pc' := 124) at_123 rfl rfl rfl ?_
      refine g_iload C (pc' := 126) at_124 rfl rfl ?_
      refine g_iconst C (pc' := 127) (v := (1 : Int32)) at_126 (by decide) rfl ?_
      refine g_icY C (pc' := 140) at_127 rfl (by decide) (by decide) rfl ?_
      refine g_iload C (pc' := 142) at_140 rfl rfl ?_
      refine g_iconst C (pc' := 143) (v := (2 : Int32)) at_142 (by decide) rfl ?_
      refine g_icY C (pc' := 156) at_143 rfl (by decide) (by decide) rfl ?_
      refine g_new C (pc' := 159) (k' := 9) (n' := 40) (wd hw 113 rfl) (wd hw 114 rfl) (wd hw 115 rfl) at_156 (by decide) (by decide) rfl rfl rfl (fun h1757 b1758 ex1759 E1760 A1761 D1762 => ?_)
      have ne_b1420_b1758 : b1420 ≠ b1758 := Nat.ne_of_lt (by rw [ex1759]; exact f1750.lt)
      have ne_b1433_b1758 : b1433 ≠ b1758 := Nat.ne_of_lt (by rw [ex1759]; exact f1751.lt)
      have ne_b1448_b1758 : b1448 ≠ b1758 := Nat.ne_of_lt (by rw [ex1759]; exact f1752.lt)
      have ne_b1466_b1758 : b1466 ≠ b1758 := Nat.ne_of_lt (by rw [ex1759]; exact f1753.lt)
      have ne_ed1696_b1758 : ed1696 ≠ b1758 := Nat.ne_of_lt (by rw [ex1759]; exact f1755.lt)
      have ne_ed1743_b1758 : ed1743 ≠ b1758 := Nat.ne_of_lt (by rw [ex1759]; exact E1756.lt)
      have ge_b1758 : n0 ≤ b1758 := by rw [ex1759]; exact f1749.1 ▸ f1749.2.1
      have f1763 := f1749.ext E1760
      have f1764 := f1750.ext E1760
      have f1765 := f1751.ext E1760
      have f1766 := f1752.ext E1760
      have f1767 := f1753.ext E1760
      have f1768 := own_AL1_ext f1754 E1760
      have f1769 := f1755.ext E1760
      have f1770 := own_AL1_ext P1742 E1760
      have f1771 := E1756.ext E1760
      have F_area_b1758 : Fld Z h1757 b1758 "com/example/plumbline/plumbline/Grades" "area" "Ljava/util/List;" .null := D1762 (Or.inr (wd hw 148 rfl)) (ty := (.object "java/util/List")) (by decide)
      have F_total_b1758 : Fld Z h1757 b1758 "com/example/plumbline/plumbline/Grades" "total" "Ljava/util/List;" .null := D1762 (Or.inr (wd hw 215 rfl)) (ty := (.object "java/util/List")) (by decide)
      refine g_dup C (pc' := 160) at_159 rfl rfl rfl ?_
      refine g_aload C (pc' := 162) at_160 rfl rfl rfl ?_
      refine g_aload C (pc' := 164) at_162 rfl rfl rfl ?_
      refine g_special C (pc' := 167) (k' := 13) (n' := 46) (argsL := [(.ref b1448), (.ref b1466)]) (rest := [(.ref b1758)]) (wd hw 116 rfl) (wd hw 117 rfl) (wd hw 115 rfl) (wd hw 118 rfl) (by decide) rfl at_164 pd_12 rfl rfl rfl (gsI_11 l Z a0 hw n0 h1757 f1763 s_DEF s_EL s_EA s_EM cs mr H b1758 b1433 ge_b1758 b1448 ed1696 kE1697 ((0 : Int32) + (1 : Int32)) b1466 ed1743 kE1744 ((0 : Int32) + (1 : Int32)) A1761 F_area_b1758 F_total_b1758 f1765 f1768 f1770 (Ne.symm ne_b1448_b1758) (Ne.symm ne_b1466_b1758) (Ne.symm ne_ed1696_b1758) (Ne.symm ne_ed1743_b1758)) (Nat.le_of_ble_eq_true rfl) (Nat.le_of_ble_eq_true rfl) (Nat.le_of_ble_eq_true rfl) (Nat.le_of_ble_eq_true rfl) rfl rfl rfl (fun v1776 h1775 q1777 => ?_)
      obtain ⟨rfl, K1772, E1773, L, F1774, EL⟩ := q1777
      have f1778 := f1763.keep K1772 (allS ge_b1758 all0)
      have f1779 := f1764.keep K1772
      have f1780 := f1765.keep K1772
      have f1781 := f1766.keep K1772
      have f1782 := f1767.keep K1772
      have f1783 := own_AL1_keep f1768 K1772 (ninS ne_b1448_b1758 nin0) (ninS ne_ed1696_b1758 nin0)
      have f1784 := f1769.keep K1772
      have f1785 := own_AL1_keep f1770 K1772 (ninS ne_b1466_b1758 nin0) (ninS ne_ed1743_b1758 nin0)
      have f1786 := f1771.keep K1772
      have f1787 := A1761.keep K1772
      show G w _ h1775 13 46 167 #[.val (.int p0), .val (.int p1), .val (.int p2), .val (.int (1 : Int32)), .val (.int (1 : Int32)), .val (.ref sg1412), .val (.ref b1420), .val (.ref b1433), .val (.ref b1448), .val (.ref b1466), .unset, .unset] [(.ref b1758)]
      refine g_astore C (pc' := 169) (Ls' := #[.val (.int p0), .val (.int p1), .val (.int p2), .val (.int (1 : Int32)), .val (.int (1 : Int32)), .val (.ref sg1412), .val (.ref b1420), .val (.ref b1433), .val (.ref b1448), .val (.ref b1466), .val (.ref b1758), .unset]) at_167 rfl rfl rfl rfl ?_
      refine g_aload C (pc' := 171) at_169 rfl rfl rfl ?_
      refine g_virtual C (pc' := 174) (k' := 13) (n' := 46) (argsL := []) (rest := []) (wd hw 216 rfl) (wd hw 217 rfl) (nfSel (wd hw 219 rfl)) (wd hw 219 rfl) (wd hw 218 rfl) (wd hw 115 rfl) (wd hw 220 rfl) (by decide) at_171 pd_14 rfl rfl rfl E1773 (gr_1 l Z a0 hw n0 h1775 f1778 s_DEF s_EL s_EA s_EM cs mr H b1758 E1773 L F1774 EL) (Nat.le_of_ble_eq_true rfl) (Nat.le_of_ble_eq_true rfl) (Nat.le_of_ble_eq_true rfl) (Nat.le_of_ble_eq_true rfl) rfl rfl rfl (fun v1789 h1788 q1790 => ?_)
      obtain ⟨rfl, eh1788⟩ := q1790
      subst h1788
      show G w _ h1775 13 46 174 #[.val (.int p0), .val (.int p1), .val (.int p2), .val (.int (1 : Int32)), .val (.int (1 : Int32)), .val (.ref sg1412), .val (.ref b1420), .val (.ref b1433), .val (.ref b1448), .val (.ref b1466), .val (.ref b1758), .unset] [(.int (1 : Int32))]
      refine g_istore C (pc' := 176) (Ls' := #[.val (.int p0), .val (.int p1), .val (.int p2), .val (.int (1 : Int32)), .val (.int (1 : Int32)), .val (.ref sg1412), .val (.ref b1420), .val (.ref b1433), .val (.ref b1448), .val (.ref b1466), .val (.ref b1758), .val (.int (1 : Int32))]) at_174 rfl rfl rfl ?_
      refine g_iload C (pc' := 178) at_176 rfl rfl ?_
      refine g_iload C (pc' := 180) at_178 rfl rfl ?_
      refine g_ifN C (pc' := 183) at_180 rfl (by decide) rfl ?_
      refine g_iconst C (pc' := 184) (v := (1 : Int32)) at_183 (by decide) rfl ?_
      refine g_goto C (pc' := 188) at_184 (by decide) rfl ?_
      refine g_icN C (pc' := 191) at_188 rfl (by decide) rfl ?_
      refine g_iconst C (pc' := 192) (v := (1 : Int32)) at_191 (by decide) rfl ?_
      refine g_goto C (pc' := 196) at_192 (by decide) rfl ?_
      exact g_zreturn C at_196 rfl rfl (Nat.le_of_ble_eq_true rfl) (Nat.le_of_ble_eq_true rfl) (rfl)
    · rw [e4]
      refine g_iload C (pc' := 111) at_109 rfl rfl ?_
      refine g_ifN C (pc' := 114) at_111 rfl (by decide) rfl ?_
      refine g_aload C (pc' := 116) at_114 rfl rfl rfl ?_
      refine g_aload C (pc' := 118) at_116 rfl rfl rfl ?_
      refine g_interface C (pc' := 123) (k' := 8) (n' := 38) (argsL := [(.ref b1433)]) (rest := []) (wd hw 78 rfl) (wd hw 79 rfl) (wd hw 80 rfl) rfl (wd hw 81 rfl) (wd hw 82 rfl) (wd hw 83 rfl) (wd hw 84 rfl) (wd hw 85 rfl) (wd hw 56 rfl) (wd hw 86 rfl) (by decide) at_118 pd_7 rfl rfl rfl f1706 (add_0 l Z a0 hw n0 h1699 f1702 s_DEF s_EL s_EA s_EM cs mr H b1466 (0 : Int32) b1433 f1704 f1707) (Nat.le_of_ble_eq_true rfl) (Nat.le_of_ble_eq_true rfl) (Nat.le_of_ble_eq_true rfl) (Nat.le_of_ble_eq_true rfl) rfl rfl rfl (fun v1797 h1796 q1798 => ?_)
      obtain ⟨rfl, K1791, ed1793, kE1794, hg1795, P1792⟩ := q1798
      have ne_b1420_ed1793 : b1420 ≠ ed1793 := Nat.ne_of_lt (Nat.lt_of_lt_of_le f1703.lt hg1795)
      have ne_b1433_ed1793 : b1433 ≠ ed1793 := Nat.ne_of_lt (Nat.lt_of_lt_of_le f1704.lt hg1795)
      have ne_b1448_ed1793 : b1448 ≠ ed1793 := Nat.ne_of_lt (Nat.lt_of_lt_of_le f1705.lt hg1795)
      have ne_b1466_ed1793 : b1466 ≠ ed1793 := Nat.ne_of_lt (Nat.lt_of_lt_of_le f1706.lt hg1795)
      have ne_ed1696_ed1793 : ed1696 ≠ ed1793 := Nat.ne_of_lt (Nat.lt_of_lt_of_le E1708.lt hg1795)
      have ge_ed1793 : n0 ≤ ed1793 := Nat.le_trans (f1702.1 ▸ f1702.2.1) hg1795
      have f1799 := f1702.keep K1791 (allS ge_b1466 all0)
      have f1800 := f1703.keep K1791
      have f1801 := f1704.keep K1791
      have f1802 := f1705.keep K1791
      have f1803 := f1706.keep K1791
      have f1804 := own_AL1_keep P1695 K1791 (ninS ne_b1448_b1466 nin0) (ninS (Ne.symm ne_b1466_ed1696) nin0)
      have f1805 := E1708.keep K1791
      have E1806 := P1792.2.2.2.2.2.1
      show G w _ h1796 8 38 123 #[.val (.int p0), .val (.int p1), .val (.int p2), .val (.int (1 : Int32)), .val (.int (2 : Int32)), .val (.ref sg1412), .val (.ref b1420), .val (.ref b1433), .val (.ref b1448), .val (.ref b1466), .unset, .unset] [(.int (1 : Int32))]
      refine g_pop C (pc' := 124) at_123 rfl rfl rfl ?_
      refine g_iload C (pc' := 126) at_124 rfl rfl ?_
      refine g_iconst C (pc' := 127) (v := (1 : Int32)) at_126 (by decide) rfl ?_
      refine g_icN C (pc' := 130) at_127 rfl (by decide) rfl ?_
      refine g_aload C (pc' := 132) at_130 rfl rfl rfl ?_
      refine g_aload C (pc' := 134) at_132 rfl rfl rfl ?_
      refine g_interface C (pc' := 139) (k' := 8) (n' := 38) (argsL := [(.ref b1433)]) (rest := []) (wd hw 78 rfl) (wd hw 79 rfl) (wd hw 80 rfl) rfl (wd hw 81 rfl) (wd hw 82 rfl) (wd hw 83 rfl) (wd hw 84 rfl) (wd hw 85 rfl) (wd hw 56 rfl) (wd hw 86 rfl) (by decide) at_134 pd_7 rfl rfl rfl f1803 (add_1 l Z a0 hw n0 h1796 f1799 s_DEF s_EL s_EA s_EM cs mr H b1466 ed1793 kE1794 ((0 : Int32) + (1 : Int32)) b1433 b1433 f1801 P1792) (Nat.le_of_ble_eq_true rfl) (Nat.le_of_ble_eq_true rfl) (Nat.le_of_ble_eq_true rfl) (Nat.le_of_ble_eq_true rfl) rfl rfl rfl (fun v1810 h1809 q1811 => ?_)
      obtain ⟨rfl, K1807, P1808⟩ := q1811
      have f1812 := f1799.keep K1807 (allS ge_b1466 (allS ge_ed1793 all0))
      have f1813 := f1800.keep K1807
      have f1814 := f1801.keep K1807
      have f1815 := f1802.keep K1807
      have f1816 := f1803.keep K1807
      have f1817 := own_AL1_keep f1804 K1807 (ninS ne_b1448_b1466 (ninS ne_b1448_ed1793 nin0)) (ninS (Ne.symm ne_b1466_ed1696) (ninS ne_ed1696_ed1793 nin0))
      have f1818 := f1805.keep K1807
      have f1819 := E1806.keep K1807
      show G w _ h1809 8 38 139 #[.val (.int p0), .val (.int p1), .val (.int p2), .val (.int (1 : Int32)), .val (.int (2 : Int32)), .val (.ref sg1412), .val (.ref b1420), .val (.ref b1433), .val (.ref b1448), .val (.ref b1466), .unset, .unset] [(.int (1 : Int32))]
      refine g_pop C (pc' := 140) at_139 rfl rfl rfl ?_
      refine g_iload C (pc' := 142) at_140 rfl rfl ?_
      refine g_iconst C (pc' := 143) (v := (2 : Int32)) at_142 (by decide) rfl ?_
      refine g_icY C (pc' := 156) at_143 rfl (by decide) (by decide) rfl ?_
      refine g_new C (pc' := 159) (k' := 9) (n' := 40) (wd hw 113 rfl) (wd hw 114 rfl) (wd hw 115 rfl) at_156 (by decide) (by decide) rfl rfl rfl (fun h1820 b1821 ex1822 E1823 A1824 D1825 => ?_)
      have ne_b1420_b1821 : b1420 ≠ b1821 := Nat.ne_of_lt (by rw [ex1822]; exact f1813.lt)
      have ne_b1433_b1821 : b1433 ≠ b1821 := Nat.ne_of_lt (by rw [ex1822]; exact f1814.lt)
      have ne_b1448_b1821 : b1448 ≠ b1821 := Nat.ne_of_lt (by rw [ex1822]; exact f1815.lt)
      have ne_b1466_b1821 : b1466 ≠ b1821 := Nat.ne_of_lt (by rw [ex1822]; exact f1816.lt)
      have ne_ed1696_b1821 : ed1696 ≠ b1821 := Nat.ne_of_lt (by rw [ex1822]; exact f1818.lt)
      have ne_ed1793_b1821 : ed1793 ≠ b1821 := Nat.ne_of_lt (by rw [ex1822]; exact f1819.lt)
      have ge_b1821 : n0 ≤ b1821 := by rw [ex1822]; exact f1812.1 ▸ f1812.2.1
      have f1826 := f1812.ext E1823
      have f1827 := f1813.ext E1823
      have f1828 := f1814.ext E1823
      have f1829 := f1815.ext E1823
      have f1830 := f1816.ext E1823
      have f1831 := own_AL1_ext f1817 E1823
      have f1832 := f1818.ext E1823
      have f1833 := f1819.ext E1823
      have f1834 := own_AL1_ext P1808 E1823
      have F_area_b1821 : Fld Z h1820 b1821 "com/example/plumbline/plumbline/Grades" "area" "Ljava/util/List;" .null := D1825 (Or.inr (wd hw 148 rfl)) (ty := (.object "java/util/List")) (by decide)
      have F_total_b1821 : Fld Z h1820 b1821 "com/example/plumbline/plumbline/Grades" "total" "Ljava/util/List;" .null := D1825 (Or.inr (wd hw 215 rfl)) (ty := (.object "java/util/List")) (by decide)
      refine g_dup C (pc' := 160) at_159 rfl rfl rfl ?_
      refine g_aload C (pc' := 162) at_160 rfl rfl rfl ?_
      refine g_aload C (pc' := 164) at_162 rfl rfl rfl ?_
      refine g_special C (pc' := 167) (k' := 13) (n' := 47) (argsL := [(.ref b1448), (.ref b1466)]) (rest := [(.ref b1821)]) (wd hw 116 rfl) (wd hw 117 rfl) (wd hw 115 rfl) (wd hw 118 rfl) (by decide) rfl at_164 pd_12 rfl rfl rfl (gsI_21 l Z a0 hw n0 h1820 f1826 s_DEF s_EL s_EA s_EM cs mr H b1821 b1433 ge_b1821 b1448 ed1696 kE1697 ((0 : Int32) + (1 : Int32)) b1466 ed1793 kE1794 (((0 : Int32) + (1 : Int32)) + (1 : Int32)) A1824 F_area_b1821 F_total_b1821 f1828 f1831 f1834 (Ne.symm ne_b1448_b1821) (Ne.symm ne_b1466_b1821) (Ne.symm ne_ed1696_b1821) (Ne.symm ne_ed1793_b1821)) (Nat.le_of_ble_eq_true rfl) (Nat.le_of_ble_eq_true rfl) (Nat.le_of_ble_eq_true rfl) (Nat.le_of_ble_eq_true rfl) rfl rfl rfl (fun v1839 h1838 q1840 => ?_)
      obtain ⟨rfl, K1835, E1836, L, F1837, EL⟩ := q1840
      have f1841 := f1826.keep K1835 (allS ge_b1821 all0)
      have f1842 := f1827.keep K1835
      have f1843 := f1828.keep K1835
      have f1844 := f1829.keep K1835
      have f1845 := f1830.keep K1835
      have f1846 := own_AL1_keep f1831 K1835 (ninS ne_b1448_b1821 nin0) (ninS ne_ed1696_b1821 nin0)
      have f1847 := f1832.keep K1835
      have f1848 := f1833.keep K1835
      have f1849 := own_AL1_keep f1834 K1835 (ninS ne_b1466_b1821 nin0) (ninS ne_ed1793_b1821 nin0)
      have f1850 := A1824.keep K1835
      show G w _ h1838 13 47 167 #[.val (.int p0), .val (.int p1), .val (.int p2), .val (.int (1 : Int32)), .val (.int (2 : Int32)), .val (.ref sg1412), .val (.ref b1420), .val (.ref b1433), .val (.ref b1448), .val (.ref b1466), .unset, .unset] [(.ref b1821)]
      refine g_astore C (pc' := 169) (Ls' := #[.val (.int p0), .val (.int p1), .val (.int p2), .val (.int (1 : Int32)), .val (.int (2 : Int32)), .val (.ref sg1412), .val (.ref b1420), .val (.ref b1433), .val (.ref b1448), .val (.ref b1466), .val (.ref b1821), .unset]) at_167 rfl rfl rfl rfl ?_
      refine g_aload C (pc' := 171) at_169 rfl rfl rfl ?_
      refine g_virtual C (pc' := 174) (k' := 13) (n' := 47) (argsL := []) (rest := []) (wd hw 216 rfl) (wd hw 217 rfl) (nfSel (wd hw 219 rfl)) (wd hw 219 rfl) (wd hw 218 rfl) (wd hw 115 rfl) (wd hw 220 rfl) (by decide) at_171 pd_14 rfl rfl rfl E1836 (gr_2 l Z a0 hw n0 h1838 f1841 s_DEF s_EL s_EA s_EM cs mr H b1821 E1836 L F1837 EL) (Nat.le_of_ble_eq_true rfl) (Nat.le_of_ble_eq_true rfl) (Nat.le_of_ble_eq_true rfl) (Nat.le_of_ble_eq_true rfl) rfl rfl rfl (fun v1852 h1851 q1853 => ?_)
      obtain ⟨rfl, eh1851⟩ := q1853
      subst h1851
      show G w _ h1838 13 47 174 #[.val (.int p0), .val (.int p1), .val (.int p2), .val (.int (1 : Int32)), .val (.int (2 : Int32)), .val (.ref sg1412), .val (.ref b1420), .val (.ref b1433), .val (.ref b1448), .val (.ref b1466), .val (.ref b1821), .unset] [(.int (1 : Int32))]
      refine g_istore C (pc' := 176) (Ls' := #[.val (.int p0), .val (.int p1), .val (.int p2), .val (.int (1 : Int32)), .val (.int (2 : Int32)), .val (.ref sg1412), .val (.ref b1420), .val (.ref b1433), .val (.ref b1448), .val (.ref b1466), .val (.ref b1821), .val (.int (1 : Int32))]) at_174 rfl rfl rfl ?_
      refine g_iload C (pc' := 178) at_176 rfl rfl ?_
      refine g_iload C (pc' := 180) at_178 rfl rfl ?_
      refine g_ifN C (pc' := 183) at_180 rfl (by decide) rfl ?_
      refine g_iconst C (pc' := 184) (v := (1 : Int32)) at_183 (by decide) rfl ?_
      refine g_goto C (pc' := 188) at_184 (by decide) rfl ?_
      refine g_icN C (pc' := 191) at_188 rfl (by decide) rfl ?_
      refine g_iconst C (pc' := 192) (v := (1 : Int32)) at_191 (by decide) rfl ?_
      refine g_goto C (pc' := 196) at_192 (by decide) rfl ?_
      exact g_zreturn C at_196 rfl rfl (Nat.le_of_ble_eq_true rfl) (Nat.le_of_ble_eq_true rfl) (rfl)
    · rw [e4]
      refine g_iload C (pc' := 111) at_109 rfl rfl ?_
      refine g_ifN C (pc' := 114) at_111 rfl (by decide) rfl ?_
      refine g_aload C (pc' := 116) at_114 rfl rfl rfl ?_
      refine g_aload C (pc' := 118) at_116 rfl rfl rfl ?_
      refine g_interface C (pc' := 123) (k' := 8) (n' := 38) (argsL := [(.ref b1433)]) (rest := []) (wd hw 78 rfl) (wd hw 79 rfl) (wd hw 80 rfl) rfl (wd hw 81 rfl) (wd hw 82 rfl) (wd hw 83 rfl) (wd hw 84 rfl) (wd hw 85 rfl) (wd hw 56 rfl) (wd hw 86 rfl) (by decide) at_118 pd_7 rfl rfl rfl f1706 (add_0 l Z a0 hw n0 h1699 f1702 s_DEF s_EL s_EA s_EM cs mr H b1466 (0 : Int32) b1433 f1704 f1707) (Nat.le_of_ble_eq_true rfl) (Nat.le_of_ble_eq_true rfl) (Nat.le_of_ble_eq_true rfl) (Nat.le_of_ble_eq_true rfl) rfl rfl rfl (fun v1860 h1859 q1861 => ?_)
      obtain ⟨rfl, K1854, ed1856, kE1857, hg1858, P1855⟩ := q1861
      have ne_b1420_ed1856 : b1420 ≠ ed1856 := Nat.ne_of_lt (Nat.lt_of_lt_of_le f1703.lt hg1858)
      have ne_b1433_ed1856 : b1433 ≠ ed1856 := Nat.ne_of_lt (Nat.lt_of_lt_of_le f1704.lt hg1858)
      have ne_b1448_ed1856 : b1448 ≠ ed1856 := Nat.ne_of_lt (Nat.lt_of_lt_of_le f1705.lt hg1858)
      have ne_b1466_ed1856 : b1466 ≠ ed1856 := Nat.ne_of_lt (Nat.lt_of_lt_of_le f1706.lt hg1858)
      have ne_ed1696_ed1856 : ed1696 ≠ ed1856 := Nat.ne_of_lt (Nat.lt_of_lt_of_le E1708.lt hg1858)
      have ge_ed1856 : n0 ≤ ed1856 := Nat.le_trans (f1702.1 ▸ f1702.2.1) hg1858
      have f1862 := f1702.keep K1854 (allS ge_b1466 all0)
      have f1863 := f1703.keep K1854
      have f1864 := f1704.keep K1854
      have f1865 := f1705.keep K1854
      have f1866 := f1706.keep K1854
      have f1867 := own_AL1_keep P1695 K1854 (ninS ne_b1448_b1466 nin0) (ninS (Ne.symm ne_b1466_ed1696) nin0)
      have f1868 := E1708.keep K1854
      have E1869 := P1855.2.2.2.2.2.1
      show G w _ h1859 8 38 123 #[.val (.int p0), .val (.int p1), .val (.int p2), .val (.int (1 : Int32)), .val (.int (3 : Int32)), .val (.ref sg1412), .val (.ref b1420), .val (.ref b1433), .val (.ref b1448), .val (.ref b1466), .unset, .unset] [(.int (1 : Int32))]
      refine g_pop C (pc' := 124) at_123 rfl rfl rfl ?_
      refine g_iload C (pc' := 126) at_124 rfl rfl ?_
      refine g_iconst C (pc' := 127) (v := (1 : Int32)) at_126 (by decide) rfl ?_
      refine g_icN C (pc' := 130) at_127 rfl (by decide) rfl ?_
      refine g_aload C (pc' := 132) at_130 rfl rfl rfl ?_
      refine g_aload C (pc' := 134) at_132 rfl rfl rfl ?_
      refine g_interface C (pc' := 139) (k' := 8) (n' := 38) (argsL := [(.ref b1433)]) (rest := []) (wd hw 78 rfl) (wd hw 79 rfl) (wd hw 80 rfl) rfl (wd hw 81 rfl) (wd hw 82 rfl) (wd hw 83 rfl) (wd hw 84 rfl) (wd hw 85 rfl) (wd hw 56 rfl) (wd hw 86 rfl) (by decide) at_134 pd_7 rfl rfl rfl f1866 (add_1 l Z a0 hw n0 h1859 f1862 s_DEF s_EL s_EA s_EM cs mr H b1466 ed1856 kE1857 ((0 : Int32) + (1 : Int32)) b1433 b1433 f1864 P1855) (Nat.le_of_ble_eq_true rfl) (Nat.le_of_ble_eq_true rfl) (Nat.le_of_ble_eq_true rfl) (Nat.le_of_ble_eq_true rfl) rfl rfl rfl (fun v1873 h1872 q1874 => ?_)
      obtain ⟨rfl, K1870, P1871⟩ := q1874
      have f1875 := f1862.keep K1870 (allS ge_b1466 (allS ge_ed1856 all0))
      have f1876 := f1863.keep K1870
      have f1877 := f1864.keep K1870
      have f1878 := f1865.keep K1870
      have f1879 := f1866.keep K1870
      have f1880 := own_AL1_keep f1867 K1870 (ninS ne_b1448_b1466 (ninS ne_b1448_ed1856 nin0)) (ninS (Ne.symm ne_b1466_ed1696) (ninS ne_ed1696_ed1856 nin0))
      have f1881 := f1868.keep K1870
      have f1882 := E1869.keep K1870
      show G w _ h1872 8 38 139 #[.val (.int p0), .val (.int p1), .val (.int p2), .val (.int (1 : Int32)), .val (.int (3 : Int32)), .val (.ref sg1412), .val (.ref b1420), .val (.ref b1433), .val (.ref b1448), .val (.ref b1466), .unset, .unset] [(.int (1 : Int32))]
      refine g_pop C (pc' := 140) at_139 rfl rfl rfl ?_
      refine g_iload C (pc' := 142) at_140 rfl rfl ?_
      refine g_iconst C (pc' := 143) (v := (2 : Int32)) at_142 (by decide) rfl ?_
      refine g_icN C (pc' := 146) at_143 rfl (by decide) rfl ?_
      refine g_aload C (pc' := 148) at_146 rfl rfl rfl ?_
      refine g_aload C (pc' := 150) at_148 rfl rfl rfl ?_
      refine g_interface C (pc' := 155) (k' := 8) (n' := 38) (argsL := [(.ref b1433)]) (rest := []) (wd hw 78 rfl) (wd hw 79 rfl) (wd hw 80 rfl) rfl (wd hw 81 rfl) (wd hw 82 rfl) (wd hw 83 rfl) (wd hw 84 rfl) (wd hw 85 rfl) (wd hw 56 rfl) (wd hw 86 rfl) (by decide) at_150 pd_7 rfl rfl rfl f1879 (add_2 l Z a0 hw n0 h1872 f1875 s_DEF s_EL s_EA s_EM cs mr H b1466 ed1856 kE1857 (((0 : Int32) + (1 : Int32)) + (1 : Int32)) b1433 b1433 b1433 f1877 P1871) (Nat.le_of_ble_eq_true rfl) (Nat.le_of_ble_eq_true rfl) (Nat.le_of_ble_eq_true rfl) (Nat.le_of_ble_eq_true rfl) rfl rfl rfl (fun v1886 h1885 q1887 => ?_)
      obtain ⟨rfl, K1883, P1884⟩ := q1887
      have f1888 := f1875.keep K1883 (allS ge_b1466 (allS ge_ed1856 all0))
      have f1889 := f1876.keep K1883
      have f1890 := f1877.keep K1883
      have f1891 := f1878.keep K1883
      have f1892 := f1879.keep K1883
      have f1893 := own_AL1_keep f1880 K1883 (ninS ne_b1448_b1466 (ninS ne_b1448_ed1856 nin0)) (ninS (Ne.symm ne_b1466_ed1696) (ninS ne_ed1696_ed1856 nin0))
      have f1894 := f1881.keep K1883
      have f1895 := f1882.keep K1883
      show G w _ h1885 8 38 155 #[.val (.int p0), .val (.int p1), .val (.int p2), .val (.int (1 : Int32)), .val (.int (3 : Int32)), .val (.ref sg1412), .val (.ref b1420), .val (.ref b1433), .val (.ref b1448), .val (.ref b1466), .unset, .unset] [(.int (1 : Int32))]
      refine g_pop C (pc' := 156) at_155 rfl rfl rfl ?_
      refine g_new C (pc' := 159) (k' := 9) (n' := 40) (wd hw 113 rfl) (wd hw 114 rfl) (wd hw 115 rfl) at_156 (by decide) (by decide) rfl rfl rfl (fun h1896 b1897 ex1898 E1899 A1900 D1901 => ?_)
      have ne_b1420_b1897 : b1420 ≠ b1897 := Nat.ne_of_lt (by rw [ex1898]; exact f1889.lt)
      have ne_b1433_b1897 : b1433 ≠ b1897 := Nat.ne_of_lt (by rw [ex1898]; exact f1890.lt)
      have ne_b1448_b1897 : b1448 ≠ b1897 := Nat.ne_of_lt (by rw [ex1898]; exact f1891.lt)
      have ne_b1466_b1897 : b1466 ≠ b1897 := Nat.ne_of_lt (by rw [ex1898]; exact f1892.lt)
      have ne_ed1696_b1897 : ed1696 ≠ b1897 := Nat.ne_of_lt (by rw [ex1898]; exact f1894.lt)
      have ne_ed1856_b1897 : ed1856 ≠ b1897 := Nat.ne_of_lt (by rw [ex1898]; exact f1895.lt)
      have ge_b1897 : n0 ≤ b1897 := by rw [ex1898]; exact f1888.1 ▸ f1888.2.1
      have f1902 := f1888.ext E1899
      have f1903 := f1889.ext E1899
      have f1904 := f1890.ext E1899
      have f1905 := f1891.ext E1899
      have f1906 := f1892.ext E1899
      have f1907 := own_AL1_ext f1893 E1899
      have f1908 := f1894.ext E1899
      have f1909 := f1895.ext E1899
      have f1910 := own_AL1_ext P1884 E1899
      have F_area_b1897 : Fld Z h1896 b1897 "com/example/plumbline/plumbline/Grades" "area" "Ljava/util/List;" .null := D1901 (Or.inr (wd hw 148 rfl)) (ty := (.object "java/util/List")) (by decide)
      have F_total_b1897 : Fld Z h1896 b1897 "com/example/plumbline/plumbline/Grades" "total" "Ljava/util/List;" .null := D1901 (Or.inr (wd hw 215 rfl)) (ty := (.object "java/util/List")) (by decide)
      refine g_dup C (pc' := 160) at_159 rfl rfl rfl ?_
      refine g_aload C (pc' := 162) at_160 rfl rfl rfl ?_
      refine g_aload C (pc' := 164) at_162 rfl rfl rfl ?_
      refine g_special C (pc' := 167) (k' := 14) (n' := 51) (argsL := [(.ref b1448), (.ref b1466)]) (rest := [(.ref b1897)]) (wd hw 116 rfl) (wd hw 117 rfl) (wd hw 115 rfl) (wd hw 118 rfl) (by decide) rfl at_164 pd_12 rfl rfl rfl (gsI_31 l Z a0 hw n0 h1896 f1902 s_DEF s_EL s_EA s_EM cs mr H b1897 b1433 ge_b1897 b1448 ed1696 kE1697 ((0 : Int32) + (1 : Int32)) b1466 ed1856 kE1857 ((((0 : Int32) + (1 : Int32)) + (1 : Int32)) + (1 : Int32)) A1900 F_area_b1897 F_total_b1897 f1904 f1907 f1910 (Ne.symm ne_b1448_b1897) (Ne.symm ne_b1466_b1897) (Ne.symm ne_ed1696_b1897) (Ne.symm ne_ed1856_b1897)) (Nat.le_of_ble_eq_true rfl) (Nat.le_of_ble_eq_true rfl) (Nat.le_of_ble_eq_true rfl) (Nat.le_of_ble_eq_true rfl) rfl rfl rfl (fun v1915 h1914 q1916 => ?_)
      obtain ⟨rfl, K1911, E1912, L, ar, kA, F1913, EL, FL, AL_⟩ := q1916
      have f1917 := f1902.keep K1911 (allS ge_b1897 all0)
      have f1918 := f1903.keep K1911
      have f1919 := f1904.keep K1911
      have f1920 := f1905.keep K1911
      have f1921 := f1906.keep K1911
      have f1922 := own_AL1_keep f1907 K1911 (ninS ne_b1448_b1897 nin0) (ninS ne_ed1696_b1897 nin0)
      have f1923 := f1908.keep K1911
      have f1924 := f1909.keep K1911
      have f1925 := own_AL1_keep f1910 K1911 (ninS ne_b1466_b1897 nin0) (ninS ne_ed1856_b1897 nin0)
      have f1926 := A1900.keep K1911
      show G w _ h1914 14 51 167 #[.val (.int p0), .val (.int p1), .val (.int p2), .val (.int (1 : Int32)), .val (.int (3 : Int32)), .val (.ref sg1412), .val (.ref b1420), .val (.ref b1433), .val (.ref b1448), .val (.ref b1466), .unset, .unset] [(.ref b1897)]
      refine g_astore C (pc' := 169) (Ls' := #[.val (.int p0), .val (.int p1), .val (.int p2), .val (.int (1 : Int32)), .val (.int (3 : Int32)), .val (.ref sg1412), .val (.ref b1420), .val (.ref b1433), .val (.ref b1448), .val (.ref b1466), .val (.ref b1897), .unset]) at_167 rfl rfl rfl rfl ?_
      refine g_aload C (pc' := 171) at_169 rfl rfl rfl ?_
      refine g_virtual C (pc' := 174) (k' := 14) (n' := 51) (argsL := []) (rest := []) (wd hw 216 rfl) (wd hw 217 rfl) (nfSel (wd hw 219 rfl)) (wd hw 219 rfl) (wd hw 218 rfl) (wd hw 115 rfl) (wd hw 220 rfl) (by decide) at_171 pd_14 rfl rfl rfl E1912 (gr_3 l Z a0 hw n0 h1914 f1917 s_DEF s_EL s_EA s_EM cs mr H b1897 E1912 L ar kA b1433 F1913 EL FL AL_) (Nat.le_of_ble_eq_true rfl) (Nat.le_of_ble_eq_true rfl) (Nat.le_of_ble_eq_true rfl) (Nat.le_of_ble_eq_true rfl) rfl rfl rfl (fun v1928 h1927 q1929 => ?_)
      obtain ⟨rfl, eh1927⟩ := q1929
      subst h1927
      show G w _ h1914 14 51 174 #[.val (.int p0), .val (.int p1), .val (.int p2), .val (.int (1 : Int32)), .val (.int (3 : Int32)), .val (.ref sg1412), .val (.ref b1420), .val (.ref b1433), .val (.ref b1448), .val (.ref b1466), .val (.ref b1897), .unset] [(.int (1 : Int32))]
      refine g_istore C (pc' := 176) (Ls' := #[.val (.int p0), .val (.int p1), .val (.int p2), .val (.int (1 : Int32)), .val (.int (3 : Int32)), .val (.ref sg1412), .val (.ref b1420), .val (.ref b1433), .val (.ref b1448), .val (.ref b1466), .val (.ref b1897), .val (.int (1 : Int32))]) at_174 rfl rfl rfl ?_
      refine g_iload C (pc' := 178) at_176 rfl rfl ?_
      refine g_iload C (pc' := 180) at_178 rfl rfl ?_
      refine g_ifN C (pc' := 183) at_180 rfl (by decide) rfl ?_
      refine g_iconst C (pc' := 184) (v := (1 : Int32)) at_183 (by decide) rfl ?_
      refine g_goto C (pc' := 188) at_184 (by decide) rfl ?_
      refine g_icN C (pc' := 191) at_188 rfl (by decide) rfl ?_
      refine g_iconst C (pc' := 192) (v := (1 : Int32)) at_191 (by decide) rfl ?_
      refine g_goto C (pc' := 196) at_192 (by decide) rfl ?_
      exact g_zreturn C at_196 rfl rfl (Nat.le_of_ble_eq_true rfl) (Nat.le_of_ble_eq_true rfl) (rfl)
  · rw [e4]
    refine g_iloadN C (pc' := 66) at_65 rfl rfl ?_
    refine g_ifN C (pc' := 69) at_66 rfl (by decide) rfl ?_
    refine g_aload C (pc' := 71) at_69 rfl rfl rfl ?_
    refine g_aload C (pc' := 73) at_71 rfl rfl rfl ?_
    refine g_interface C (pc' := 78) (k' := 7) (n' := 28) (argsL := [(.ref b1433)]) (rest := []) (wd hw 78 rfl) (wd hw 79 rfl) (wd hw 80 rfl) rfl (wd hw 81 rfl) (wd hw 82 rfl) (wd hw 83 rfl) (wd hw 84 rfl) (wd hw 85 rfl) (wd hw 56 rfl) (wd hw 86 rfl) (by decide) at_73 pd_7 rfl rfl rfl f1484 (add_0 l Z a0 hw n0 h1478 f1481 s_DEF s_EL s_EA s_EM cs mr H b1448 (0 : Int32) b1433 f1483 f1485) (Nat.le_of_ble_eq_true rfl) (Nat.le_of_ble_eq_true rfl) (Nat.le_of_ble_eq_true rfl) (Nat.le_of_ble_eq_true rfl) rfl rfl rfl (fun v1936 h1935 q1937 => ?_)
    obtain ⟨rfl, K1930, ed1932, kE1933, hg1934, P1931⟩ := q1937
    have ne_b1420_ed1932 : b1420 ≠ ed1932 := Nat.ne_of_lt (Nat.lt_of_lt_of_le f1482.lt hg1934)
    have ne_b1433_ed1932 : b1433 ≠ ed1932 := Nat.ne_of_lt (Nat.lt_of_lt_of_le f1483.lt hg1934)
    have ne_b1448_ed1932 : b1448 ≠ ed1932 := Nat.ne_of_lt (Nat.lt_of_lt_of_le f1484.lt hg1934)
    have ne_b1466_ed1932 : b1466 ≠ ed1932 := Nat.ne_of_lt (Nat.lt_of_lt_of_le f1486.lt hg1934)
    have ge_ed1932 : n0 ≤ ed1932 := Nat.le_trans (f1481.1 ▸ f1481.2.1) hg1934
    have f1938 := f1481.keep K1930 (allS ge_b1448 all0)
    have f1939 := f1482.keep K1930
    have f1940 := f1483.keep K1930
    have f1941 := f1484.keep K1930
    have f1942 := f1486.keep K1930
    have f1943 := own_AL0_keep P1477 K1930 (ninS (Ne.symm ne_b1448_b1466) nin0)
    have E1944 := P1931.2.2.2.2.2.1
    show G w _ h1935 7 28 78 #[.val (.int p0), .val (.int p1), .val (.int p2), .val (.int (2 : Int32)), .val (.int (p1 &&& (3 : Int32))), .val (.ref sg1412), .val (.ref b1420), .val (.ref b1433), .val (.ref b1448), .val (.ref b1466), .unset, .unset] [(.int (1 : Int32))]
    refine g_pop C (pc' := 79) at_78 rfl rfl rfl ?_
    refine g_iloadN C (pc' := 80) at_79 rfl rfl ?_
    refine g_iconst C (pc' := 81) (v := (1 : Int32)) at_80 (by decide) rfl ?_
    refine g_icN C (pc' := 84) at_81 rfl (by decide) rfl ?_
    refine g_aload C (pc' := 86) at_84 rfl rfl rfl ?_
    refine g_aload C (pc' := 88) at_86 rfl rfl rfl ?_
    refine g_interface C (pc' := 93) (k' := 7) (n' := 28) (argsL := [(.ref b1433)]) (rest := []) (wd hw 78 rfl) (wd hw 79 rfl) (wd hw 80 rfl) rfl (wd hw 81 rfl) (wd hw 82 rfl) (wd hw 83 rfl) (wd hw 84 rfl) (wd hw 85 rfl) (wd hw 56 rfl) (wd hw 86 rfl) (by decide) at_88 pd_7 rfl rfl rfl f1941 (add_1 l Z a0 hw n0 h1935 f1938 s_DEF s_EL s_EA s_EM cs mr H b1448 ed1932 kE1933 ((0 : Int32) + (1 : Int32)) b1433 b1433 f1940 P1931) (Nat.le_of_ble_eq_true rfl) (Nat.le_of_ble_eq_true rfl) (Nat.le_of_ble_eq_true rfl) (Nat.le_of_ble_eq_true rfl) rfl rfl rfl (fun v1948 h1947 q1949 => ?_)
    obtain ⟨rfl, K1945, P1946⟩ := q1949
    have f1950 := f1938.keep K1945 (allS ge_b1448 (allS ge_ed1932 all0))
    have f1951 := f1939.keep K1945
    have f1952 := f1940.keep K1945
    have f1953 := f1941.keep K1945
    have f1954 := f1942.keep K1945
    have f1955 := own_AL0_keep f1943 K1945 (ninS (Ne.symm ne_b1448_b1466) (ninS ne_b1466_ed1932 nin0))
    have f1956 := E1944.keep K1945
    show G w _ h1947 7 28 93 #[.val (.int p0), .val (.int p1), .val (.int p2), .val (.int (2 : Int32)), .val (.int (p1 &&& (3 : Int32))), .val (.ref sg1412), .val (.ref b1420), .val (.ref b1433), .val (.ref b1448), .val (.ref b1466), .unset, .unset] [(.int (1 : Int32))]
    refine g_pop C (pc' := 94) at_93 rfl rfl rfl ?_
    refine g_iloadN C (pc' := 95) at_94 rfl rfl ?_
    refine g_iconst C (pc' := 96) (v := (2 : Int32)) at_95 (by decide) rfl ?_
    refine g_icY C (pc' := 109) at_96 rfl (by decide) (by decide) rfl ?_
    rcases own_and3 p1 with e4 | e4 | e4 | e4
    · rw [e4]
      refine g_iload C (pc' := 111) at_109 rfl rfl ?_
      refine g_ifY C (pc' := 124) at_111 rfl (by decide) (by decide) rfl ?_
      refine g_iload C (pc' := 126) at_124 rfl rfl ?_
      refine g_iconst C (pc' := 127) (v := (1 : Int32)) at_126 (by decide) rfl ?_
      refine g_icY C (pc' := 140) at_127 rfl (by decide) (by decide) rfl ?_
      refine g_iload C (pc' := 142) at_140 rfl rfl ?_
      refine g_iconst C (pc' := 143) (v := (2 : Int32)) at_142 (by decide) rfl ?_
      refine g_icY C (pc' := 156) at_143 rfl (by decide) (by decide) rfl ?_
      refine g_new C (pc' := 159) (k' := 8) (n' := 30) (wd hw 113 rfl) (wd hw 114 rfl) (wd hw 115 rfl) at_156 (by decide) (by decide) rfl rfl rfl (fun h1957 b1958 ex1959 E1960 A1961 D1962 => ?_)
      have ne_b1420_b1958 : b1420 ≠ b1958 := Nat.ne_of_lt (by rw [ex1959]; exact f1951.lt)
      have ne_b1433_b1958 : b1433 ≠ b1958 := Nat.ne_of_lt (by rw [ex1959]; exact f1952.lt)
      have ne_b1448_b1958 : b1448 ≠ b1958 := Nat.ne_of_lt (by rw [ex1959]; exact f1953.lt)
      have ne_b1466_b1958 : b1466 ≠ b1958 := Nat.ne_of_lt (by rw [ex1959]; exact f1954.lt)
      have ne_ed1932_b1958 : ed1932 ≠ b1958 := Nat.ne_of_lt (by rw [ex1959]; exact f1956.lt)
      have ge_b1958 : n0 ≤ b1958 := by rw [ex1959]; exact f1950.1 ▸ f1950.2.1
      have f1963 := f1950.ext E1960
      have f1964 := f1951.ext E1960
      have f1965 := f1952.ext E1960
      have f1966 := f1953.ext E1960
      have f1967 := f1954.ext E1960
      have f1968 := own_AL0_ext f1955 E1960
      have f1969 := f1956.ext E1960
      have f1970 := own_AL1_ext P1946 E1960
      have F_area_b1958 : Fld Z h1957 b1958 "com/example/plumbline/plumbline/Grades" "area" "Ljava/util/List;" .null := D1962 (Or.inr (wd hw 148 rfl)) (ty := (.object "java/util/List")) (by decide)
      have F_total_b1958 : Fld Z h1957 b1958 "com/example/plumbline/plumbline/Grades" "total" "Ljava/util/List;" .null := D1962 (Or.inr (wd hw 215 rfl)) (ty := (.object "java/util/List")) (by decide)
      refine g_dup C (pc' := 160) at_159 rfl rfl rfl ?_
      refine g_aload C (pc' := 162) at_160 rfl rfl rfl ?_
      refine g_aload C (pc' := 164) at_162 rfl rfl rfl ?_
      refine g_special C (pc' := 167) (k' := 10) (n' := 34) (argsL := [(.ref b1448), (.ref b1466)]) (rest := [(.ref b1958)]) (wd hw 116 rfl) (wd hw 117 rfl) (wd hw 115 rfl) (wd hw 118 rfl) (by decide) rfl at_164 pd_12 rfl rfl rfl (gsI_02 l Z a0 hw n0 h1957 f1963 s_DEF s_EL s_EA s_EM cs mr H b1958 b1433 ge_b1958 b1448 ed1932 kE1933 (((0 : Int32) + (1 : Int32)) + (1 : Int32)) b1466 (0 : Int32) A1961 F_area_b1958 F_total_b1958 f1965 f1970 f1968 (Ne.symm ne_b1448_b1958) (Ne.symm ne_b1466_b1958) (Ne.symm ne_ed1932_b1958)) (Nat.le_of_ble_eq_true rfl) (Nat.le_of_ble_eq_true rfl) (Nat.le_of_ble_eq_true rfl) (Nat.le_of_ble_eq_true rfl) rfl rfl rfl (fun v1975 h1974 q1976 => ?_)
      obtain ⟨rfl, K1971, E1972, F1973⟩ := q1976
      have f1977 := f1963.keep K1971 (allS ge_b1958 all0)
      have f1978 := f1964.keep K1971
      have f1979 := f1965.keep K1971
      have f1980 := f1966.keep K1971
      have f1981 := f1967.keep K1971
      have f1982 := own_AL0_keep f1968 K1971 (ninS ne_b1466_b1958 nin0)
      have f1983 := f1969.keep K1971
      have f1984 := own_AL1_keep f1970 K1971 (ninS ne_b1448_b1958 nin0) (ninS ne_ed1932_b1958 nin0)
      have f1985 := A1961.keep K1971
      show G w _ h1974 10 34 167 #[.val (.int p0), .val (.int p1), .val (.int p2), .val (.int (2 : Int32)), .val (.int (0 : Int32)), .val (.ref sg1412), .val (.ref b1420), .val (.ref b1433), .val (.ref b1448), .val (.ref b1466), .unset, .unset] [(.ref b1958)]
      refine g_astore C (pc' := 169) (Ls' := #[.val (.int p0), .val (.int p1), .val (.int p2), .val (.int (2 : Int32)), .val (.int (0 : Int32)), .val (.ref sg1412), .val (.ref b1420), .val (.ref b1433), .val (.ref b1448), .val (.ref b1466), .val (.ref b1958), .unset]) at_167 rfl rfl rfl rfl ?_
      refine g_aload C (pc' := 171) at_169 rfl rfl rfl ?_
      refine g_virtual C (pc' := 174) (k' := 10) (n' := 34) (argsL := []) (rest := []) (wd hw 216 rfl) (wd hw 217 rfl) (nfSel (wd hw 219 rfl)) (wd hw 219 rfl) (wd hw 218 rfl) (wd hw 115 rfl) (wd hw 220 rfl) (by decide) at_171 pd_14 rfl rfl rfl E1972 (gr_0 l Z a0 hw n0 h1974 f1977 s_DEF s_EL s_EA s_EM cs mr H b1958 E1972 F1973) (Nat.le_of_ble_eq_true rfl) (Nat.le_of_ble_eq_true rfl) (Nat.le_of_ble_eq_true rfl) (Nat.le_of_ble_eq_true rfl) rfl rfl rfl (fun v1987 h1986 q1988 => ?_)
      obtain ⟨rfl, eh1986⟩ := q1988
      subst h1986
      show G w _ h1974 10 34 174 #[.val (.int p0), .val (.int p1), .val (.int p2), .val (.int (2 : Int32)), .val (.int (0 : Int32)), .val (.ref sg1412), .val (.ref b1420), .val (.ref b1433), .val (.ref b1448), .val (.ref b1466), .val (.ref b1958), .unset] [(.int (0 : Int32))]
      refine g_istore C (pc' := 176) (Ls' := #[.val (.int p0), .val (.int p1), .val (.int p2), .val (.int (2 : Int32)), .val (.int (0 : Int32)), .val (.ref sg1412), .val (.ref b1420), .val (.ref b1433), .val (.ref b1448), .val (.ref b1466), .val (.ref b1958), .val (.int (0 : Int32))]) at_174 rfl rfl rfl ?_
      refine g_iload C (pc' := 178) at_176 rfl rfl ?_
      refine g_iload C (pc' := 180) at_178 rfl rfl ?_
      refine g_ifY C (pc' := 187) at_180 rfl (by decide) (by decide) rfl ?_
      refine g_iconst C (pc' := 188) (v := (0 : Int32)) at_187 (by decide) rfl ?_
      refine g_icN C (pc' := 191) at_188 rfl (by decide) rfl ?_
      refine g_iconst C (pc' := 192) (v := (1 : Int32)) at_191 (by decide) rfl ?_
      refine g_goto C (pc' := 196) at_192 (by decide) rfl ?_
      exact g_zreturn C at_196 rfl rfl (Nat.le_of_ble_eq_true rfl) (Nat.le_of_ble_eq_true rfl) (rfl)
    · rw [e4]
      refine g_iload C (pc' := 111) at_109 rfl rfl ?_
      refine g_ifN C (pc' := 114) at_111 rfl (by decide) rfl ?_
      refine g_aload C (pc' := 116) at_114 rfl rfl rfl ?_
      refine g_aload C (pc' := 118) at_116 rfl rfl rfl ?_
      refine g_interface C (pc' := 123) (k' := 8) (n' := 38) (argsL := [(.ref b1433)]) (rest := []) (wd hw 78 rfl) (wd hw 79 rfl) (wd hw 80 rfl) rfl (wd hw 81 rfl) (wd hw 82 rfl) (wd hw 83 rfl) (wd hw 84 rfl) (wd hw 85 rfl) (wd hw 56 rfl) (wd hw 86 rfl) (by decide) at_118 pd_7 rfl rfl rfl f1954 (add_0 l Z a0 hw n0 h1947 f1950 s_DEF s_EL s_EA s_EM cs mr H b1466 (0 : Int32) b1433 f1952 f1955) (Nat.le_of_ble_eq_true rfl) (Nat.le_of_ble_eq_true rfl) (Nat.le_of_ble_eq_true rfl) (Nat.le_of_ble_eq_true rfl) rfl rfl rfl (fun v1995 h1994 q1996 => ?_)
      obtain ⟨rfl, K1989, ed1991, kE1992, hg1993, P1990⟩ := q1996
      have ne_b1420_ed1991 : b1420 ≠ ed1991 := Nat.ne_of_lt (Nat.lt_of_lt_of_le f1951.lt hg1993)
      have ne_b1433_ed1991 : b1433 ≠ ed1991 := Nat.ne_of_lt (Nat.lt_of_lt_of_le f1952.lt hg1993)
      have ne_b1448_ed1991 : b1448 ≠ ed1991 := Nat.ne_of_lt (Nat.lt_of_lt_of_le f1953.lt hg1993)
      have ne_b1466_ed1991 : b1466 ≠ ed1991 := Nat.ne_of_lt (Nat.lt_of_lt_of_le f1954.lt hg1993)
      have ne_ed1932_ed1991 : ed1932 ≠ ed1991 := Nat.ne_of_lt (Nat.lt_of_lt_of_le f1956.lt hg1993)
      have ge_ed1991 : n0 ≤ ed1991 := Nat.le_trans (f1950.1 ▸ f1950.2.1) hg1993
      have f1997 := f1950.keep K1989 (allS ge_b1466 all0)
      have f1998 := f1951.keep K1989
      have f1999 := f1952.keep K1989
      have f2000 := f1953.keep K1989
      have f2001 := f1954.keep K1989
      have f2002 := f1956.keep K1989
      have f2003 := own_AL1_keep P1946 K1989 (ninS ne_b1448_b1466 nin0) (ninS (Ne.symm ne_b1466_ed1932) nin0)
      have E2004 := P1990.2.2.2.2.2.1
      show G w _ h1994 8 38 123 #[.val (.int p0), .val (.int p1), .val (.int p2), .val (.int (2 : Int32)), .val (.int (1 : Int32)), .val (.ref sg1412), .val (.ref b1420), .val (.ref b1433), .val (.ref b1448), .val (.ref b1466), .unset, .unset] [(.int (1 : Int32))]
      refine g_pop C (pc' := 124) at_123 rfl rfl rfl ?_
      refine g_iload C (pc' := 126) at_124 rfl rfl ?_
      refine g_iconst C (pc' := 127) (v := (1 : Int32)) at_126 (by decide) rfl ?_
      refine g_icY C (pc' := 140) at_127 rfl (by decide) (by decide) rfl ?_
      refine g_iload C (pc' := 142) at_140 rfl rfl ?_
      refine g_iconst C (pc' := 143) (v := (2 : Int32)) at_142 (by decide) rfl ?_
      refine g_icY C (pc' := 156) at_143 rfl (by decide) (by decide) rfl ?_
      refine g_new C (pc' := 159) (k' := 9) (n' := 40) (wd hw 113 rfl) (wd hw 114 rfl) (wd hw 115 rfl) at_156 (by decide) (by decide) rfl rfl rfl (fun h2005 b2006 ex2007 E2008 A2009 D2010 => ?_)
      have ne_b1420_b2006 : b1420 ≠ b2006 := Nat.ne_of_lt (by rw [ex2007]; exact f1998.lt)
      have ne_b1433_b2006 : b1433 ≠ b2006 := Nat.ne_of_lt (by rw [ex2007]; exact f1999.lt)
      have ne_b1448_b2006 : b1448 ≠ b2006 := Nat.ne_of_lt (by rw [ex2007]; exact f2000.lt)
      have ne_b1466_b2006 : b1466 ≠ b2006 := Nat.ne_of_lt (by rw [ex2007]; exact f2001.lt)
      have ne_ed1932_b2006 : ed1932 ≠ b2006 := Nat.ne_of_lt (by rw [ex2007]; exact f2002.lt)
      have ne_ed1991_b2006 : ed1991 ≠ b2006 := Nat.ne_of_lt (by rw [ex2007]; exact E2004.lt)
      have ge_b2006 : n0 ≤ b2006 := by rw [ex2007]; exact f1997.1 ▸ f1997.2.1
      have f2011 := f1997.ext E2008
      have f2012 := f1998.ext E2008
      have f2013 := f1999.ext E2008
      have f2014 := f2000.ext E2008
      have f2015 := f2001.ext E2008
      have f2016 := f2002.ext E2008
      have f2017 := own_AL1_ext f2003 E2008
      have f2018 := own_AL1_ext P1990 E2008
      have f2019 := E2004.ext E2008
      have F_area_b2006 : Fld Z h2005 b2006 "com/example/plumbline/plumbline/Grades" "area" "Ljava/util/List;" .null := D2010 (Or.inr (wd hw 148 rfl)) (ty := (.object "java/util/List")) (by decide)
      have F_total_b2006 : Fld Z h2005 b2006 "com/example/plumbline/plumbline/Grades" "total" "Ljava/util/List;" .null := D2010 (Or.inr (wd hw 215 rfl)) (ty := (.object "java/util/List")) (by decide)
      refine g_dup C (pc' := 160) at_159 rfl rfl rfl ?_
      refine g_aload C (pc' := 162) at_160 rfl rfl rfl ?_
      refine g_aload C (pc' := 164) at_162 rfl rfl rfl ?_
      refine g_special C (pc' := 167) (k' := 13) (n' := 47) (argsL := [(.ref b1448), (.ref b1466)]) (rest := [(.ref b2006)]) (wd hw 116 rfl) (wd hw 117 rfl) (wd hw 115 rfl) (wd hw 118 rfl) (by decide) rfl at_164 pd_12 rfl rfl rfl (gsI_12 l Z a0 hw n0 h2005 f2011 s_DEF s_EL s_EA s_EM cs mr H b2006 b1433 ge_b2006 b1448 ed1932 kE1933 (((0 : Int32) + (1 : Int32)) + (1 : Int32)) b1466 ed1991 kE1992 ((0 : Int32) + (1 : Int32)) A2009 F_area_b2006 F_total_b2006 f2013 f2017 f2018 (Ne.symm ne_b1448_b2006) (Ne.symm ne_b1466_b2006) (Ne.symm ne_ed1932_b2006) (Ne.symm ne_ed1991_b2006)) (Nat.le_of_ble_eq_true rfl) (Nat.le_of_ble_eq_true rfl) (Nat.le_of_ble_eq_true rfl) (Nat.le_of_ble_eq_true rfl) rfl rfl rfl (fun v2024 h2023 q2025 => ?_)
      obtain ⟨rfl, K2020, E2021, L, F2022, EL⟩ := q2025
      have f2026 := f2011.keep K2020 (allS ge_b2006 all0)
      have f2027 := f2012.keep K2020
      have f2028 := f2013.keep K2020
      have f2029 := f2014.keep K2020
      have f2030 := f2015.keep K2020
      have f2031 := f2016.keep K2020
      have f2032 := own_AL1_keep f2017 K2020 (ninS ne_b1448_b2006 nin0) (ninS ne_ed1932_b2006 nin0)
      have f2033 := own_AL1_keep f2018 K2020 (ninS ne_b1466_b2006 nin0) (ninS ne_ed1991_b2006 nin0)
      have f2034 := f2019.keep K2020
      have f2035 := A2009.keep K2020
      show G w _ h2023 13 47 167 #[.val (.int p0), .val (.int p1), .val (.int p2), .val (.int (2 : Int32)), .val (.int (1 : Int32)), .val (.ref sg1412), .val (.ref b1420), .val (.ref b1433), .val (.ref b1448), .val (.ref b1466), .unset, .unset] [(.ref b2006)]
      refine g_astore C (pc' := 169) (Ls' := #[.val (.int p0), .val (.int p1), .val (.int p2), .val (.int (2 : Int32)), .val (.int (1 : Int32)), .val (.ref sg1412), .val (.ref b1420), .val (.ref b1433), .val (.ref b1448), .val (.ref b1466), .val (.ref b2006), .unset]) at_167 rfl rfl rfl rfl ?_
      refine g_aload C (pc' := 171) at_169 rfl rfl rfl ?_
      refine g_virtual C (pc' := 174) (k' := 13) (n' := 47) (argsL := []) (rest := []) (wd hw 216 rfl) (wd hw 217 rfl) (nfSel (wd hw 219 rfl)) (wd hw 219 rfl) (wd hw 218 rfl) (wd hw 115 rfl) (wd hw 220 rfl) (by decide) at_171 pd_14 rfl rfl rfl E2021 (gr_1 l Z a0 hw n0 h2023 f2026 s_DEF s_EL s_EA s_EM cs mr H b2006 E2021 L F2022 EL) (Nat.le_of_ble_eq_true rfl) (Nat.le_of_ble_eq_true rfl) (Nat.le_of_ble_eq_true rfl) (Nat.le_of_ble_eq_true rfl) rfl rfl rfl (fun v2037 h2036 q2038 => ?_)
      obtain ⟨rfl, eh2036⟩ := q2038
      subst h2036
      show G w _ h2023 13 47 174 #[.val (.int p0), .val (.int p1), .val (.int p2), .val (.int (2 : Int32)), .val (.int (1 : Int32)), .val (.ref sg1412), .val (.ref b1420), .val (.ref b1433), .val (.ref b1448), .val (.ref b1466), .val (.ref b2006), .unset] [(.int (1 : Int32))]
      refine g_istore C (pc' := 176) (Ls' := #[.val (.int p0), .val (.int p1), .val (.int p2), .val (.int (2 : Int32)), .val (.int (1 : Int32)), .val (.ref sg1412), .val (.ref b1420), .val (.ref b1433), .val (.ref b1448), .val (.ref b1466), .val (.ref b2006), .val (.int (1 : Int32))]) at_174 rfl rfl rfl ?_
      refine g_iload C (pc' := 178) at_176 rfl rfl ?_
      refine g_iload C (pc' := 180) at_178 rfl rfl ?_
      refine g_ifN C (pc' := 183) at_180 rfl (by decide) rfl ?_
      refine g_iconst C (pc' := 184) (v := (1 : Int32)) at_183 (by decide) rfl ?_
      refine g_goto C (pc' := 188) at_184 (by decide) rfl ?_
      refine g_icN C (pc' := 191) at_188 rfl (by decide) rfl ?_
      refine g_iconst C (pc' := 192) (v := (1 : Int32)) at_191 (by decide) rfl ?_
      refine g_goto C (pc' := 196) at_192 (by decide) rfl ?_
      exact g_zreturn C at_196 rfl rfl (Nat.le_of_ble_eq_true rfl) (Nat.le_of_ble_eq_true rfl) (rfl)
    · rw [e4]
      refine g_iload C (pc' := 111) at_109 rfl rfl ?_
      refine g_ifN C (pc' := 114) at_111 rfl (by decide) rfl ?_
      refine g_aload C (pc' := 116) at_114 rfl rfl rfl ?_
      refine g_aload C (pc' := 118) at_116 rfl rfl rfl ?_
      refine g_interface C (pc' := 123) (k' := 8) (n' := 38) (argsL := [(.ref b1433)]) (rest := []) (wd hw 78 rfl) (wd hw 79 rfl) (wd hw 80 rfl) rfl (wd hw 81 rfl) (wd hw 82 rfl) (wd hw 83 rfl) (wd hw 84 rfl) (wd hw 85 rfl) (wd hw 56 rfl) (wd hw 86 rfl) (by decide) at_118 pd_7 rfl rfl rfl f1954 (add_0 l Z a0 hw n0 h1947 f1950 s_DEF s_EL s_EA s_EM cs mr H b1466 (0 : Int32) b1433 f1952 f1955) (Nat.le_of_ble_eq_true rfl) (Nat.le_of_ble_eq_true rfl) (Nat.le_of_ble_eq_true rfl) (Nat.le_of_ble_eq_true rfl) rfl rfl rfl (fun v2045 h2044 q2046 => ?_)
      obtain ⟨rfl, K2039, ed2041, kE2042, hg2043, P2040⟩ := q2046
      have ne_b1420_ed2041 : b1420 ≠ ed2041 := Nat.ne_of_lt (Nat.lt_of_lt_of_le f1951.lt hg2043)
      have ne_b1433_ed2041 : b1433 ≠ ed2041 := Nat.ne_of_lt (Nat.lt_of_lt_of_le f1952.lt hg2043)
      have ne_b1448_ed2041 : b1448 ≠ ed2041 := Nat.ne_of_lt (Nat.lt_of_lt_of_le f1953.lt hg2043)
      have ne_b1466_ed2041 : b1466 ≠ ed2041 := Nat.ne_of_lt (Nat.lt_of_lt_of_le f1954.lt hg2043)
      have ne_ed1932_ed2041 : ed1932 ≠ ed2041 := Nat.ne_of_lt (Nat.lt_of_lt_of_le f1956.lt hg2043)
      have ge_ed2041 : n0 ≤ ed2041 := Nat.le_trans (f1950.1 ▸ f1950.2.1) hg2043
      have f2047 := f1950.keep K2039 (allS ge_b1466 all0)
      have f2048 := f1951.keep K2039
      have f2049 := f1952.keep K2039
      have f2050 := f1953.keep K2039
      have f2051 := f1954.keep K2039
      have f2052 := f1956.keep K2039
      have f2053 := own_AL1_keep P1946 K2039 (ninS ne_b1448_b1466 nin0) (ninS (Ne.symm ne_b1466_ed1932) nin0)
      have E2054 := P2040.2.2.2.2.2.1
      show G w _ h2044 8 38 123 #[.val (.int p0), .val (.int p1), .val (.int p2), .val (.int (2 : Int32)), .val (.int (2 : Int32)), .val (.ref sg1412), .val (.ref b1420), .val (.ref b1433), .val (.ref b1448), .val (.ref b1466), .unset, .unset] [(.int (1 : Int32))]
      refine g_pop C (pc' := 124) at_123 rfl rfl rfl ?_
      refine g_iload C (pc' := 126) at_124 rfl rfl ?_
      refine g_iconst C (pc' := 127) (v := (1 : Int32)) at_126 (by decide) rfl ?_
      refine g_icN C (pc' := 130) at_127 rfl (by decide) rfl ?_
      refine g_aload C (pc' := 132) at_130 rfl rfl rfl ?_
      refine g_aload C (pc' := 134) at_132 rfl rfl rfl ?_
      refine g_interface C (pc' := 139) (k' := 8) (n' := 38) (argsL := [(.ref b1433)]) (rest := []) (wd hw 78 rfl) (wd hw 79 rfl) (wd hw 80 rfl) rfl (wd hw 81 rfl) (wd hw 82 rfl) (wd hw 83 rfl) (wd hw 84 rfl) (wd hw 85 rfl) (wd hw 56 rfl) (wd hw 86 rfl) (by decide) at_134 pd_7 rfl rfl rfl f2051 (add_1 l Z a0 hw n0 h2044 f2047 s_DEF s_EL s_EA s_EM cs mr H b1466 ed2041 kE2042 ((0 : Int32) + (1 : Int32)) b1433 b1433 f2049 P2040) (Nat.le_of_ble_eq_true rfl) (Nat.le_of_ble_eq_true rfl) (Nat.le_of_ble_eq_true rfl) (Nat.le_of_ble_eq_true rfl) rfl rfl rfl (fun v2058 h2057 q2059 => ?_)
      obtain ⟨rfl, K2055, P2056⟩ := q2059
      have f2060 := f2047.keep K2055 (allS ge_b1466 (allS ge_ed2041 all0))
      have f2061 := f2048.keep K2055
      have f2062 := f2049.keep K2055
      have f2063 := f2050.keep K2055
      have f2064 := f2051.keep K2055
      have f2065 := f2052.keep K2055
      have f2066 := own_AL1_keep f2053 K2055 (ninS ne_b1448_b1466 (ninS ne_b1448_ed2041 nin0)) (ninS (Ne.symm ne_b1466_ed1932) (ninS ne_ed1932_ed2041 nin0))
      have f2067 := E2054.keep K2055
      show G w _ h2057 8 38 139 #[.val (.int p0), .val (.int p1), .val (.int p2), .val (.int (2 : Int32)), .val (.int (2 : Int32)), .val (.ref sg1412), .val (.ref b1420), .val (.ref b1433), .val (.ref b1448), .val (.ref b1466), .unset, .unset] [(.int (1 : Int32))]
      refine g_pop C (pc' := 140) at_139 rfl rfl rfl ?_
      refine g_iload C (pc' := 142) at_140 rfl rfl ?_
      refine g_iconst C (pc' := 143) (v := (2 : Int32)) at_142 (by decide) rfl ?_
      refine g_icY C (pc' := 156) at_143 rfl (by decide) (by decide) rfl ?_
      refine g_new C (pc' := 159) (k' := 9) (n' := 40) (wd hw 113 rfl) (wd hw 114 rfl) (wd hw 115 rfl) at_156 (by decide) (by decide) rfl rfl rfl (fun h2068 b2069 ex2070 E2071 A2072 D2073 => ?_)
      have ne_b1420_b2069 : b1420 ≠ b2069 := Nat.ne_of_lt (by rw [ex2070]; exact f2061.lt)
      have ne_b1433_b2069 : b1433 ≠ b2069 := Nat.ne_of_lt (by rw [ex2070]; exact f2062.lt)
      have ne_b1448_b2069 : b1448 ≠ b2069 := Nat.ne_of_lt (by rw [ex2070]; exact f2063.lt)
      have ne_b1466_b2069 : b1466 ≠ b2069 := Nat.ne_of_lt (by rw [ex2070]; exact f2064.lt)
      have ne_ed1932_b2069 : ed1932 ≠ b2069 := Nat.ne_of_lt (by rw [ex2070]; exact f2065.lt)
      have ne_ed2041_b2069 : ed2041 ≠ b2069 := Nat.ne_of_lt (by rw [ex2070]; exact f2067.lt)
      have ge_b2069 : n0 ≤ b2069 := by rw [ex2070]; exact f2060.1 ▸ f2060.2.1
      have f2074 := f2060.ext E2071
      have f2075 := f2061.ext E2071
      have f2076 := f2062.ext E2071
      have f2077 := f2063.ext E2071
      have f2078 := f2064.ext E2071
      have f2079 := f2065.ext E2071
      have f2080 := own_AL1_ext f2066 E2071
      have f2081 := f2067.ext E2071
      have f2082 := own_AL1_ext P2056 E2071
      have F_area_b2069 : Fld Z h2068 b2069 "com/example/plumbline/plumbline/Grades" "area" "Ljava/util/List;" .null := D2073 (Or.inr (wd hw 148 rfl)) (ty := (.object "java/util/List")) (by decide)
      have F_total_b2069 : Fld Z h2068 b2069 "com/example/plumbline/plumbline/Grades" "total" "Ljava/util/List;" .null := D2073 (Or.inr (wd hw 215 rfl)) (ty := (.object "java/util/List")) (by decide)
      refine g_dup C (pc' := 160) at_159 rfl rfl rfl ?_
      refine g_aload C (pc' := 162) at_160 rfl rfl rfl ?_
      refine g_aload C (pc' := 164) at_162 rfl rfl rfl ?_
      refine g_special C (pc' := 167) (k' := 13) (n' := 48) (argsL := [(.ref b1448), (.ref b1466)]) (rest := [(.ref b2069)]) (wd hw 116 rfl) (wd hw 117 rfl) (wd hw 115 rfl) (wd hw 118 rfl) (by decide) rfl at_164 pd_12 rfl rfl rfl (gsI_22 l Z a0 hw n0 h2068 f2074 s_DEF s_EL s_EA s_EM cs mr H b2069 b1433 ge_b2069 b1448 ed1932 kE1933 (((0 : Int32) + (1 : Int32)) + (1 : Int32)) b1466 ed2041 kE2042 (((0 : Int32) + (1 : Int32)) + (1 : Int32)) A2072 F_area_b2069 F_total_b2069 f2076 f2080 f2082 (Ne.symm ne_b1448_b2069) (Ne.symm ne_b1466_b2069) (Ne.symm ne_ed1932_b2069) (Ne.symm ne_ed2041_b2069)) (Nat.le_of_ble_eq_true rfl) (Nat.le_of_ble_eq_true rfl) (Nat.le_of_ble_eq_true rfl) (Nat.le_of_ble_eq_true rfl) rfl rfl rfl (fun v2087 h2086 q2088 => ?_)
      obtain ⟨rfl, K2083, E2084, L, F2085, EL⟩ := q2088
      have f2089 := f2074.keep K2083 (allS ge_b2069 all0)
      have f2090 := f2075.keep K2083
      have f2091 := f2076.keep K2083
      have f2092 := f2077.keep K2083
      have f2093 := f2078.keep K2083
      have f2094 := f2079.keep K2083
      have f2095 := own_AL1_keep f2080 K2083 (ninS ne_b1448_b2069 nin0) (ninS ne_ed1932_b2069 nin0)
      have f2096 := f2081.keep K2083
      have f2097 := own_AL1_keep f2082 K2083 (ninS ne_b1466_b2069 nin0) (ninS ne_ed2041_b2069 nin0)
      have f2098 := A2072.keep K2083
      show G w _ h2086 13 48 167 #[.val (.int p0), .val (.int p1), .val (.int p2), .val (.int (2 : Int32)), .val (.int (2 : Int32)), .val (.ref sg1412), .val (.ref b1420), .val (.ref b1433), .val (.ref b1448), .val (.ref b1466), .unset, .unset] [(.ref b2069)]
      refine g_astore C (pc' := 169) (Ls' := #[.val (.int p0), .val (.int p1), .val (.int p2), .val (.int (2 : Int32)), .val (.int (2 : Int32)), .val (.ref sg1412), .val (.ref b1420), .val (.ref b1433), .val (.ref b1448), .val (.ref b1466), .val (.ref b2069), .unset]) at_167 rfl rfl rfl rfl ?_
      refine g_aload C (pc' := 171) at_169 rfl rfl rfl ?_
      refine g_virtual C (pc' := 174) (k' := 13) (n' := 48) (argsL := []) (rest := []) (wd hw 216 rfl) (wd hw 217 rfl) (nfSel (wd hw 219 rfl)) (wd hw 219 rfl) (wd hw 218 rfl) (wd hw 115 rfl) (wd hw 220 rfl) (by decide) at_171 pd_14 rfl rfl rfl E2084 (gr_2 l Z a0 hw n0 h2086 f2089 s_DEF s_EL s_EA s_EM cs mr H b2069 E2084 L F2085 EL) (Nat.le_of_ble_eq_true rfl) (Nat.le_of_ble_eq_true rfl) (Nat.le_of_ble_eq_true rfl) (Nat.le_of_ble_eq_true rfl) rfl rfl rfl (fun v2100 h2099 q2101 => ?_)
      obtain ⟨rfl, eh2099⟩ := q2101
      subst h2099
      show G w _ h2086 13 48 174 #[.val (.int p0), .val (.int p1), .val (.int p2), .val (.int (2 : Int32)), .val (.int (2 : Int32)), .val (.ref sg1412), .val (.ref b1420), .val (.ref b1433), .val (.ref b1448), .val (.ref b1466), .val (.ref b2069), .unset] [(.int (1 : Int32))]
      refine g_istore C (pc' := 176) (Ls' := #[.val (.int p0), .val (.int p1), .val (.int p2), .val (.int (2 : Int32)), .val (.int (2 : Int32)), .val (.ref sg1412), .val (.ref b1420), .val (.ref b1433), .val (.ref b1448), .val (.ref b1466), .val (.ref b2069), .val (.int (1 : Int32))]) at_174 rfl rfl rfl ?_
      refine g_iload C (pc' := 178) at_176 rfl rfl ?_
      refine g_iload C (pc' := 180) at_178 rfl rfl ?_
      refine g_ifN C (pc' := 183) at_180 rfl (by decide) rfl ?_
      refine g_iconst C (pc' := 184) (v := (1 : Int32)) at_183 (by decide) rfl ?_
      refine g_goto C (pc' := 188) at_184 (by decide) rfl ?_
      refine g_icN C (pc' := 191) at_188 rfl (by decide) rfl ?_
      refine g_iconst C (pc' := 192) (v := (1 : Int32)) at_191 (by decide) rfl ?_
      refine g_goto C (pc' := 196) at_192 (by decide) rfl ?_
      exact g_zreturn C at_196 rfl rfl (Nat.le_of_ble_eq_true rfl) (Nat.le_of_ble_eq_true rfl) (rfl)
    · rw [e4]
      refine g_iload C (pc' := 111) at_109 rfl rfl ?_
      refine g_ifN C (pc' := 114) at_111 rfl (by decide) rfl ?_
      refine g_aload C (pc' := 116) at_114 rfl rfl rfl ?_
      refine g_aload C (pc' := 118) at_116 rfl rfl rfl ?_
      refine g_interface C (pc' := 123) (k' := 8) (n' := 38) (argsL := [(.ref b1433)]) (rest := []) (wd hw 78 rfl) (wd hw 79 rfl) (wd hw 80 rfl) rfl (wd hw 81 rfl) (wd hw 82 rfl) (wd hw 83 rfl) (wd hw 84 rfl) (wd hw 85 rfl) (wd hw 56 rfl) (wd hw 86 rfl) (by decide) at_118 pd_7 rfl rfl rfl f1954 (add_0 l Z a0 hw n0 h1947 f1950 s_DEF s_EL s_EA s_EM cs mr H b1466 (0 : Int32) b1433 f1952 f1955) (Nat.le_of_ble_eq_true rfl) (Nat.le_of_ble_eq_true rfl) (Nat.le_of_ble_eq_true rfl) (Nat.le_of_ble_eq_true rfl) rfl rfl rfl (fun v2108 h2107 q2109 => ?_)
      obtain ⟨rfl, K2102, ed2104, kE2105, hg2106, P2103⟩ := q2109
      have ne_b1420_ed2104 : b1420 ≠ ed2104 := Nat.ne_of_lt (Nat.lt_of_lt_of_le f1951.lt hg2106)
      have ne_b1433_ed2104 : b1433 ≠ ed2104 := Nat.ne_of_lt (Nat.lt_of_lt_of_le f1952.lt hg2106)
      have ne_b1448_ed2104 : b1448 ≠ ed2104 := Nat.ne_of_lt (Nat.lt_of_lt_of_le f1953.lt hg2106)
      have ne_b1466_ed2104 : b1466 ≠ ed2104 := Nat.ne_of_lt (Nat.lt_of_lt_of_le f1954.lt hg2106)
      have ne_ed1932_ed2104 : ed1932 ≠ ed2104 := Nat.ne_of_lt (Nat.lt_of_lt_of_le f1956.lt hg2106)
      have ge_ed2104 : n0 ≤ ed2104 := Nat.le_trans (f1950.1 ▸ f1950.2.1) hg2106
      have f2110 := f1950.keep K2102 (allS ge_b1466 all0)
      have f2111 := f1951.keep K2102
      have f2112 := f1952.keep K2102
      have f2113 := f1953.keep K2102
      have f2114 := f1954.keep K2102
      have f2115 := f1956.keep K2102
      have f2116 := own_AL1_keep P1946 K2102 (ninS ne_b1448_b1466 nin0) (ninS (Ne.symm ne_b1466_ed1932) nin0)
      have E2117 := P2103.2.2.2.2.2.1
      show G w _ h2107 8 38 123 #[.val (.int p0), .val (.int p1), .val (.int p2), .val (.int (2 : Int32)), .val (.int (3 : Int32)), .val (.ref sg1412), .val (.ref b1420), .val (.ref b1433), .val (.ref b1448), .val (.ref b1466), .unset, .unset] [(.int (1 : Int32))]
      refine g_pop C (pc' := 124) at_123 rfl rfl rfl ?_
      refine g_iload C (pc' := 126) at_124 rfl rfl ?_
      refine g_iconst C (pc' := 127) (v := (1 : Int32)) at_126 (by decide) rfl ?_
      refine g_icN C (pc' := 130) at_127 rfl (by decide) rfl ?_
      refine g_aload C (pc' := 132) at_130 rfl rfl rfl ?_
      refine g_aload C (pc' := 134) at_132 rfl rfl rfl ?_
      refine g_interface C (pc' := 139) (k' := 8) (n' := 38) (argsL := [(.ref b1433)]) (rest := []) (wd hw 78 rfl) (wd hw 79 rfl) (wd hw 80 rfl) rfl (wd hw 81 rfl) (wd hw 82 rfl) (wd hw 83 rfl) (wd hw 84 rfl) (wd hw 85 rfl) (wd hw 56 rfl) (wd hw 86 rfl) (by decide) at_134 pd_7 rfl rfl rfl f2114 (add_1 l Z a0 hw n0 h2107 f2110 s_DEF s_EL s_EA s_EM cs mr H b1466 ed2104 kE2105 ((0 : Int32) + (1 : Int32)) b1433 b1433 f2112 P2103) (Nat.le_of_ble_eq_true rfl) (Nat.le_of_ble_eq_true rfl) (Nat.le_of_ble_eq_true rfl) (Nat.le_of_ble_eq_true rfl) rfl rfl rfl (fun v2121 h2120 q2122 => ?_)
      obtain ⟨rfl, K2118, P2119⟩ := q2122
      have f2123 := f2110.keep K2118 (allS ge_b1466 (allS ge_ed2104 all0))
      have f2124 := f2111.keep K2118
      have f2125 := f2112.keep K2118
      have f2126 := f2113.keep K2118
      have f2127 := f2114.keep K2118
      have f2128 := f2115.keep K2118
      have f2129 := own_AL1_keep f2116 K2118 (ninS ne_b1448_b1466 (ninS ne_b1448_ed2104 nin0)) (ninS (Ne.symm ne_b1466_ed1932) (ninS ne_ed1932_ed2104 nin0))
      have f2130 := E2117.keep K2118
      show G w _ h2120 8 38 139 #[.val (.int p0), .val (.int p1), .val (.int p2), .val (.int (2 : Int32)), .val (.int (3 : Int32)), .val (.ref sg1412), .val (.ref b1420), .val (.ref b1433), .val (.ref b1448), .val (.ref b1466), .unset, .unset] [(.int (1 : Int32))]
      refine g_pop C (pc' := 140) at_139 rfl rfl rfl ?_
      refine g_iload C (pc' := 142) at_140 rfl rfl ?_
      refine g_iconst C (pc' := 143) (v := (2 : Int32)) at_142 (by decide) rfl ?_
      refine g_icN C (pc' := 146) at_143 rfl (by decide) rfl ?_
      refine g_aload C (pc' := 148) at_146 rfl rfl rfl ?_
      refine g_aload C (pc' := 150) at_148 rfl rfl rfl ?_
      refine g_interface C (pc' := 155) (k' := 8) (n' := 38) (argsL := [(.ref b1433)]) (rest := []) (wd hw 78 rfl) (wd hw 79 rfl) (wd hw 80 rfl) rfl (wd hw 81 rfl) (wd hw 82 rfl) (wd hw 83 rfl) (wd hw 84 rfl) (wd hw 85 rfl) (wd hw 56 rfl) (wd hw 86 rfl) (by decide) at_150 pd_7 rfl rfl rfl f2127 (add_2 l Z a0 hw n0 h2120 f2123 s_DEF s_EL s_EA s_EM cs mr H b1466 ed2104 kE2105 (((0 : Int32) + (1 : Int32)) + (1 : Int32)) b1433 b1433 b1433 f2125 P2119) (Nat.le_of_ble_eq_true rfl) (Nat.le_of_ble_eq_true rfl) (Nat.le_of_ble_eq_true rfl) (Nat.le_of_ble_eq_true rfl) rfl rfl rfl (fun v2134 h2133 q2135 => ?_)
      obtain ⟨rfl, K2131, P2132⟩ := q2135
      have f2136 := f2123.keep K2131 (allS ge_b1466 (allS ge_ed2104 all0))
      have f2137 := f2124.keep K2131
      have f2138 := f2125.keep K2131
      have f2139 := f2126.keep K2131
      have f2140 := f2127.keep K2131
      have f2141 := f2128.keep K2131
      have f2142 := own_AL1_keep f2129 K2131 (ninS ne_b1448_b1466 (ninS ne_b1448_ed2104 nin0)) (ninS (Ne.symm ne_b1466_ed1932) (ninS ne_ed1932_ed2104 nin0))
      have f2143 := f2130.keep K2131
      show G w _ h2133 8 38 155 #[.val (.int p0), .val (.int p1), .val (.int p2), .val (.int (2 : Int32)), .val (.int (3 : Int32)), .val (.ref sg1412), .val (.ref b1420), .val (.ref b1433), .val (.ref b1448), .val (.ref b1466), .unset, .unset] [(.int (1 : Int32))]
      refine g_pop C (pc' := 156) at_155 rfl rfl rfl ?_
      refine g_new C (pc' := 159) (k' := 9) (n' := 40) (wd hw 113 rfl) (wd hw 114 rfl) (wd hw 115 rfl) at_156 (by decide) (by decide) rfl rfl rfl (fun h2144 b2145 ex2146 E2147 A2148 D2149 => ?_)
      have ne_b1420_b2145 : b1420 ≠ b2145 := Nat.ne_of_lt (by rw [ex2146]; exact f2137.lt)
      have ne_b1433_b2145 : b1433 ≠ b2145 := Nat.ne_of_lt (by rw [ex2146]; exact f2138.lt)
      have ne_b1448_b2145 : b1448 ≠ b2145 := Nat.ne_of_lt (by rw [ex2146]; exact f2139.lt)
      have ne_b1466_b2145 : b1466 ≠ b2145 := Nat.ne_of_lt (by rw [ex2146]; exact f2140.lt)
      have ne_ed1932_b2145 : ed1932 ≠ b2145 := Nat.ne_of_lt (by rw [ex2146]; exact f2141.lt)
      have ne_ed2104_b2145 : ed2104 ≠ b2145 := Nat.ne_of_lt (by rw [ex2146]; exact f2143.lt)
      have ge_b2145 : n0 ≤ b2145 := by rw [ex2146]; exact f2136.1 ▸ f2136.2.1
      have f2150 := f2136.ext E2147
      have f2151 := f2137.ext E2147
      have f2152 := f2138.ext E2147
      have f2153 := f2139.ext E2147
      have f2154 := f2140.ext E2147
      have f2155 := f2141.ext E2147
      have f2156 := own_AL1_ext f2142 E2147
      have f2157 := f2143.ext E2147
      have f2158 := own_AL1_ext P2132 E2147
      have F_area_b2145 : Fld Z h2144 b2145 "com/example/plumbline/plumbline/Grades" "area" "Ljava/util/List;" .null := D2149 (Or.inr (wd hw 148 rfl)) (ty := (.object "java/util/List")) (by decide)
      have F_total_b2145 : Fld Z h2144 b2145 "com/example/plumbline/plumbline/Grades" "total" "Ljava/util/List;" .null := D2149 (Or.inr (wd hw 215 rfl)) (ty := (.object "java/util/List")) (by decide)
      refine g_dup C (pc' := 160) at_159 rfl rfl rfl ?_
      refine g_aload C (pc' := 162) at_160 rfl rfl rfl ?_
      refine g_aload C (pc' := 164) at_162 rfl rfl rfl ?_
      refine g_special C (pc' := 167) (k' := 14) (n' := 52) (argsL := [(.ref b1448), (.ref b1466)]) (rest := [(.ref b2145)]) (wd hw 116 rfl) (wd hw 117 rfl) (wd hw 115 rfl) (wd hw 118 rfl) (by decide) rfl at_164 pd_12 rfl rfl rfl (gsI_32 l Z a0 hw n0 h2144 f2150 s_DEF s_EL s_EA s_EM cs mr H b2145 b1433 ge_b2145 b1448 ed1932 kE1933 (((0 : Int32) + (1 : Int32)) + (1 : Int32)) b1466 ed2104 kE2105 ((((0 : Int32) + (1 : Int32)) + (1 : Int32)) + (1 : Int32)) A2148 F_area_b2145 F_total_b2145 f2152 f2156 f2158 (Ne.symm ne_b1448_b2145) (Ne.symm ne_b1466_b2145) (Ne.symm ne_ed1932_b2145) (Ne.symm ne_ed2104_b2145)) (Nat.le_of_ble_eq_true rfl) (Nat.le_of_ble_eq_true rfl) (Nat.le_of_ble_eq_true rfl) (Nat.le_of_ble_eq_true rfl) rfl rfl rfl (fun v2163 h2162 q2164 => ?_)
      obtain ⟨rfl, K2159, E2160, L, ar, kA, F2161, EL, FL, AL_⟩ := q2164
      have f2165 := f2150.keep K2159 (allS ge_b2145 all0)
      have f2166 := f2151.keep K2159
      have f2167 := f2152.keep K2159
      have f2168 := f2153.keep K2159
      have f2169 := f2154.keep K2159
      have f2170 := f2155.keep K2159
      have f2171 := own_AL1_keep f2156 K2159 (ninS ne_b1448_b2145 nin0) (ninS ne_ed1932_b2145 nin0)
      have f2172 := f2157.keep K2159
      have f2173 := own_AL1_keep f2158 K2159 (ninS ne_b1466_b2145 nin0) (ninS ne_ed2104_b2145 nin0)
      have f2174 := A2148.keep K2159
      show G w _ h2162 14 52 167 #[.val (.int p0), .val (.int p1), .val (.int p2), .val (.int (2 : Int32)), .val (.int (3 : Int32)), .val (.ref sg1412), .val (.ref b1420), .val (.ref b1433), .val (.ref b1448), .val (.ref b1466), .unset, .unset] [(.ref b2145)]
      refine g_astore C (pc' := 169) (Ls' := #[.val (.int p0), .val (.int p1), .val (.int p2), .val (.int (2 : Int32)), .val (.int (3 : Int32)), .val (.ref sg1412), .val (.ref b1420), .val (.ref b1433), .val (.ref b1448), .val (.ref b1466), .val (.ref b2145), .unset]) at_167 rfl rfl rfl rfl ?_
      refine g_aload C (pc' := 171) at_169 rfl rfl rfl ?_
      refine g_virtual C (pc' := 174) (k' := 14) (n' := 52) (argsL := []) (rest := []) (wd hw 216 rfl) (wd hw 217 rfl) (nfSel (wd hw 219 rfl)) (wd hw 219 rfl) (wd hw 218 rfl) (wd hw 115 rfl) (wd hw 220 rfl) (by decide) at_171 pd_14 rfl rfl rfl E2160 (gr_3 l Z a0 hw n0 h2162 f2165 s_DEF s_EL s_EA s_EM cs mr H b2145 E2160 L ar kA b1433 F2161 EL FL AL_) (Nat.le_of_ble_eq_true rfl) (Nat.le_of_ble_eq_true rfl) (Nat.le_of_ble_eq_true rfl) (Nat.le_of_ble_eq_true rfl) rfl rfl rfl (fun v2176 h2175 q2177 => ?_)
      obtain ⟨rfl, eh2175⟩ := q2177
      subst h2175
      show G w _ h2162 14 52 174 #[.val (.int p0), .val (.int p1), .val (.int p2), .val (.int (2 : Int32)), .val (.int (3 : Int32)), .val (.ref sg1412), .val (.ref b1420), .val (.ref b1433), .val (.ref b1448), .val (.ref b1466), .val (.ref b2145), .unset] [(.int (1 : Int32))]
      refine g_istore C (pc' := 176) (Ls' := #[.val (.int p0), .val (.int p1), .val (.int p2), .val (.int (2 : Int32)), .val (.int (3 : Int32)), .val (.ref sg1412), .val (.ref b1420), .val (.ref b1433), .val (.ref b1448), .val (.ref b1466), .val (.ref b2145), .val (.int (1 : Int32))]) at_174 rfl rfl rfl ?_
      refine g_iload C (pc' := 178) at_176 rfl rfl ?_
      refine g_iload C (pc' := 180) at_178 rfl rfl ?_
      refine g_ifN C (pc' := 183) at_180 rfl (by decide) rfl ?_
      refine g_iconst C (pc' := 184) (v := (1 : Int32)) at_183 (by decide) rfl ?_
      refine g_goto C (pc' := 188) at_184 (by decide) rfl ?_
      refine g_icN C (pc' := 191) at_188 rfl (by decide) rfl ?_
      refine g_iconst C (pc' := 192) (v := (1 : Int32)) at_191 (by decide) rfl ?_
      refine g_goto C (pc' := 196) at_192 (by decide) rfl ?_
      exact g_zreturn C at_196 rfl rfl (Nat.le_of_ble_eq_true rfl) (Nat.le_of_ble_eq_true rfl) (rfl)
  · rw [e4]
    refine g_iloadN C (pc' := 66) at_65 rfl rfl ?_
    refine g_ifN C (pc' := 69) at_66 rfl (by decide) rfl ?_
    refine g_aload C (pc' := 71) at_69 rfl rfl rfl ?_
    refine g_aload C (pc' := 73) at_71 rfl rfl rfl ?_
    refine g_interface C (pc' := 78) (k' := 7) (n' := 28) (argsL := [(.ref b1433)]) (rest := []) (wd hw 78 rfl) (wd hw 79 rfl) (wd hw 80 rfl) rfl (wd hw 81 rfl) (wd hw 82 rfl) (wd hw 83 rfl) (wd hw 84 rfl) (wd hw 85 rfl) (wd hw 56 rfl) (wd hw 86 rfl) (by decide) at_73 pd_7 rfl rfl rfl f1484 (add_0 l Z a0 hw n0 h1478 f1481 s_DEF s_EL s_EA s_EM cs mr H b1448 (0 : Int32) b1433 f1483 f1485) (Nat.le_of_ble_eq_true rfl) (Nat.le_of_ble_eq_true rfl) (Nat.le_of_ble_eq_true rfl) (Nat.le_of_ble_eq_true rfl) rfl rfl rfl (fun v2184 h2183 q2185 => ?_)
    obtain ⟨rfl, K2178, ed2180, kE2181, hg2182, P2179⟩ := q2185
    have ne_b1420_ed2180 : b1420 ≠ ed2180 := Nat.ne_of_lt (Nat.lt_of_lt_of_le f1482.lt hg2182)
    have ne_b1433_ed2180 : b1433 ≠ ed2180 := Nat.ne_of_lt (Nat.lt_of_lt_of_le f1483.lt hg2182)
    have ne_b1448_ed2180 : b1448 ≠ ed2180 := Nat.ne_of_lt (Nat.lt_of_lt_of_le f1484.lt hg2182)
    have ne_b1466_ed2180 : b1466 ≠ ed2180 := Nat.ne_of_lt (Nat.lt_of_lt_of_le f1486.lt hg2182)
    have ge_ed2180 : n0 ≤ ed2180 := Nat.le_trans (f1481.1 ▸ f1481.2.1) hg2182
    have f2186 := f1481.keep K2178 (allS ge_b1448 all0)
    have f2187 := f1482.keep K2178
    have f2188 := f1483.keep K2178
    have f2189 := f1484.keep K2178
    have f2190 := f1486.keep K2178
    have f2191 := own_AL0_keep P1477 K2178 (ninS (Ne.symm ne_b1448_b1466) nin0)
    have E2192 := P2179.2.2.2.2.2.1
    show G w _ h2183 7 28 78 #[.val (.int p0), .val (.int p1), .val (.int p2), .val (.int (3 : Int32)), .val (.int (p1 &&& (3 : Int32))), .val (.ref sg1412), .val (.ref b1420), .val (.ref b1433), .val (.ref b1448), .val (.ref b1466), .unset, .unset] [(.int (1 : Int32))]
    refine g_pop C (pc' := 79) at_78 rfl rfl rfl ?_
    refine g_iloadN C (pc' := 80) at_79 rfl rfl ?_
    refine g_iconst C (pc' := 81) (v := (1 : Int32)) at_80 (by decide) rfl ?_
    refine g_icN C (pc' := 84) at_81 rfl (by decide) rfl ?_
    refine g_aload C (pc' := 86) at_84 rfl rfl rfl ?_
    refine g_aload C (pc' := 88) at_86 rfl rfl rfl ?_
    refine g_interface C (pc' := 93) (k' := 7) (n' := 28) (argsL := [(.ref b1433)]) (rest := []) (wd hw 78 rfl) (wd hw 79 rfl) (wd hw 80 rfl) rfl (wd hw 81 rfl) (wd hw 82 rfl) (wd hw 83 rfl) (wd hw 84 rfl) (wd hw 85 rfl) (wd hw 56 rfl) (wd hw 86 rfl) (by decide) at_88 pd_7 rfl rfl rfl f2189 (add_1 l Z a0 hw n0 h2183 f2186 s_DEF s_EL s_EA s_EM cs mr H b1448 ed2180 kE2181 ((0 : Int32) + (1 : Int32)) b1433 b1433 f2188 P2179) (Nat.le_of_ble_eq_true rfl) (Nat.le_of_ble_eq_true rfl) (Nat.le_of_ble_eq_true rfl) (Nat.le_of_ble_eq_true rfl) rfl rfl rfl (fun v2196 h2195 q2197 => ?_)
    obtain ⟨rfl, K2193, P2194⟩ := q2197
    have f2198 := f2186.keep K2193 (allS ge_b1448 (allS ge_ed2180 all0))
    have f2199 := f2187.keep K2193
    have f2200 := f2188.keep K2193
    have f2201 := f2189.keep K2193
    have f2202 := f2190.keep K2193
    have f2203 := own_AL0_keep f2191 K2193 (ninS (Ne.symm ne_b1448_b1466) (ninS ne_b1466_ed2180 nin0))
    have f2204 := E2192.keep K2193
    show G w _ h2195 7 28 93 #[.val (.int p0), .val (.int p1), .val (.int p2), .val (.int (3 : Int32)), .val (.int (p1 &&& (3 : Int32))), .val (.ref sg1412), .val (.ref b1420), .val (.ref b1433), .val (.ref b1448), .val (.ref b1466), .unset, .unset] [(.int (1 : Int32))]
    refine g_pop C (pc' := 94) at_93 rfl rfl rfl ?_
    refine g_iloadN C (pc' := 95) at_94 rfl rfl ?_
    refine g_iconst C (pc' := 96) (v := (2 : Int32)) at_95 (by decide) rfl ?_
    refine g_icN C (pc' := 99) at_96 rfl (by decide) rfl ?_
    refine g_aload C (pc' := 101) at_99 rfl rfl rfl ?_
    refine g_aload C (pc' := 103) at_101 rfl rfl rfl ?_
    refine g_interface C (pc' := 108) (k' := 7) (n' := 28) (argsL := [(.ref b1433)]) (rest := []) (wd hw 78 rfl) (wd hw 79 rfl) (wd hw 80 rfl) rfl (wd hw 81 rfl) (wd hw 82 rfl) (wd hw 83 rfl) (wd hw 84 rfl) (wd hw 85 rfl) (wd hw 56 rfl) (wd hw 86 rfl) (by decide) at_103 pd_7 rfl rfl rfl f2201 (add_2 l Z a0 hw n0 h2195 f2198 s_DEF s_EL s_EA s_EM cs mr H b1448 ed2180 kE2181 (((0 : Int32) + (1 : Int32)) + (1 : Int32)) b1433 b1433 b1433 f2200 P2194) (Nat.le_of_ble_eq_true rfl) (Nat.le_of_ble_eq_true rfl) (Nat.le_of_ble_eq_true rfl) (Nat.le_of_ble_eq_true rfl) rfl rfl rfl (fun v2208 h2207 q2209 => ?_)
    obtain ⟨rfl, K2205, P2206⟩ := q2209
    have f2210 := f2198.keep K2205 (allS ge_b1448 (allS ge_ed2180 all0))
    have f2211 := f2199.keep K2205
    have f2212 := f2200.keep K2205
    have f2213 := f2201.keep K2205
    have f2214 := f2202.keep K2205
    have f2215 := own_AL0_keep f2203 K2205 (ninS (Ne.symm ne_b1448_b1466) (ninS ne_b1466_ed2180 nin0))
    have f2216 := f2204.keep K2205
    show G w _ h2207 7 28 108 #[.val (.int p0), .val (.int p1), .val (.int p2), .val (.int (3 : Int32)), .val (.int (p1 &&& (3 : Int32))), .val (.ref sg1412), .val (.ref b1420), .val (.ref b1433), .val (.ref b1448), .val (.ref b1466), .unset, .unset] [(.int (1 : Int32))]
    refine g_pop C (pc' := 109) at_108 rfl rfl rfl ?_
    rcases own_and3 p1 with e4 | e4 | e4 | e4
    · rw [e4]
      refine g_iload C (pc' := 111) at_109 rfl rfl ?_
      refine g_ifY C (pc' := 124) at_111 rfl (by decide) (by decide) rfl ?_
      refine g_iload C (pc' := 126) at_124 rfl rfl ?_
      refine g_iconst C (pc' := 127) (v := (1 : Int32)) at_126 (by decide) rfl ?_
      refine g_icY C (pc' := 140) at_127 rfl (by decide) (by decide) rfl ?_
      refine g_iload C (pc' := 142) at_140 rfl rfl ?_
      refine g_iconst C (pc' := 143) (v := (2 : Int32)) at_142 (by decide) rfl ?_
      refine g_icY C (pc' := 156) at_143 rfl (by decide) (by decide) rfl ?_
      refine g_new C (pc' := 159) (k' := 8) (n' := 30) (wd hw 113 rfl) (wd hw 114 rfl) (wd hw 115 rfl) at_156 (by decide) (by decide) rfl rfl rfl (fun h2217 b2218 ex2219 E2220 A2221 D2222 => ?_)
      have ne_b1420_b2218 : b1420 ≠ b2218 := Nat.ne_of_lt (by rw [ex2219]; exact f2211.lt)
      have ne_b1433_b2218 : b1433 ≠ b2218 := Nat.ne_of_lt (by rw [ex2219]; exact f2212.lt)
      have ne_b1448_b2218 : b1448 ≠ b2218 := Nat.ne_of_lt (by rw [ex2219]; exact f2213.lt)
      have ne_b1466_b2218 : b1466 ≠ b2218 := Nat.ne_of_lt (by rw [ex2219]; exact f2214.lt)
      have ne_ed2180_b2218 : ed2180 ≠ b2218 := Nat.ne_of_lt (by rw [ex2219]; exact f2216.lt)
      have ge_b2218 : n0 ≤ b2218 := by rw [ex2219]; exact f2210.1 ▸ f2210.2.1
      have f2223 := f2210.ext E2220
      have f2224 := f2211.ext E2220
      have f2225 := f2212.ext E2220
      have f2226 := f2213.ext E2220
      have f2227 := f2214.ext E2220
      have f2228 := own_AL0_ext f2215 E2220
      have f2229 := f2216.ext E2220
      have f2230 := own_AL1_ext P2206 E2220
      have F_area_b2218 : Fld Z h2217 b2218 "com/example/plumbline/plumbline/Grades" "area" "Ljava/util/List;" .null := D2222 (Or.inr (wd hw 148 rfl)) (ty := (.object "java/util/List")) (by decide)
      have F_total_b2218 : Fld Z h2217 b2218 "com/example/plumbline/plumbline/Grades" "total" "Ljava/util/List;" .null := D2222 (Or.inr (wd hw 215 rfl)) (ty := (.object "java/util/List")) (by decide)
      refine g_dup C (pc' := 160) at_159 rfl rfl rfl ?_
      refine g_aload C (pc' := 162) at_160 rfl rfl rfl ?_
      refine g_aload C (pc' := 164) at_162 rfl rfl rfl ?_
      refine g_special C (pc' := 167) (k' := 11) (n' := 38) (argsL := [(.ref b1448), (.ref b1466)]) (rest := [(.ref b2218)]) (wd hw 116 rfl) (wd hw 117 rfl) (wd hw 115 rfl) (wd hw 118 rfl) (by decide) rfl at_164 pd_12 rfl rfl rfl (gsI_03 l Z a0 hw n0 h2217 f2223 s_DEF s_EL s_EA s_EM cs mr H b2218 b1433 ge_b2218 b1448 ed2180 kE2181 ((((0 : Int32) + (1 : Int32)) + (1 : Int32)) + (1 : Int32)) b1466 (0 : Int32) A2221 F_area_b2218 F_total_b2218 f2225 f2230 f2228 (Ne.symm ne_b1448_b2218) (Ne.symm ne_b1466_b2218) (Ne.symm ne_ed2180_b2218)) (Nat.le_of_ble_eq_true rfl) (Nat.le_of_ble_eq_true rfl) (Nat.le_of_ble_eq_true rfl) (Nat.le_of_ble_eq_true rfl) rfl rfl rfl (fun v2235 h2234 q2236 => ?_)
      obtain ⟨rfl, K2231, E2232, F2233⟩ := q2236
      have f2237 := f2223.keep K2231 (allS ge_b2218 all0)
      have f2238 := f2224.keep K2231
      have f2239 := f2225.keep K2231
      have f2240 := f2226.keep K2231
      have f2241 := f2227.keep K2231
      have f2242 := own_AL0_keep f2228 K2231 (ninS ne_b1466_b2218 nin0)
      have f2243 := f2229.keep K2231
      have f2244 := own_AL1_keep f2230 K2231 (ninS ne_b1448_b2218 nin0) (ninS ne_ed2180_b2218 nin0)
      have f2245 := A2221.keep K2231
      show G w _ h2234 11 38 167 #[.val (.int p0), .val (.int p1), .val (.int p2), .val (.int (3 : Int32)), .val (.int (0 : Int32)), .val (.ref sg1412), .val (.ref b1420), .val (.ref b1433), .val (.ref b1448), .val (.ref b1466), .unset, .unset] [(.ref b2218)]
      refine g_astore C (pc' := 169) (Ls' := #[.val (.int p0), .val (.int p1), .val (.int p2), .val (.int (3 : Int32)), .val (.int (0 : Int32)), .val (.ref sg1412), .val (.ref b1420), .val (.ref b1433), .val (.ref b1448), .val (.ref b1466), .val (.ref b2218), .unset]) at_167 rfl rfl rfl rfl ?_
      refine g_aload C (pc' := 171) at_169 rfl rfl rfl ?_
      refine g_virtual C (pc' := 174) (k' := 11) (n' := 38) (argsL := []) (rest := []) (wd hw 216 rfl) (wd hw 217 rfl) (nfSel (wd hw 219 rfl)) (wd hw 219 rfl) (wd hw 218 rfl) (wd hw 115 rfl) (wd hw 220 rfl) (by decide) at_171 pd_14 rfl rfl rfl E2232 (gr_0 l Z a0 hw n0 h2234 f2237 s_DEF s_EL s_EA s_EM cs mr H b2218 E2232 F2233) (Nat.le_of_ble_eq_true rfl) (Nat.le_of_ble_eq_true rfl) (Nat.le_of_ble_eq_true rfl) (Nat.le_of_ble_eq_true rfl) rfl rfl rfl (fun v2247 h2246 q2248 => ?_)
      obtain ⟨rfl, eh2246⟩ := q2248
      subst h2246
      show G w _ h2234 11 38 174 #[.val (.int p0), .val (.int p1), .val (.int p2), .val (.int (3 : Int32)), .val (.int (0 : Int32)), .val (.ref sg1412), .val (.ref b1420), .val (.ref b1433), .val (.ref b1448), .val (.ref b1466), .val (.ref b2218), .unset] [(.int (0 : Int32))]
      refine g_istore C (pc' := 176) (Ls' := #[.val (.int p0), .val (.int p1), .val (.int p2), .val (.int (3 : Int32)), .val (.int (0 : Int32)), .val (.ref sg1412), .val (.ref b1420), .val (.ref b1433), .val (.ref b1448), .val (.ref b1466), .val (.ref b2218), .val (.int (0 : Int32))]) at_174 rfl rfl rfl ?_
      refine g_iload C (pc' := 178) at_176 rfl rfl ?_
      refine g_iload C (pc' := 180) at_178 rfl rfl ?_
      refine g_ifY C (pc' := 187) at_180 rfl (by decide) (by decide) rfl ?_
      refine g_iconst C (pc' := 188) (v := (0 : Int32)) at_187 (by decide) rfl ?_
      refine g_icN C (pc' := 191) at_188 rfl (by decide) rfl ?_
      refine g_iconst C (pc' := 192) (v := (1 : Int32)) at_191 (by decide) rfl ?_
      refine g_goto C (pc' := 196) at_192 (by decide) rfl ?_
      exact g_zreturn C at_196 rfl rfl (Nat.le_of_ble_eq_true rfl) (Nat.le_of_ble_eq_true rfl) (rfl)
    · rw [e4]
      refine g_iload C (pc' := 111) at_109 rfl rfl ?_
      refine g_ifN C (pc' := 114) at_111 rfl (by decide) rfl ?_
      refine g_aload C (pc' := 116) at_114 rfl rfl rfl ?_
      refine g_aload C (pc' := 118) at_116 rfl rfl rfl ?_
      refine g_interface C (pc' := 123) (k' := 8) (n' := 38) (argsL := [(.ref b1433)]) (rest := []) (wd hw 78 rfl) (wd hw 79 rfl) (wd hw 80 rfl) rfl (wd hw 81 rfl) (wd hw 82 rfl) (wd hw 83 rfl) (wd hw 84 rfl) (wd hw 85 rfl) (wd hw 56 rfl) (wd hw 86 rfl) (by decide) at_118 pd_7 rfl rfl rfl f2214 (add_0 l Z a0 hw n0 h2207 f2210 s_DEF s_EL s_EA s_EM cs mr H b1466 (0 : Int32) b1433 f2212 f2215) (Nat.le_of_ble_eq_true rfl) (Nat.le_of_ble_eq_true rfl) (Nat.le_of_ble_eq_true rfl) (Nat.le_of_ble_eq_true rfl) rfl rfl rfl (fun v2255 h2254 q2256 => ?_)
      obtain ⟨rfl, K2249, ed2251, kE2252, hg2253, P2250⟩ := q2256
      have ne_b1420_ed2251 : b1420 ≠ ed2251 := Nat.ne_of_lt (Nat.lt_of_lt_of_le f2211.lt hg2253)
      have ne_b1433_ed2251 : b1433 ≠ ed2251 := Nat.ne_of_lt (Nat.lt_of_lt_of_le f2212.lt hg2253)
      have ne_b1448_ed2251 : b1448 ≠ ed2251 := Nat.ne_of_lt (Nat.lt_of_lt_of_le f2213.lt hg2253)
      have ne_b1466_ed2251 : b1466 ≠ ed2251 := Nat.ne_of_lt (Nat.lt_of_lt_of_le f2214.lt hg2253)
      have ne_ed2180_ed2251 : ed2180 ≠ ed2251 := Nat.ne_of_lt (Nat.lt_of_lt_of_le f2216.lt hg2253)
      have ge_ed2251 : n0 ≤ ed2251 := Nat.le_trans (f2210.1 ▸ f2210.2.1) hg2253
      have f2257 := f2210.keep K2249 (allS ge_b1466 all0)
      have f2258 := f2211.keep K2249
      have f2259 := f2212.keep K2249
      have f2260 := f2213.keep K2249
      have f2261 := f2214.keep K2249
      have f2262 := f2216.keep K2249
      have f2263 := own_AL1_keep P2206 K2249 (ninS ne_b1448_b1466 nin0) (ninS (Ne.symm ne_b1466_ed2180) nin0)
      have E2264 := P2250.2.2.2.2.2.1
      show G w _ h2254 8 38 123 #[.val (.int p0), .val (.int p1), .val (.int p2), .val (.int (3 : Int32)), .val (.int (1 : Int32)), .val (.ref sg1412), .val (.ref b1420), .val (.ref b1433), .val (.ref b1448), .val (.ref b1466), .unset, .unset] [(.int (1 : Int32))]
      refine g_pop C (pc' := 124) at_123 rfl rfl rfl ?_
      refine g_iload C (pc' := 126) at_124 rfl rfl ?_
      refine g_iconst C (pc' := 127) (v := (1 : Int32)) at_126 (by decide) rfl ?_
      refine g_icY C (pc' := 140) at_127 rfl (by decide) (by decide) rfl ?_
      refine g_iload C (pc' := 142) at_140 rfl rfl ?_
      refine g_iconst C (pc' := 143) (v := (2 : Int32)) at_142 (by decide) rfl ?_
      refine g_icY C (pc' := 156) at_143 rfl (by decide) (by decide) rfl ?_
      refine g_new C (pc' := 159) (k' := 9) (n' := 40) (wd hw 113 rfl) (wd hw 114 rfl) (wd hw 115 rfl) at_156 (by decide) (by decide) rfl rfl rfl (fun h2265 b2266 ex2267 E2268 A2269 D2270 => ?_)
      have ne_b1420_b2266 : b1420 ≠ b2266 := Nat.ne_of_lt (by rw [ex2267]; exact f2258.lt)
      have ne_b1433_b2266 : b1433 ≠ b2266 := Nat.ne_of_lt (by rw [ex2267]; exact f2259.lt)
      have ne_b1448_b2266 : b1448 ≠ b2266 := Nat.ne_of_lt (by rw [ex2267]; exact f2260.lt)
      have ne_b1466_b2266 : b1466 ≠ b2266 := Nat.ne_of_lt (by rw [ex2267]; exact f2261.lt)
      have ne_ed2180_b2266 : ed2180 ≠ b2266 := Nat.ne_of_lt (by rw [ex2267]; exact f2262.lt)
      have ne_ed2251_b2266 : ed2251 ≠ b2266 := Nat.ne_of_lt (by rw [ex2267]; exact E2264.lt)
      have ge_b2266 : n0 ≤ b2266 := by rw [ex2267]; exact f2257.1 ▸ f2257.2.1
      have f2271 := f2257.ext E2268
      have f2272 := f2258.ext E2268
      have f2273 := f2259.ext E2268
      have f2274 := f2260.ext E2268
      have f2275 := f2261.ext E2268
      have f2276 := f2262.ext E2268
      have f2277 := own_AL1_ext f2263 E2268
      have f2278 := own_AL1_ext P2250 E2268
      have f2279 := E2264.ext E2268
      have F_area_b2266 : Fld Z h2265 b2266 "com/example/plumbline/plumbline/Grades" "area" "Ljava/util/List;" .null := D2270 (Or.inr (wd hw 148 rfl)) (ty := (.object "java/util/List")) (by decide)
      have F_total_b2266 : Fld Z h2265 b2266 "com/example/plumbline/plumbline/Grades" "total" "Ljava/util/List;" .null := D2270 (Or.inr (wd hw 215 rfl)) (ty := (.object "java/util/List")) (by decide)
      refine g_dup C (pc' := 160) at_159 rfl rfl rfl ?_
      refine g_aload C (pc' := 162) at_160 rfl rfl rfl ?_
      refine g_aload C (pc' := 164) at_162 rfl rfl rfl ?_
      refine g_special C (pc' := 167) (k' := 14) (n' := 51) (argsL := [(.ref b1448), (.ref b1466)]) (rest := [(.ref b2266)]) (wd hw 116 rfl) (wd hw 117 rfl) (wd hw 115 rfl) (wd hw 118 rfl) (by decide) rfl at_164 pd_12 rfl rfl rfl (gsI_13 l Z a0 hw n0 h2265 f2271 s_DEF s_EL s_EA s_EM cs mr H b2266 b1433 ge_b2266 b1448 ed2180 kE2181 ((((0 : Int32) + (1 : Int32)) + (1 : Int32)) + (1 : Int32)) b1466 ed2251 kE2252 ((0 : Int32) + (1 : Int32)) A2269 F_area_b2266 F_total_b2266 f2273 f2277 f2278 (Ne.symm ne_b1448_b2266) (Ne.symm ne_b1466_b2266) (Ne.symm ne_ed2180_b2266) (Ne.symm ne_ed2251_b2266)) (Nat.le_of_ble_eq_true rfl) (Nat.le_of_ble_eq_true rfl) (Nat.le_of_ble_eq_true rfl) (Nat.le_of_ble_eq_true rfl) rfl rfl rfl (fun v2284 h2283 q2285 => ?_)
      obtain ⟨rfl, K2280, E2281, L, F2282, EL⟩ := q2285
      have f2286 := f2271.keep K2280 (allS ge_b2266 all0)
      have f2287 := f2272.keep K2280
      have f2288 := f2273.keep K2280
      have f2289 := f2274.keep K2280
      have f2290 := f2275.keep K2280
      have f2291 := f2276.keep K2280
      have f2292 := own_AL1_keep f2277 K2280 (ninS ne_b1448_b2266 nin0) (ninS ne_ed2180_b2266 nin0)
      have f2293 := own_AL1_keep f2278 K2280 (ninS ne_b1466_b2266 nin0) (ninS ne_ed2251_b2266 nin0)
      have f2294 := f2279.keep K2280
      have f2295 := A2269.keep K2280
      show G w _ h2283 14 51 167 #[.val (.int p0), .val (.int p1), .val (.int p2), .val (.int (3 : Int32)), .val (.int (1 : Int32)), .val (.ref sg1412), .val (.ref b1420), .val (.ref b1433), .val (.ref b1448), .val (.ref b1466), .unset, .unset] [(.ref b2266)]
      refine g_astore C (pc' := 169) (Ls' := #[.val (.int p0), .val (.int p1), .val (.int p2), .val (.int (3 : Int32)), .val (.int (1 : Int32)), .val (.ref sg1412), .val (.ref b1420), .val (.ref b1433), .val (.ref b1448), .val (.ref b1466), .val (.ref b2266), .unset]) at_167 rfl rfl rfl rfl ?_
      refine g_aload C (pc' := 171) at_169 rfl rfl rfl ?_
      refine g_virtual C (pc' := 174) (k' := 14) (n' := 51) (argsL := []) (rest := []) (wd hw 216 rfl) (wd hw 217 rfl) (nfSel (wd hw 219 rfl)) (wd hw 219 rfl) (wd hw 218 rfl) (wd hw 115 rfl) (wd hw 220 rfl) (by decide) at_171 pd_14 rfl rfl rfl E2281 (gr_1 l Z a0 hw n0 h2283 f2286 s_DEF s_EL s_EA s_EM cs mr H b2266 E2281 L F2282 EL) (Nat.le_of_ble_eq_true rfl) (Nat.le_of_ble_eq_true rfl) (Nat.le_of_ble_eq_true rfl) (Nat.le_of_ble_eq_true rfl) rfl rfl rfl (fun v2297 h2296 q2298 => ?_)
      obtain ⟨rfl, eh2296⟩ := q2298
      subst h2296
      show G w _ h2283 14 51 174 #[.val (.int p0), .val (.int p1), .val (.int p2), .val (.int (3 : Int32)), .val (.int (1 : Int32)), .val (.ref sg1412), .val (.ref b1420), .val (.ref b1433), .val (.ref b1448), .val (.ref b1466), .val (.ref b2266), .unset] [(.int (1 : Int32))]
      refine g_istore C (pc' := 176) (Ls' := #[.val (.int p0), .val (.int p1), .val (.int p2), .val (.int (3 : Int32)), .val (.int (1 : Int32)), .val (.ref sg1412), .val (.ref b1420), .val (.ref b1433), .val (.ref b1448), .val (.ref b1466), .val (.ref b2266), .val (.int (1 : Int32))]) at_174 rfl rfl rfl ?_
      refine g_iload C (pc' := 178) at_176 rfl rfl ?_
      refine g_iload C (pc' := 180) at_178 rfl rfl ?_
      refine g_ifN C (pc' := 183) at_180 rfl (by decide) rfl ?_
      refine g_iconst C (pc' := 184) (v := (1 : Int32)) at_183 (by decide) rfl ?_
      refine g_goto C (pc' := 188) at_184 (by decide) rfl ?_
      refine g_icN C (pc' := 191) at_188 rfl (by decide) rfl ?_
      refine g_iconst C (pc' := 192) (v := (1 : Int32)) at_191 (by decide) rfl ?_
      refine g_goto C (pc' := 196) at_192 (by decide) rfl ?_
      exact g_zreturn C at_196 rfl rfl (Nat.le_of_ble_eq_true rfl) (Nat.le_of_ble_eq_true rfl) (rfl)
    · rw [e4]
      refine g_iload C (pc' := 111) at_109 rfl rfl ?_
      refine g_ifN C (pc' := 114) at_111 rfl (by decide) rfl ?_
      refine g_aload C (pc' := 116) at_114 rfl rfl rfl ?_
      refine g_aload C (pc' := 118) at_116 rfl rfl rfl ?_
      refine g_interface C (pc' := 123) (k' := 8) (n' := 38) (argsL := [(.ref b1433)]) (rest := []) (wd hw 78 rfl) (wd hw 79 rfl) (wd hw 80 rfl) rfl (wd hw 81 rfl) (wd hw 82 rfl) (wd hw 83 rfl) (wd hw 84 rfl) (wd hw 85 rfl) (wd hw 56 rfl) (wd hw 86 rfl) (by decide) at_118 pd_7 rfl rfl rfl f2214 (add_0 l Z a0 hw n0 h2207 f2210 s_DEF s_EL s_EA s_EM cs mr H b1466 (0 : Int32) b1433 f2212 f2215) (Nat.le_of_ble_eq_true rfl) (Nat.le_of_ble_eq_true rfl) (Nat.le_of_ble_eq_true rfl) (Nat.le_of_ble_eq_true rfl) rfl rfl rfl (fun v2305 h2304 q2306 => ?_)
      obtain ⟨rfl, K2299, ed2301, kE2302, hg2303, P2300⟩ := q2306
      have ne_b1420_ed2301 : b1420 ≠ ed2301 := Nat.ne_of_lt (Nat.lt_of_lt_of_le f2211.lt hg2303)
      have ne_b1433_ed2301 : b1433 ≠ ed2301 := Nat.ne_of_lt (Nat.lt_of_lt_of_le f2212.lt hg2303)
      have ne_b1448_ed2301 : b1448 ≠ ed2301 := Nat.ne_of_lt (Nat.lt_of_lt_of_le f2213.lt hg2303)
      have ne_b1466_ed2301 : b1466 ≠ ed2301 := Nat.ne_of_lt (Nat.lt_of_lt_of_le f2214.lt hg2303)
      have ne_ed2180_ed2301 : ed2180 ≠ ed2301 := Nat.ne_of_lt (Nat.lt_of_lt_of_le f2216.lt hg2303)
      have ge_ed2301 : n0 ≤ ed2301 := Nat.le_trans (f2210.1 ▸ f2210.2.1) hg2303
      have f2307 := f2210.keep K2299 (allS ge_b1466 all0)
      have f2308 := f2211.keep K2299
      have f2309 := f2212.keep K2299
      have f2310 := f2213.keep K2299
      have f2311 := f2214.keep K2299
      have f2312 := f2216.keep K2299
      have f2313 := own_AL1_keep P2206 K2299 (ninS ne_b1448_b1466 nin0) (ninS (Ne.symm ne_b1466_ed2180) nin0)
      have E2314 := P2300.2.2.2.2.2.1
      show G w _ h2304 8 38 123 #[.val (.int p0), .val (.int p1), .val (.int p2), .val (.int (3 : Int32)), .val (.int (2 : Int32)), .val (.ref sg1412), .val (.ref b1420), .val (.ref b1433), .val (.ref b1448), .val (.ref b1466), .unset, .unset] [(.int (1 : Int32))]
      refine g_pop C (pc' := 124) at_123 rfl rfl rfl ?_
      refine g_iload C (pc' := 126) at_124 rfl rfl ?_
      refine g_iconst C (pc' := 127) (v := (1 : Int32)) at_126 (by decide) rfl ?_
      refine g_icN C (pc' := 130) at_127 rfl (by decide) rfl ?_
      refine g_aload C (pc' := 132) at_130 rfl rfl rfl ?_
      refine g_aload C (pc' := 134) at_132 rfl rfl rfl ?_
      refine g_interface C (pc' := 139) (k' := 8) (n' := 38) (argsL := [(.ref b1433)]) (rest := []) (wd hw 78 rfl) (wd hw 79 rfl) (wd hw 80 rfl) rfl (wd hw 81 rfl) (wd hw 82 rfl) (wd hw 83 rfl) (wd hw 84 rfl) (wd hw 85 rfl) (wd hw 56 rfl) (wd hw 86 rfl) (by decide) at_134 pd_7 rfl rfl rfl f2311 (add_1 l Z a0 hw n0 h2304 f2307 s_DEF s_EL s_EA s_EM cs mr H b1466 ed2301 kE2302 ((0 : Int32) + (1 : Int32)) b1433 b1433 f2309 P2300) (Nat.le_of_ble_eq_true rfl) (Nat.le_of_ble_eq_true rfl) (Nat.le_of_ble_eq_true rfl) (Nat.le_of_ble_eq_true rfl) rfl rfl rfl (fun v2318 h2317 q2319 => ?_)
      obtain ⟨rfl, K2315, P2316⟩ := q2319
      have f2320 := f2307.keep K2315 (allS ge_b1466 (allS ge_ed2301 all0))
      have f2321 := f2308.keep K2315
      have f2322 := f2309.keep K2315
      have f2323 := f2310.keep K2315
      have f2324 := f2311.keep K2315
      have f2325 := f2312.keep K2315
      have f2326 := own_AL1_keep f2313 K2315 (ninS ne_b1448_b1466 (ninS ne_b1448_ed2301 nin0)) (ninS (Ne.symm ne_b1466_ed2180) (ninS ne_ed2180_ed2301 nin0))
      have f2327 := E2314.keep K2315
      show G w _ h2317 8 38 139 #[.val (.int p0), .val (.int p1), .val (.int p2), .val (.int (3 : Int32)), .val (.int (2 : Int32)), .val (.ref sg1412), .val (.ref b1420), .val (.ref b1433), .val (.ref b1448), .val (.ref b1466), .unset, .unset] [(.int (1 : Int32))]
      refine g_pop C (pc' := 140) at_139 rfl rfl rfl ?_
      refine g_iload C (pc' := 142) at_140 rfl rfl ?_
      refine g_iconst C (pc' := 143) (v := (2 : Int32)) at_142 (by decide) rfl ?_
      refine g_icY C (pc' := 156) at_143 rfl (by decide) (by decide) rfl ?_
      refine g_new C (pc' := 159) (k' := 9) (n' := 40) (wd hw 113 rfl) (wd hw 114 rfl) (wd hw 115 rfl) at_156 (by decide) (by decide) rfl rfl rfl (fun h2328 b2329 ex2330 E2331 A2332 D2333 => ?_)
      have ne_b1420_b2329 : b1420 ≠ b2329 := Nat.ne_of_lt (by rw [ex2330]; exact f2321.lt)
      have ne_b1433_b2329 : b1433 ≠ b2329 := Nat.ne_of_lt (by rw [ex2330]; exact f2322.lt)
      have ne_b1448_b2329 : b1448 ≠ b2329 := Nat.ne_of_lt (by rw [ex2330]; exact f2323.lt)
      have ne_b1466_b2329 : b1466 ≠ b2329 := Nat.ne_of_lt (by rw [ex2330]; exact f2324.lt)
      have ne_ed2180_b2329 : ed2180 ≠ b2329 := Nat.ne_of_lt (by rw [ex2330]; exact f2325.lt)
      have ne_ed2301_b2329 : ed2301 ≠ b2329 := Nat.ne_of_lt (by rw [ex2330]; exact f2327.lt)
      have ge_b2329 : n0 ≤ b2329 := by rw [ex2330]; exact f2320.1 ▸ f2320.2.1
      have f2334 := f2320.ext E2331
      have f2335 := f2321.ext E2331
      have f2336 := f2322.ext E2331
      have f2337 := f2323.ext E2331
      have f2338 := f2324.ext E2331
      have f2339 := f2325.ext E2331
      have f2340 := own_AL1_ext f2326 E2331
      have f2341 := f2327.ext E2331
      have f2342 := own_AL1_ext P2316 E2331
      have F_area_b2329 : Fld Z h2328 b2329 "com/example/plumbline/plumbline/Grades" "area" "Ljava/util/List;" .null := D2333 (Or.inr (wd hw 148 rfl)) (ty := (.object "java/util/List")) (by decide)
      have F_total_b2329 : Fld Z h2328 b2329 "com/example/plumbline/plumbline/Grades" "total" "Ljava/util/List;" .null := D2333 (Or.inr (wd hw 215 rfl)) (ty := (.object "java/util/List")) (by decide)
      refine g_dup C (pc' := 160) at_159 rfl rfl rfl ?_
      refine g_aload C (pc' := 162) at_160 rfl rfl rfl ?_
      refine g_aload C (pc' := 164) at_162 rfl rfl rfl ?_
      refine g_special C (pc' := 167) (k' := 14) (n' := 52) (argsL := [(.ref b1448), (.ref b1466)]) (rest := [(.ref b2329)]) (wd hw 116 rfl) (wd hw 117 rfl) (wd hw 115 rfl) (wd hw 118 rfl) (by decide) rfl at_164 pd_12 rfl rfl rfl (gsI_23 l Z a0 hw n0 h2328 f2334 s_DEF s_EL s_EA s_EM cs mr H b2329 b1433 ge_b2329 b1448 ed2180 kE2181 ((((0 : Int32) + (1 : Int32)) + (1 : Int32)) + (1 : Int32)) b1466 ed2301 kE2302 (((0 : Int32) + (1 : Int32)) + (1 : Int32)) A2332 F_area_b2329 F_total_b2329 f2336 f2340 f2342 (Ne.symm ne_b1448_b2329) (Ne.symm ne_b1466_b2329) (Ne.symm ne_ed2180_b2329) (Ne.symm ne_ed2301_b2329)) (Nat.le_of_ble_eq_true rfl) (Nat.le_of_ble_eq_true rfl) (Nat.le_of_ble_eq_true rfl) (Nat.le_of_ble_eq_true rfl) rfl rfl rfl (fun v2347 h2346 q2348 => ?_)
      obtain ⟨rfl, K2343, E2344, L, F2345, EL⟩ := q2348
      have f2349 := f2334.keep K2343 (allS ge_b2329 all0)
      have f2350 := f2335.keep K2343
      have f2351 := f2336.keep K2343
      have f2352 := f2337.keep K2343
      have f2353 := f2338.keep K2343
      have f2354 := f2339.keep K2343
      have f2355 := own_AL1_keep f2340 K2343 (ninS ne_b1448_b2329 nin0) (ninS ne_ed2180_b2329 nin0)
      have f2356 := f2341.keep K2343
      have f2357 := own_AL1_keep f2342 K2343 (ninS ne_b1466_b2329 nin0) (ninS ne_ed2301_b2329 nin0)
      have f2358 := A2332.keep K2343
      show G w _ h2346 14 52 167 #[.val (.int p0), .val (.int p1), .val (.int p2), .val (.int (3 : Int32)), .val (.int (2 : Int32)), .val (.ref sg1412), .val (.ref b1420), .val (.ref b1433), .val (.ref b1448), .val (.ref b1466), .unset, .unset] [(.ref b2329)]
      refine g_astore C (pc' := 169) (Ls' := #[.val (.int p0), .val (.int p1), .val (.int p2), .val (.int (3 : Int32)), .val (.int (2 : Int32)), .val (.ref sg1412), .val (.ref b1420), .val (.ref b1433), .val (.ref b1448), .val (.ref b1466), .val (.ref b2329), .unset]) at_167 rfl rfl rfl rfl ?_
      refine g_aload C (pc' := 171) at_169 rfl rfl rfl ?_
      refine g_virtual C (pc' := 174) (k' := 14) (n' := 52) (argsL := []) (rest := []) (wd hw 216 rfl) (wd hw 217 rfl) (nfSel (wd hw 219 rfl)) (wd hw 219 rfl) (wd hw 218 rfl) (wd hw 115 rfl) (wd hw 220 rfl) (by decide) at_171 pd_14 rfl rfl rfl E2344 (gr_2 l Z a0 hw n0 h2346 f2349 s_DEF s_EL s_EA s_EM cs mr H b2329 E2344 L F2345 EL) (Nat.le_of_ble_eq_true rfl) (Nat.le_of_ble_eq_true rfl) (Nat.le_of_ble_eq_true rfl) (Nat.le_of_ble_eq_true rfl) rfl rfl rfl (fun v2360 h2359 q2361 => ?_)
      obtain ⟨rfl, eh2359⟩ := q2361
      subst h2359
      show G w _ h2346 14 52 174 #[.val (.int p0), .val (.int p1), .val (.int p2), .val (.int (3 : Int32)), .val (.int (2 : Int32)), .val (.ref sg1412), .val (.ref b1420), .val (.ref b1433), .val (.ref b1448), .val (.ref b1466), .val (.ref b2329), .unset] [(.int (1 : Int32))]
      refine g_istore C (pc' := 176) (Ls' := #[.val (.int p0), .val (.int p1), .val (.int p2), .val (.int (3 : Int32)), .val (.int (2 : Int32)), .val (.ref sg1412), .val (.ref b1420), .val (.ref b1433), .val (.ref b1448), .val (.ref b1466), .val (.ref b2329), .val (.int (1 : Int32))]) at_174 rfl rfl rfl ?_
      refine g_iload C (pc' := 178) at_176 rfl rfl ?_
      refine g_iload C (pc' := 180) at_178 rfl rfl ?_
      refine g_ifN C (pc' := 183) at_180 rfl (by decide) rfl ?_
      refine g_iconst C (pc' := 184) (v := (1 : Int32)) at_183 (by decide) rfl ?_
      refine g_goto C (pc' := 188) at_184 (by decide) rfl ?_
      refine g_icN C (pc' := 191) at_188 rfl (by decide) rfl ?_
      refine g_iconst C (pc' := 192) (v := (1 : Int32)) at_191 (by decide) rfl ?_
      refine g_goto C (pc' := 196) at_192 (by decide) rfl ?_
      exact g_zreturn C at_196 rfl rfl (Nat.le_of_ble_eq_true rfl) (Nat.le_of_ble_eq_true rfl) (rfl)
    · rw [e4]
      refine g_iload C (pc' := 111) at_109 rfl rfl ?_
      refine g_ifN C (pc' := 114) at_111 rfl (by decide) rfl ?_
      refine g_aload C (pc' := 116) at_114 rfl rfl rfl ?_
      refine g_aload C (pc' := 118) at_116 rfl rfl rfl ?_
      refine g_interface C (pc' := 123) (k' := 8) (n' := 38) (argsL := [(.ref b1433)]) (rest := []) (wd hw 78 rfl) (wd hw 79 rfl) (wd hw 80 rfl) rfl (wd hw 81 rfl) (wd hw 82 rfl) (wd hw 83 rfl) (wd hw 84 rfl) (wd hw 85 rfl) (wd hw 56 rfl) (wd hw 86 rfl) (by decide) at_118 pd_7 rfl rfl rfl f2214 (add_0 l Z a0 hw n0 h2207 f2210 s_DEF s_EL s_EA s_EM cs mr H b1466 (0 : Int32) b1433 f2212 f2215) (Nat.le_of_ble_eq_true rfl) (Nat.le_of_ble_eq_true rfl) (Nat.le_of_ble_eq_true rfl) (Nat.le_of_ble_eq_true rfl) rfl rfl rfl (fun v2368 h2367 q2369 => ?_)
      obtain ⟨rfl, K2362, ed2364, kE2365, hg2366, P2363⟩ := q2369
      have ne_b1420_ed2364 : b1420 ≠ ed2364 := Nat.ne_of_lt (Nat.lt_of_lt_of_le f2211.lt hg2366)
      have ne_b1433_ed2364 : b1433 ≠ ed2364 := Nat.ne_of_lt (Nat.lt_of_lt_of_le f2212.lt hg2366)
      have ne_b1448_ed2364 : b1448 ≠ ed2364 := Nat.ne_of_lt (Nat.lt_of_lt_of_le f2213.lt hg2366)
      have ne_b1466_ed2364 : b1466 ≠ ed2364 := Nat.ne_of_lt (Nat.lt_of_lt_of_le f2214.lt hg2366)
      have ne_ed2180_ed2364 : ed2180 ≠ ed2364 := Nat.ne_of_lt (Nat.lt_of_lt_of_le f2216.lt hg2366)
      have ge_ed2364 : n0 ≤ ed2364 := Nat.le_trans (f2210.1 ▸ f2210.2.1) hg2366
      have f2370 := f2210.keep K2362 (allS ge_b1466 all0)
      have f2371 := f2211.keep K2362
      have f2372 := f2212.keep K2362
      have f2373 := f2213.keep K2362
      have f2374 := f2214.keep K2362
      have f2375 := f2216.keep K2362
      have f2376 := own_AL1_keep P2206 K2362 (ninS ne_b1448_b1466 nin0) (ninS (Ne.symm ne_b1466_ed2180) nin0)
      have E2377 := P2363.2.2.2.2.2.1
      show G w _ h2367 8 38 123 #[.val (.int p0), .val (.int p1), .val (.int p2), .val (.int (3 : Int32)), .val (.int (3 : Int32)), .val (.ref sg1412), .val (.ref b1420), .val (.ref b1433), .val (.ref b1448), .val (.ref b1466), .unset, .unset] [(.int (1 : Int32))]
      refine g_pop C (pc' := 124) at_123 rfl rfl rfl ?_
      refine g_iload C (pc' := 126) at_124 rfl rfl ?_
      refine g_iconst C (pc' := 127) (v := (1 : Int32)) at_126 (by decide) rfl ?_
      refine g_icN C (pc' := 130) at_127 rfl (by decide) rfl ?_
      refine g_aload C (pc' := 132) at_130 rfl rfl rfl ?_
      refine g_aload C (pc' := 134) at_132 rfl rfl rfl ?_
      refine g_interface C (pc' := 139) (k' := 8) (n' := 38) (argsL := [(.ref b1433)]) (rest := []) (wd hw 78 rfl) (wd hw 79 rfl) (wd hw 80 rfl) rfl (wd hw 81 rfl) (wd hw 82 rfl) (wd hw 83 rfl) (wd hw 84 rfl) (wd hw 85 rfl) (wd hw 56 rfl) (wd hw 86 rfl) (by decide) at_134 pd_7 rfl rfl rfl f2374 (add_1 l Z a0 hw n0 h2367 f2370 s_DEF s_EL s_EA s_EM cs mr H b1466 ed2364 kE2365 ((0 : Int32) + (1 : Int32)) b1433 b1433 f2372 P2363) (Nat.le_of_ble_eq_true rfl) (Nat.le_of_ble_eq_true rfl) (Nat.le_of_ble_eq_true rfl) (Nat.le_of_ble_eq_true rfl) rfl rfl rfl (fun v2381 h2380 q2382 => ?_)
      obtain ⟨rfl, K2378, P2379⟩ := q2382
      have f2383 := f2370.keep K2378 (allS ge_b1466 (allS ge_ed2364 all0))
      have f2384 := f2371.keep K2378
      have f2385 := f2372.keep K2378
      have f2386 := f2373.keep K2378
      have f2387 := f2374.keep K2378
      have f2388 := f2375.keep K2378
      have f2389 := own_AL1_keep f2376 K2378 (ninS ne_b1448_b1466 (ninS ne_b1448_ed2364 nin0)) (ninS (Ne.symm ne_b1466_ed2180) (ninS ne_ed2180_ed2364 nin0))
      have f2390 := E2377.keep K2378
      show G w _ h2380 8 38 139 #[.val (.int p0), .val (.int p1), .val (.int p2), .val (.int (3 : Int32)), .val (.int (3 : Int32)), .val (.ref sg1412), .val (.ref b1420), .val (.ref b1433), .val (.ref b1448), .val (.ref b1466), .unset, .unset] [(.int (1 : Int32))]
      refine g_pop C (pc' := 140) at_139 rfl rfl rfl ?_
      refine g_iload C (pc' := 142) at_140 rfl rfl ?_
      refine g_iconst C (pc' := 143) (v := (2 : Int32)) at_142 (by decide) rfl ?_
      refine g_icN C (pc' := 146) at_143 rfl (by decide) rfl ?_
      refine g_aload C (pc' := 148) at_146 rfl rfl rfl ?_
      refine g_aload C (pc' := 150) at_148 rfl rfl rfl ?_
      refine g_interface C (pc' := 155) (k' := 8) (n' := 38) (argsL := [(.ref b1433)]) (rest := []) (wd hw 78 rfl) (wd hw 79 rfl) (wd hw 80 rfl) rfl (wd hw 81 rfl) (wd hw 82 rfl) (wd hw 83 rfl) (wd hw 84 rfl) (wd hw 85 rfl) (wd hw 56 rfl) (wd hw 86 rfl) (by decide) at_150 pd_7 rfl rfl rfl f2387 (add_2 l Z a0 hw n0 h2380 f2383 s_DEF s_EL s_EA s_EM cs mr H b1466 ed2364 kE2365 (((0 : Int32) + (1 : Int32)) + (1 : Int32)) b1433 b1433 b1433 f2385 P2379) (Nat.le_of_ble_eq_true rfl) (Nat.le_of_ble_eq_true rfl) (Nat.le_of_ble_eq_true rfl) (Nat.le_of_ble_eq_true rfl) rfl rfl rfl (fun v2394 h2393 q2395 => ?_)
      obtain ⟨rfl, K2391, P2392⟩ := q2395
      have f2396 := f2383.keep K2391 (allS ge_b1466 (allS ge_ed2364 all0))
      have f2397 := f2384.keep K2391
      have f2398 := f2385.keep K2391
      have f2399 := f2386.keep K2391
      have f2400 := f2387.keep K2391
      have f2401 := f2388.keep K2391
      have f2402 := own_AL1_keep f2389 K2391 (ninS ne_b1448_b1466 (ninS ne_b1448_ed2364 nin0)) (ninS (Ne.symm ne_b1466_ed2180) (ninS ne_ed2180_ed2364 nin0))
      have f2403 := f2390.keep K2391
      show G w _ h2393 8 38 155 #[.val (.int p0), .val (.int p1), .val (.int p2), .val (.int (3 : Int32)), .val (.int (3 : Int32)), .val (.ref sg1412), .val (.ref b1420), .val (.ref b1433), .val (.ref b1448), .val (.ref b1466), .unset, .unset] [(.int (1 : Int32))]
      refine g_pop C (pc' := 156) at_155 rfl rfl rfl ?_
      refine g_new C (pc' := 159) (k' := 9) (n' := 40) (wd hw 113 rfl) (wd hw 114 rfl) (wd hw 115 rfl) at_156 (by decide) (by decide) rfl rfl rfl (fun h2404 b2405 ex2406 E2407 A2408 D2409 => ?_)
      have ne_b1420_b2405 : b1420 ≠ b2405 := Nat.ne_of_lt (by rw [ex2406]; exact f2397.lt)
      have ne_b1433_b2405 : b1433 ≠ b2405 := Nat.ne_of_lt (by rw [ex2406]; exact f2398.lt)
      have ne_b1448_b2405 : b1448 ≠ b2405 := Nat.ne_of_lt (by rw [ex2406]; exact f2399.lt)
      have ne_b1466_b2405 : b1466 ≠ b2405 := Nat.ne_of_lt (by rw [ex2406]; exact f2400.lt)
      have ne_ed2180_b2405 : ed2180 ≠ b2405 := Nat.ne_of_lt (by rw [ex2406]; exact f2401.lt)
      have ne_ed2364_b2405 : ed2364 ≠ b2405 := Nat.ne_of_lt (by rw [ex2406]; exact f2403.lt)
      have ge_b2405 : n0 ≤ b2405 := by rw [ex2406]; exact f2396.1 ▸ f2396.2.1
      have f2410 := f2396.ext E2407
      have f2411 := f2397.ext E2407
      have f2412 := f2398.ext E2407
      have f2413 := f2399.ext E2407
      have f2414 := f2400.ext E2407
      have f2415 := f2401.ext E2407
      have f2416 := own_AL1_ext f2402 E2407
      have f2417 := f2403.ext E2407
      have f2418 := own_AL1_ext P2392 E2407
      have F_area_b2405 : Fld Z h2404 b2405 "com/example/plumbline/plumbline/Grades" "area" "Ljava/util/List;" .null := D2409 (Or.inr (wd hw 148 rfl)) (ty := (.object "java/util/List")) (by decide)
      have F_total_b2405 : Fld Z h2404 b2405 "com/example/plumbline/plumbline/Grades" "total" "Ljava/util/List;" .null := D2409 (Or.inr (wd hw 215 rfl)) (ty := (.object "java/util/List")) (by decide)
      refine g_dup C (pc' := 160) at_159 rfl rfl rfl ?_
      refine g_aload C (pc' := 162) at_160 rfl rfl rfl ?_
      refine g_aload C (pc' := 164) at_162 rfl rfl rfl ?_
      refine g_special C (pc' := 167) (k' := 15) (n' := 56) (argsL := [(.ref b1448), (.ref b1466)]) (rest := [(.ref b2405)]) (wd hw 116 rfl) (wd hw 117 rfl) (wd hw 115 rfl) (wd hw 118 rfl) (by decide) rfl at_164 pd_12 rfl rfl rfl (gsI_33 l Z a0 hw n0 h2404 f2410 s_DEF s_EL s_EA s_EM cs mr H b2405 b1433 ge_b2405 b1448 ed2180 kE2181 ((((0 : Int32) + (1 : Int32)) + (1 : Int32)) + (1 : Int32)) b1466 ed2364 kE2365 ((((0 : Int32) + (1 : Int32)) + (1 : Int32)) + (1 : Int32)) A2408 F_area_b2405 F_total_b2405 f2412 f2416 f2418 (Ne.symm ne_b1448_b2405) (Ne.symm ne_b1466_b2405) (Ne.symm ne_ed2180_b2405) (Ne.symm ne_ed2364_b2405)) (Nat.le_of_ble_eq_true rfl) (Nat.le_of_ble_eq_true rfl) (Nat.le_of_ble_eq_true rfl) (Nat.le_of_ble_eq_true rfl) rfl rfl rfl (fun v2423 h2422 q2424 => ?_)
      obtain ⟨rfl, K2419, E2420, L, ar, kA, F2421, EL, FL, AL_⟩ := q2424
      have f2425 := f2410.keep K2419 (allS ge_b2405 all0)
      have f2426 := f2411.keep K2419
      have f2427 := f2412.keep K2419
      have f2428 := f2413.keep K2419
      have f2429 := f2414.keep K2419
      have f2430 := f2415.keep K2419
      have f2431 := own_AL1_keep f2416 K2419 (ninS ne_b1448_b2405 nin0) (ninS ne_ed2180_b2405 nin0)
      have f2432 := f2417.keep K2419
      have f2433 := own_AL1_keep f2418 K2419 (ninS ne_b1466_b2405 nin0) (ninS ne_ed2364_b2405 nin0)
      have f2434 := A2408.keep K2419
      show G w _ h2422 15 56 167 #[.val (.int p0), .val (.int p1), .val (.int p2), .val (.int (3 : Int32)), .val (.int (3 : Int32)), .val (.ref sg1412), .val (.ref b1420), .val (.ref b1433), .val (.ref b1448), .val (.ref b1466), .unset, .unset] [(.ref b2405)]
      refine g_astore C (pc' := 169) (Ls' := #[.val (.int p0), .val (.int p1), .val (.int p2), .val (.int (3 : Int32)), .val (.int (3 : Int32)), .val (.ref sg1412), .val (.ref b1420), .val (.ref b1433), .val (.ref b1448), .val (.ref b1466), .val (.ref b2405), .unset]) at_167 rfl rfl rfl rfl ?_
      refine g_aload C (pc' := 171) at_169 rfl rfl rfl ?_
      refine g_virtual C (pc' := 174) (k' := 15) (n' := 56) (argsL := []) (rest := []) (wd hw 216 rfl) (wd hw 217 rfl) (nfSel (wd hw 219 rfl)) (wd hw 219 rfl) (wd hw 218 rfl) (wd hw 115 rfl) (wd hw 220 rfl) (by decide) at_171 pd_14 rfl rfl rfl E2420 (gr_3 l Z a0 hw n0 h2422 f2425 s_DEF s_EL s_EA s_EM cs mr H b2405 E2420 L ar kA b1433 F2421 EL FL AL_) (Nat.le_of_ble_eq_true rfl) (Nat.le_of_ble_eq_true rfl) (Nat.le_of_ble_eq_true rfl) (Nat.le_of_ble_eq_true rfl) rfl rfl rfl (fun v2436 h2435 q2437 => ?_)
      obtain ⟨rfl, eh2435⟩ := q2437
      subst h2435
      show G w _ h2422 15 56 174 #[.val (.int p0), .val (.int p1), .val (.int p2), .val (.int (3 : Int32)), .val (.int (3 : Int32)), .val (.ref sg1412), .val (.ref b1420), .val (.ref b1433), .val (.ref b1448), .val (.ref b1466), .val (.ref b2405), .unset] [(.int (1 : Int32))]
      refine g_istore C (pc' := 176) (Ls' := #[.val (.int p0), .val (.int p1), .val (.int p2), .val (.int (3 : Int32)), .val (.int (3 : Int32)), .val (.ref sg1412), .val (.ref b1420), .val (.ref b1433), .val (.ref b1448), .val (.ref b1466), .val (.ref b2405), .val (.int (1 : Int32))]) at_174 rfl rfl rfl ?_
      refine g_iload C (pc' := 178) at_176 rfl rfl ?_
      refine g_iload C (pc' := 180) at_178 rfl rfl ?_
      refine g_ifN C (pc' := 183) at_180 rfl (by decide) rfl ?_
      refine g_iconst C (pc' := 184) (v := (1 : Int32)) at_183 (by decide) rfl ?_
      refine g_goto C (pc' := 188) at_184 (by decide) rfl ?_
      refine g_icN C (pc' := 191) at_188 rfl (by decide) rfl ?_
      refine g_iconst C (pc' := 192) (v := (1 : Int32)) at_191 (by decide) rfl ?_
      refine g_goto C (pc' := 196) at_192 (by decide) rfl ?_
      exact g_zreturn C at_196 rfl rfl (Nat.le_of_ble_eq_true rfl) (Nat.le_of_ble_eq_true rfl) (rfl)
set_option maxRecDepth 65536 in
set_option maxHeartbeats 40000000 in
theorem comes_1 {Post : Tables → Env → Array Value → State → Outcome → State → Prop} (hpost : ∀ tb e args s v u, (limb_1_1.after args s (.returned v) u = true ∧ limb_1_2.after args s (.returned v) u = true ∧ True) → FrameEnd s (.returned v) u (Jvm.fieldLocs frame_1_writes args s ++ Jvm.arrayLocs frame_1_arrays args s ++ Jvm.staticLocs frame_1_statics s) 40 192 → Post tb e args s (.returned v) u) :
    ArmFor flags0 classFile x code maxLocals ret World_1 tables_1 room_1 Calls_1 rest_1 Pre_1 Post := by
  intro l hfl _ _ p e ha hc hk s m args below hf hA hF happ hP
  obtain ⟨hcalls, hrest, hpre⟩ := hP
  obtain ⟨-, -, -, hnamed, -, -, -, hat⟩ := (Spec.applies_iff hf).mp happ
  obtain ⟨hg, hn⟩ := and_e (Cond.before_iff.mp (show (Jvm.Cond.and given_1 narrow_1).before args s = true from hpre))
  obtain ⟨hga, hgb⟩ := and_e hg
  obtain ⟨hgba, hgbb⟩ := and_e hgb
  obtain ⟨hgbba, hgbbb⟩ := and_e hgbb
  obtain ⟨w0, w1, w2, rfl⟩ : ∃ w0 w1 w2 : Value, args = #[w0, w1, w2] := by
    have hs : args.size = 3 := by simpa [Cond.value, given_1] using hga
    obtain ⟨L⟩ := args
    match L, hs with
    | [w0, w1, w2], _ => exact ⟨w0, w1, w2, rfl⟩
  have hw := fun d (hd : d ∈ tables_1) => atoms_spec (ws := Jvm.Cond.code x code maxLocals ret :: tables_1) hat d (List.mem_cons_of_mem _ hd)
  have hfit : Fit s := fun {y c} hc i hi => by
    obtain ⟨ha, rfl⟩ := Array.getElem?_eq_some_iff.mp hc
    have q := List.all_eq_true.mp ((Array.all_eq_true_iff_forall_mem.mp hF) _ (Array.getElem_mem ha)) i (List.mem_range.mpr hi)
    simpa [Array.getElem?_eq_getElem hi] using q
  obtain ⟨hsets, hown0⟩ := atoms_of _ (rest_1_c_eq ▸ (show rest_1_c.before _ s = true from hrest))
  obtain ⟨i0, ei0⟩ := is_v hgba
  obtain rfl : w0 = (.int i0) := Option.some.inj ei0
  obtain ⟨i1, ei1⟩ := is_v hgbba
  obtain rfl : w1 = (.int i1) := Option.some.inj ei1
  obtain ⟨i2, ei2⟩ := is_v hgbbb
  obtain rfl : w2 = (.int i2) := Option.some.inj ei2
  obtain ⟨s_DEF, ev_DEF⟩ := exa_v (Cond.before_iff.mp (hsets _ (List.mem_of_getElem? (i := 16) rfl)))
  have S_DEF := Sta.start ev_DEF (Or.inr ⟨(wd hw 56 rfl), hsets _ (List.mem_of_getElem? (i := 11) rfl)⟩)
  have E_DEF := Exa.start ev_DEF (Cond.before_iff.mp (hsets _ (List.mem_of_getElem? (i := 16) rfl)))
  have V_DEF := own_emptyA (dv := .null) ev_DEF (Cond.before_iff.mp (hsets _ (List.mem_of_getElem? (i := 15) rfl))) (Cond.before_iff.mp (hsets _ (List.mem_of_getElem? (i := 17) rfl)))
  obtain ⟨s_EL, ev_EL⟩ := exa_v (Cond.before_iff.mp (hsets _ (List.mem_of_getElem? (i := 20) rfl)))
  have S_EL := Sta.start ev_EL (Or.inl (hsets _ (List.mem_of_getElem? (i := 19) rfl)))
  have E_EL := Exa.start ev_EL (Cond.before_iff.mp (hsets _ (List.mem_of_getElem? (i := 20) rfl)))
  obtain ⟨s_EA, ev_EA⟩ := exa_v (Cond.before_iff.mp (hsets _ (List.mem_of_getElem? (i := 22) rfl)))
  have F_EL := own_fldRef ev_EL ev_EA
  have V_EA := own_emptyA (dv := .null) ev_EA (Cond.before_iff.mp (hsets _ (List.mem_of_getElem? (i := 21) rfl))) (Cond.before_iff.mp (hsets _ (List.mem_of_getElem? (i := 23) rfl)))
  obtain ⟨s_EM, ev_EM⟩ := exa_v (Cond.before_iff.mp (hsets _ (List.mem_of_getElem? (i := 27) rfl)))
  have S_EM := Sta.start ev_EM (Or.inl (hsets _ (List.mem_of_getElem? (i := 26) rfl)))
  have E_EM := Exa.start ev_EM (Cond.before_iff.mp (hsets _ (List.mem_of_getElem? (i := 27) rfl)))
  obtain ⟨cs, ev_CS⟩ := is_v (Cond.before_iff.mp (hsets _ (List.mem_of_getElem? (i := 1) rfl)))
  have S_CS := Sta.start ev_CS (Or.inl (hsets _ (List.mem_of_getElem? (i := 0) rfl)))
  have hcs := own_neInt ev_CS (Cond.before_iff.mp (hsets _ (List.mem_of_getElem? (i := 2) rfl)))
  obtain ⟨mcl, mkl, mr, mm1, mm2, mm3, mm4⟩ := hcalls.1
  have MIR : Mir s "[Ljava/lang/Object;" mr := ⟨mcl, mkl, mm1, mm2, mm3, mm4⟩
  have H : En s s_DEF s_EL s_EA s_EM cs mr := ⟨S_DEF, E_DEF, V_DEF, S_EL, E_EL, F_EL, V_EA, S_EM, E_EM, S_CS, hcs, MIR⟩
  obtain ⟨n, o, h1, h2, h3, _, L, rfl, ⟨rfl, N⟩, hq⟩ := rm0 l s _ hw s.heap.size s.heap (Old.start s) s_DEF s_EL s_EA s_EM cs mr H i0 i1 i2  tables_1 p e ha hc hk s m _ below hf ((Spec.applies_iff_loose hf).mp happ).1 ⟨rfl, State.Warmed39.refl s, rfl⟩ trivial
  refine ⟨n, _, h1, h2, h3, hpost _ _ _ _ _ _ ⟨Cond.after_iff.mpr rfl, Cond.after_iff.mpr (eq_i res_at (Term.int_eval (1)) rfl), trivial⟩ ⟨hq.1, hq.2.1, (hq.2.2.sift fun y hy => Or.inr (N y hy)).mono (by decide) (by decide)⟩⟩
theorem main_1_1 : Claimed_1_1 := comes_1 fun _ _ _ _ _ _ h hF => ⟨h.1, hF⟩
theorem main_1_2 : Claimed_1_2 := comes_1 fun _ _ _ _ _ _ h hF => ⟨h.2.1, hF⟩
end Jvm.Pilot.@@N@@
namespace Jvm.Pilot.@@N@@
open Jvm Jvm.ClassFile Sem Op Lib Jvm.Free Jvm.Stand Jvm.Pilot.@@N@@.Jvm.D
/-! MADE BY PROGRAM (witnessworld.py) out of the Statement's table words and the real class files: 37 classes; the members and pool entries that the words name. The judged class is class 1, her method 1. -/
namespace start1
open Jvm.ClassFile
def u (s : String) : CpInfo := .utf8 (stringToUtf16 s)
/-- a pool by its gaps: so many unusable entries, then the entry; so many at the end -/
def gap : Nat → List CpInfo → List CpInfo
  | 0, r => r
  | n + 1, r => .unusable :: gap n r
def poolList (es : List (Nat × CpInfo)) (last : Nat) : List CpInfo := es.foldr (fun e r => gap e.1 (e.2 :: r)) (gap last [])
def pool (es : List (Nat × CpInfo)) (last : Nat) : Array CpInfo := ⟨poolList es last⟩
def fileOf (pool : Array CpInfo) (this : Nat) (attrs : Array Attribute := #[]) (ms : Array MethodInfo := #[]) (fl : Nat := 33) (sup : Nat := 0) (ifs : Array Nat := #[]) (fds : Array FieldInfo := #[]) : ClassFile where
  minorVersion := 0
  majorVersion := 65
  constantPool := pool
  accessFlags := fl
  thisClass := this
  superClass := sup
  interfaces := ifs
  fields := fds
  methods := ms
  attributes := attrs
def plain (name : String) (sup : Option ClassId) : Class where
  name := name
  kind := .ordinary
  loader := none
  accessFlags := 33
  super := sup
  interfaces := #[]
  cf := none
  fields := #[]
  methods := #[]
  instanceTypes := #[]
  staticTypes := #[]
  resolved := #[]
  callSites := []
  init := .initialized
  statics := none
  mirror := none

def pool0 : Array CpInfo := pool [(5, u "<init>"), (0, u "()V"), (1, .class_ 10), (1, u "java/lang/Object"), (0, u "getClass"), (0, u "()Ljava/lang/Class;")] 111

def k0c0 : Code := { maxStack := 0, maxLocals := 1, code := object_method_1_code, exceptionTable := #[], attributes := #[] }
def k0m0 : Method := { name := "<init>", desc := "()V", sig := { parameters := [], returnType := none }, accessFlags := 1, code := some k0c0 }
def k0m1 : Method := { name := "getClass", desc := "()Ljava/lang/Class;", sig := { parameters := [], returnType := some (.object "java/lang/Class") }, accessFlags := 273, code := none }
/-- java/lang/Object -/
def k0 : Class := { plain "java/lang/Object" none with
  accessFlags := 33
  interfaces := #[]
  cf := some (fileOf pool0 8 #[] #[{ accessFlags := 1, nameIndex := 5, descriptorIndex := 6, attributes := #[] }, { accessFlags := 273, nameIndex := 11, descriptorIndex := 12, attributes := #[] }] 33 0 #[] #[])
  fields := #[]
  methods := #[k0m0, k0m1]
  instanceTypes := #[]
  staticTypes := #[]
  resolved := Array.replicate 124 none
  statics := none }

def pool1 : Array CpInfo := pool [(2, .class_ 4), (0, .nameAndType 5 6), (0, u "java/lang/Object"), (0, u "<init>"), (0, u "()V"), (0, .methodref 8 9), (0, .class_ 10), (0, .nameAndType 11 12), (0, u "java/lang/String"), (0, u "valueOf"), (0, u "(C)Ljava/lang/String;"), (0, .class_ 14), (0, u "com/example/plumbline/plumbline/Grade"), (0, .methodref 13 16), (0, .nameAndType 5 17), (0, u "(Ljava/lang/String;Ljava/lang/String;)V"), (0, .class_ 19), (0, u "com/example/plumbline/plumbline/Band"), (0, .methodref 18 21), (0, .nameAndType 5 22), (0, u "(Lcom/example/plumbline/plumbline/Points;ZLcom/example/plumbline/plumbline/Points;ZLjava/lang/Object;)V"), (0, .class_ 24), (0, u "java/util/ArrayList"), (0, .methodref 23 3), (0, .interfaceMethodref 27 28), (0, .class_ 29), (0, .nameAndType 30 31), (0, u "java/util/List"), (0, u "add"), (0, u "(Ljava/lang/Object;)Z"), (0, .class_ 33), (0, u "com/example/plumbline/plumbline/Grades"), (0, .methodref 32 35), (0, .nameAndType 5 36), (0, u "(Ljava/util/List;Ljava/util/List;)V"), (0, .methodref 32 38), (0, .nameAndType 39 40), (0, u "gradesTotal"), (0, u "()Z"), (0, .class_ 42), (0, u "com/example/plumbline/plumbline/GradesGradesTotalPinLaw"), (2, u "law"), (0, u "(III)Z")] 3

def k1m0 : Method := { name := "<init>", desc := "()V", sig := { parameters := [], returnType := none }, accessFlags := 2, code := none }
def k1c1 : Code := { maxStack := 7, maxLocals := 12, code := code, exceptionTable := #[], attributes := #[] }
def k1m1 : Method := { name := "law", desc := "(III)Z", sig := { parameters := [.int, .int, .int], returnType := some .boolean }, accessFlags := 9, code := some k1c1 }
/-- com/example/plumbline/plumbline/GradesGradesTotalPinLaw -/
def k1 : Class := { plain "com/example/plumbline/plumbline/GradesGradesTotalPinLaw" (some 0) with
  accessFlags := 49
  interfaces := #[]
  cf := some (fileOf pool1 41 #[] #[{ accessFlags := 2, nameIndex := 5, descriptorIndex := 6, attributes := #[] }, { accessFlags := 9, nameIndex := 45, descriptorIndex := 46, attributes := #[] }] 49 2 #[] #[])
  fields := #[]
  methods := #[k1m0, k1m1]
  instanceTypes := #[]
  staticTypes := #[]
  resolved := Array.replicate 50 none
  statics := none }

def pool2 : Array CpInfo := pool [(1, .class_ 2), (0, u "java/io/Serializable"), (0, .class_ 4), (0, u "java/lang/Object")] 2

/-- java/io/Serializable -/
def k2 : Class := { plain "java/io/Serializable" (some 0) with
  accessFlags := 1537
  interfaces := #[]
  cf := some (fileOf pool2 1 #[] #[] 1537 3 #[] #[])
  fields := #[]
  methods := #[]
  instanceTypes := #[]
  staticTypes := #[]
  resolved := Array.replicate 7 none
  statics := none }

def pool3 : Array CpInfo := pool [(1, .class_ 2), (0, u "java/lang/Comparable"), (0, .class_ 4), (0, u "java/lang/Object")] 7

/-- java/lang/Comparable -/
def k3 : Class := { plain "java/lang/Comparable" (some 0) with
  accessFlags := 1537
  interfaces := #[]
  cf := some (fileOf pool3 1 #[] #[] 1537 3 #[] #[])
  fields := #[]
  methods := #[]
  instanceTypes := #[]
  staticTypes := #[]
  resolved := Array.replicate 12 none
  statics := none }

def pool4 : Array CpInfo := pool [(2, .class_ 4), (1, u "java/lang/CharSequence"), (42, .class_ 48), (0, u "java/lang/CharSequence$1CodePointIterator"), (10, .class_ 60), (0, u "java/lang/CharSequence$1CharIterator"), (5, .class_ 67), (0, u "java/lang/Object")] 63

/-- java/lang/CharSequence -/
def k4 : Class := { plain "java/lang/CharSequence" (some 0) with
  accessFlags := 1537
  interfaces := #[]
  cf := some (fileOf pool4 2 #[.nestMembers #[47, 59]] #[] 1537 66 #[] #[])
  fields := #[]
  methods := #[]
  instanceTypes := #[]
  staticTypes := #[]
  resolved := Array.replicate 131 none
  statics := none }

def pool5 : Array CpInfo := pool [(1, .class_ 2), (0, u "java/lang/constant/Constable"), (0, .class_ 4), (0, u "java/lang/Object")] 6

/-- java/lang/constant/Constable -/
def k5 : Class := { plain "java/lang/constant/Constable" (some 0) with
  accessFlags := 1537
  interfaces := #[]
  cf := some (fileOf pool5 1 #[] #[] 1537 3 #[] #[])
  fields := #[]
  methods := #[]
  instanceTypes := #[]
  staticTypes := #[]
  resolved := Array.replicate 11 none
  statics := none }

def pool6 : Array CpInfo := pool [(1, .class_ 2), (0, u "java/lang/constant/ConstantDesc"), (0, .class_ 4), (0, u "java/lang/Object")] 32

/-- java/lang/constant/ConstantDesc -/
def k6 : Class := { plain "java/lang/constant/ConstantDesc" (some 0) with
  accessFlags := 1537
  interfaces := #[]
  cf := some (fileOf pool6 1 #[] #[] 1537 3 #[] #[])
  fields := #[]
  methods := #[]
  instanceTypes := #[]
  staticTypes := #[]
  resolved := Array.replicate 37 none
  statics := none }

def pool7 : Array CpInfo := pool [(1, .methodref 2 3), (0, .class_ 4), (0, .nameAndType 5 6), (0, u "java/lang/Object"), (0, u "<init>"), (0, u "()V"), (2, .fieldref 10 11), (0, .class_ 12), (0, .nameAndType 13 14), (0, u "java/lang/String"), (0, u "value"), (0, u "[B"), (0, .fieldref 10 16), (0, .nameAndType 17 18), (0, u "coder"), (0, u "B"), (2, u "hash"), (0, u "I"), (2, u "hashIsZero"), (0, u "Z"), (11, .fieldref 10 39), (0, .nameAndType 40 26), (0, u "COMPACT_STRINGS"), (12, u "toBytes"), (53, .class_ 109), (1, u "java/lang/StringLatin1"), (99, .methodref 10 210), (0, .nameAndType 5 211), (0, u "([BB)V"), (157, u "(C)Z"), (205, .class_ 576), (0, u "java/lang/CharSequence"), (22, u "CASE_INSENSITIVE_ORDER"), (0, u "Ljava/util/Comparator;"), (181, u "valueOf"), (0, u "(C)Ljava/lang/String;"), (231, .methodref 107 1016), (0, .nameAndType 1017 369), (0, u "canEncode"), (0, .methodref 107 1019), (0, .nameAndType 53 1020), (0, u "(C)[B"), (80, u "serialPersistentFields"), (0, u "[Ljava/io/ObjectStreamField;"), (0, .class_ 1104), (0, u "java/lang/String$CaseInsensitiveComparator"), (1, .class_ 1107), (0, u "java/io/Serializable"), (0, .class_ 1109), (0, u "java/lang/Comparable"), (0, .class_ 1111), (0, u "java/lang/constant/Constable"), (0, .class_ 1113), (0, u "java/lang/constant/ConstantDesc"), (2, u "serialVersionUID"), (0, u "J"), (3, u "REPL"), (0, u "C"), (2, u "LATIN1"), (1, u "UTF16")] 323

def k7m0 : Method := { name := "<init>", desc := "()V", sig := { parameters := [], returnType := none }, accessFlags := 1, code := none }
def k7c1 : Code := { maxStack := 4, maxLocals := 1, code := jdk_42_method_139_code, exceptionTable := #[], attributes := #[] }
def k7m1 : Method := { name := "valueOf", desc := "(C)Ljava/lang/String;", sig := { parameters := [.char], returnType := some (.object "java/lang/String") }, accessFlags := 9, code := some k7c1 }
def k7c2 : Code := { maxStack := 2, maxLocals := 3, code := jdk_42_method_151_code, exceptionTable := #[], attributes := #[] }
def k7m2 : Method := { name := "<init>", desc := "([BB)V", sig := { parameters := [(.array .byte), .byte], returnType := none }, accessFlags := 0, code := some k7c2 }
/-- java/lang/String -/
def k7 : Class := { plain "java/lang/String" (some 0) with
  accessFlags := 49
  interfaces := #[2, 3, 4, 5, 6]
  cf := some (fileOf pool7 10 #[.nestMembers #[1103]] #[{ accessFlags := 1, nameIndex := 5, descriptorIndex := 6, attributes := #[] }, { accessFlags := 9, nameIndex := 782, descriptorIndex := 783, attributes := #[] }, { accessFlags := 0, nameIndex := 5, descriptorIndex := 211, attributes := #[] }] 49 2 #[1106, 1108, 575, 1110, 1112] #[{ accessFlags := 18, nameIndex := 13, descriptorIndex := 14, attributes := #[] }, { accessFlags := 18, nameIndex := 17, descriptorIndex := 18, attributes := #[] }, { accessFlags := 2, nameIndex := 21, descriptorIndex := 22, attributes := #[] }, { accessFlags := 2, nameIndex := 25, descriptorIndex := 26, attributes := #[] }, { accessFlags := 26, nameIndex := 1116, descriptorIndex := 1117, attributes := #[] }, { accessFlags := 24, nameIndex := 40, descriptorIndex := 26, attributes := #[] }, { accessFlags := 26, nameIndex := 1101, descriptorIndex := 1102, attributes := #[] }, { accessFlags := 26, nameIndex := 1121, descriptorIndex := 1122, attributes := #[] }, { accessFlags := 25, nameIndex := 599, descriptorIndex := 600, attributes := #[] }, { accessFlags := 24, nameIndex := 1125, descriptorIndex := 18, attributes := #[] }, { accessFlags := 24, nameIndex := 1127, descriptorIndex := 18, attributes := #[] }])
  fields := #[{ name := "value", type := (.array .byte), accessFlags := 18, slot := 0, constantValue := 0 }, { name := "coder", type := .byte, accessFlags := 18, slot := 1, constantValue := 0 }, { name := "hash", type := .int, accessFlags := 2, slot := 2, constantValue := 0 }, { name := "hashIsZero", type := .boolean, accessFlags := 2, slot := 3, constantValue := 0 }, { name := "serialVersionUID", type := .long, accessFlags := 26, slot := 0, constantValue := 0 }, { name := "COMPACT_STRINGS", type := .boolean, accessFlags := 24, slot := 1, constantValue := 0 }, { name := "serialPersistentFields", type := (.array (.object "java/io/ObjectStreamField")), accessFlags := 26, slot := 2, constantValue := 0 }, { name := "REPL", type := .char, accessFlags := 26, slot := 3, constantValue := 0 }, { name := "CASE_INSENSITIVE_ORDER", type := (.object "java/util/Comparator"), accessFlags := 25, slot := 4, constantValue := 0 }, { name := "LATIN1", type := .byte, accessFlags := 24, slot := 5, constantValue := 0 }, { name := "UTF16", type := .byte, accessFlags := 24, slot := 6, constantValue := 0 }]
  methods := #[k7m0, k7m1, k7m2]
  instanceTypes := #[(.array .byte), .byte, .int, .boolean]
  staticTypes := #[.long, .boolean, (.array (.object "java/io/ObjectStreamField")), .char, (.object "java/util/Comparator"), .byte, .byte]
  resolved := Array.replicate 1451 none
  statics := some 0 }

def pool8 : Array CpInfo := pool [(4, .class_ 6), (1, u "java/lang/Object"), (0, u "<init>"), (0, u "()V"), (5, .class_ 16), (1, u "java/lang/StringLatin1"), (73, u "canEncode"), (14, u "(C)Z"), (15, u "$assertionsDisabled"), (0, u "Z"), (98, .class_ 223), (1, u "java/lang/StringLatin1$LinesSpliterator"), (156, u "toBytes"), (1, u "(C)[B"), (7, .class_ 391), (0, u "java/lang/StringLatin1$CharsSpliterator")] 3

def k8m0 : Method := { name := "<init>", desc := "()V", sig := { parameters := [], returnType := none }, accessFlags := 0, code := none }
def k8c1 : Code := { maxStack := 2, maxLocals := 1, code := jdk_43_method_3_code, exceptionTable := #[], attributes := #[] }
def k8m1 : Method := { name := "canEncode", desc := "(C)Z", sig := { parameters := [.char], returnType := some .boolean }, accessFlags := 9, code := some k8c1 }
def k8c2 : Code := { maxStack := 4, maxLocals := 1, code := jdk_43_method_46_code, exceptionTable := #[], attributes := #[] }
def k8m2 : Method := { name := "toBytes", desc := "(C)[B", sig := { parameters := [.char], returnType := some (.array .byte) }, accessFlags := 9, code := some k8c2 }
/-- java/lang/StringLatin1 -/
def k8 : Class := { plain "java/lang/StringLatin1" (some 0) with
  accessFlags := 48
  interfaces := #[]
  cf := some (fileOf pool8 14 #[.nestMembers #[390, 221]] #[{ accessFlags := 0, nameIndex := 7, descriptorIndex := 8, attributes := #[] }, { accessFlags := 9, nameIndex := 90, descriptorIndex := 105, attributes := #[] }, { accessFlags := 9, nameIndex := 380, descriptorIndex := 382, attributes := #[] }] 48 4 #[] #[{ accessFlags := 4120, nameIndex := 121, descriptorIndex := 122, attributes := #[] }])
  fields := #[{ name := "$assertionsDisabled", type := .boolean, accessFlags := 4120, slot := 0, constantValue := 0 }]
  methods := #[k8m0, k8m1, k8m2]
  instanceTypes := #[]
  staticTypes := #[.boolean]
  resolved := Array.replicate 395 none
  statics := none }

def pool9 : Array CpInfo := pool [(1, .methodref 2 3), (0, .class_ 4), (0, .nameAndType 5 6), (0, u "java/lang/Object"), (0, u "<init>"), (0, u "()V"), (0, .fieldref 8 9), (0, .class_ 10), (0, .nameAndType 11 12), (0, u "com/example/plumbline/plumbline/Grade"), (0, u "name"), (0, u "Ljava/lang/String;"), (0, .fieldref 8 14), (0, .nameAndType 15 12), (0, u "overall"), (0, u "(Ljava/lang/String;Ljava/lang/String;)V")] 5

def k9c0 : Code := { maxStack := 2, maxLocals := 3, code := prog_31_method_1_code, exceptionTable := #[], attributes := #[] }
def k9m0 : Method := { name := "<init>", desc := "(Ljava/lang/String;Ljava/lang/String;)V", sig := { parameters := [(.object "java/lang/String"), (.object "java/lang/String")], returnType := none }, accessFlags := 1, code := some k9c0 }
/-- com/example/plumbline/plumbline/Grade -/
def k9 : Class := { plain "com/example/plumbline/plumbline/Grade" (some 0) with
  accessFlags := 49
  interfaces := #[]
  cf := some (fileOf pool9 8 #[] #[{ accessFlags := 1, nameIndex := 5, descriptorIndex := 16, attributes := #[] }] 49 2 #[] #[{ accessFlags := 18, nameIndex := 11, descriptorIndex := 12, attributes := #[] }, { accessFlags := 18, nameIndex := 15, descriptorIndex := 12, attributes := #[] }])
  fields := #[{ name := "name", type := (.object "java/lang/String"), accessFlags := 18, slot := 0, constantValue := 0 }, { name := "overall", type := (.object "java/lang/String"), accessFlags := 18, slot := 1, constantValue := 0 }]
  methods := #[k9m0]
  instanceTypes := #[(.object "java/lang/String"), (.object "java/lang/String")]
  staticTypes := #[]
  resolved := Array.replicate 22 none
  statics := none }

def pool10 : Array CpInfo := pool [(1, .methodref 2 3), (0, .class_ 4), (0, .nameAndType 5 6), (0, u "java/lang/Object"), (0, u "<init>"), (0, u "()V"), (0, .fieldref 8 9), (0, .class_ 10), (0, .nameAndType 11 12), (0, u "com/example/plumbline/plumbline/Band"), (0, u "lower"), (0, u "Lcom/example/plumbline/plumbline/Points;"), (0, .fieldref 8 14), (0, .nameAndType 15 16), (0, u "lowerHeld"), (0, u "Z"), (0, .fieldref 8 18), (0, .nameAndType 19 12), (0, u "upper"), (0, .fieldref 8 21), (0, .nameAndType 22 16), (0, u "upperHeld"), (0, .fieldref 8 24), (0, .nameAndType 25 26), (0, u "gives"), (0, u "Ljava/lang/Object;"), (86, u "(Lcom/example/plumbline/plumbline/Points;ZLcom/example/plumbline/plumbline/Points;ZLjava/lang/Object;)V")] 31

def k10c0 : Code := { maxStack := 2, maxLocals := 6, code := prog_6_method_1_code, exceptionTable := #[], attributes := #[] }
def k10m0 : Method := { name := "<init>", desc := "(Lcom/example/plumbline/plumbline/Points;ZLcom/example/plumbline/plumbline/Points;ZLjava/lang/Object;)V", sig := { parameters := [(.object "com/example/plumbline/plumbline/Points"), .boolean, (.object "com/example/plumbline/plumbline/Points"), .boolean, (.object "java/lang/Object")], returnType := none }, accessFlags := 1, code := some k10c0 }
/-- com/example/plumbline/plumbline/Band -/
def k10 : Class := { plain "com/example/plumbline/plumbline/Band" (some 0) with
  accessFlags := 49
  interfaces := #[]
  cf := some (fileOf pool10 8 #[] #[{ accessFlags := 1, nameIndex := 5, descriptorIndex := 113, attributes := #[] }] 49 2 #[] #[{ accessFlags := 18, nameIndex := 11, descriptorIndex := 12, attributes := #[] }, { accessFlags := 18, nameIndex := 15, descriptorIndex := 16, attributes := #[] }, { accessFlags := 18, nameIndex := 19, descriptorIndex := 12, attributes := #[] }, { accessFlags := 18, nameIndex := 22, descriptorIndex := 16, attributes := #[] }, { accessFlags := 18, nameIndex := 25, descriptorIndex := 26, attributes := #[] }])
  fields := #[{ name := "lower", type := (.object "com/example/plumbline/plumbline/Points"), accessFlags := 18, slot := 0, constantValue := 0 }, { name := "lowerHeld", type := .boolean, accessFlags := 18, slot := 1, constantValue := 0 }, { name := "upper", type := (.object "com/example/plumbline/plumbline/Points"), accessFlags := 18, slot := 2, constantValue := 0 }, { name := "upperHeld", type := .boolean, accessFlags := 18, slot := 3, constantValue := 0 }, { name := "gives", type := (.object "java/lang/Object"), accessFlags := 18, slot := 4, constantValue := 0 }]
  methods := #[k10m0]
  instanceTypes := #[(.object "com/example/plumbline/plumbline/Points"), .boolean, (.object "com/example/plumbline/plumbline/Points"), .boolean, (.object "java/lang/Object")]
  staticTypes := #[]
  resolved := Array.replicate 145 none
  statics := none }

def pool11 : Array CpInfo := pool [(8, .class_ 10), (1, u "java/lang/Iterable"), (24, .class_ 36), (0, u "java/lang/Object")] 25

/-- java/lang/Iterable -/
def k11 : Class := { plain "java/lang/Iterable" (some 0) with
  accessFlags := 1537
  interfaces := #[]
  cf := some (fileOf pool11 8 #[] #[] 1537 35 #[] #[])
  fields := #[]
  methods := #[]
  instanceTypes := #[]
  staticTypes := #[]
  resolved := Array.replicate 62 none
  statics := none }

def pool12 : Array CpInfo := pool [(10, .class_ 12), (1, u "java/util/Collection"), (0, u "toArray"), (16, u "()Z"), (29, .class_ 61), (0, u "java/lang/Object"), (0, .class_ 63), (0, u "java/lang/Iterable"), (2, u "isEmpty"), (3, u "()[Ljava/lang/Object;")] 44

def k12m0 : Method := { name := "isEmpty", desc := "()Z", sig := { parameters := [], returnType := some .boolean }, accessFlags := 1025, code := none }
def k12m1 : Method := { name := "toArray", desc := "()[Ljava/lang/Object;", sig := { parameters := [], returnType := some (.array (.object "java/lang/Object")) }, accessFlags := 1025, code := none }
/-- java/util/Collection -/
def k12 : Class := { plain "java/util/Collection" (some 0) with
  accessFlags := 1537
  interfaces := #[11]
  cf := some (fileOf pool12 10 #[] #[{ accessFlags := 1025, nameIndex := 66, descriptorIndex := 30, attributes := #[] }, { accessFlags := 1025, nameIndex := 13, descriptorIndex := 70, attributes := #[] }] 1537 60 #[62] #[])
  fields := #[]
  methods := #[k12m0, k12m1]
  instanceTypes := #[]
  staticTypes := #[]
  resolved := Array.replicate 115 none
  statics := none }

def pool13 : Array CpInfo := pool [(1, .methodref 2 3), (0, .class_ 4), (0, .nameAndType 5 6), (0, u "java/lang/Object"), (0, u "<init>"), (0, u "()V"), (1, .class_ 10), (1, u "java/util/AbstractCollection"), (66, .class_ 78), (0, u "java/util/Collection")] 81

def k13c0 : Code := { maxStack := 1, maxLocals := 1, code := jdk_22_method_1_code, exceptionTable := #[], attributes := #[] }
def k13m0 : Method := { name := "<init>", desc := "()V", sig := { parameters := [], returnType := none }, accessFlags := 4, code := some k13c0 }
/-- java/util/AbstractCollection -/
def k13 : Class := { plain "java/util/AbstractCollection" (some 0) with
  accessFlags := 1057
  interfaces := #[12]
  cf := some (fileOf pool13 8 #[] #[{ accessFlags := 4, nameIndex := 5, descriptorIndex := 6, attributes := #[] }] 1057 2 #[77] #[])
  fields := #[]
  methods := #[k13m0]
  instanceTypes := #[]
  staticTypes := #[]
  resolved := Array.replicate 160 none
  statics := none }

def pool14 : Array CpInfo := pool [(8, .class_ 10), (1, u "java/util/SequencedCollection"), (15, .class_ 27), (0, u "java/lang/Object"), (0, .class_ 29), (0, u "java/util/Collection")] 27

/-- java/util/SequencedCollection -/
def k14 : Class := { plain "java/util/SequencedCollection" (some 0) with
  accessFlags := 1537
  interfaces := #[12]
  cf := some (fileOf pool14 8 #[] #[] 1537 26 #[28] #[])
  fields := #[]
  methods := #[]
  instanceTypes := #[]
  staticTypes := #[]
  resolved := Array.replicate 57 none
  statics := none }

def pool15 : Array CpInfo := pool [(8, .class_ 10), (1, u "java/util/List"), (7, u "()Z"), (12, u "(Ljava/lang/Object;)V"), (16, u "<init>"), (11, u "add"), (3, u "(Ljava/lang/Object;)Z"), (2, u "isEmpty"), (20, u "of"), (1, .fieldref 91 92), (0, .class_ 93), (0, .nameAndType 94 95), (0, u "java/util/ImmutableCollections"), (0, u "EMPTY_LIST"), (0, u "Ljava/util/ImmutableCollections$ListN;"), (0, .class_ 97), (0, u "java/util/ImmutableCollections$List12"), (0, .methodref 96 99), (0, .nameAndType 48 31), (0, .methodref 96 101), (0, .nameAndType 48 102), (0, u "(Ljava/lang/Object;Ljava/lang/Object;)V"), (0, .class_ 104), (0, u "java/lang/Object"), (3, u "([Ljava/lang/Object;)Ljava/util/List;"), (0, .methodref 91 110), (0, .nameAndType 111 108), (0, u "listFromArray"), (0, .methodref 91 113), (0, .nameAndType 114 115), (0, u "listCopy"), (0, u "(Ljava/util/Collection;)Ljava/util/List;"), (3, u "()Ljava/util/List;"), (0, .class_ 121), (0, u "java/util/SequencedCollection"), (112, u "copyOf")] 16

def k15m0 : Method := { name := "isEmpty", desc := "()Z", sig := { parameters := [], returnType := some .boolean }, accessFlags := 1025, code := none }
def k15m1 : Method := { name := "add", desc := "(Ljava/lang/Object;)Z", sig := { parameters := [(.object "java/lang/Object")], returnType := some .boolean }, accessFlags := 1025, code := none }
def k15c2 : Code := { maxStack := 1, maxLocals := 0, code := jdk_40_method_36_code, exceptionTable := #[], attributes := #[] }
def k15m2 : Method := { name := "of", desc := "()Ljava/util/List;", sig := { parameters := [], returnType := some (.object "java/util/List") }, accessFlags := 9, code := some k15c2 }
def k15c3 : Code := { maxStack := 5, maxLocals := 2, code := jdk_40_method_47_code, exceptionTable := #[], attributes := #[] }
def k15m3 : Method := { name := "of", desc := "([Ljava/lang/Object;)Ljava/util/List;", sig := { parameters := [(.array (.object "java/lang/Object"))], returnType := some (.object "java/util/List") }, accessFlags := 137, code := some k15c3 }
def k15c4 : Code := { maxStack := 1, maxLocals := 1, code := jdk_40_method_48_code, exceptionTable := #[], attributes := #[] }
def k15m4 : Method := { name := "copyOf", desc := "(Ljava/util/Collection;)Ljava/util/List;", sig := { parameters := [(.object "java/util/Collection")], returnType := some (.object "java/util/List") }, accessFlags := 9, code := some k15c4 }
/-- java/util/List -/
def k15 : Class := { plain "java/util/List" (some 0) with
  accessFlags := 1537
  interfaces := #[14]
  cf := some (fileOf pool15 8 #[] #[{ accessFlags := 1025, nameIndex := 67, descriptorIndex := 18, attributes := #[] }, { accessFlags := 1025, nameIndex := 60, descriptorIndex := 64, attributes := #[] }, { accessFlags := 9, nameIndex := 88, descriptorIndex := 119, attributes := #[] }, { accessFlags := 137, nameIndex := 88, descriptorIndex := 108, attributes := #[] }, { accessFlags := 9, nameIndex := 234, descriptorIndex := 115, attributes := #[] }] 1537 103 #[120] #[])
  fields := #[]
  methods := #[k15m0, k15m1, k15m2, k15m3, k15m4]
  instanceTypes := #[]
  staticTypes := #[]
  resolved := Array.replicate 251 none
  statics := none }

def pool16 : Array CpInfo := pool [(1, .methodref 2 3), (0, .class_ 4), (0, .nameAndType 5 6), (0, u "java/util/AbstractCollection"), (0, u "<init>"), (0, u "()V"), (0, .fieldref 8 9), (0, .class_ 10), (0, .nameAndType 11 12), (0, u "java/util/AbstractList"), (0, u "modCount"), (0, u "I"), (64, .class_ 78), (0, u "java/util/AbstractList$Itr"), (3, .class_ 83), (0, u "java/util/AbstractList$ListItr"), (9, .class_ 94), (0, u "java/util/AbstractList$RandomAccessSubList"), (3, .class_ 99), (0, u "java/util/AbstractList$SubList"), (33, .class_ 134), (0, u "java/util/List"), (73, .class_ 209), (0, u "java/util/AbstractList$SubList$1"), (0, .class_ 211), (0, u "java/util/AbstractList$RandomAccessSpliterator")] 6

def k16c0 : Code := { maxStack := 2, maxLocals := 1, code := jdk_39_method_1_code, exceptionTable := #[], attributes := #[] }
def k16m0 : Method := { name := "<init>", desc := "()V", sig := { parameters := [], returnType := none }, accessFlags := 4, code := some k16c0 }
/-- java/util/AbstractList -/
def k16 : Class := { plain "java/util/AbstractList" (some 13) with
  accessFlags := 1057
  interfaces := #[15]
  cf := some (fileOf pool16 8 #[.nestMembers #[93, 98, 208, 210, 82, 77]] #[{ accessFlags := 4, nameIndex := 5, descriptorIndex := 6, attributes := #[] }] 1057 2 #[133] #[{ accessFlags := 132, nameIndex := 11, descriptorIndex := 12, attributes := #[] }])
  fields := #[{ name := "modCount", type := .int, accessFlags := 132, slot := 0, constantValue := 0 }]
  methods := #[k16m0]
  instanceTypes := #[.int]
  staticTypes := #[]
  resolved := Array.replicate 218 none
  statics := none }

def pool17 : Array CpInfo := pool [(1, .class_ 2), (0, u "java/util/RandomAccess"), (0, .class_ 4), (0, u "java/lang/Object")] 2

/-- java/util/RandomAccess -/
def k17 : Class := { plain "java/util/RandomAccess" (some 0) with
  accessFlags := 1537
  interfaces := #[]
  cf := some (fileOf pool17 1 #[] #[] 1537 3 #[] #[])
  fields := #[]
  methods := #[]
  instanceTypes := #[]
  staticTypes := #[]
  resolved := Array.replicate 7 none
  statics := none }

def pool18 : Array CpInfo := pool [(1, .class_ 2), (0, u "java/lang/Cloneable"), (0, .class_ 4), (0, u "java/lang/Object")] 2

/-- java/lang/Cloneable -/
def k18 : Class := { plain "java/lang/Cloneable" (some 0) with
  accessFlags := 1537
  interfaces := #[]
  cf := some (fileOf pool18 1 #[] #[] 1537 3 #[] #[])
  fields := #[]
  methods := #[]
  instanceTypes := #[]
  staticTypes := #[]
  resolved := Array.replicate 7 none
  statics := none }

def pool19 : Array CpInfo := pool [(1, .methodref 2 3), (0, .class_ 4), (0, .nameAndType 5 6), (0, u "java/util/AbstractList"), (0, u "<init>"), (0, u "()V"), (0, .class_ 8), (0, u "java/lang/Object"), (0, .fieldref 10 11), (0, .class_ 12), (0, .nameAndType 13 14), (0, u "java/util/ArrayList"), (0, u "elementData"), (0, u "[Ljava/lang/Object;"), (2, u "EMPTY_ELEMENTDATA"), (21, .fieldref 10 40), (0, .nameAndType 41 14), (0, u "DEFAULTCAPACITY_EMPTY_ELEMENTDATA"), (4, u "toArray"), (0, u "()[Ljava/lang/Object;"), (0, .fieldref 10 49), (0, .nameAndType 50 51), (0, u "size"), (0, u "I"), (6, .class_ 60), (1, u "java/util/Arrays"), (0, u "copyOf"), (1, .fieldref 10 64), (0, .nameAndType 65 51), (0, u "modCount"), (0, .methodref 58 67), (0, .nameAndType 61 68), (0, u "([Ljava/lang/Object;I)[Ljava/lang/Object;"), (0, .methodref 10 70), (0, .nameAndType 71 72), (0, u "grow"), (0, u "(I)[Ljava/lang/Object;"), (6, .methodref 80 81), (0, .class_ 82), (0, .nameAndType 83 84), (0, u "java/lang/Math"), (0, u "max"), (0, u "(II)I"), (11, u "(Ljava/lang/Object;)Z"), (32, .methodref 10 130), (0, .nameAndType 71 47), (0, .methodref 10 132), (0, .nameAndType 133 134), (0, u "add"), (0, u "(Ljava/lang/Object;[Ljava/lang/Object;I)V"), (13, .class_ 149), (0, u "java/util/List"), (23, u "()Z"), (88, .class_ 263), (0, u "java/util/ArrayList$ListItr"), (3, .class_ 268), (0, u "java/util/ArrayList$Itr"), (7, .class_ 277), (0, u "java/util/ArrayList$SubList"), (12, .class_ 291), (0, u "java/util/ArrayList$ArrayListSpliterator"), (37, .class_ 330), (0, u "java/util/RandomAccess"), (0, .class_ 332), (0, u "java/lang/Cloneable"), (0, .class_ 334), (0, u "java/io/Serializable"), (0, u "serialVersionUID"), (0, u "J"), (3, u "DEFAULT_CAPACITY"), (22, u "isEmpty"), (136, .class_ 501), (0, u "java/util/ArrayList$SubList$2"), (0, .class_ 503), (0, u "java/util/ArrayList$SubList$1")] 5

def k19c0 : Code := { maxStack := 2, maxLocals := 1, code := jdk_38_method_2_code, exceptionTable := #[], attributes := #[] }
def k19m0 : Method := { name := "<init>", desc := "()V", sig := { parameters := [], returnType := none }, accessFlags := 1, code := some k19c0 }
def k19c1 : Code := { maxStack := 4, maxLocals := 4, code := jdk_38_method_6_code, exceptionTable := #[], attributes := #[] }
def k19m1 : Method := { name := "grow", desc := "(I)[Ljava/lang/Object;", sig := { parameters := [.int], returnType := some (.array (.object "java/lang/Object")) }, accessFlags := 2, code := some k19c1 }
def k19c2 : Code := { maxStack := 3, maxLocals := 1, code := jdk_38_method_7_code, exceptionTable := #[], attributes := #[] }
def k19m2 : Method := { name := "grow", desc := "()[Ljava/lang/Object;", sig := { parameters := [], returnType := some (.array (.object "java/lang/Object")) }, accessFlags := 2, code := some k19c2 }
def k19c3 : Code := { maxStack := 1, maxLocals := 1, code := jdk_38_method_9_code, exceptionTable := #[], attributes := #[] }
def k19m3 : Method := { name := "isEmpty", desc := "()Z", sig := { parameters := [], returnType := some .boolean }, accessFlags := 1, code := some k19c3 }
def k19c4 : Code := { maxStack := 2, maxLocals := 1, code := jdk_38_method_16_code, exceptionTable := #[], attributes := #[] }
def k19m4 : Method := { name := "toArray", desc := "()[Ljava/lang/Object;", sig := { parameters := [], returnType := some (.array (.object "java/lang/Object")) }, accessFlags := 1, code := some k19c4 }
def k19c5 : Code := { maxStack := 3, maxLocals := 4, code := jdk_38_method_24_code, exceptionTable := #[], attributes := #[] }
def k19m5 : Method := { name := "add", desc := "(Ljava/lang/Object;[Ljava/lang/Object;I)V", sig := { parameters := [(.object "java/lang/Object"), (.array (.object "java/lang/Object")), .int], returnType := none }, accessFlags := 2, code := some k19c5 }
def k19c6 : Code := { maxStack := 4, maxLocals := 2, code := jdk_38_method_25_code, exceptionTable := #[], attributes := #[] }
def k19m6 : Method := { name := "add", desc := "(Ljava/lang/Object;)Z", sig := { parameters := [(.object "java/lang/Object")], returnType := some .boolean }, accessFlags := 1, code := some k19c6 }
/-- java/util/ArrayList -/
def k19 : Class := { plain "java/util/ArrayList" (some 16) with
  accessFlags := 33
  interfaces := #[15, 17, 18, 2]
  cf := some (fileOf pool19 10 #[.nestMembers #[290, 276, 500, 502, 262, 267]] #[{ accessFlags := 1, nameIndex := 5, descriptorIndex := 6, attributes := #[] }, { accessFlags := 2, nameIndex := 71, descriptorIndex := 72, attributes := #[] }, { accessFlags := 2, nameIndex := 71, descriptorIndex := 47, attributes := #[] }, { accessFlags := 1, nameIndex := 363, descriptorIndex := 173, attributes := #[] }, { accessFlags := 1, nameIndex := 46, descriptorIndex := 47, attributes := #[] }, { accessFlags := 2, nameIndex := 133, descriptorIndex := 134, attributes := #[] }, { accessFlags := 1, nameIndex := 133, descriptorIndex := 96, attributes := #[] }] 33 2 #[148, 329, 331, 333] #[{ accessFlags := 26, nameIndex := 335, descriptorIndex := 336, attributes := #[] }, { accessFlags := 26, nameIndex := 340, descriptorIndex := 51, attributes := #[] }, { accessFlags := 26, nameIndex := 17, descriptorIndex := 14, attributes := #[] }, { accessFlags := 26, nameIndex := 41, descriptorIndex := 14, attributes := #[] }, { accessFlags := 128, nameIndex := 13, descriptorIndex := 14, attributes := #[] }, { accessFlags := 2, nameIndex := 50, descriptorIndex := 51, attributes := #[] }])
  fields := #[{ name := "serialVersionUID", type := .long, accessFlags := 26, slot := 0, constantValue := 0 }, { name := "DEFAULT_CAPACITY", type := .int, accessFlags := 26, slot := 1, constantValue := 0 }, { name := "EMPTY_ELEMENTDATA", type := (.array (.object "java/lang/Object")), accessFlags := 26, slot := 2, constantValue := 0 }, { name := "DEFAULTCAPACITY_EMPTY_ELEMENTDATA", type := (.array (.object "java/lang/Object")), accessFlags := 26, slot := 3, constantValue := 0 }, { name := "elementData", type := (.array (.object "java/lang/Object")), accessFlags := 128, slot := 1, constantValue := 0 }, { name := "size", type := .int, accessFlags := 2, slot := 2, constantValue := 0 }]
  methods := #[k19m0, k19m1, k19m2, k19m3, k19m4, k19m5, k19m6]
  instanceTypes := #[.int, (.array (.object "java/lang/Object")), .int]
  staticTypes := #[.long, .int, (.array (.object "java/lang/Object")), (.array (.object "java/lang/Object"))]
  resolved := Array.replicate 509 none
  statics := some 1 }

def pool20 : Array CpInfo := pool [(1, .class_ 2), (0, u "java/lang/Math"), (1, .class_ 6), (1, u "java/lang/Object"), (0, u "<init>"), (0, u "()V"), (89, .class_ 100), (1, u "java/lang/Math$RandomNumberGeneratorHolder"), (71, u "negativeZeroFloatBits"), (0, u "J"), (2, u "negativeZeroDoubleBits"), (21, u "max"), (2, u "min"), (43, u "$assertionsDisabled"), (0, u "Z"), (88, u "(II)I"), (2, u "twoToTheDoubleScaleDown"), (0, u "D"), (4, u "twoToTheDoubleScaleUp"), (9, u "E"), (3, u "PI"), (2, u "TAU"), (2, u "DEGREES_TO_RADIANS"), (0, u "RADIANS_TO_DEGREES")] 94

def k20m0 : Method := { name := "<init>", desc := "()V", sig := { parameters := [], returnType := none }, accessFlags := 2, code := none }
def k20c1 : Code := { maxStack := 2, maxLocals := 2, code := jdk_29_method_65_code, exceptionTable := #[], attributes := #[] }
def k20m1 : Method := { name := "max", desc := "(II)I", sig := { parameters := [.int, .int], returnType := some .int }, accessFlags := 9, code := some k20c1 }
def k20c2 : Code := { maxStack := 2, maxLocals := 2, code := jdk_29_method_69_code, exceptionTable := #[], attributes := #[] }
def k20m2 : Method := { name := "min", desc := "(II)I", sig := { parameters := [.int, .int], returnType := some .int }, accessFlags := 9, code := some k20c2 }
/-- java/lang/Math -/
def k20 : Class := { plain "java/lang/Math" (some 0) with
  accessFlags := 49
  interfaces := #[]
  cf := some (fileOf pool20 1 #[.nestMembers #[98]] #[{ accessFlags := 2, nameIndex := 7, descriptorIndex := 8, attributes := #[] }, { accessFlags := 9, nameIndex := 198, descriptorIndex := 335, attributes := #[] }, { accessFlags := 9, nameIndex := 201, descriptorIndex := 335, attributes := #[] }] 49 4 #[] #[{ accessFlags := 25, nameIndex := 354, descriptorIndex := 339, attributes := #[] }, { accessFlags := 25, nameIndex := 358, descriptorIndex := 339, attributes := #[] }, { accessFlags := 25, nameIndex := 361, descriptorIndex := 339, attributes := #[] }, { accessFlags := 26, nameIndex := 364, descriptorIndex := 339, attributes := #[] }, { accessFlags := 26, nameIndex := 365, descriptorIndex := 339, attributes := #[] }, { accessFlags := 26, nameIndex := 172, descriptorIndex := 173, attributes := #[] }, { accessFlags := 26, nameIndex := 176, descriptorIndex := 173, attributes := #[] }, { accessFlags := 8, nameIndex := 344, descriptorIndex := 339, attributes := #[] }, { accessFlags := 8, nameIndex := 338, descriptorIndex := 339, attributes := #[] }, { accessFlags := 4120, nameIndex := 245, descriptorIndex := 246, attributes := #[] }])
  fields := #[{ name := "E", type := .double, accessFlags := 25, slot := 0, constantValue := 0 }, { name := "PI", type := .double, accessFlags := 25, slot := 1, constantValue := 0 }, { name := "TAU", type := .double, accessFlags := 25, slot := 2, constantValue := 0 }, { name := "DEGREES_TO_RADIANS", type := .double, accessFlags := 26, slot := 3, constantValue := 0 }, { name := "RADIANS_TO_DEGREES", type := .double, accessFlags := 26, slot := 4, constantValue := 0 }, { name := "negativeZeroFloatBits", type := .long, accessFlags := 26, slot := 5, constantValue := 0 }, { name := "negativeZeroDoubleBits", type := .long, accessFlags := 26, slot := 6, constantValue := 0 }, { name := "twoToTheDoubleScaleUp", type := .double, accessFlags := 8, slot := 7, constantValue := 0 }, { name := "twoToTheDoubleScaleDown", type := .double, accessFlags := 8, slot := 8, constantValue := 0 }, { name := "$assertionsDisabled", type := .boolean, accessFlags := 4120, slot := 9, constantValue := 0 }]
  methods := #[k20m0, k20m1, k20m2]
  instanceTypes := #[]
  staticTypes := #[.double, .double, .double, .double, .double, .long, .long, .double, .double, .boolean]
  resolved := Array.replicate 460 none
  statics := none }

def pool21 : Array CpInfo := pool [(1, .methodref 2 3), (0, .class_ 4), (0, .nameAndType 5 6), (0, u "java/lang/Object"), (0, u "<init>"), (0, u "()V"), (0, .interfaceMethodref 8 9), (0, .class_ 10), (0, .nameAndType 11 12), (0, u "java/util/List"), (0, u "copyOf"), (0, u "(Ljava/util/Collection;)Ljava/util/List;"), (0, .fieldref 14 15), (0, .class_ 16), (0, .nameAndType 17 18), (0, u "com/example/plumbline/plumbline/Grades"), (0, u "area"), (0, u "Ljava/util/List;"), (0, .fieldref 14 20), (0, .nameAndType 21 18), (0, u "total"), (0, .interfaceMethodref 8 23), (0, .nameAndType 24 25), (0, u "isEmpty"), (0, u "()Z"), (33, u "gradesTotal"), (71, u "(Ljava/util/List;Ljava/util/List;)V")] 35

def k21c0 : Code := { maxStack := 2, maxLocals := 3, code := prog_32_method_1_code, exceptionTable := #[], attributes := #[] }
def k21m0 : Method := { name := "<init>", desc := "(Ljava/util/List;Ljava/util/List;)V", sig := { parameters := [(.object "java/util/List"), (.object "java/util/List")], returnType := none }, accessFlags := 1, code := some k21c0 }
def k21c1 : Code := { maxStack := 1, maxLocals := 1, code := prog_32_method_3_code, exceptionTable := #[], attributes := #[] }
def k21m1 : Method := { name := "gradesTotal", desc := "()Z", sig := { parameters := [], returnType := some .boolean }, accessFlags := 1, code := some k21c1 }
/-- com/example/plumbline/plumbline/Grades -/
def k21 : Class := { plain "com/example/plumbline/plumbline/Grades" (some 0) with
  accessFlags := 49
  interfaces := #[]
  cf := some (fileOf pool21 14 #[] #[{ accessFlags := 1, nameIndex := 5, descriptorIndex := 131, attributes := #[] }, { accessFlags := 1, nameIndex := 59, descriptorIndex := 25, attributes := #[] }] 49 2 #[] #[{ accessFlags := 18, nameIndex := 17, descriptorIndex := 18, attributes := #[] }, { accessFlags := 18, nameIndex := 21, descriptorIndex := 18, attributes := #[] }])
  fields := #[{ name := "area", type := (.object "java/util/List"), accessFlags := 18, slot := 0, constantValue := 0 }, { name := "total", type := (.object "java/util/List"), accessFlags := 18, slot := 1, constantValue := 0 }]
  methods := #[k21m0, k21m1]
  instanceTypes := #[(.object "java/util/List"), (.object "java/util/List")]
  staticTypes := #[]
  resolved := Array.replicate 167 none
  statics := none }

def pool22 : Array CpInfo := pool [(2, .class_ 4), (1, u "java/lang/Object"), (0, u "<init>"), (0, u "()V"), (3, .class_ 11), (0, u "java/util/ImmutableCollections$List12"), (0, .class_ 13), (0, u "java/util/ImmutableCollections$ListN"), (3, u "Z"), (0, .class_ 19), (0, u "java/util/List"), (0, .interfaceMethodref 21 22), (0, .class_ 23), (0, .nameAndType 24 25), (0, u "java/util/Collection"), (0, u "isEmpty"), (0, u "()Z"), (0, .interfaceMethodref 18 27), (0, .nameAndType 28 29), (0, u "of"), (0, u "()Ljava/util/List;"), (0, .interfaceMethodref 21 31), (0, .nameAndType 32 33), (0, u "toArray"), (0, u "()[Ljava/lang/Object;"), (0, .interfaceMethodref 18 35), (0, .nameAndType 28 36), (0, u "([Ljava/lang/Object;)Ljava/util/List;"), (0, .methodref 38 39), (0, .class_ 40), (0, .nameAndType 41 42), (0, u "java/util/Objects"), (0, u "requireNonNull"), (0, u "(Ljava/lang/Object;)Ljava/lang/Object;"), (0, .methodref 12 44), (0, .nameAndType 5 45), (0, u "([Ljava/lang/Object;Z)V"), (1, .class_ 49), (1, u "java/util/ImmutableCollections"), (0, u "$assertionsDisabled"), (5, u "[Ljava/lang/Object;"), (5, u "EMPTY_LIST"), (0, u "Ljava/util/ImmutableCollections$ListN;"), (8, u "EMPTY_LIST_NULLS"), (22, u "SALT32L"), (0, u "J"), (2, u "REVERSE"), (6, u "archivedObjects"), (2, u "EMPTY"), (0, u "Ljava/lang/Object;"), (0, .class_ 112), (0, u "java/util/ImmutableCollections$SetN"), (5, u "EMPTY_SET"), (0, u "Ljava/util/ImmutableCollections$SetN;"), (0, .class_ 121), (0, u "java/util/ImmutableCollections$MapN"), (3, u "EMPTY_MAP"), (0, u "Ljava/util/ImmutableCollections$MapN;"), (4, u "EXPAND_FACTOR"), (0, u "I"), (9, u "listCopy"), (0, u "(Ljava/util/Collection;)Ljava/util/List;"), (7, u "listFromArray"), (17, .class_ 170), (0, u "java/util/ImmutableCollections$MapN$MapNIterator"), (0, .class_ 172), (0, u "java/util/ImmutableCollections$MapN$1"), (0, .class_ 174), (0, u "java/util/ImmutableCollections$Map1"), (0, .class_ 176), (0, u "java/util/ImmutableCollections$AbstractImmutableMap"), (0, .class_ 178), (0, u "java/util/ImmutableCollections$SetN$SetNIterator"), (0, .class_ 180), (0, u "java/util/ImmutableCollections$Set12"), (0, .class_ 182), (0, u "java/util/ImmutableCollections$Set12$1"), (0, .class_ 184), (0, u "java/util/ImmutableCollections$AbstractImmutableSet"), (0, .class_ 186), (0, u "java/util/ImmutableCollections$SubList"), (0, .class_ 188), (0, u "java/util/ImmutableCollections$ListItr"), (0, .class_ 190), (0, u "java/util/ImmutableCollections$AbstractImmutableList"), (0, .class_ 192), (0, u "java/util/ImmutableCollections$AbstractImmutableCollection"), (0, .class_ 194), (0, u "java/util/ImmutableCollections$Access"), (0, .class_ 196), (0, u "java/util/ImmutableCollections$Access$1")] 16

def k22m0 : Method := { name := "<init>", desc := "()V", sig := { parameters := [], returnType := none }, accessFlags := 2, code := none }
def k22c1 : Code := { maxStack := 1, maxLocals := 2, code := jdk_56_method_3_code, exceptionTable := #[], attributes := #[] }
def k22m1 : Method := { name := "listCopy", desc := "(Ljava/util/Collection;)Ljava/util/List;", sig := { parameters := [(.object "java/util/Collection")], returnType := some (.object "java/util/List") }, accessFlags := 8, code := some k22c1 }
def k22c2 : Code := { maxStack := 4, maxLocals := 3, code := jdk_56_method_4_code, exceptionTable := #[], attributes := #[] }
def k22m2 : Method := { name := "listFromArray", desc := "([Ljava/lang/Object;)Ljava/util/List;", sig := { parameters := [(.array (.object "java/lang/Object"))], returnType := some (.object "java/util/List") }, accessFlags := 136, code := some k22c2 }
/-- java/util/ImmutableCollections -/
def k22 : Class := { plain "java/util/ImmutableCollections" (some 0) with
  accessFlags := 32
  interfaces := #[]
  cf := some (fileOf pool22 47 #[.nestMembers #[120, 169, 171, 173, 175, 111, 177, 179, 181, 183, 12, 10, 185, 187, 189, 191, 193, 195]] #[{ accessFlags := 2, nameIndex := 5, descriptorIndex := 6, attributes := #[] }, { accessFlags := 8, nameIndex := 142, descriptorIndex := 143, attributes := #[] }, { accessFlags := 136, nameIndex := 151, descriptorIndex := 36, attributes := #[] }] 32 2 #[] #[{ accessFlags := 26, nameIndex := 95, descriptorIndex := 96, attributes := #[] }, { accessFlags := 26, nameIndex := 99, descriptorIndex := 17, attributes := #[] }, { accessFlags := 10, nameIndex := 106, descriptorIndex := 56, attributes := #[] }, { accessFlags := 26, nameIndex := 109, descriptorIndex := 110, attributes := #[] }, { accessFlags := 24, nameIndex := 62, descriptorIndex := 63, attributes := #[] }, { accessFlags := 24, nameIndex := 72, descriptorIndex := 63, attributes := #[] }, { accessFlags := 24, nameIndex := 118, descriptorIndex := 119, attributes := #[] }, { accessFlags := 24, nameIndex := 125, descriptorIndex := 126, attributes := #[] }, { accessFlags := 24, nameIndex := 131, descriptorIndex := 132, attributes := #[] }, { accessFlags := 4120, nameIndex := 50, descriptorIndex := 17, attributes := #[] }])
  fields := #[{ name := "SALT32L", type := .long, accessFlags := 26, slot := 0, constantValue := 0 }, { name := "REVERSE", type := .boolean, accessFlags := 26, slot := 1, constantValue := 0 }, { name := "archivedObjects", type := (.array (.object "java/lang/Object")), accessFlags := 10, slot := 2, constantValue := 0 }, { name := "EMPTY", type := (.object "java/lang/Object"), accessFlags := 26, slot := 3, constantValue := 0 }, { name := "EMPTY_LIST", type := (.object "java/util/ImmutableCollections$ListN"), accessFlags := 24, slot := 4, constantValue := 0 }, { name := "EMPTY_LIST_NULLS", type := (.object "java/util/ImmutableCollections$ListN"), accessFlags := 24, slot := 5, constantValue := 0 }, { name := "EMPTY_SET", type := (.object "java/util/ImmutableCollections$SetN"), accessFlags := 24, slot := 6, constantValue := 0 }, { name := "EMPTY_MAP", type := (.object "java/util/ImmutableCollections$MapN"), accessFlags := 24, slot := 7, constantValue := 0 }, { name := "EXPAND_FACTOR", type := .int, accessFlags := 24, slot := 8, constantValue := 0 }, { name := "$assertionsDisabled", type := .boolean, accessFlags := 4120, slot := 9, constantValue := 0 }]
  methods := #[k22m0, k22m1, k22m2]
  instanceTypes := #[]
  staticTypes := #[.long, .boolean, (.array (.object "java/lang/Object")), (.object "java/lang/Object"), (.object "java/util/ImmutableCollections$ListN"), (.object "java/util/ImmutableCollections$ListN"), (.object "java/util/ImmutableCollections$SetN"), (.object "java/util/ImmutableCollections$MapN"), .int, .boolean]
  resolved := Array.replicate 213 none
  statics := some 2 }

def pool23 : Array CpInfo := pool [(1, .methodref 2 3), (0, .class_ 4), (0, .nameAndType 5 6), (0, u "java/util/AbstractCollection"), (0, u "<init>"), (0, u "()V"), (1, .class_ 10), (1, u "java/util/ImmutableCollections"), (2, .class_ 14), (0, u "java/util/ImmutableCollections$AbstractImmutableCollection")] 41

def k23c0 : Code := { maxStack := 1, maxLocals := 1, code := jdk_47_method_1_code, exceptionTable := #[], attributes := #[] }
def k23m0 : Method := { name := "<init>", desc := "()V", sig := { parameters := [], returnType := none }, accessFlags := 0, code := some k23c0 }
/-- java/util/ImmutableCollections$AbstractImmutableCollection -/
def k23 : Class := { plain "java/util/ImmutableCollections$AbstractImmutableCollection" (some 13) with
  accessFlags := 1056
  interfaces := #[]
  cf := some (fileOf pool23 13 #[.nestHost 8] #[{ accessFlags := 0, nameIndex := 5, descriptorIndex := 6, attributes := #[] }] 1056 2 #[] #[])
  fields := #[]
  methods := #[k23m0]
  instanceTypes := #[]
  staticTypes := #[]
  resolved := Array.replicate 56 none
  statics := none }

def pool24 : Array CpInfo := pool [(1, .methodref 2 3), (0, .class_ 4), (0, .nameAndType 5 6), (0, u "java/util/ImmutableCollections$AbstractImmutableCollection"), (0, u "<init>"), (0, u "()V"), (1, .class_ 10), (1, u "java/util/ImmutableCollections"), (3, .class_ 16), (1, u "java/util/ImmutableCollections$AbstractImmutableList"), (60, .class_ 78), (0, u "java/util/List"), (45, .class_ 125), (0, u "java/util/RandomAccess")] 70

def k24c0 : Code := { maxStack := 1, maxLocals := 1, code := jdk_46_method_1_code, exceptionTable := #[], attributes := #[] }
def k24m0 : Method := { name := "<init>", desc := "()V", sig := { parameters := [], returnType := none }, accessFlags := 0, code := some k24c0 }
/-- java/util/ImmutableCollections$AbstractImmutableList -/
def k24 : Class := { plain "java/util/ImmutableCollections$AbstractImmutableList" (some 23) with
  accessFlags := 1056
  interfaces := #[15, 17]
  cf := some (fileOf pool24 14 #[.nestHost 8] #[{ accessFlags := 0, nameIndex := 5, descriptorIndex := 6, attributes := #[] }] 1056 2 #[77, 124] #[])
  fields := #[]
  methods := #[k24m0]
  instanceTypes := #[]
  staticTypes := #[]
  resolved := Array.replicate 196 none
  statics := none }

def pool25 : Array CpInfo := pool [(1, .methodref 2 3), (0, .class_ 4), (0, .nameAndType 5 6), (0, u "java/util/ImmutableCollections$AbstractImmutableList"), (0, u "<init>"), (0, u "()V"), (0, .methodref 8 9), (0, .class_ 10), (0, .nameAndType 11 12), (0, u "java/util/Objects"), (0, u "requireNonNull"), (0, u "(Ljava/lang/Object;)Ljava/lang/Object;"), (0, .fieldref 14 15), (0, .class_ 16), (0, .nameAndType 17 18), (0, u "java/util/ImmutableCollections$List12"), (0, u "e0"), (0, u "Ljava/lang/Object;"), (0, .fieldref 20 21), (0, .class_ 22), (0, .nameAndType 23 18), (0, u "java/util/ImmutableCollections"), (0, u "EMPTY"), (0, .fieldref 14 25), (0, .nameAndType 26 18), (0, u "e1"), (43, .class_ 71), (0, u "java/io/Serializable"), (4, u "(Ljava/lang/Object;)V"), (8, u "(Ljava/lang/Object;Ljava/lang/Object;)V"), (2, u "isEmpty"), (0, u "()Z")] 35

def k25c0 : Code := { maxStack := 2, maxLocals := 2, code := jdk_44_method_1_code, exceptionTable := #[], attributes := #[] }
def k25m0 : Method := { name := "<init>", desc := "(Ljava/lang/Object;)V", sig := { parameters := [(.object "java/lang/Object")], returnType := none }, accessFlags := 0, code := some k25c0 }
def k25c1 : Code := { maxStack := 2, maxLocals := 3, code := jdk_44_method_2_code, exceptionTable := #[], attributes := #[] }
def k25m1 : Method := { name := "<init>", desc := "(Ljava/lang/Object;Ljava/lang/Object;)V", sig := { parameters := [(.object "java/lang/Object"), (.object "java/lang/Object")], returnType := none }, accessFlags := 0, code := some k25c1 }
def k25c2 : Code := { maxStack := 1, maxLocals := 1, code := jdk_44_method_4_code, exceptionTable := #[], attributes := #[] }
def k25m2 : Method := { name := "isEmpty", desc := "()Z", sig := { parameters := [], returnType := some .boolean }, accessFlags := 1, code := some k25c2 }
/-- java/util/ImmutableCollections$List12 -/
def k25 : Class := { plain "java/util/ImmutableCollections$List12" (some 24) with
  accessFlags := 48
  interfaces := #[2]
  cf := some (fileOf pool25 14 #[.nestHost 20] #[{ accessFlags := 0, nameIndex := 5, descriptorIndex := 76, attributes := #[] }, { accessFlags := 0, nameIndex := 5, descriptorIndex := 85, attributes := #[] }, { accessFlags := 1, nameIndex := 88, descriptorIndex := 89, attributes := #[] }] 48 2 #[70] #[{ accessFlags := 18, nameIndex := 17, descriptorIndex := 18, attributes := #[] }, { accessFlags := 18, nameIndex := 26, descriptorIndex := 18, attributes := #[] }])
  fields := #[{ name := "e0", type := (.object "java/lang/Object"), accessFlags := 18, slot := 0, constantValue := 0 }, { name := "e1", type := (.object "java/lang/Object"), accessFlags := 18, slot := 1, constantValue := 0 }]
  methods := #[k25m0, k25m1, k25m2]
  instanceTypes := #[(.object "java/lang/Object"), (.object "java/lang/Object")]
  staticTypes := #[]
  resolved := Array.replicate 125 none
  statics := none }

def pool26 : Array CpInfo := pool [(1, .methodref 2 3), (0, .class_ 4), (0, .nameAndType 5 6), (0, u "java/util/ImmutableCollections$AbstractImmutableList"), (0, u "<init>"), (0, u "()V"), (0, .fieldref 8 9), (0, .class_ 10), (0, .nameAndType 11 12), (0, u "java/util/ImmutableCollections$ListN"), (0, u "elements"), (0, u "[Ljava/lang/Object;"), (0, .fieldref 8 14), (0, .nameAndType 15 16), (0, u "allowNulls"), (0, u "Z"), (42, .class_ 60), (0, u "java/io/Serializable"), (4, u "([Ljava/lang/Object;Z)V"), (8, u "isEmpty"), (0, u "()Z"), (38, .class_ 115), (0, u "java/util/ImmutableCollections")] 3

def k26c0 : Code := { maxStack := 2, maxLocals := 3, code := jdk_45_method_1_code, exceptionTable := #[], attributes := #[] }
def k26m0 : Method := { name := "<init>", desc := "([Ljava/lang/Object;Z)V", sig := { parameters := [(.array (.object "java/lang/Object")), .boolean], returnType := none }, accessFlags := 2, code := some k26c0 }
def k26c1 : Code := { maxStack := 1, maxLocals := 1, code := jdk_45_method_2_code, exceptionTable := #[], attributes := #[] }
def k26m1 : Method := { name := "isEmpty", desc := "()Z", sig := { parameters := [], returnType := some .boolean }, accessFlags := 1, code := some k26c1 }
/-- java/util/ImmutableCollections$ListN -/
def k26 : Class := { plain "java/util/ImmutableCollections$ListN" (some 24) with
  accessFlags := 48
  interfaces := #[2]
  cf := some (fileOf pool26 8 #[.nestHost 114] #[{ accessFlags := 2, nameIndex := 5, descriptorIndex := 65, attributes := #[] }, { accessFlags := 1, nameIndex := 74, descriptorIndex := 75, attributes := #[] }] 48 2 #[59] #[{ accessFlags := 18, nameIndex := 11, descriptorIndex := 12, attributes := #[] }, { accessFlags := 18, nameIndex := 15, descriptorIndex := 16, attributes := #[] }])
  fields := #[{ name := "elements", type := (.array (.object "java/lang/Object")), accessFlags := 18, slot := 0, constantValue := 0 }, { name := "allowNulls", type := .boolean, accessFlags := 18, slot := 1, constantValue := 0 }]
  methods := #[k26m0, k26m1]
  instanceTypes := #[(.array (.object "java/lang/Object")), .boolean]
  staticTypes := #[]
  resolved := Array.replicate 119 none
  statics := none }

def pool27 : Array CpInfo := pool [(2, .class_ 4), (1, u "java/lang/Object"), (0, u "<init>"), (0, u "()V"), (7, .class_ 16), (1, u "java/util/Arrays"), (57, .class_ 76), (1, u "java/util/Arrays$NaturalOrder"), (9, .methodref 2 87), (0, .nameAndType 88 89), (0, u "getClass"), (0, u "()Ljava/lang/Class;"), (20, .class_ 111), (0, u "[Ljava/lang/Object;"), (1, .class_ 115), (1, u "java/util/Arrays$LegacyMergeSort"), (1, u "Z"), (32, .methodref 151 152), (0, .class_ 153), (0, .nameAndType 154 155), (0, u "java/lang/System"), (0, u "arraycopy"), (0, u "(Ljava/lang/Object;ILjava/lang/Object;II)V"), (144, .methodref 14 301), (0, .nameAndType 302 303), (0, u "copyOf"), (0, u "([Ljava/lang/Object;ILjava/lang/Class;)[Ljava/lang/Object;"), (0, .methodref 305 306), (0, .class_ 307), (0, .nameAndType 308 309), (0, u "java/lang/Math"), (0, u "min"), (0, u "(II)I"), (65, .class_ 376), (0, u "java/util/Arrays$ArrayList"), (68, u "$assertionsDisabled"), (269, u "MIN_ARRAY_SORT_GRAN"), (0, u "I"), (2, u "INSERTIONSORT_THRESHOLD"), (140, u "([Ljava/lang/Object;I)[Ljava/lang/Object;"), (114, .class_ 976), (0, u "java/util/Arrays$ArrayItr")] 52

def k27m0 : Method := { name := "<init>", desc := "()V", sig := { parameters := [], returnType := none }, accessFlags := 2, code := none }
def k27c1 : Code := { maxStack := 3, maxLocals := 2, code := jdk_65_method_119_code, exceptionTable := #[], attributes := #[] }
def k27m1 : Method := { name := "copyOf", desc := "([Ljava/lang/Object;I)[Ljava/lang/Object;", sig := { parameters := [(.array (.object "java/lang/Object")), .int], returnType := some (.array (.object "java/lang/Object")) }, accessFlags := 9, code := some k27c1 }
def k27c2 : Code := { maxStack := 6, maxLocals := 4, code := jdk_65_method_120_code, exceptionTable := #[], attributes := #[] }
def k27m2 : Method := { name := "copyOf", desc := "([Ljava/lang/Object;ILjava/lang/Class;)[Ljava/lang/Object;", sig := { parameters := [(.array (.object "java/lang/Object")), .int, (.object "java/lang/Class")], returnType := some (.array (.object "java/lang/Object")) }, accessFlags := 9, code := some k27c2 }
/-- java/util/Arrays -/
def k27 : Class := { plain "java/util/Arrays" (some 0) with
  accessFlags := 49
  interfaces := #[]
  cf := some (fileOf pool27 14 #[.nestMembers #[975, 375, 113, 74]] #[{ accessFlags := 2, nameIndex := 5, descriptorIndex := 6, attributes := #[] }, { accessFlags := 9, nameIndex := 302, descriptorIndex := 860, attributes := #[] }, { accessFlags := 9, nameIndex := 302, descriptorIndex := 303, attributes := #[] }] 49 2 #[] #[{ accessFlags := 26, nameIndex := 715, descriptorIndex := 716, attributes := #[] }, { accessFlags := 26, nameIndex := 719, descriptorIndex := 716, attributes := #[] }, { accessFlags := 4120, nameIndex := 445, descriptorIndex := 117, attributes := #[] }])
  fields := #[{ name := "MIN_ARRAY_SORT_GRAN", type := .int, accessFlags := 26, slot := 0, constantValue := 0 }, { name := "INSERTIONSORT_THRESHOLD", type := .int, accessFlags := 26, slot := 1, constantValue := 0 }, { name := "$assertionsDisabled", type := .boolean, accessFlags := 4120, slot := 2, constantValue := 0 }]
  methods := #[k27m0, k27m1, k27m2]
  instanceTypes := #[]
  staticTypes := #[.int, .int, .boolean]
  resolved := Array.replicate 1029 none
  statics := none }

def pool28 : Array CpInfo := pool [(2, .class_ 4), (1, u "java/lang/Object"), (0, u "<init>"), (0, u "()V"), (1, .class_ 10), (1, u "java/lang/System"), (0, u "allowSecurityManager"), (0, u "I"), (16, u "cons"), (0, u "Ljava/io/Console;"), (77, .class_ 110), (1, u "java/lang/System$CallersHolder"), (43, u "initialErrStream"), (0, u "Ljava/io/PrintStream;"), (19, u "security"), (0, u "Ljava/lang/SecurityManager;"), (31, .class_ 209), (0, u "java/lang/System$1"), (7, u "props"), (0, u "Ljava/util/Properties;"), (2, u "lineSeparator"), (0, u "Ljava/lang/String;"), (96, .class_ 321), (1, u "java/lang/System$LoggerFinder"), (5, .class_ 328), (0, u "java/lang/System$Logger"), (67, u "err"), (2, u "out"), (91, u "notSupportedJnuEncoding"), (15, u "in"), (17, u "initialIn"), (0, u "Ljava/io/InputStream;"), (35, u "bootLayer"), (0, u "Ljava/lang/ModuleLayer;"), (99, .class_ 664), (0, u "java/lang/System$2"), (9, u "NEVER"), (2, u "MAYBE"), (49, u "arraycopy"), (0, u "(Ljava/lang/Object;ILjava/lang/Object;II)V"), (72, .class_ 802), (0, u "java/lang/System$Logger$Level")] 31

def k28m0 : Method := { name := "<init>", desc := "()V", sig := { parameters := [], returnType := none }, accessFlags := 2, code := none }
def k28m1 : Method := { name := "arraycopy", desc := "(Ljava/lang/Object;ILjava/lang/Object;II)V", sig := { parameters := [(.object "java/lang/Object"), .int, (.object "java/lang/Object"), .int, .int], returnType := none }, accessFlags := 265, code := none }
/-- java/lang/System -/
def k28 : Class := { plain "java/lang/System" (some 0) with
  accessFlags := 49
  interfaces := #[]
  cf := some (fileOf pool28 8 #[.nestMembers #[319, 327, 801, 108, 663, 208]] #[{ accessFlags := 2, nameIndex := 5, descriptorIndex := 6, attributes := #[] }, { accessFlags := 265, nameIndex := 727, descriptorIndex := 728, attributes := #[] }] 49 2 #[] #[{ accessFlags := 25, nameIndex := 507, descriptorIndex := 526, attributes := #[] }, { accessFlags := 25, nameIndex := 399, descriptorIndex := 155, attributes := #[] }, { accessFlags := 25, nameIndex := 396, descriptorIndex := 155, attributes := #[] }, { accessFlags := 10, nameIndex := 525, descriptorIndex := 526, attributes := #[] }, { accessFlags := 26, nameIndex := 674, descriptorIndex := 12, attributes := #[] }, { accessFlags := 26, nameIndex := 677, descriptorIndex := 12, attributes := #[] }, { accessFlags := 10, nameIndex := 11, descriptorIndex := 12, attributes := #[] }, { accessFlags := 74, nameIndex := 175, descriptorIndex := 176, attributes := #[] }, { accessFlags := 10, nameIndex := 491, descriptorIndex := 222, attributes := #[] }, { accessFlags := 74, nameIndex := 29, descriptorIndex := 30, attributes := #[] }, { accessFlags := 74, nameIndex := 154, descriptorIndex := 155, attributes := #[] }, { accessFlags := 10, nameIndex := 217, descriptorIndex := 218, attributes := #[] }, { accessFlags := 10, nameIndex := 221, descriptorIndex := 222, attributes := #[] }, { accessFlags := 8, nameIndex := 562, descriptorIndex := 563, attributes := #[] }])
  fields := #[{ name := "in", type := (.object "java/io/InputStream"), accessFlags := 25, slot := 0, constantValue := 0 }, { name := "out", type := (.object "java/io/PrintStream"), accessFlags := 25, slot := 1, constantValue := 0 }, { name := "err", type := (.object "java/io/PrintStream"), accessFlags := 25, slot := 2, constantValue := 0 }, { name := "initialIn", type := (.object "java/io/InputStream"), accessFlags := 10, slot := 3, constantValue := 0 }, { name := "NEVER", type := .int, accessFlags := 26, slot := 4, constantValue := 0 }, { name := "MAYBE", type := .int, accessFlags := 26, slot := 5, constantValue := 0 }, { name := "allowSecurityManager", type := .int, accessFlags := 10, slot := 6, constantValue := 0 }, { name := "security", type := (.object "java/lang/SecurityManager"), accessFlags := 74, slot := 7, constantValue := 0 }, { name := "notSupportedJnuEncoding", type := (.object "java/lang/String"), accessFlags := 10, slot := 8, constantValue := 0 }, { name := "cons", type := (.object "java/io/Console"), accessFlags := 74, slot := 9, constantValue := 0 }, { name := "initialErrStream", type := (.object "java/io/PrintStream"), accessFlags := 74, slot := 10, constantValue := 0 }, { name := "props", type := (.object "java/util/Properties"), accessFlags := 10, slot := 11, constantValue := 0 }, { name := "lineSeparator", type := (.object "java/lang/String"), accessFlags := 10, slot := 12, constantValue := 0 }, { name := "bootLayer", type := (.object "java/lang/ModuleLayer"), accessFlags := 8, slot := 13, constantValue := 0 }]
  methods := #[k28m0, k28m1]
  instanceTypes := #[]
  staticTypes := #[(.object "java/io/InputStream"), (.object "java/io/PrintStream"), (.object "java/io/PrintStream"), (.object "java/io/InputStream"), .int, .int, .int, (.object "java/lang/SecurityManager"), (.object "java/lang/String"), (.object "java/io/Console"), (.object "java/io/PrintStream"), (.object "java/util/Properties"), (.object "java/lang/String"), (.object "java/lang/ModuleLayer")]
  resolved := Array.replicate 834 none
  statics := none }

def pool29 : Array CpInfo := pool [(2, .class_ 4), (1, u "java/lang/Object"), (0, u "<init>"), (0, u "()V"), (35, .class_ 44), (1, u "java/util/Objects"), (0, u "requireNonNull"), (0, u "(Ljava/lang/Object;)Ljava/lang/Object;")] 137

def k29m0 : Method := { name := "<init>", desc := "()V", sig := { parameters := [], returnType := none }, accessFlags := 2, code := none }
def k29c1 : Code := { maxStack := 2, maxLocals := 1, code := jdk_31_method_10_code, exceptionTable := #[], attributes := #[] }
def k29m1 : Method := { name := "requireNonNull", desc := "(Ljava/lang/Object;)Ljava/lang/Object;", sig := { parameters := [(.object "java/lang/Object")], returnType := some (.object "java/lang/Object") }, accessFlags := 9, code := some k29c1 }
/-- java/util/Objects -/
def k29 : Class := { plain "java/util/Objects" (some 0) with
  accessFlags := 49
  interfaces := #[]
  cf := some (fileOf pool29 42 #[] #[{ accessFlags := 2, nameIndex := 5, descriptorIndex := 6, attributes := #[] }, { accessFlags := 9, nameIndex := 45, descriptorIndex := 46, attributes := #[] }] 49 2 #[] #[])
  fields := #[]
  methods := #[k29m0, k29m1]
  instanceTypes := #[]
  staticTypes := #[]
  resolved := Array.replicate 184 none
  statics := none }

def pool30 : Array CpInfo := pool [(2, .class_ 4), (1, u "java/lang/Object"), (0, u "<init>"), (0, u "()V"), (17, .class_ 26), (1, u "jdk/internal/util/Preconditions"), (28, .class_ 56), (0, u "jdk/internal/util/Preconditions$4"), (57, .class_ 115), (0, u "jdk/internal/util/Preconditions$1"), (7, u "SIOOBE_FORMATTER"), (0, u "Ljava/util/function/BiFunction;"), (0, .class_ 126), (0, u "jdk/internal/util/Preconditions$2"), (3, u "AIOOBE_FORMATTER"), (0, .class_ 132), (0, u "jdk/internal/util/Preconditions$3"), (3, u "IOOBE_FORMATTER")] 57

def k30m0 : Method := { name := "<init>", desc := "()V", sig := { parameters := [], returnType := none }, accessFlags := 1, code := none }
/-- jdk/internal/util/Preconditions -/
def k30 : Class := { plain "jdk/internal/util/Preconditions" (some 0) with
  accessFlags := 33
  interfaces := #[]
  cf := some (fileOf pool30 24 #[.nestMembers #[55, 131, 125, 114]] #[{ accessFlags := 1, nameIndex := 5, descriptorIndex := 6, attributes := #[] }] 33 2 #[] #[{ accessFlags := 25, nameIndex := 123, descriptorIndex := 124, attributes := #[] }, { accessFlags := 25, nameIndex := 130, descriptorIndex := 124, attributes := #[] }, { accessFlags := 25, nameIndex := 136, descriptorIndex := 124, attributes := #[] }])
  fields := #[{ name := "SIOOBE_FORMATTER", type := (.object "java/util/function/BiFunction"), accessFlags := 25, slot := 0, constantValue := 0 }, { name := "AIOOBE_FORMATTER", type := (.object "java/util/function/BiFunction"), accessFlags := 25, slot := 1, constantValue := 0 }, { name := "IOOBE_FORMATTER", type := (.object "java/util/function/BiFunction"), accessFlags := 25, slot := 2, constantValue := 0 }]
  methods := #[k30m0]
  instanceTypes := #[]
  staticTypes := #[(.object "java/util/function/BiFunction"), (.object "java/util/function/BiFunction"), (.object "java/util/function/BiFunction")]
  resolved := Array.replicate 194 none
  statics := some 3 }

def pool31 : Array CpInfo := pool [(9, u "<init>"), (6, .class_ 18), (1, u "java/lang/Object"), (0, u "()V"), (1, .class_ 23), (1, u "jdk/internal/util/ArraysSupport"), (0, u "LOG2_ARRAY_LONG_INDEX_SCALE"), (0, u "I"), (2, u "U"), (0, u "Ljdk/internal/misc/Unsafe;"), (8, u "BIG_ENDIAN"), (0, u "Z"), (8, u "LOG2_BYTE_BIT_SIZE"), (4, u "LOG2_ARRAY_INT_INDEX_SCALE"), (54, u "JLA"), (0, u "Ljdk/internal/access/JavaLangAccess;"), (11, u "LOG2_ARRAY_BOOLEAN_INDEX_SCALE"), (9, u "LOG2_ARRAY_BYTE_INDEX_SCALE"), (5, u "LOG2_ARRAY_CHAR_INDEX_SCALE"), (5, u "LOG2_ARRAY_SHORT_INDEX_SCALE"), (18, u "LOG2_ARRAY_FLOAT_INDEX_SCALE"), (24, u "LOG2_ARRAY_DOUBLE_INDEX_SCALE"), (89, u "T_BOOLEAN"), (2, u "T_CHAR"), (1, u "T_FLOAT"), (1, u "T_DOUBLE"), (1, u "T_BYTE"), (1, u "T_SHORT"), (1, u "T_INT"), (1, u "T_LONG"), (1, u "SOFT_MAX_ARRAY_LENGTH")] 83

def k31m0 : Method := { name := "<init>", desc := "()V", sig := { parameters := [], returnType := none }, accessFlags := 2, code := none }
/-- jdk/internal/util/ArraysSupport -/
def k31 : Class := { plain "jdk/internal/util/ArraysSupport" (some 0) with
  accessFlags := 33
  interfaces := #[]
  cf := some (fileOf pool31 21 #[] #[{ accessFlags := 2, nameIndex := 9, descriptorIndex := 19, attributes := #[] }] 33 16 #[] #[{ accessFlags := 24, nameIndex := 28, descriptorIndex := 29, attributes := #[] }, { accessFlags := 26, nameIndex := 38, descriptorIndex := 39, attributes := #[] }, { accessFlags := 25, nameIndex := 121, descriptorIndex := 25, attributes := #[] }, { accessFlags := 25, nameIndex := 131, descriptorIndex := 25, attributes := #[] }, { accessFlags := 25, nameIndex := 137, descriptorIndex := 25, attributes := #[] }, { accessFlags := 25, nameIndex := 143, descriptorIndex := 25, attributes := #[] }, { accessFlags := 25, nameIndex := 53, descriptorIndex := 25, attributes := #[] }, { accessFlags := 25, nameIndex := 24, descriptorIndex := 25, attributes := #[] }, { accessFlags := 25, nameIndex := 162, descriptorIndex := 25, attributes := #[] }, { accessFlags := 25, nameIndex := 187, descriptorIndex := 25, attributes := #[] }, { accessFlags := 26, nameIndex := 48, descriptorIndex := 25, attributes := #[] }, { accessFlags := 25, nameIndex := 277, descriptorIndex := 25, attributes := #[] }, { accessFlags := 25, nameIndex := 280, descriptorIndex := 25, attributes := #[] }, { accessFlags := 25, nameIndex := 282, descriptorIndex := 25, attributes := #[] }, { accessFlags := 25, nameIndex := 284, descriptorIndex := 25, attributes := #[] }, { accessFlags := 25, nameIndex := 286, descriptorIndex := 25, attributes := #[] }, { accessFlags := 25, nameIndex := 288, descriptorIndex := 25, attributes := #[] }, { accessFlags := 25, nameIndex := 290, descriptorIndex := 25, attributes := #[] }, { accessFlags := 25, nameIndex := 292, descriptorIndex := 25, attributes := #[] }, { accessFlags := 26, nameIndex := 108, descriptorIndex := 109, attributes := #[] }, { accessFlags := 25, nameIndex := 294, descriptorIndex := 25, attributes := #[] }])
  fields := #[{ name := "U", type := (.object "jdk/internal/misc/Unsafe"), accessFlags := 24, slot := 0, constantValue := 0 }, { name := "BIG_ENDIAN", type := .boolean, accessFlags := 26, slot := 1, constantValue := 0 }, { name := "LOG2_ARRAY_BOOLEAN_INDEX_SCALE", type := .int, accessFlags := 25, slot := 2, constantValue := 0 }, { name := "LOG2_ARRAY_BYTE_INDEX_SCALE", type := .int, accessFlags := 25, slot := 3, constantValue := 0 }, { name := "LOG2_ARRAY_CHAR_INDEX_SCALE", type := .int, accessFlags := 25, slot := 4, constantValue := 0 }, { name := "LOG2_ARRAY_SHORT_INDEX_SCALE", type := .int, accessFlags := 25, slot := 5, constantValue := 0 }, { name := "LOG2_ARRAY_INT_INDEX_SCALE", type := .int, accessFlags := 25, slot := 6, constantValue := 0 }, { name := "LOG2_ARRAY_LONG_INDEX_SCALE", type := .int, accessFlags := 25, slot := 7, constantValue := 0 }, { name := "LOG2_ARRAY_FLOAT_INDEX_SCALE", type := .int, accessFlags := 25, slot := 8, constantValue := 0 }, { name := "LOG2_ARRAY_DOUBLE_INDEX_SCALE", type := .int, accessFlags := 25, slot := 9, constantValue := 0 }, { name := "LOG2_BYTE_BIT_SIZE", type := .int, accessFlags := 26, slot := 10, constantValue := 0 }, { name := "T_BOOLEAN", type := .int, accessFlags := 25, slot := 11, constantValue := 0 }, { name := "T_CHAR", type := .int, accessFlags := 25, slot := 12, constantValue := 0 }, { name := "T_FLOAT", type := .int, accessFlags := 25, slot := 13, constantValue := 0 }, { name := "T_DOUBLE", type := .int, accessFlags := 25, slot := 14, constantValue := 0 }, { name := "T_BYTE", type := .int, accessFlags := 25, slot := 15, constantValue := 0 }, { name := "T_SHORT", type := .int, accessFlags := 25, slot := 16, constantValue := 0 }, { name := "T_INT", type := .int, accessFlags := 25, slot := 17, constantValue := 0 }, { name := "T_LONG", type := .int, accessFlags := 25, slot := 18, constantValue := 0 }, { name := "JLA", type := (.object "jdk/internal/access/JavaLangAccess"), accessFlags := 26, slot := 19, constantValue := 0 }, { name := "SOFT_MAX_ARRAY_LENGTH", type := .int, accessFlags := 25, slot := 20, constantValue := 0 }]
  methods := #[k31m0]
  instanceTypes := #[]
  staticTypes := #[(.object "jdk/internal/misc/Unsafe"), .boolean, .int, .int, .int, .int, .int, .int, .int, .int, .int, .int, .int, .int, .int, .int, .int, .int, .int, (.object "jdk/internal/access/JavaLangAccess"), .int]
  resolved := Array.replicate 378 none
  statics := none }

/-- the primitive byte -/
def k32 : Class := { plain "byte" none with kind := .primitive 'B', accessFlags := 0x411 }
/-- [B -/
def k33 : Class := { plain "[B" (some 0) with kind := .array 32 .byte, interfaces := #[18, 2], accessFlags := 1041 }

/-- the primitive int -/
def k34 : Class := { plain "int" none with kind := .primitive 'I', accessFlags := 0x411 }
/-- [I -/
def k35 : Class := { plain "[I" (some 0) with kind := .array 34 .int, interfaces := #[18, 2], accessFlags := 1041 }

/-- [Ljava/lang/Object; -/
def k36 : Class := { plain "[Ljava/lang/Object;" (some 0) with kind := .array 0 (.object "java/lang/Object"), interfaces := #[18, 2], accessFlags := 1041, mirror := some 9 }

def heap : Heap := #[{ cls := 7, slots := #[.long 0, .int 1, .null, .int 0, .null, .int 0, .int 0], vm := .statics 7 },
  { cls := 19, slots := #[.long 0, .int 0, .ref 6, .ref 7], vm := .statics 19 },
  { cls := 22, slots := #[.long 0, .int 0, .null, .ref 8, .ref 5, .null, .null, .null, .int 0, .int 1], vm := .statics 22 },
  { cls := 30, slots := #[.null, .null, .null], vm := .statics 30 },
  { cls := 36, slots := #[], vm := .none },
  { cls := 26, slots := #[.ref 4, .int 0], vm := .none },
  { cls := 36, slots := #[], vm := .none },
  { cls := 36, slots := #[], vm := .none },
  { cls := 0, slots := #[], vm := .none },
  { cls := 0, slots := #[], vm := .mirror 36 }]
def classes : Array Class := #[k0, k1, k2, k3, k4, k5, k6, k7, k8, k9, k10, k11, k12, k13, k14, k15, k16, k17, k18, k19, k20, k21, k22, k23, k24, k25, k26, k27, k28, k29, k30, k31, k32, k33, k34, k35, k36]
def interned : List (Array UInt16 × Addr) := []
def slotsUsed : Nat := 26
def theMethod : MethodId := ⟨1, 1⟩
def args0 : Array Value := #[.int 2, .int 5, .int 65]
def aboutOver (below : List Frame) : State where
  vm := { classes := classes, interned := interned.toArray }
  heap := heap
  slotsUsed := slotsUsed
  threads := #[{ frames := .invoking theMethod args0 :: below }]
def below0 : List Frame := [.native { method := ⟨0, 0⟩, args := #[] }]
def about1 : State := aboutOver below0
def p0 : Program := .bare "" "" ""
def e0 : Env := launch0.env 0 0 0
theorem w_frames : about1.frames = Frame.invoking theMethod args0 :: below0 := rfl
set_option maxRecDepth 65536 in
theorem w_args : argsFit about1.vm theMethod args0 = true := by decide +kernel
set_option maxRecDepth 65536 in
theorem w_heap : heapFits about1 = true := by decide +kernel
set_option maxRecDepth 65536 in
theorem w_runnable : about1.curStatus? = some .runnable := by decide +kernel
set_option maxRecDepth 65536 in
theorem w_alone : about1.alone = true := by decide +kernel
set_option maxRecDepth 65536 in
theorem w_named : about1.methodNamed? x = some theMethod := by decide +kernel
set_option maxRecDepth 65536 in
theorem w_hears : about1.hears theMethod below0 = true := by decide +kernel
set_option maxRecDepth 65536 in
theorem w_ripe : about1.ripe theMethod args0 below0 = true := by decide +kernel
theorem w_running : about1.status = .running := rfl
set_option maxRecDepth 65536 in
theorem w_room : about1.hasRoom e0.platform room_1 = true :=
  launch0.hasRoom_least _ room_1 (by decide +kernel) (by decide +kernel) (by decide +kernel) (by decide +kernel) (by decide +kernel) (by decide +kernel)
theorem allAtoms_all (ts : List Jvm.Cond) (a : Array Jvm.Value) (st : Jvm.State) : (allAtoms ts).before a st = ts.all (fun c => c.before a st) := by
  induction ts with
  | nil => rfl
  | cons c t ih =>
    show (Jvm.Cond.and c (allAtoms t)).before a st = _
    rw [Jvm.Cond.before_and, ih, List.all_cons]
def words1 : List Jvm.Cond := Jvm.Cond.code x code maxLocals ret :: tables_1
/-- a 'code' word, met by the world's own term for the bytes: nothing is compared byte by byte -/
theorem code_word {y : MethodName} {bytes : ByteArray} {mx : Nat} {rt : Option FieldType} {a : Array Value} {s : State} {m : MethodId} {meth : Method} {c : Code} (h1 : s.methodNamed? y = some m) (h2 : s.vm.method? m = some meth) (h3 : meth.code = some c) (h4 : c.code = bytes)
    (h5 : (c.maxLocals == mx && c.exceptionTable.isEmpty && decide (c.maxStack ≤ mostOperands) && decide (meth.sig.returnType = rt) && !meth.locks && decide (parseMethodDescriptor y.desc = some meth.sig)) = true) : (Jvm.Cond.code y bytes mx rt).before a s = true := by
  simp only [Bool.and_eq_true, beq_iff_eq, Bool.not_eq_true', decide_eq_true_eq] at h5
  obtain ⟨⟨⟨⟨⟨g1, g2⟩, g3⟩, g4⟩, g5⟩, g6⟩ := h5
  simp [Cond.before, Cond.holds, Cond.value, h1, h2, h3, h4, g1, g2, g3, g4, g5, g6]
def isCode : Jvm.Cond → Bool
  | .code _ _ _ _ => true
  | _ => false
theorem all_split {L : List Jvm.Cond} {P : Jvm.Cond → Bool} (h1 : L.all (fun c => isCode c || P c) = true) (h2 : ∀ c ∈ L.filter isCode, P c = true) : L.all P = true := by
  refine List.all_eq_true.mpr fun c hc => ?_
  have h := List.all_eq_true.mp h1 c hc
  rcases Bool.eq_false_or_eq_true (isCode c) with hi | hi
  · exact h2 c (List.mem_filter.mpr ⟨hc, hi⟩)
  · simpa [hi] using h
set_option maxRecDepth 65536 in
theorem w_c0 : (Jvm.Cond.code x code maxLocals ret).before args0 about1 = true := code_word (m := ⟨1, 1⟩) (meth := k1m1) (c := k1c1) (by decide +kernel) rfl rfl rfl (by decide +kernel)
set_option maxRecDepth 65536 in
theorem w_c1 : (Jvm.Cond.code ({ cls := "java/lang/String", name := "valueOf", desc := "(C)Ljava/lang/String;" } : Jvm.MethodName) jdk_42_method_139_code (1 : Nat) (Option.some (Jvm.ClassFile.FieldType.object "java/lang/String"))).before args0 about1 = true := code_word (m := ⟨7, 1⟩) (meth := k7m1) (c := k7c1) (by decide +kernel) rfl rfl rfl (by decide +kernel)
set_option maxRecDepth 65536 in
theorem w_c2 : (Jvm.Cond.code ({ cls := "java/lang/StringLatin1", name := "canEncode", desc := "(C)Z" } : Jvm.MethodName) jdk_43_method_3_code (1 : Nat) (Option.some Jvm.ClassFile.FieldType.boolean)).before args0 about1 = true := code_word (m := ⟨8, 1⟩) (meth := k8m1) (c := k8c1) (by decide +kernel) rfl rfl rfl (by decide +kernel)
set_option maxRecDepth 65536 in
theorem w_c3 : (Jvm.Cond.code ({ cls := "java/lang/StringLatin1", name := "toBytes", desc := "(C)[B" } : Jvm.MethodName) jdk_43_method_46_code (1 : Nat) (Option.some (Jvm.ClassFile.FieldType.array Jvm.ClassFile.FieldType.byte))).before args0 about1 = true := code_word (m := ⟨8, 2⟩) (meth := k8m2) (c := k8c2) (by decide +kernel) rfl rfl rfl (by decide +kernel)
set_option maxRecDepth 65536 in
theorem w_c4 : (Jvm.Cond.code ({ cls := "java/lang/String", name := "<init>", desc := "([BB)V" } : Jvm.MethodName) jdk_42_method_151_code (3 : Nat) (Option.none : Option Jvm.ClassFile.FieldType)).before args0 about1 = true := code_word (m := ⟨7, 2⟩) (meth := k7m2) (c := k7c2) (by decide +kernel) rfl rfl rfl (by decide +kernel)
set_option maxRecDepth 65536 in
theorem w_c5 : (Jvm.Cond.code ({ cls := "java/lang/Object", name := "<init>", desc := "()V" } : Jvm.MethodName) object_method_1_code (1 : Nat) (Option.none : Option Jvm.ClassFile.FieldType)).before args0 about1 = true := code_word (m := ⟨0, 0⟩) (meth := k0m0) (c := k0c0) (by decide +kernel) rfl rfl rfl (by decide +kernel)
set_option maxRecDepth 65536 in
theorem w_c6 : (Jvm.Cond.code ({ cls := "com/example/plumbline/plumbline/Grade", name := "<init>", desc := "(Ljava/lang/String;Ljava/lang/String;)V" } : Jvm.MethodName) prog_31_method_1_code (3 : Nat) (Option.none : Option Jvm.ClassFile.FieldType)).before args0 about1 = true := code_word (m := ⟨9, 0⟩) (meth := k9m0) (c := k9c0) (by decide +kernel) rfl rfl rfl (by decide +kernel)
set_option maxRecDepth 65536 in
theorem w_c7 : (Jvm.Cond.code ({ cls := "com/example/plumbline/plumbline/Band", name := "<init>", desc := "(Lcom/example/plumbline/plumbline/Points;ZLcom/example/plumbline/plumbline/Points;ZLjava/lang/Object;)V" } : Jvm.MethodName) prog_6_method_1_code (6 : Nat) (Option.none : Option Jvm.ClassFile.FieldType)).before args0 about1 = true := code_word (m := ⟨10, 0⟩) (meth := k10m0) (c := k10c0) (by decide +kernel) rfl rfl rfl (by decide +kernel)
set_option maxRecDepth 65536 in
theorem w_c8 : (Jvm.Cond.code ({ cls := "java/util/ArrayList", name := "<init>", desc := "()V" } : Jvm.MethodName) jdk_38_method_2_code (1 : Nat) (Option.none : Option Jvm.ClassFile.FieldType)).before args0 about1 = true := code_word (m := ⟨19, 0⟩) (meth := k19m0) (c := k19c0) (by decide +kernel) rfl rfl rfl (by decide +kernel)
set_option maxRecDepth 65536 in
theorem w_c9 : (Jvm.Cond.code ({ cls := "java/util/AbstractList", name := "<init>", desc := "()V" } : Jvm.MethodName) jdk_39_method_1_code (1 : Nat) (Option.none : Option Jvm.ClassFile.FieldType)).before args0 about1 = true := code_word (m := ⟨16, 0⟩) (meth := k16m0) (c := k16c0) (by decide +kernel) rfl rfl rfl (by decide +kernel)
set_option maxRecDepth 65536 in
theorem w_c10 : (Jvm.Cond.code ({ cls := "java/util/AbstractCollection", name := "<init>", desc := "()V" } : Jvm.MethodName) jdk_22_method_1_code (1 : Nat) (Option.none : Option Jvm.ClassFile.FieldType)).before args0 about1 = true := code_word (m := ⟨13, 0⟩) (meth := k13m0) (c := k13c0) (by decide +kernel) rfl rfl rfl (by decide +kernel)
set_option maxRecDepth 65536 in
theorem w_c11 : (Jvm.Cond.code ({ cls := "java/util/ArrayList", name := "add", desc := "(Ljava/lang/Object;)Z" } : Jvm.MethodName) jdk_38_method_25_code (2 : Nat) (Option.some Jvm.ClassFile.FieldType.boolean)).before args0 about1 = true := code_word (m := ⟨19, 6⟩) (meth := k19m6) (c := k19c6) (by decide +kernel) rfl rfl rfl (by decide +kernel)
set_option maxRecDepth 65536 in
theorem w_c12 : (Jvm.Cond.code ({ cls := "java/util/ArrayList", name := "add", desc := "(Ljava/lang/Object;[Ljava/lang/Object;I)V" } : Jvm.MethodName) jdk_38_method_24_code (4 : Nat) (Option.none : Option Jvm.ClassFile.FieldType)).before args0 about1 = true := code_word (m := ⟨19, 5⟩) (meth := k19m5) (c := k19c5) (by decide +kernel) rfl rfl rfl (by decide +kernel)
set_option maxRecDepth 65536 in
theorem w_c13 : (Jvm.Cond.code ({ cls := "java/util/ArrayList", name := "grow", desc := "()[Ljava/lang/Object;" } : Jvm.MethodName) jdk_38_method_7_code (1 : Nat) (Option.some (Jvm.ClassFile.FieldType.array (Jvm.ClassFile.FieldType.object "java/lang/Object")))).before args0 about1 = true := code_word (m := ⟨19, 2⟩) (meth := k19m2) (c := k19c2) (by decide +kernel) rfl rfl rfl (by decide +kernel)
set_option maxRecDepth 65536 in
theorem w_c14 : (Jvm.Cond.code ({ cls := "java/util/ArrayList", name := "grow", desc := "(I)[Ljava/lang/Object;" } : Jvm.MethodName) jdk_38_method_6_code (4 : Nat) (Option.some (Jvm.ClassFile.FieldType.array (Jvm.ClassFile.FieldType.object "java/lang/Object")))).before args0 about1 = true := code_word (m := ⟨19, 1⟩) (meth := k19m1) (c := k19c1) (by decide +kernel) rfl rfl rfl (by decide +kernel)
set_option maxRecDepth 65536 in
theorem w_c15 : (Jvm.Cond.code ({ cls := "java/lang/Math", name := "max", desc := "(II)I" } : Jvm.MethodName) jdk_29_method_65_code (2 : Nat) (Option.some Jvm.ClassFile.FieldType.int)).before args0 about1 = true := code_word (m := ⟨20, 1⟩) (meth := k20m1) (c := k20c1) (by decide +kernel) rfl rfl rfl (by decide +kernel)
set_option maxRecDepth 65536 in
theorem w_c16 : (Jvm.Cond.code ({ cls := "com/example/plumbline/plumbline/Grades", name := "<init>", desc := "(Ljava/util/List;Ljava/util/List;)V" } : Jvm.MethodName) prog_32_method_1_code (3 : Nat) (Option.none : Option Jvm.ClassFile.FieldType)).before args0 about1 = true := code_word (m := ⟨21, 0⟩) (meth := k21m0) (c := k21c0) (by decide +kernel) rfl rfl rfl (by decide +kernel)
set_option maxRecDepth 65536 in
theorem w_c17 : (Jvm.Cond.code ({ cls := "java/util/List", name := "copyOf", desc := "(Ljava/util/Collection;)Ljava/util/List;" } : Jvm.MethodName) jdk_40_method_48_code (1 : Nat) (Option.some (Jvm.ClassFile.FieldType.object "java/util/List"))).before args0 about1 = true := code_word (m := ⟨15, 4⟩) (meth := k15m4) (c := k15c4) (by decide +kernel) rfl rfl rfl (by decide +kernel)
set_option maxRecDepth 65536 in
theorem w_c18 : (Jvm.Cond.code ({ cls := "java/util/ImmutableCollections", name := "listCopy", desc := "(Ljava/util/Collection;)Ljava/util/List;" } : Jvm.MethodName) jdk_56_method_3_code (2 : Nat) (Option.some (Jvm.ClassFile.FieldType.object "java/util/List"))).before args0 about1 = true := code_word (m := ⟨22, 1⟩) (meth := k22m1) (c := k22c1) (by decide +kernel) rfl rfl rfl (by decide +kernel)
set_option maxRecDepth 65536 in
theorem w_c19 : (Jvm.Cond.code ({ cls := "java/util/ArrayList", name := "isEmpty", desc := "()Z" } : Jvm.MethodName) jdk_38_method_9_code (1 : Nat) (Option.some Jvm.ClassFile.FieldType.boolean)).before args0 about1 = true := code_word (m := ⟨19, 3⟩) (meth := k19m3) (c := k19c3) (by decide +kernel) rfl rfl rfl (by decide +kernel)
set_option maxRecDepth 65536 in
theorem w_c20 : (Jvm.Cond.code ({ cls := "java/util/List", name := "of", desc := "()Ljava/util/List;" } : Jvm.MethodName) jdk_40_method_36_code (0 : Nat) (Option.some (Jvm.ClassFile.FieldType.object "java/util/List"))).before args0 about1 = true := code_word (m := ⟨15, 2⟩) (meth := k15m2) (c := k15c2) (by decide +kernel) rfl rfl rfl (by decide +kernel)
set_option maxRecDepth 65536 in
theorem w_c21 : (Jvm.Cond.code ({ cls := "java/util/ArrayList", name := "toArray", desc := "()[Ljava/lang/Object;" } : Jvm.MethodName) jdk_38_method_16_code (1 : Nat) (Option.some (Jvm.ClassFile.FieldType.array (Jvm.ClassFile.FieldType.object "java/lang/Object")))).before args0 about1 = true := code_word (m := ⟨19, 4⟩) (meth := k19m4) (c := k19c4) (by decide +kernel) rfl rfl rfl (by decide +kernel)
set_option maxRecDepth 65536 in
theorem w_c22 : (Jvm.Cond.code ({ cls := "java/util/Arrays", name := "copyOf", desc := "([Ljava/lang/Object;I)[Ljava/lang/Object;" } : Jvm.MethodName) jdk_65_method_119_code (2 : Nat) (Option.some (Jvm.ClassFile.FieldType.array (Jvm.ClassFile.FieldType.object "java/lang/Object")))).before args0 about1 = true := code_word (m := ⟨27, 1⟩) (meth := k27m1) (c := k27c1) (by decide +kernel) rfl rfl rfl (by decide +kernel)
set_option maxRecDepth 65536 in
theorem w_c23 : (Jvm.Cond.code ({ cls := "java/util/Arrays", name := "copyOf", desc := "([Ljava/lang/Object;ILjava/lang/Class;)[Ljava/lang/Object;" } : Jvm.MethodName) jdk_65_method_120_code (4 : Nat) (Option.some (Jvm.ClassFile.FieldType.array (Jvm.ClassFile.FieldType.object "java/lang/Object")))).before args0 about1 = true := code_word (m := ⟨27, 2⟩) (meth := k27m2) (c := k27c2) (by decide +kernel) rfl rfl rfl (by decide +kernel)
set_option maxRecDepth 65536 in
theorem w_c24 : (Jvm.Cond.code ({ cls := "java/lang/Math", name := "min", desc := "(II)I" } : Jvm.MethodName) jdk_29_method_69_code (2 : Nat) (Option.some Jvm.ClassFile.FieldType.int)).before args0 about1 = true := code_word (m := ⟨20, 2⟩) (meth := k20m2) (c := k20c2) (by decide +kernel) rfl rfl rfl (by decide +kernel)
set_option maxRecDepth 65536 in
theorem w_c25 : (Jvm.Cond.code ({ cls := "java/util/List", name := "of", desc := "([Ljava/lang/Object;)Ljava/util/List;" } : Jvm.MethodName) jdk_40_method_47_code (2 : Nat) (Option.some (Jvm.ClassFile.FieldType.object "java/util/List"))).before args0 about1 = true := code_word (m := ⟨15, 3⟩) (meth := k15m3) (c := k15c3) (by decide +kernel) rfl rfl rfl (by decide +kernel)
set_option maxRecDepth 65536 in
theorem w_c26 : (Jvm.Cond.code ({ cls := "java/util/ImmutableCollections", name := "listFromArray", desc := "([Ljava/lang/Object;)Ljava/util/List;" } : Jvm.MethodName) jdk_56_method_4_code (3 : Nat) (Option.some (Jvm.ClassFile.FieldType.object "java/util/List"))).before args0 about1 = true := code_word (m := ⟨22, 2⟩) (meth := k22m2) (c := k22c2) (by decide +kernel) rfl rfl rfl (by decide +kernel)
set_option maxRecDepth 65536 in
theorem w_c27 : (Jvm.Cond.code ({ cls := "java/util/Objects", name := "requireNonNull", desc := "(Ljava/lang/Object;)Ljava/lang/Object;" } : Jvm.MethodName) jdk_31_method_10_code (1 : Nat) (Option.some (Jvm.ClassFile.FieldType.object "java/lang/Object"))).before args0 about1 = true := code_word (m := ⟨29, 1⟩) (meth := k29m1) (c := k29c1) (by decide +kernel) rfl rfl rfl (by decide +kernel)
set_option maxRecDepth 65536 in
theorem w_c28 : (Jvm.Cond.code ({ cls := "java/util/ImmutableCollections$ListN", name := "<init>", desc := "([Ljava/lang/Object;Z)V" } : Jvm.MethodName) jdk_45_method_1_code (3 : Nat) (Option.none : Option Jvm.ClassFile.FieldType)).before args0 about1 = true := code_word (m := ⟨26, 0⟩) (meth := k26m0) (c := k26c0) (by decide +kernel) rfl rfl rfl (by decide +kernel)
set_option maxRecDepth 65536 in
theorem w_c29 : (Jvm.Cond.code ({ cls := "java/util/ImmutableCollections$AbstractImmutableList", name := "<init>", desc := "()V" } : Jvm.MethodName) jdk_46_method_1_code (1 : Nat) (Option.none : Option Jvm.ClassFile.FieldType)).before args0 about1 = true := code_word (m := ⟨24, 0⟩) (meth := k24m0) (c := k24c0) (by decide +kernel) rfl rfl rfl (by decide +kernel)
set_option maxRecDepth 65536 in
theorem w_c30 : (Jvm.Cond.code ({ cls := "java/util/ImmutableCollections$AbstractImmutableCollection", name := "<init>", desc := "()V" } : Jvm.MethodName) jdk_47_method_1_code (1 : Nat) (Option.none : Option Jvm.ClassFile.FieldType)).before args0 about1 = true := code_word (m := ⟨23, 0⟩) (meth := k23m0) (c := k23c0) (by decide +kernel) rfl rfl rfl (by decide +kernel)
set_option maxRecDepth 65536 in
theorem w_c31 : (Jvm.Cond.code ({ cls := "com/example/plumbline/plumbline/Grades", name := "gradesTotal", desc := "()Z" } : Jvm.MethodName) prog_32_method_3_code (1 : Nat) (Option.some Jvm.ClassFile.FieldType.boolean)).before args0 about1 = true := code_word (m := ⟨21, 1⟩) (meth := k21m1) (c := k21c1) (by decide +kernel) rfl rfl rfl (by decide +kernel)
set_option maxRecDepth 65536 in
theorem w_c32 : (Jvm.Cond.code ({ cls := "java/util/ImmutableCollections$ListN", name := "isEmpty", desc := "()Z" } : Jvm.MethodName) jdk_45_method_2_code (1 : Nat) (Option.some Jvm.ClassFile.FieldType.boolean)).before args0 about1 = true := code_word (m := ⟨26, 1⟩) (meth := k26m1) (c := k26c1) (by decide +kernel) rfl rfl rfl (by decide +kernel)
set_option maxRecDepth 65536 in
theorem w_c33 : (Jvm.Cond.code ({ cls := "java/util/ImmutableCollections$List12", name := "<init>", desc := "(Ljava/lang/Object;)V" } : Jvm.MethodName) jdk_44_method_1_code (2 : Nat) (Option.none : Option Jvm.ClassFile.FieldType)).before args0 about1 = true := code_word (m := ⟨25, 0⟩) (meth := k25m0) (c := k25c0) (by decide +kernel) rfl rfl rfl (by decide +kernel)
set_option maxRecDepth 65536 in
theorem w_c34 : (Jvm.Cond.code ({ cls := "java/util/ImmutableCollections$List12", name := "<init>", desc := "(Ljava/lang/Object;Ljava/lang/Object;)V" } : Jvm.MethodName) jdk_44_method_2_code (3 : Nat) (Option.none : Option Jvm.ClassFile.FieldType)).before args0 about1 = true := code_word (m := ⟨25, 1⟩) (meth := k25m1) (c := k25c1) (by decide +kernel) rfl rfl rfl (by decide +kernel)
set_option maxRecDepth 65536 in
theorem w_c35 : (Jvm.Cond.code ({ cls := "java/util/ImmutableCollections$List12", name := "isEmpty", desc := "()Z" } : Jvm.MethodName) jdk_44_method_4_code (1 : Nat) (Option.some Jvm.ClassFile.FieldType.boolean)).before args0 about1 = true := code_word (m := ⟨25, 2⟩) (meth := k25m2) (c := k25c2) (by decide +kernel) rfl rfl rfl (by decide +kernel)
def codes1 : List Jvm.Cond := [Jvm.Cond.code x code maxLocals ret, Jvm.Cond.code ({ cls := "java/lang/String", name := "valueOf", desc := "(C)Ljava/lang/String;" } : Jvm.MethodName) jdk_42_method_139_code (1 : Nat) (Option.some (Jvm.ClassFile.FieldType.object "java/lang/String")), Jvm.Cond.code ({ cls := "java/lang/StringLatin1", name := "canEncode", desc := "(C)Z" } : Jvm.MethodName) jdk_43_method_3_code (1 : Nat) (Option.some Jvm.ClassFile.FieldType.boolean), Jvm.Cond.code ({ cls := "java/lang/StringLatin1", name := "toBytes", desc := "(C)[B" } : Jvm.MethodName) jdk_43_method_46_code (1 : Nat) (Option.some (Jvm.ClassFile.FieldType.array Jvm.ClassFile.FieldType.byte)), Jvm.Cond.code ({ cls := "java/lang/String", name := "<init>", desc := "([BB)V" } : Jvm.MethodName) jdk_42_method_151_code (3 : Nat) (Option.none : Option Jvm.ClassFile.FieldType), Jvm.Cond.code ({ cls := "java/lang/Object", name := "<init>", desc := "()V" } : Jvm.MethodName) object_method_1_code (1 : Nat) (Option.none : Option Jvm.ClassFile.FieldType), Jvm.Cond.code ({ cls := "com/example/plumbline/plumbline/Grade", name := "<init>", desc := "(Ljava/lang/String;Ljava/lang/String;)V" } : Jvm.MethodName) prog_31_method_1_code (3 : Nat) (Option.none : Option Jvm.ClassFile.FieldType), Jvm.Cond.code ({ cls := "com/example/plumbline/plumbline/Band", name := "<init>", desc := "(Lcom/example/plumbline/plumbline/Points;ZLcom/example/plumbline/plumbline/Points;ZLjava/lang/Object;)V" } : Jvm.MethodName) prog_6_method_1_code (6 : Nat) (Option.none : Option Jvm.ClassFile.FieldType), Jvm.Cond.code ({ cls := "java/util/ArrayList", name := "<init>", desc := "()V" } : Jvm.MethodName) jdk_38_method_2_code (1 : Nat) (Option.none : Option Jvm.ClassFile.FieldType), Jvm.Cond.code ({ cls := "java/util/AbstractList", name := "<init>", desc := "()V" } : Jvm.MethodName) jdk_39_method_1_code (1 : Nat) (Option.none : Option Jvm.ClassFile.FieldType), Jvm.Cond.code ({ cls := "java/util/AbstractCollection", name := "<init>", desc := "()V" } : Jvm.MethodName) jdk_22_method_1_code (1 : Nat) (Option.none : Option Jvm.ClassFile.FieldType), Jvm.Cond.code ({ cls := "java/util/ArrayList", name := "add", desc := "(Ljava/lang/Object;)Z" } : Jvm.MethodName) jdk_38_method_25_code (2 : Nat) (Option.some Jvm.ClassFile.FieldType.boolean), Jvm.Cond.code ({ cls := "java/util/ArrayList", name := "add", desc := "(Ljava/lang/Object;[Ljava/lang/Object;I)V" } : Jvm.MethodName) jdk_38_method_24_code (4 : Nat) (Option.none : Option Jvm.ClassFile.FieldType), Jvm.Cond.code ({ cls := "java/util/ArrayList", name := "grow", desc := "()[Ljava/lang/Object;" } : Jvm.MethodName) jdk_38_method_7_code (1 : Nat) (Option.some (Jvm.ClassFile.FieldType.array (Jvm.ClassFile.FieldType.object "java/lang/Object"))), Jvm.Cond.code ({ cls := "java/util/ArrayList", name := "grow", desc := "(I)[Ljava/lang/Object;" } : Jvm.MethodName) jdk_38_method_6_code (4 : Nat) (Option.some (Jvm.ClassFile.FieldType.array (Jvm.ClassFile.FieldType.object "java/lang/Object"))), Jvm.Cond.code ({ cls := "java/lang/Math", name := "max", desc := "(II)I" } : Jvm.MethodName) jdk_29_method_65_code (2 : Nat) (Option.some Jvm.ClassFile.FieldType.int), Jvm.Cond.code ({ cls := "com/example/plumbline/plumbline/Grades", name := "<init>", desc := "(Ljava/util/List;Ljava/util/List;)V" } : Jvm.MethodName) prog_32_method_1_code (3 : Nat) (Option.none : Option Jvm.ClassFile.FieldType), Jvm.Cond.code ({ cls := "java/util/List", name := "copyOf", desc := "(Ljava/util/Collection;)Ljava/util/List;" } : Jvm.MethodName) jdk_40_method_48_code (1 : Nat) (Option.some (Jvm.ClassFile.FieldType.object "java/util/List")), Jvm.Cond.code ({ cls := "java/util/ImmutableCollections", name := "listCopy", desc := "(Ljava/util/Collection;)Ljava/util/List;" } : Jvm.MethodName) jdk_56_method_3_code (2 : Nat) (Option.some (Jvm.ClassFile.FieldType.object "java/util/List")), Jvm.Cond.code ({ cls := "java/util/ArrayList", name := "isEmpty", desc := "()Z" } : Jvm.MethodName) jdk_38_method_9_code (1 : Nat) (Option.some Jvm.ClassFile.FieldType.boolean), Jvm.Cond.code ({ cls := "java/util/List", name := "of", desc := "()Ljava/util/List;" } : Jvm.MethodName) jdk_40_method_36_code (0 : Nat) (Option.some (Jvm.ClassFile.FieldType.object "java/util/List")), Jvm.Cond.code ({ cls := "java/util/ArrayList", name := "toArray", desc := "()[Ljava/lang/Object;" } : Jvm.MethodName) jdk_38_method_16_code (1 : Nat) (Option.some (Jvm.ClassFile.FieldType.array (Jvm.ClassFile.FieldType.object "java/lang/Object"))), Jvm.Cond.code ({ cls := "java/util/Arrays", name := "copyOf", desc := "([Ljava/lang/Object;I)[Ljava/lang/Object;" } : Jvm.MethodName) jdk_65_method_119_code (2 : Nat) (Option.some (Jvm.ClassFile.FieldType.array (Jvm.ClassFile.FieldType.object "java/lang/Object"))), Jvm.Cond.code ({ cls := "java/util/Arrays", name := "copyOf", desc := "([Ljava/lang/Object;ILjava/lang/Class;)[Ljava/lang/Object;" } : Jvm.MethodName) jdk_65_method_120_code (4 : Nat) (Option.some (Jvm.ClassFile.FieldType.array (Jvm.ClassFile.FieldType.object "java/lang/Object"))), Jvm.Cond.code ({ cls := "java/lang/Math", name := "min", desc := "(II)I" } : Jvm.MethodName) jdk_29_method_69_code (2 : Nat) (Option.some Jvm.ClassFile.FieldType.int), Jvm.Cond.code ({ cls := "java/util/List", name := "of", desc := "([Ljava/lang/Object;)Ljava/util/List;" } : Jvm.MethodName) jdk_40_method_47_code (2 : Nat) (Option.some (Jvm.ClassFile.FieldType.object "java/util/List")), Jvm.Cond.code ({ cls := "java/util/ImmutableCollections", name := "listFromArray", desc := "([Ljava/lang/Object;)Ljava/util/List;" } : Jvm.MethodName) jdk_56_method_4_code (3 : Nat) (Option.some (Jvm.ClassFile.FieldType.object "java/util/List")), Jvm.Cond.code ({ cls := "java/util/Objects", name := "requireNonNull", desc := "(Ljava/lang/Object;)Ljava/lang/Object;" } : Jvm.MethodName) jdk_31_method_10_code (1 : Nat) (Option.some (Jvm.ClassFile.FieldType.object "java/lang/Object")), Jvm.Cond.code ({ cls := "java/util/ImmutableCollections$ListN", name := "<init>", desc := "([Ljava/lang/Object;Z)V" } : Jvm.MethodName) jdk_45_method_1_code (3 : Nat) (Option.none : Option Jvm.ClassFile.FieldType), Jvm.Cond.code ({ cls := "java/util/ImmutableCollections$AbstractImmutableList", name := "<init>", desc := "()V" } : Jvm.MethodName) jdk_46_method_1_code (1 : Nat) (Option.none : Option Jvm.ClassFile.FieldType), Jvm.Cond.code ({ cls := "java/util/ImmutableCollections$AbstractImmutableCollection", name := "<init>", desc := "()V" } : Jvm.MethodName) jdk_47_method_1_code (1 : Nat) (Option.none : Option Jvm.ClassFile.FieldType), Jvm.Cond.code ({ cls := "com/example/plumbline/plumbline/Grades", name := "gradesTotal", desc := "()Z" } : Jvm.MethodName) prog_32_method_3_code (1 : Nat) (Option.some Jvm.ClassFile.FieldType.boolean), Jvm.Cond.code ({ cls := "java/util/ImmutableCollections$ListN", name := "isEmpty", desc := "()Z" } : Jvm.MethodName) jdk_45_method_2_code (1 : Nat) (Option.some Jvm.ClassFile.FieldType.boolean), Jvm.Cond.code ({ cls := "java/util/ImmutableCollections$List12", name := "<init>", desc := "(Ljava/lang/Object;)V" } : Jvm.MethodName) jdk_44_method_1_code (2 : Nat) (Option.none : Option Jvm.ClassFile.FieldType), Jvm.Cond.code ({ cls := "java/util/ImmutableCollections$List12", name := "<init>", desc := "(Ljava/lang/Object;Ljava/lang/Object;)V" } : Jvm.MethodName) jdk_44_method_2_code (3 : Nat) (Option.none : Option Jvm.ClassFile.FieldType), Jvm.Cond.code ({ cls := "java/util/ImmutableCollections$List12", name := "isEmpty", desc := "()Z" } : Jvm.MethodName) jdk_44_method_4_code (1 : Nat) (Option.some Jvm.ClassFile.FieldType.boolean)]
set_option maxRecDepth 65536 in
theorem codes_eq : words1.filter isCode = codes1 := rfl
theorem w_codes : ∀ c ∈ words1.filter isCode, c.before args0 about1 = true := by
  rw [codes_eq]
  intro c hc
  simp only [codes1, List.mem_cons, List.not_mem_nil, or_false] at hc
  rcases hc with rfl | rfl | rfl | rfl | rfl | rfl | rfl | rfl | rfl | rfl | rfl | rfl | rfl | rfl | rfl | rfl | rfl | rfl | rfl | rfl | rfl | rfl | rfl | rfl | rfl | rfl | rfl | rfl | rfl | rfl | rfl | rfl | rfl | rfl | rfl | rfl
  · exact w_c0
  · exact w_c1
  · exact w_c2
  · exact w_c3
  · exact w_c4
  · exact w_c5
  · exact w_c6
  · exact w_c7
  · exact w_c8
  · exact w_c9
  · exact w_c10
  · exact w_c11
  · exact w_c12
  · exact w_c13
  · exact w_c14
  · exact w_c15
  · exact w_c16
  · exact w_c17
  · exact w_c18
  · exact w_c19
  · exact w_c20
  · exact w_c21
  · exact w_c22
  · exact w_c23
  · exact w_c24
  · exact w_c25
  · exact w_c26
  · exact w_c27
  · exact w_c28
  · exact w_c29
  · exact w_c30
  · exact w_c31
  · exact w_c32
  · exact w_c33
  · exact w_c34
  · exact w_c35
set_option maxRecDepth 65536 in
theorem w_t1 : (words1.take 24).all (fun c => isCode c || c.before args0 about1) = true := by decide +kernel
set_option maxRecDepth 65536 in
theorem w_t2 : ((words1.drop 24).take 24).all (fun c => isCode c || c.before args0 about1) = true := by decide +kernel
set_option maxRecDepth 65536 in
theorem w_t3 : (((words1.drop 24).drop 24).take 24).all (fun c => isCode c || c.before args0 about1) = true := by decide +kernel
set_option maxRecDepth 65536 in
theorem w_t4 : ((((words1.drop 24).drop 24).drop 24).take 24).all (fun c => isCode c || c.before args0 about1) = true := by decide +kernel
set_option maxRecDepth 65536 in
theorem w_t5 : (((((words1.drop 24).drop 24).drop 24).drop 24).take 24).all (fun c => isCode c || c.before args0 about1) = true := by decide +kernel
set_option maxRecDepth 65536 in
theorem w_t6 : ((((((words1.drop 24).drop 24).drop 24).drop 24).drop 24).take 24).all (fun c => isCode c || c.before args0 about1) = true := by decide +kernel
set_option maxRecDepth 65536 in
theorem w_t7 : (((((((words1.drop 24).drop 24).drop 24).drop 24).drop 24).drop 24).take 24).all (fun c => isCode c || c.before args0 about1) = true := by decide +kernel
set_option maxRecDepth 65536 in
theorem w_t8 : ((((((((words1.drop 24).drop 24).drop 24).drop 24).drop 24).drop 24).drop 24).take 24).all (fun c => isCode c || c.before args0 about1) = true := by decide +kernel
set_option maxRecDepth 65536 in
theorem w_t9 : (((((((((words1.drop 24).drop 24).drop 24).drop 24).drop 24).drop 24).drop 24).drop 24).take 24).all (fun c => isCode c || c.before args0 about1) = true := by decide +kernel
set_option maxRecDepth 65536 in
theorem w_t10 : ((((((((((words1.drop 24).drop 24).drop 24).drop 24).drop 24).drop 24).drop 24).drop 24).drop 24).take 24).all (fun c => isCode c || c.before args0 about1) = true := by decide +kernel
set_option maxRecDepth 65536 in
theorem w_t11 : ((((((((((words1.drop 24).drop 24).drop 24).drop 24).drop 24).drop 24).drop 24).drop 24).drop 24).drop 24).all (fun c => isCode c || c.before args0 about1) = true := by decide +kernel
theorem w_tables : (allAtoms (Jvm.Cond.code x code maxLocals ret :: tables_1)).before args0 about1 = true := by
  rw [allAtoms_all]
  show words1.all (fun c => c.before args0 about1) = true
  refine all_split ?_ w_codes
  rw [← List.take_append_drop 24 words1, List.all_append, w_t1, ← List.take_append_drop 24 (words1.drop 24), List.all_append, w_t2, ← List.take_append_drop 24 ((words1.drop 24).drop 24), List.all_append, w_t3, ← List.take_append_drop 24 (((words1.drop 24).drop 24).drop 24), List.all_append, w_t4, ← List.take_append_drop 24 ((((words1.drop 24).drop 24).drop 24).drop 24), List.all_append, w_t5, ← List.take_append_drop 24 (((((words1.drop 24).drop 24).drop 24).drop 24).drop 24), List.all_append, w_t6, ← List.take_append_drop 24 ((((((words1.drop 24).drop 24).drop 24).drop 24).drop 24).drop 24), List.all_append, w_t7, ← List.take_append_drop 24 (((((((words1.drop 24).drop 24).drop 24).drop 24).drop 24).drop 24).drop 24), List.all_append, w_t8, ← List.take_append_drop 24 ((((((((words1.drop 24).drop 24).drop 24).drop 24).drop 24).drop 24).drop 24).drop 24), List.all_append, w_t9, ← List.take_append_drop 24 (((((((((words1.drop 24).drop 24).drop 24).drop 24).drop 24).drop 24).drop 24).drop 24).drop 24), List.all_append, w_t10, w_t11]
  rfl
set_option maxRecDepth 65536 in
theorem w_rest : rest_1_c.before args0 about1 = true := by decide +kernel
set_option maxRecDepth 65536 in
theorem w_case : (Jvm.Cond.and given_1 narrow_1).before args0 about1 = true := by decide +kernel
theorem w_applies : (headSpec (Jvm.Cond.code x code maxLocals ret :: tables_1) room_1).applies x e0.platform about1 = true :=
  (Spec.applies_iff w_frames).mpr ⟨w_running, w_runnable, w_alone, w_named, w_hears, w_ripe, w_room, w_tables⟩
theorem atStart : AtStart classFile x code maxLocals ret World_1 tables_1 room_1 Calls_1 rest_1 Pre_1 launch0 p0 e0 about1 theMethod args0 below0 :=
  ⟨lists_1, trivial, launch0.admits_env _ _ _, launch0.least_env, fairChoices_fair.cas, fairChoices_fair.clock, w_frames, w_args, w_heap, w_applies, ⟨⟨36, k36, 9, by decide +kernel, rfl, rfl, _, rfl, rfl⟩, trivial⟩, w_rest, w_case⟩
end start1
theorem witness_1 : WitnessClaimed_1 := ⟨start1.p0, start1.e0, start1.about1, start1.theMethod, start1.args0, start1.below0, start1.atStart⟩
end Jvm.Pilot.@@N@@
