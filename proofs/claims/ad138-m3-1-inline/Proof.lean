import JvmDerived
import JvmDerived.Pilot.@@N@@Statement
import JvmDerived.Pilot.@@N@@Code
set_option linter.unusedVariables false
set_option linter.unusedSimpArgs false
@@BLOCK:TracedD.lean.txt@@
namespace Jvm.Road
open Jvm Jvm.ClassFile Sem Op Lib Jvm.Free Jvm.Stand Jvm.LawKit Jvm.RoadKit Bundle
/-! THE ROAD LAYER: one goal 'Go' for a walk, every step a law 'Go next -> Go here'; a callee's summary 'Con'. -/
abbrev Bdy : Type := MethodName × ByteArray × Nat × Option FieldType × Room
abbrev Bdy.y (B : Bdy) : MethodName := B.1
abbrev Bdy.bs (B : Bdy) : ByteArray := B.2.1
abbrev Bdy.ml (B : Bdy) : Nat := B.2.2.1
abbrev Bdy.rt (B : Bdy) : Option FieldType := B.2.2.2.1
abbrev Bdy.rm (B : Bdy) : Room := B.2.2.2.2
abbrev Dyn : Type := Program × Env × State × MethodId × Array Value × List Frame × Method × Code
abbrev Dyn.p (D : Dyn) : Program := D.1
abbrev Dyn.e (D : Dyn) : Env := D.2.1
abbrev Dyn.s (D : Dyn) : State := D.2.2.1
abbrev Dyn.m (D : Dyn) : MethodId := D.2.2.2.1
abbrev Dyn.args (D : Dyn) : Array Value := D.2.2.2.2.1
abbrev Dyn.bl (D : Dyn) : List Frame := D.2.2.2.2.2.1
abbrev Dyn.meth (D : Dyn) : Method := D.2.2.2.2.2.2.1
abbrev Dyn.c (D : Dyn) : Code := D.2.2.2.2.2.2.2
/-- a cell that this law's run has made and that no constant of EL stands for: it may be written -/
def Own (Z : State) (EL : List (String × Nat)) (n0 : Nat) (vm : Vm) (h : Heap) (x : Addr) : Prop := Safe Z EL vm h x ∧ n0 ≤ x ∧ x < h.size
def Ok (B : Bdy) (D : Dyn) : Prop := D.p.tables.exec = Jvm.exec ∧ D.c.code = B.bs ∧ D.c.maxLocals = B.ml ∧ D.meth.sig.returnType = B.rt ∧ D.meth.locks = false ∧ D.meth.name = B.y.name
def Inv (l : Launch) (Z : State) (EL : List (String × Nat)) (n0 : Nat) (kn : Bool) (B : Bdy) (D : Dyn) (h : Heap) (σ : Addr → Prop) (ce sl : Nat) (T : State) (vm0 : Vm) : Prop :=
  ∃ (k0 : Nat) (locs : List Loc), Stand D.p l D.e B.rm (D.s.setVm vm0) D.m D.args D.bl D.meth D.c T locs ce sl ∧ T.heap = h ∧ D.s.Since vm0 k0 ∧ k0 ≤ h.size ∧ Z.Warmed39 vm0 ∧ vm0.findClass B.y.cls = some D.m.cls ∧
    CHr Z EL D.s.vm D.s.heap vm0 h ∧ Fr n0 locs ∧ Old Z n0 h ∧ (∀ x, σ x → Own Z EL n0 vm0 h x) ∧ (kn = true → vm0.MethodsKnown ∧ vm0.FramesKnown D.bl)
abbrev Post : Type := Option Value → Heap → (Addr → Prop) → Prop
def Ends (Z : State) (EL : List (String × Nat)) (n0 : Nat) (B : Bdy) (D : Dyn) (Q : Post) (t0 : State) : Prop :=
  ∃ s₂ o, Steps D.p.tables D.e D.bl t0 s₂ ∧ s₂.status = .running ∧ Ended s₂ D.bl o ∧
    ∃ v L, o = .returned v ∧ Q v s₂.heap (Own Z EL n0 s₂.vm s₂.heap) ∧ Fr n0 L ∧ CHr Z EL D.s.vm D.s.heap s₂.vm s₂.heap ∧ Old Z n0 s₂.heap ∧ ReturnedEndW D.s o s₂ L B.rm.cells B.rm.slots
def Go (l : Launch) (Z : State) (a0 : Array Value) (EL : List (String × Nat)) (n0 : Nat) (kn : Bool) (B : Bdy) (D : Dyn) (Q : Post) (h : Heap) (σ : Addr → Prop) (ce sl : Nat) (pc : Nat) (Ls : Array Slot) (st : List Value) : Prop :=
  Ok B D → EW Z a0 EL → ∀ (T : State) (vm0 : Vm), Inv l Z EL n0 kn B D h σ ce sl T vm0 → Ends Z EL n0 B D Q (T.setTop (mkF D.m pc Ls st))
/-- what is asked of a callee -/
def Con (l : Launch) (Z : State) (EL : List (String × Nat)) (n0 : Nat) (kn : Bool) (B : Bdy) (ws : List Jvm.Cond) (σ : Addr → Prop) (as : Array Value) (h : Heap) (Q : Post) : Prop :=
  MetFree l B.y (head1 (Jvm.Cond.code B.y B.bs B.ml B.rt :: ws) B.rm)
    (fun a U => a = as ∧ Z.Warmed39 U.vm ∧ U.heap = h ∧ CHv Z EL U.vm h ∧ Old Z n0 h ∧ ∀ x, σ x → Own Z EL n0 U.vm h x)
    (fun _ _ bl s _ => kn = true → s.vm.MethodsKnown ∧ s.vm.FramesKnown bl)
    (fun _ U o U' => ∃ v L, o = .returned v ∧ Q v U'.heap (Own Z EL n0 U'.vm U'.heap) ∧ Fr n0 L ∧ CHr Z EL U.vm U.heap U'.vm U'.heap ∧ Old Z n0 U'.heap ∧ ReturnedEndW U o U' L B.rm.cells B.rm.slots)
def push : Option Value → List Value → List Value
  | some v, r => v :: r
  | none, r => r
theorem push_eq (v : Option Value) (r : List Value) : v.toList ++ r = push v r := by cases v <;> rfl
section Laws
variable {l : Launch} {Z : State} {a0 : Array Value} {EL : List (String × Nat)} {n0 : Nat} {kn : Bool} {B : Bdy} {D : Dyn} {Q : Post} {h h' : Heap} {σ : Addr → Prop} {ce sl : Nat} {Ls : Array Slot} {st : List Value}
theorem Con.of {ws : List Jvm.Cond} (hpn : plainFor B.y = true) (hEW : EW Z a0 EL) {as : Array Value} (Ls0 : Array Slot) (hef : ∀ m, entryFrame m as B.ml = mkF m 0 Ls0 [])
    (body : ∀ D : Dyn, D.s.heap = h → Go l Z a0 EL n0 kn B D Q h σ 0 0 0 Ls0 []) : Con l Z EL n0 kn B ws σ as h Q := by
  refine MetFree.of_bodySF hpn hisR ?_
  intro p e s m args below meth c s₁ Bd hml hP hK
  obtain ⟨rfl, hZ, hh, hC, hO, hσ⟩ := hP
  have hnm := (name_of_methodNamed Bd.named Bd.method).1
  have hown := findClass_of_methodNamed Bd.named
  have X0 : Stand p l e B.rm s m args below meth c s₁ [] 0 0 := Stand.of_body Bd
  have e0 : s₁.heap = h := by rw [← hh, Bd.state]; rfl
  obtain ⟨s2, o, st, hr, he, r⟩ := body (p, e, s, m, args, below, meth, c) hh ⟨Bd.exec, Bd.bytes, hml, Bd.returns, Bd.notSynchronized, hnm⟩ hEW s₁ s.vm
    ⟨0, [], X0, e0, (State.WarmedH.refl s).since 0, Nat.zero_le _, hZ, hown, by subst hh; exact CHr.refl hC, Fr.nil n0, hO, hσ, hK⟩
  exact ⟨s2, o, castTop (hef m) st, hr, he, r⟩
/-- one plain step -/
theorem Go.step {pc pc' : Nat} {Ls' : Array Slot} {st' : List Value} (k : ∀ T, At T D.m D.c D.bl → D.p.tables.exec = Jvm.exec → D.c.code = B.bs → ∀ t, Steps D.p.tables D.e D.bl (T.setTop (mkF D.m pc' Ls' st')) t → Steps D.p.tables D.e D.bl (T.setTop (mkF D.m pc Ls st)) t)
    (r : Go l Z a0 EL n0 kn B D Q h σ ce sl pc' Ls' st') : Go l Z a0 EL n0 kn B D Q h σ ce sl pc Ls st := by
  intro ok ew T vm0 I
  obtain ⟨s2, o, q, rest⟩ := r ok ew T vm0 I
  obtain ⟨k0, locs, X, -⟩ := I
  exact ⟨s2, o, k T X.here ok.1 ok.2.1 _ q, rest⟩
/-- fewer permissions, more room taken: what was shown serves -/
theorem Go.weaken {pc : Nat} {σ' : Addr → Prop} {ce' sl' : Nat} (hσ : ∀ x, σ' x → σ x) (hc : ce ≤ ce') (hs : sl ≤ sl') (r : Go l Z a0 EL n0 kn B D Q h σ' ce' sl' pc Ls st) : Go l Z a0 EL n0 kn B D Q h σ ce sl pc Ls st := by
  intro ok ew T vm0 I
  obtain ⟨k0, locs, X, h1, h2, h3, h4, h5, h6, h7, h8, h9, h10⟩ := I
  exact r ok ew T vm0 ⟨k0, locs, X.mono hc hs, h1, h2, h3, h4, h5, h6, h7, h8, fun x q => h9 x (hσ x q), h10⟩
/-- facts that the walk bears -/
theorem Go.old {pc : Nat} (r : Old Z n0 h → Go l Z a0 EL n0 kn B D Q h σ ce sl pc Ls st) : Go l Z a0 EL n0 kn B D Q h σ ce sl pc Ls st := by
  intro ok ew T vm0 I
  refine r ?_ ok ew T vm0 I
  obtain ⟨k0, locs, X, h1, h2, h3, h4, h5, h6, h7, h8, h9, h10⟩ := I
  exact h8
end Laws
end Jvm.Road
namespace Jvm.Road
open Jvm Jvm.ClassFile Sem Op Lib Jvm.Free Jvm.Stand Jvm.LawKit Jvm.RoadKit Bundle
theorem Go.ownAll {l : Launch} {Z : State} {a0 : Array Value} {EL : List (String × Nat)} {n0 : Nat} {kn : Bool} {B : Bdy} {D : Dyn} {Q : Post} {h : Heap} {σ : Addr → Prop} {ce sl : Nat} {Ls : Array Slot} {st : List Value} {pc : Nat}
    (r : (∀ x, σ x → n0 ≤ x ∧ x < h.size) → Go l Z a0 EL n0 kn B D Q h σ ce sl pc Ls st) : Go l Z a0 EL n0 kn B D Q h σ ce sl pc Ls st := by
  intro ok ew T vm0 I
  refine r ?_ ok ew T vm0 I
  obtain ⟨k0, locs, X, h1, h2, h3, h4, h5, h6, h7, h8, h9, h10⟩ := I
  exact fun x hx => (h9 x hx).2
theorem keep_more {h h' : Heap} {ws : List Addr} (K : Keep h h' []) : Keep h h' ws := ⟨K.1, fun x c q _ => K.2.1 x c q nin0, K.2.2⟩
end Jvm.Road
namespace Jvm.Road
open Jvm Jvm.ClassFile Sem Op Lib Jvm.Free Jvm.Stand Jvm.LawKit Jvm.RoadKit Bundle
theorem laid0 : Jvm.Sym.laidSlots [] = [] := rfl
theorem laid1 {v : Value} {vs : List Value} {L : List Slot} (hc : v.category = 1) (h : Jvm.Sym.laidSlots vs = L) : Jvm.Sym.laidSlots (v :: vs) = .val v :: L := by
  rw [Jvm.Sym.laidSlots, hc, h]; rfl
theorem laid2 {v : Value} {vs : List Value} {L : List Slot} (hc : v.category = 2) (h : Jvm.Sym.laidSlots vs = L) : Jvm.Sym.laidSlots (v :: vs) = .val v :: .second :: L := by
  rw [Jvm.Sym.laidSlots, hc, h]; rfl
theorem ent {m : MethodId} {args : Array Value} {n k : Nat} {Ls : Array Slot} {L : List Slot} (h : Jvm.Sym.laidSlots args.toList = L) (hk : n - L.length = k) (hL : L ++ List.replicate k .unset = Ls.toList) : entryFrame m args n = mkF m 0 Ls [] := by
  have : argsToLocals args n = Ls := Array.toList_inj.mp (by rw [Jvm.Sym.argsToLocals_toList, h, hk]; exact hL)
  unfold entryFrame
  rw [this]
end Jvm.Road
namespace Jvm.Road
open Jvm Jvm.ClassFile Sem Op Lib Jvm.Free Jvm.Stand Jvm.LawKit Jvm.RoadKit Bundle
/-- what i2c leaves -/
abbrev chr (x : Int32) : Int32 := x.toUInt32.toUInt16.toUInt32.toInt32
section Plain
variable {l : Launch} {Z : State} {a0 : Array Value} {EL : List (String × Nat)} {n0 : Nat} {kn : Bool} {B : Bdy} {D : Dyn} {Q : Post} {h : Heap} {σ : Addr → Prop} {ce sl : Nat} {Ls : Array Slot} {st : List Value}
theorem aload (pc : Nat) {k : Nat} {v : Value} (hd : decode B.bs pc = .ok (.aload k, 2)) (hl : Ls[k]? = some (.val v))  (r : Go l Z a0 EL n0 kn B D Q h σ ce sl (pc + 2) Ls (v :: st)) (hv : v.isRef = true := by rfl) : Go l Z a0 EL n0 kn B D Q h σ ce sl pc Ls st :=
  Go.step (fun T hA hx hb t q => XS.aload hA hx rfl (Jvm.hb hb hd) hl hv q) r
theorem aloadN (pc : Nat) {k : Fin 4} {v : Value} (hd : decode B.bs pc = .ok (.aload_n k, 1)) (hl : Ls[k.val]? = some (.val v))  (r : Go l Z a0 EL n0 kn B D Q h σ ce sl (pc + 1) Ls (v :: st)) (hv : v.isRef = true := by rfl) : Go l Z a0 EL n0 kn B D Q h σ ce sl pc Ls st :=
  Go.step (fun T hA hx hb t q => XS.aloadN hA hx rfl (Jvm.hb hb hd) hl hv q) r
theorem iload (pc : Nat) {k : Nat} {v : Int32} (hd : decode B.bs pc = .ok (.iload k, 2)) (hl : Ls[k]? = some (.val (.int v))) (r : Go l Z a0 EL n0 kn B D Q h σ ce sl (pc + 2) Ls (.int v :: st))  : Go l Z a0 EL n0 kn B D Q h σ ce sl pc Ls st :=
  Go.step (fun T hA hx hb t q => XS.iload hA hx rfl (Jvm.hb hb hd) hl q) r
theorem iloadN (pc : Nat) {k : Fin 4} {v : Int32} (hd : decode B.bs pc = .ok (.iload_n k, 1)) (hl : Ls[k.val]? = some (.val (.int v))) (r : Go l Z a0 EL n0 kn B D Q h σ ce sl (pc + 1) Ls (.int v :: st))  : Go l Z a0 EL n0 kn B D Q h σ ce sl pc Ls st :=
  Go.step (fun T hA hx hb t q => XS.iloadN hA hx rfl (Jvm.hb hb hd) hl q) r
theorem lload (pc : Nat) {k : Nat} {v : Int64} (hd : decode B.bs pc = .ok (.lload k, 2)) (hl : Ls[k]? = some (.val (.long v))) (r : Go l Z a0 EL n0 kn B D Q h σ ce sl (pc + 2) Ls (.long v :: st))  : Go l Z a0 EL n0 kn B D Q h σ ce sl pc Ls st :=
  Go.step (fun T hA hx hb t q => XT.lload hA hx rfl (Jvm.hb hb hd) hl q) r
theorem lloadN (pc : Nat) {k : Fin 4} {v : Int64} (hd : decode B.bs pc = .ok (.lload_n k, 1)) (hl : Ls[k.val]? = some (.val (.long v))) (r : Go l Z a0 EL n0 kn B D Q h σ ce sl (pc + 1) Ls (.long v :: st))  : Go l Z a0 EL n0 kn B D Q h σ ce sl pc Ls st :=
  Go.step (fun T hA hx hb t q => XT.lloadN hA hx rfl (Jvm.hb hb hd) hl q) r
theorem iconst (pc : Nat) {i : Int} (v : Int32) (hd : decode B.bs pc = .ok (.iconst i, 1)) (hv : Int32.ofInt i = v) (r : Go l Z a0 EL n0 kn B D Q h σ ce sl (pc + 1) Ls (.int v :: st))  : Go l Z a0 EL n0 kn B D Q h σ ce sl pc Ls st :=
  Go.step (fun T hA hx hb t q => XT.iconstV hA hx rfl v (Jvm.hb hb hd) hv q) r
theorem bipush (pc : Nat) {i : Int} (v : Int32) (hd : decode B.bs pc = .ok (.bipush i, 2)) (hv : (Int8.ofInt i).toInt32 = v) (r : Go l Z a0 EL n0 kn B D Q h σ ce sl (pc + 2) Ls (.int v :: st))  : Go l Z a0 EL n0 kn B D Q h σ ce sl pc Ls st :=
  Go.step (fun T hA hx hb t q => XT.bipushV hA hx rfl v (Jvm.hb hb hd) hv q) r
theorem sipush (pc : Nat) {i : Int} (v : Int32) (hd : decode B.bs pc = .ok (.sipush i, 3)) (hv : (Int16.ofInt i).toInt32 = v) (r : Go l Z a0 EL n0 kn B D Q h σ ce sl (pc + 3) Ls (.int v :: st))  : Go l Z a0 EL n0 kn B D Q h σ ce sl pc Ls st :=
  Go.step (fun T hA hx hb t q => XT.sipushV hA hx rfl v (Jvm.hb hb hd) hv q) r
theorem lconst (pc : Nat) {k : Fin 2} (v : Int64) (hd : decode B.bs pc = .ok (.lconst k, 1)) (hv : Int64.ofNat k = v) (r : Go l Z a0 EL n0 kn B D Q h σ ce sl (pc + 1) Ls (.long v :: st))  : Go l Z a0 EL n0 kn B D Q h σ ce sl pc Ls st :=
  Go.step (fun T hA hx hb t q => XT.lconstV hA hx rfl v (Jvm.hb hb hd) hv q) r
theorem aconstNull (pc : Nat)  (hd : decode B.bs pc = .ok (.aconst_null, 1))  (r : Go l Z a0 EL n0 kn B D Q h σ ce sl (pc + 1) Ls (.null :: st))  : Go l Z a0 EL n0 kn B D Q h σ ce sl pc Ls st :=
  Go.step (fun T hA hx hb t q => XS.aconstNull hA hx rfl (Jvm.hb hb hd) q) r
theorem iadd (pc : Nat) {x y : Int32} (hd : decode B.bs pc = .ok (.iadd, 1))  (r : Go l Z a0 EL n0 kn B D Q h σ ce sl (pc + 1) Ls (.int (x + y) :: st))  : Go l Z a0 EL n0 kn B D Q h σ ce sl pc Ls (.int y :: .int x :: st) :=
  Go.step (fun T hA hx hb t q => XS.iadd hA hx rfl (Jvm.hb hb hd) rfl q) r
theorem isub (pc : Nat) {x y : Int32} (hd : decode B.bs pc = .ok (.isub, 1))  (r : Go l Z a0 EL n0 kn B D Q h σ ce sl (pc + 1) Ls (.int (x - y) :: st))  : Go l Z a0 EL n0 kn B D Q h σ ce sl pc Ls (.int y :: .int x :: st) :=
  Go.step (fun T hA hx hb t q => XS.isub hA hx rfl (Jvm.hb hb hd) rfl q) r
theorem iand (pc : Nat) {x y : Int32} (hd : decode B.bs pc = .ok (.iand, 1))  (r : Go l Z a0 EL n0 kn B D Q h σ ce sl (pc + 1) Ls (.int (x &&& y) :: st))  : Go l Z a0 EL n0 kn B D Q h σ ce sl pc Ls (.int y :: .int x :: st) :=
  Go.step (fun T hA hx hb t q => XS.iand hA hx rfl (Jvm.hb hb hd) rfl q) r
theorem imul (pc : Nat) {x y : Int32} (hd : decode B.bs pc = .ok (.imul, 1))  (r : Go l Z a0 EL n0 kn B D Q h σ ce sl (pc + 1) Ls (.int (x * y) :: st))  : Go l Z a0 EL n0 kn B D Q h σ ce sl pc Ls (.int y :: .int x :: st) :=
  Go.step (fun T hA hx hb t q => XS.imul hA hx rfl (Jvm.hb hb hd) rfl q) r
theorem ixor (pc : Nat) {x y : Int32} (hd : decode B.bs pc = .ok (.ixor, 1))  (r : Go l Z a0 EL n0 kn B D Q h σ ce sl (pc + 1) Ls (.int (x ^^^ y) :: st))  : Go l Z a0 EL n0 kn B D Q h σ ce sl pc Ls (.int y :: .int x :: st) :=
  Go.step (fun T hA hx hb t q => XT.ixor hA hx rfl (Jvm.hb hb hd) rfl q) r
theorem ior (pc : Nat) {x y : Int32} (hd : decode B.bs pc = .ok (.ior, 1))  (r : Go l Z a0 EL n0 kn B D Q h σ ce sl (pc + 1) Ls (.int (x ||| y) :: st))  : Go l Z a0 EL n0 kn B D Q h σ ce sl pc Ls (.int y :: .int x :: st) :=
  Go.step (fun T hA hx hb t q => XT.ior hA hx rfl (Jvm.hb hb hd) rfl q) r
theorem ishl (pc : Nat) {x y : Int32} (hd : decode B.bs pc = .ok (.ishl, 1))  (r : Go l Z a0 EL n0 kn B D Q h σ ce sl (pc + 1) Ls (.int (x <<< (y &&& 31)) :: st))  : Go l Z a0 EL n0 kn B D Q h σ ce sl pc Ls (.int y :: .int x :: st) :=
  Go.step (fun T hA hx hb t q => XT.ishl hA hx rfl (Jvm.hb hb hd) rfl q) r
theorem ishr (pc : Nat) {x y : Int32} (hd : decode B.bs pc = .ok (.ishr, 1))  (r : Go l Z a0 EL n0 kn B D Q h σ ce sl (pc + 1) Ls (.int (x >>> (y &&& 31)) :: st))  : Go l Z a0 EL n0 kn B D Q h σ ce sl pc Ls (.int y :: .int x :: st) :=
  Go.step (fun T hA hx hb t q => XT.ishr hA hx rfl (Jvm.hb hb hd) rfl q) r
theorem iushr (pc : Nat) {x y : Int32} (hd : decode B.bs pc = .ok (.iushr, 1))  (r : Go l Z a0 EL n0 kn B D Q h σ ce sl (pc + 1) Ls (.int (XT.ushr x y) :: st))  : Go l Z a0 EL n0 kn B D Q h σ ce sl pc Ls (.int y :: .int x :: st) :=
  Go.step (fun T hA hx hb t q => XT.iushr hA hx rfl (Jvm.hb hb hd) rfl q) r
theorem idiv (pc : Nat) {x y : Int32} (hd : decode B.bs pc = .ok (.idiv, 1)) (hy : y ≠ 0) (r : Go l Z a0 EL n0 kn B D Q h σ ce sl (pc + 1) Ls (.int (x / y) :: st))  : Go l Z a0 EL n0 kn B D Q h σ ce sl pc Ls (.int y :: .int x :: st) :=
  Go.step (fun T hA hx hb t q => XS.idiv hA hx rfl (Jvm.hb hb hd) rfl hy q) r
theorem irem (pc : Nat) {x y : Int32} (hd : decode B.bs pc = .ok (.irem, 1)) (hy : y ≠ 0) (r : Go l Z a0 EL n0 kn B D Q h σ ce sl (pc + 1) Ls (.int (x % y) :: st))  : Go l Z a0 EL n0 kn B D Q h σ ce sl pc Ls (.int y :: .int x :: st) :=
  Go.step (fun T hA hx hb t q => XS.irem hA hx rfl (Jvm.hb hb hd) rfl hy (by rw [irem_eq_mod]; exact q)) r
theorem ineg (pc : Nat) {x : Int32} (hd : decode B.bs pc = .ok (.ineg, 1))  (r : Go l Z a0 EL n0 kn B D Q h σ ce sl (pc + 1) Ls (.int (-x) :: st))  : Go l Z a0 EL n0 kn B D Q h σ ce sl pc Ls (.int x :: st) :=
  Go.step (fun T hA hx hb t q => XS.ineg hA hx rfl (Jvm.hb hb hd) rfl q) r
theorem ladd (pc : Nat) {x y : Int64} (hd : decode B.bs pc = .ok (.ladd, 1))  (r : Go l Z a0 EL n0 kn B D Q h σ ce sl (pc + 1) Ls (.long (x + y) :: st))  : Go l Z a0 EL n0 kn B D Q h σ ce sl pc Ls (.long y :: .long x :: st) :=
  Go.step (fun T hA hx hb t q => XT.ladd hA hx rfl (Jvm.hb hb hd) rfl q) r
theorem lsub (pc : Nat) {x y : Int64} (hd : decode B.bs pc = .ok (.lsub, 1))  (r : Go l Z a0 EL n0 kn B D Q h σ ce sl (pc + 1) Ls (.long (x - y) :: st))  : Go l Z a0 EL n0 kn B D Q h σ ce sl pc Ls (.long y :: .long x :: st) :=
  Go.step (fun T hA hx hb t q => XT.lsub hA hx rfl (Jvm.hb hb hd) rfl q) r
theorem land (pc : Nat) {x y : Int64} (hd : decode B.bs pc = .ok (.land, 1))  (r : Go l Z a0 EL n0 kn B D Q h σ ce sl (pc + 1) Ls (.long (x &&& y) :: st))  : Go l Z a0 EL n0 kn B D Q h σ ce sl pc Ls (.long y :: .long x :: st) :=
  Go.step (fun T hA hx hb t q => XT.land hA hx rfl (Jvm.hb hb hd) rfl q) r
theorem lmul (pc : Nat) {x y : Int64} (hd : decode B.bs pc = .ok (.lmul, 1))  (r : Go l Z a0 EL n0 kn B D Q h σ ce sl (pc + 1) Ls (.long (x * y) :: st))  : Go l Z a0 EL n0 kn B D Q h σ ce sl pc Ls (.long y :: .long x :: st) :=
  Go.step (fun T hA hx hb t q => XT.lmul hA hx rfl (Jvm.hb hb hd) rfl q) r
theorem lxor (pc : Nat) {x y : Int64} (hd : decode B.bs pc = .ok (.lxor, 1))  (r : Go l Z a0 EL n0 kn B D Q h σ ce sl (pc + 1) Ls (.long (x ^^^ y) :: st))  : Go l Z a0 EL n0 kn B D Q h σ ce sl pc Ls (.long y :: .long x :: st) :=
  Go.step (fun T hA hx hb t q => XT.lxor hA hx rfl (Jvm.hb hb hd) rfl q) r
theorem lor (pc : Nat) {x y : Int64} (hd : decode B.bs pc = .ok (.lor, 1))  (r : Go l Z a0 EL n0 kn B D Q h σ ce sl (pc + 1) Ls (.long (x ||| y) :: st))  : Go l Z a0 EL n0 kn B D Q h σ ce sl pc Ls (.long y :: .long x :: st) :=
  Go.step (fun T hA hx hb t q => XT.lor hA hx rfl (Jvm.hb hb hd) rfl q) r
theorem lushr (pc : Nat) {x : Int64} {y : Int32} (hd : decode B.bs pc = .ok (.lushr, 1))  (r : Go l Z a0 EL n0 kn B D Q h σ ce sl (pc + 1) Ls (.long (XT.ushrL x y) :: st))  : Go l Z a0 EL n0 kn B D Q h σ ce sl pc Ls (.int y :: .long x :: st) :=
  Go.step (fun T hA hx hb t q => XT.lushr hA hx rfl (Jvm.hb hb hd) rfl q) r
theorem ldiv (pc : Nat) {x y : Int64} (hd : decode B.bs pc = .ok (.ldiv, 1)) (hy : y ≠ 0) (r : Go l Z a0 EL n0 kn B D Q h σ ce sl (pc + 1) Ls (.long (x / y) :: st))  : Go l Z a0 EL n0 kn B D Q h σ ce sl pc Ls (.long y :: .long x :: st) :=
  Go.step (fun T hA hx hb t q => XT.ldiv hA hx rfl (Jvm.hb hb hd) rfl hy q) r
theorem lrem (pc : Nat) {x y : Int64} (hd : decode B.bs pc = .ok (.lrem, 1)) (hy : y ≠ 0) (r : Go l Z a0 EL n0 kn B D Q h σ ce sl (pc + 1) Ls (.long (x - (x / y) * y) :: st))  : Go l Z a0 EL n0 kn B D Q h σ ce sl pc Ls (.long y :: .long x :: st) :=
  Go.step (fun T hA hx hb t q => XT.lrem hA hx rfl (Jvm.hb hb hd) rfl hy q) r
theorem lneg (pc : Nat) {x : Int64} (hd : decode B.bs pc = .ok (.lneg, 1))  (r : Go l Z a0 EL n0 kn B D Q h σ ce sl (pc + 1) Ls (.long (-x) :: st))  : Go l Z a0 EL n0 kn B D Q h σ ce sl pc Ls (.long x :: st) :=
  Go.step (fun T hA hx hb t q => XT.lneg hA hx rfl (Jvm.hb hb hd) rfl q) r
theorem i2l (pc : Nat) {x : Int32} (hd : decode B.bs pc = .ok (.i2l, 1))  (r : Go l Z a0 EL n0 kn B D Q h σ ce sl (pc + 1) Ls (.long x.toInt64 :: st))  : Go l Z a0 EL n0 kn B D Q h σ ce sl pc Ls (.int x :: st) :=
  Go.step (fun T hA hx hb t q => XT.i2l hA hx rfl (Jvm.hb hb hd) rfl q) r
theorem l2i (pc : Nat) {x : Int64} (hd : decode B.bs pc = .ok (.l2i, 1))  (r : Go l Z a0 EL n0 kn B D Q h σ ce sl (pc + 1) Ls (.int x.toInt32 :: st))  : Go l Z a0 EL n0 kn B D Q h σ ce sl pc Ls (.long x :: st) :=
  Go.step (fun T hA hx hb t q => XT.l2i hA hx rfl (Jvm.hb hb hd) rfl q) r
theorem i2b (pc : Nat) {x : Int32} (hd : decode B.bs pc = .ok (.i2b, 1))  (r : Go l Z a0 EL n0 kn B D Q h σ ce sl (pc + 1) Ls (.int x.toInt8.toInt32 :: st))  : Go l Z a0 EL n0 kn B D Q h σ ce sl pc Ls (.int x :: st) :=
  Go.step (fun T hA hx hb t q => XT.i2b hA hx rfl (Jvm.hb hb hd) rfl q) r
theorem i2c (pc : Nat) {x : Int32} (hd : decode B.bs pc = .ok (.i2c, 1))  (r : Go l Z a0 EL n0 kn B D Q h σ ce sl (pc + 1) Ls (.int (chr x) :: st))  : Go l Z a0 EL n0 kn B D Q h σ ce sl pc Ls (.int x :: st) :=
  Go.step (fun T hA hx hb t q => XT.i2c hA hx rfl (Jvm.hb hb hd) rfl q) r
theorem lcmp (pc : Nat) {x y : Int64} (hd : decode B.bs pc = .ok (.lcmp, 1))  (r : Go l Z a0 EL n0 kn B D Q h σ ce sl (pc + 1) Ls (.int (XT.cmpL x y) :: st))  : Go l Z a0 EL n0 kn B D Q h σ ce sl pc Ls (.long y :: .long x :: st) :=
  Go.step (fun T hA hx hb t q => XT.lcmp hA hx rfl (Jvm.hb hb hd) rfl q) r
theorem dup (pc : Nat) {v : Value} (hd : decode B.bs pc = .ok (.dup, 1))  (r : Go l Z a0 EL n0 kn B D Q h σ ce sl (pc + 1) Ls (v :: v :: st)) (hc : v.category = 1 := by rfl) : Go l Z a0 EL n0 kn B D Q h σ ce sl pc Ls (v :: st) :=
  Go.step (fun T hA hx hb t q => XS.dup hA hx rfl (Jvm.hb hb hd) rfl hc q) r
theorem dupX1 (pc : Nat) {v w : Value} (hd : decode B.bs pc = .ok (.dup_x1, 1))   (r : Go l Z a0 EL n0 kn B D Q h σ ce sl (pc + 1) Ls (v :: w :: v :: st)) (hc : v.category = 1 := by rfl) (hw : w.category = 1 := by rfl) : Go l Z a0 EL n0 kn B D Q h σ ce sl pc Ls (v :: w :: st) :=
  Go.step (fun T hA hx hb t q => XT.dupX1 hA hx rfl (Jvm.hb hb hd) rfl hc hw q) r
theorem pop (pc : Nat) {v : Value} (hd : decode B.bs pc = .ok (.pop, 1))  (r : Go l Z a0 EL n0 kn B D Q h σ ce sl (pc + 1) Ls st) (hc : v.category = 1 := by rfl) : Go l Z a0 EL n0 kn B D Q h σ ce sl pc Ls (v :: st) :=
  Go.step (fun T hA hx hb t q => XT.pop hA hx rfl (Jvm.hb hb hd) rfl hc q) r
theorem istore (pc : Nat) {k : Nat} {x : Int32} (l' : Array Slot) (hd : decode B.bs pc = .ok (.istore k, 2)) (hl : storeLocals Ls k (.int x) = some l') (r : Go l Z a0 EL n0 kn B D Q h σ ce sl (pc + 2) l' st)  : Go l Z a0 EL n0 kn B D Q h σ ce sl pc Ls (.int x :: st) :=
  Go.step (fun T hA hx hb t q => XS.istore hA hx rfl (Jvm.hb hb hd) rfl hl q) r
theorem istoreN (pc : Nat) {k : Fin 4} {x : Int32} (l' : Array Slot) (hd : decode B.bs pc = .ok (.istore_n k, 1)) (hl : storeLocals Ls k.val (.int x) = some l') (r : Go l Z a0 EL n0 kn B D Q h σ ce sl (pc + 1) l' st)  : Go l Z a0 EL n0 kn B D Q h σ ce sl pc Ls (.int x :: st) :=
  Go.step (fun T hA hx hb t q => XS.istoreN hA hx rfl (Jvm.hb hb hd) rfl hl q) r
theorem lstore (pc : Nat) {k : Nat} {x : Int64} (l' : Array Slot) (hd : decode B.bs pc = .ok (.lstore k, 2)) (hl : storeLocals Ls k (.long x) = some l') (r : Go l Z a0 EL n0 kn B D Q h σ ce sl (pc + 2) l' st)  : Go l Z a0 EL n0 kn B D Q h σ ce sl pc Ls (.long x :: st) :=
  Go.step (fun T hA hx hb t q => XT.lstore hA hx rfl (Jvm.hb hb hd) rfl hl q) r
theorem lstoreN (pc : Nat) {k : Fin 4} {x : Int64} (l' : Array Slot) (hd : decode B.bs pc = .ok (.lstore_n k, 1)) (hl : storeLocals Ls k.val (.long x) = some l') (r : Go l Z a0 EL n0 kn B D Q h σ ce sl (pc + 1) l' st)  : Go l Z a0 EL n0 kn B D Q h σ ce sl pc Ls (.long x :: st) :=
  Go.step (fun T hA hx hb t q => XT.lstoreN hA hx rfl (Jvm.hb hb hd) rfl hl q) r
theorem astore (pc : Nat) {k : Nat} {v : Value} (l' : Array Slot) (hd : decode B.bs pc = .ok (.astore k, 2)) (hl : storeLocals Ls k v = some l')  (r : Go l Z a0 EL n0 kn B D Q h σ ce sl (pc + 2) l' st) (hv : v.isRef = true := by rfl) : Go l Z a0 EL n0 kn B D Q h σ ce sl pc Ls (v :: st) :=
  Go.step (fun T hA hx hb t q => XS.astore hA hx rfl (Jvm.hb hb hd) rfl hv hl q) r
theorem astoreN (pc : Nat) {k : Fin 4} {v : Value} (l' : Array Slot) (hd : decode B.bs pc = .ok (.astore_n k, 1)) (hl : storeLocals Ls k.val v = some l')  (r : Go l Z a0 EL n0 kn B D Q h σ ce sl (pc + 1) l' st) (hv : v.isRef = true := by rfl) : Go l Z a0 EL n0 kn B D Q h σ ce sl pc Ls (v :: st) :=
  Go.step (fun T hA hx hb t q => XS.astoreN hA hx rfl (Jvm.hb hb hd) rfl hv hl q) r
theorem iinc (pc : Nat) {k : Nat} {c : Int} {x : Int32} (v : Int32) (l' : Array Slot) (hd : decode B.bs pc = .ok (.iinc k c, 3)) (hv : Int32.ofInt c = v) (hl : Ls[k]? = some (.val (.int x))) (hl' : storeLocals Ls k (.int (x + v)) = some l') (r : Go l Z a0 EL n0 kn B D Q h σ ce sl (pc + 3) l' st)  : Go l Z a0 EL n0 kn B D Q h σ ce sl pc Ls st :=
  Go.step (fun T hA hx hb t q => XT.iincV hA hx rfl v (Jvm.hb hb hd) hv hl hl' q) r
theorem goto (pc : Nat) (tgt : Nat) {o : Int} (hd : decode B.bs pc = .ok (.goto o, 3)) (ht : (pc : Int) + o = (tgt : Int)) (r : Go l Z a0 EL n0 kn B D Q h σ ce sl tgt Ls st) : Go l Z a0 EL n0 kn B D Q h σ ce sl pc Ls st :=
  Go.step (fun T hA hx hb t q => XS.goto hA hx rfl (pc0 := pc) (pc' := tgt) rfl (Jvm.hb hb hd) (by rw [ht]; exact Int.natCast_nonneg _) (by rw [ht]; rfl) q) r
theorem icmp_eq (pc : Nat) (tgt : Nat) {o : Int} {x y : Int32} (hd : decode B.bs pc = .ok (.if_icmp .eq o, 3)) (ht : (pc : Int) + o = (tgt : Int)) (yes : x = y → Go l Z a0 EL n0 kn B D Q h σ ce sl tgt Ls st) (no : ¬ (x = y) → Go l Z a0 EL n0 kn B D Q h σ ce sl (pc + 3) Ls st) : Go l Z a0 EL n0 kn B D Q h σ ce sl pc Ls (.int y :: .int x :: st) := by
  by_cases c : x = y
  · exact Go.step (fun T hA hx hb t q => XS.icmpYes hA hx rfl (pc0 := pc) (pc' := tgt) rfl (Jvm.hb hb hd) rfl (XT.ii_eq_t c) (by rw [ht]; exact Int.natCast_nonneg _) (by rw [ht]; rfl) q) (yes c)
  · exact Go.step (fun T hA hx hb t q => XS.icmpNo hA hx rfl (Jvm.hb hb hd) rfl (XT.ii_eq_f c) q) (no c)
theorem icmp_ne (pc : Nat) (tgt : Nat) {o : Int} {x y : Int32} (hd : decode B.bs pc = .ok (.if_icmp .ne o, 3)) (ht : (pc : Int) + o = (tgt : Int)) (yes : ¬ (x = y) → Go l Z a0 EL n0 kn B D Q h σ ce sl tgt Ls st) (no : x = y → Go l Z a0 EL n0 kn B D Q h σ ce sl (pc + 3) Ls st) : Go l Z a0 EL n0 kn B D Q h σ ce sl pc Ls (.int y :: .int x :: st) := by
  by_cases c : x = y
  · exact Go.step (fun T hA hx hb t q => XS.icmpNo hA hx rfl (Jvm.hb hb hd) rfl (XT.ii_ne_f c) q) (no c)
  · exact Go.step (fun T hA hx hb t q => XS.icmpYes hA hx rfl (pc0 := pc) (pc' := tgt) rfl (Jvm.hb hb hd) rfl (XT.ii_ne_t c) (by rw [ht]; exact Int.natCast_nonneg _) (by rw [ht]; rfl) q) (yes c)
theorem icmp_lt (pc : Nat) (tgt : Nat) {o : Int} {x y : Int32} (hd : decode B.bs pc = .ok (.if_icmp .lt o, 3)) (ht : (pc : Int) + o = (tgt : Int)) (yes : x < y → Go l Z a0 EL n0 kn B D Q h σ ce sl tgt Ls st) (no : ¬ (x < y) → Go l Z a0 EL n0 kn B D Q h σ ce sl (pc + 3) Ls st) : Go l Z a0 EL n0 kn B D Q h σ ce sl pc Ls (.int y :: .int x :: st) := by
  by_cases c : x < y
  · exact Go.step (fun T hA hx hb t q => XS.icmpYes hA hx rfl (pc0 := pc) (pc' := tgt) rfl (Jvm.hb hb hd) rfl (XT.ii_lt_t c) (by rw [ht]; exact Int.natCast_nonneg _) (by rw [ht]; rfl) q) (yes c)
  · exact Go.step (fun T hA hx hb t q => XS.icmpNo hA hx rfl (Jvm.hb hb hd) rfl (XT.ii_lt_f c) q) (no c)
theorem icmp_ge (pc : Nat) (tgt : Nat) {o : Int} {x y : Int32} (hd : decode B.bs pc = .ok (.if_icmp .ge o, 3)) (ht : (pc : Int) + o = (tgt : Int)) (yes : ¬ (x < y) → Go l Z a0 EL n0 kn B D Q h σ ce sl tgt Ls st) (no : x < y → Go l Z a0 EL n0 kn B D Q h σ ce sl (pc + 3) Ls st) : Go l Z a0 EL n0 kn B D Q h σ ce sl pc Ls (.int y :: .int x :: st) := by
  by_cases c : x < y
  · exact Go.step (fun T hA hx hb t q => XS.icmpNo hA hx rfl (Jvm.hb hb hd) rfl (XT.ii_ge_f c) q) (no c)
  · exact Go.step (fun T hA hx hb t q => XS.icmpYes hA hx rfl (pc0 := pc) (pc' := tgt) rfl (Jvm.hb hb hd) rfl (XT.ii_ge_t c) (by rw [ht]; exact Int.natCast_nonneg _) (by rw [ht]; rfl) q) (yes c)
theorem icmp_gt (pc : Nat) (tgt : Nat) {o : Int} {x y : Int32} (hd : decode B.bs pc = .ok (.if_icmp .gt o, 3)) (ht : (pc : Int) + o = (tgt : Int)) (yes : y < x → Go l Z a0 EL n0 kn B D Q h σ ce sl tgt Ls st) (no : ¬ (y < x) → Go l Z a0 EL n0 kn B D Q h σ ce sl (pc + 3) Ls st) : Go l Z a0 EL n0 kn B D Q h σ ce sl pc Ls (.int y :: .int x :: st) := by
  by_cases c : y < x
  · exact Go.step (fun T hA hx hb t q => XS.icmpYes hA hx rfl (pc0 := pc) (pc' := tgt) rfl (Jvm.hb hb hd) rfl (XT.ii_gt_t c) (by rw [ht]; exact Int.natCast_nonneg _) (by rw [ht]; rfl) q) (yes c)
  · exact Go.step (fun T hA hx hb t q => XS.icmpNo hA hx rfl (Jvm.hb hb hd) rfl (XT.ii_gt_f c) q) (no c)
theorem icmp_le (pc : Nat) (tgt : Nat) {o : Int} {x y : Int32} (hd : decode B.bs pc = .ok (.if_icmp .le o, 3)) (ht : (pc : Int) + o = (tgt : Int)) (yes : ¬ (y < x) → Go l Z a0 EL n0 kn B D Q h σ ce sl tgt Ls st) (no : y < x → Go l Z a0 EL n0 kn B D Q h σ ce sl (pc + 3) Ls st) : Go l Z a0 EL n0 kn B D Q h σ ce sl pc Ls (.int y :: .int x :: st) := by
  by_cases c : y < x
  · exact Go.step (fun T hA hx hb t q => XS.icmpNo hA hx rfl (Jvm.hb hb hd) rfl (XT.ii_le_f c) q) (no c)
  · exact Go.step (fun T hA hx hb t q => XS.icmpYes hA hx rfl (pc0 := pc) (pc' := tgt) rfl (Jvm.hb hb hd) rfl (XT.ii_le_t c) (by rw [ht]; exact Int.natCast_nonneg _) (by rw [ht]; rfl) q) (yes c)
theorem if_eq (pc : Nat) (tgt : Nat) {o : Int} {x : Int32} (hd : decode B.bs pc = .ok (.ifCond .eq o, 3)) (ht : (pc : Int) + o = (tgt : Int)) (yes : x = 0 → Go l Z a0 EL n0 kn B D Q h σ ce sl tgt Ls st) (no : ¬ (x = 0) → Go l Z a0 EL n0 kn B D Q h σ ce sl (pc + 3) Ls st) : Go l Z a0 EL n0 kn B D Q h σ ce sl pc Ls (.int x :: st) := by
  by_cases c : x = 0
  · exact Go.step (fun T hA hx hb t q => XS.ifYes hA hx rfl (pc0 := pc) (pc' := tgt) rfl (Jvm.hb hb hd) rfl (XT.i0_eq_t c) (by rw [ht]; exact Int.natCast_nonneg _) (by rw [ht]; rfl) q) (yes c)
  · exact Go.step (fun T hA hx hb t q => XS.ifNo hA hx rfl (Jvm.hb hb hd) rfl (XT.i0_eq_f c) q) (no c)
theorem if_ne (pc : Nat) (tgt : Nat) {o : Int} {x : Int32} (hd : decode B.bs pc = .ok (.ifCond .ne o, 3)) (ht : (pc : Int) + o = (tgt : Int)) (yes : ¬ (x = 0) → Go l Z a0 EL n0 kn B D Q h σ ce sl tgt Ls st) (no : x = 0 → Go l Z a0 EL n0 kn B D Q h σ ce sl (pc + 3) Ls st) : Go l Z a0 EL n0 kn B D Q h σ ce sl pc Ls (.int x :: st) := by
  by_cases c : x = 0
  · exact Go.step (fun T hA hx hb t q => XS.ifNo hA hx rfl (Jvm.hb hb hd) rfl (XT.i0_ne_f c) q) (no c)
  · exact Go.step (fun T hA hx hb t q => XS.ifYes hA hx rfl (pc0 := pc) (pc' := tgt) rfl (Jvm.hb hb hd) rfl (XT.i0_ne_t c) (by rw [ht]; exact Int.natCast_nonneg _) (by rw [ht]; rfl) q) (yes c)
theorem if_lt (pc : Nat) (tgt : Nat) {o : Int} {x : Int32} (hd : decode B.bs pc = .ok (.ifCond .lt o, 3)) (ht : (pc : Int) + o = (tgt : Int)) (yes : x < 0 → Go l Z a0 EL n0 kn B D Q h σ ce sl tgt Ls st) (no : ¬ (x < 0) → Go l Z a0 EL n0 kn B D Q h σ ce sl (pc + 3) Ls st) : Go l Z a0 EL n0 kn B D Q h σ ce sl pc Ls (.int x :: st) := by
  by_cases c : x < 0
  · exact Go.step (fun T hA hx hb t q => XS.ifYes hA hx rfl (pc0 := pc) (pc' := tgt) rfl (Jvm.hb hb hd) rfl (XT.i0_lt_t c) (by rw [ht]; exact Int.natCast_nonneg _) (by rw [ht]; rfl) q) (yes c)
  · exact Go.step (fun T hA hx hb t q => XS.ifNo hA hx rfl (Jvm.hb hb hd) rfl (XT.i0_lt_f c) q) (no c)
theorem if_ge (pc : Nat) (tgt : Nat) {o : Int} {x : Int32} (hd : decode B.bs pc = .ok (.ifCond .ge o, 3)) (ht : (pc : Int) + o = (tgt : Int)) (yes : ¬ (x < 0) → Go l Z a0 EL n0 kn B D Q h σ ce sl tgt Ls st) (no : x < 0 → Go l Z a0 EL n0 kn B D Q h σ ce sl (pc + 3) Ls st) : Go l Z a0 EL n0 kn B D Q h σ ce sl pc Ls (.int x :: st) := by
  by_cases c : x < 0
  · exact Go.step (fun T hA hx hb t q => XS.ifNo hA hx rfl (Jvm.hb hb hd) rfl (XT.i0_ge_f c) q) (no c)
  · exact Go.step (fun T hA hx hb t q => XS.ifYes hA hx rfl (pc0 := pc) (pc' := tgt) rfl (Jvm.hb hb hd) rfl (XT.i0_ge_t c) (by rw [ht]; exact Int.natCast_nonneg _) (by rw [ht]; rfl) q) (yes c)
theorem if_gt (pc : Nat) (tgt : Nat) {o : Int} {x : Int32} (hd : decode B.bs pc = .ok (.ifCond .gt o, 3)) (ht : (pc : Int) + o = (tgt : Int)) (yes : 0 < x → Go l Z a0 EL n0 kn B D Q h σ ce sl tgt Ls st) (no : ¬ (0 < x) → Go l Z a0 EL n0 kn B D Q h σ ce sl (pc + 3) Ls st) : Go l Z a0 EL n0 kn B D Q h σ ce sl pc Ls (.int x :: st) := by
  by_cases c : 0 < x
  · exact Go.step (fun T hA hx hb t q => XS.ifYes hA hx rfl (pc0 := pc) (pc' := tgt) rfl (Jvm.hb hb hd) rfl (XT.i0_gt_t c) (by rw [ht]; exact Int.natCast_nonneg _) (by rw [ht]; rfl) q) (yes c)
  · exact Go.step (fun T hA hx hb t q => XS.ifNo hA hx rfl (Jvm.hb hb hd) rfl (XT.i0_gt_f c) q) (no c)
theorem if_le (pc : Nat) (tgt : Nat) {o : Int} {x : Int32} (hd : decode B.bs pc = .ok (.ifCond .le o, 3)) (ht : (pc : Int) + o = (tgt : Int)) (yes : ¬ (0 < x) → Go l Z a0 EL n0 kn B D Q h σ ce sl tgt Ls st) (no : 0 < x → Go l Z a0 EL n0 kn B D Q h σ ce sl (pc + 3) Ls st) : Go l Z a0 EL n0 kn B D Q h σ ce sl pc Ls (.int x :: st) := by
  by_cases c : 0 < x
  · exact Go.step (fun T hA hx hb t q => XS.ifNo hA hx rfl (Jvm.hb hb hd) rfl (XT.i0_le_f c) q) (no c)
  · exact Go.step (fun T hA hx hb t q => XS.ifYes hA hx rfl (pc0 := pc) (pc' := tgt) rfl (Jvm.hb hb hd) rfl (XT.i0_le_t c) (by rw [ht]; exact Int.natCast_nonneg _) (by rw [ht]; rfl) q) (yes c)
theorem ifl_eq (pc : Nat) (tgt : Nat) {o : Int} {x y : Int64} (hd : decode B.bs pc = .ok (.ifCond .eq o, 3)) (ht : (pc : Int) + o = (tgt : Int)) (yes : x = y → Go l Z a0 EL n0 kn B D Q h σ ce sl tgt Ls st) (no : ¬ (x = y) → Go l Z a0 EL n0 kn B D Q h σ ce sl (pc + 3) Ls st) : Go l Z a0 EL n0 kn B D Q h σ ce sl pc Ls (.int (XT.cmpL x y) :: st) := by
  by_cases c : x = y
  · exact Go.step (fun T hA hx hb t q => XS.ifYes hA hx rfl (pc0 := pc) (pc' := tgt) rfl (Jvm.hb hb hd) rfl (XT.ll_eq_t c) (by rw [ht]; exact Int.natCast_nonneg _) (by rw [ht]; rfl) q) (yes c)
  · exact Go.step (fun T hA hx hb t q => XS.ifNo hA hx rfl (Jvm.hb hb hd) rfl (XT.ll_eq_f c) q) (no c)
theorem ifl_ne (pc : Nat) (tgt : Nat) {o : Int} {x y : Int64} (hd : decode B.bs pc = .ok (.ifCond .ne o, 3)) (ht : (pc : Int) + o = (tgt : Int)) (yes : ¬ (x = y) → Go l Z a0 EL n0 kn B D Q h σ ce sl tgt Ls st) (no : x = y → Go l Z a0 EL n0 kn B D Q h σ ce sl (pc + 3) Ls st) : Go l Z a0 EL n0 kn B D Q h σ ce sl pc Ls (.int (XT.cmpL x y) :: st) := by
  by_cases c : x = y
  · exact Go.step (fun T hA hx hb t q => XS.ifNo hA hx rfl (Jvm.hb hb hd) rfl (XT.ll_ne_f c) q) (no c)
  · exact Go.step (fun T hA hx hb t q => XS.ifYes hA hx rfl (pc0 := pc) (pc' := tgt) rfl (Jvm.hb hb hd) rfl (XT.ll_ne_t c) (by rw [ht]; exact Int.natCast_nonneg _) (by rw [ht]; rfl) q) (yes c)
theorem ifl_lt (pc : Nat) (tgt : Nat) {o : Int} {x y : Int64} (hd : decode B.bs pc = .ok (.ifCond .lt o, 3)) (ht : (pc : Int) + o = (tgt : Int)) (yes : x < y → Go l Z a0 EL n0 kn B D Q h σ ce sl tgt Ls st) (no : ¬ (x < y) → Go l Z a0 EL n0 kn B D Q h σ ce sl (pc + 3) Ls st) : Go l Z a0 EL n0 kn B D Q h σ ce sl pc Ls (.int (XT.cmpL x y) :: st) := by
  by_cases c : x < y
  · exact Go.step (fun T hA hx hb t q => XS.ifYes hA hx rfl (pc0 := pc) (pc' := tgt) rfl (Jvm.hb hb hd) rfl (XT.ll_lt_t c) (by rw [ht]; exact Int.natCast_nonneg _) (by rw [ht]; rfl) q) (yes c)
  · exact Go.step (fun T hA hx hb t q => XS.ifNo hA hx rfl (Jvm.hb hb hd) rfl (XT.ll_lt_f c) q) (no c)
theorem ifl_ge (pc : Nat) (tgt : Nat) {o : Int} {x y : Int64} (hd : decode B.bs pc = .ok (.ifCond .ge o, 3)) (ht : (pc : Int) + o = (tgt : Int)) (yes : ¬ (x < y) → Go l Z a0 EL n0 kn B D Q h σ ce sl tgt Ls st) (no : x < y → Go l Z a0 EL n0 kn B D Q h σ ce sl (pc + 3) Ls st) : Go l Z a0 EL n0 kn B D Q h σ ce sl pc Ls (.int (XT.cmpL x y) :: st) := by
  by_cases c : x < y
  · exact Go.step (fun T hA hx hb t q => XS.ifNo hA hx rfl (Jvm.hb hb hd) rfl (XT.ll_ge_f c) q) (no c)
  · exact Go.step (fun T hA hx hb t q => XS.ifYes hA hx rfl (pc0 := pc) (pc' := tgt) rfl (Jvm.hb hb hd) rfl (XT.ll_ge_t c) (by rw [ht]; exact Int.natCast_nonneg _) (by rw [ht]; rfl) q) (yes c)
theorem ifl_gt (pc : Nat) (tgt : Nat) {o : Int} {x y : Int64} (hd : decode B.bs pc = .ok (.ifCond .gt o, 3)) (ht : (pc : Int) + o = (tgt : Int)) (yes : y < x → Go l Z a0 EL n0 kn B D Q h σ ce sl tgt Ls st) (no : ¬ (y < x) → Go l Z a0 EL n0 kn B D Q h σ ce sl (pc + 3) Ls st) : Go l Z a0 EL n0 kn B D Q h σ ce sl pc Ls (.int (XT.cmpL x y) :: st) := by
  by_cases c : y < x
  · exact Go.step (fun T hA hx hb t q => XS.ifYes hA hx rfl (pc0 := pc) (pc' := tgt) rfl (Jvm.hb hb hd) rfl (XT.ll_gt_t c) (by rw [ht]; exact Int.natCast_nonneg _) (by rw [ht]; rfl) q) (yes c)
  · exact Go.step (fun T hA hx hb t q => XS.ifNo hA hx rfl (Jvm.hb hb hd) rfl (XT.ll_gt_f c) q) (no c)
theorem ifl_le (pc : Nat) (tgt : Nat) {o : Int} {x y : Int64} (hd : decode B.bs pc = .ok (.ifCond .le o, 3)) (ht : (pc : Int) + o = (tgt : Int)) (yes : ¬ (y < x) → Go l Z a0 EL n0 kn B D Q h σ ce sl tgt Ls st) (no : y < x → Go l Z a0 EL n0 kn B D Q h σ ce sl (pc + 3) Ls st) : Go l Z a0 EL n0 kn B D Q h σ ce sl pc Ls (.int (XT.cmpL x y) :: st) := by
  by_cases c : y < x
  · exact Go.step (fun T hA hx hb t q => XS.ifNo hA hx rfl (Jvm.hb hb hd) rfl (XT.ll_le_f c) q) (no c)
  · exact Go.step (fun T hA hx hb t q => XS.ifYes hA hx rfl (pc0 := pc) (pc' := tgt) rfl (Jvm.hb hb hd) rfl (XT.ll_le_t c) (by rw [ht]; exact Int.natCast_nonneg _) (by rw [ht]; rfl) q) (yes c)
theorem ifnull (pc : Nat) (tgt : Nat) {o : Int} {v : Value} (hr : v.isRef = true) (hd : decode B.bs pc = .ok (.ifnull o, 3)) (ht : (pc : Int) + o = (tgt : Int)) (yes : v = .null → Go l Z a0 EL n0 kn B D Q h σ ce sl tgt Ls st) (no : ¬ (v = .null) → Go l Z a0 EL n0 kn B D Q h σ ce sl (pc + 3) Ls st) : Go l Z a0 EL n0 kn B D Q h σ ce sl pc Ls (v :: st) := by
  by_cases c : v = .null
  · exact Go.step (fun T hA hx hb t q => XT.nullYes hA hx rfl (pc0 := pc) (pc' := tgt) rfl (Jvm.hb hb hd) rfl c (by rw [ht]; exact Int.natCast_nonneg _) (by rw [ht]; rfl) q) (yes c)
  · exact Go.step (fun T hA hx hb t q => XT.nullNo hA hx rfl (Jvm.hb hb hd) rfl hr c q) (no c)
theorem ifnonnull (pc : Nat) (tgt : Nat) {o : Int} {v : Value} (hr : v.isRef = true) (hd : decode B.bs pc = .ok (.ifnonnull o, 3)) (ht : (pc : Int) + o = (tgt : Int)) (yes : ¬ (v = .null) → Go l Z a0 EL n0 kn B D Q h σ ce sl tgt Ls st) (no : v = .null → Go l Z a0 EL n0 kn B D Q h σ ce sl (pc + 3) Ls st) : Go l Z a0 EL n0 kn B D Q h σ ce sl pc Ls (v :: st) := by
  by_cases c : v = .null
  · exact Go.step (fun T hA hx hb t q => XT.nonnullNo hA hx rfl (Jvm.hb hb hd) rfl c q) (no c)
  · exact Go.step (fun T hA hx hb t q => XT.nonnullYes hA hx rfl (pc0 := pc) (pc' := tgt) rfl (Jvm.hb hb hd) rfl hr c (by rw [ht]; exact Int.natCast_nonneg _) (by rw [ht]; rfl) q) (yes c)
theorem acmp_eq (pc : Nat) (tgt : Nat) {o : Int} {v w : Value} (hv : v.isRef = true) (hw : w.isRef = true) (hd : decode B.bs pc = .ok (.if_acmp .eq o, 3)) (ht : (pc : Int) + o = (tgt : Int)) (yes : v = w → Go l Z a0 EL n0 kn B D Q h σ ce sl tgt Ls st) (no : ¬ (v = w) → Go l Z a0 EL n0 kn B D Q h σ ce sl (pc + 3) Ls st) : Go l Z a0 EL n0 kn B D Q h σ ce sl pc Ls (w :: v :: st) := by
  by_cases c : v = w
  · exact Go.step (fun T hA hx hb t q => XT.acmpYes hA hx rfl (pc0 := pc) (pc' := tgt) rfl (Jvm.hb hb hd) rfl hv hw (XT.aa_eq_t c) (by rw [ht]; exact Int.natCast_nonneg _) (by rw [ht]; rfl) q) (yes c)
  · exact Go.step (fun T hA hx hb t q => XT.acmpNo hA hx rfl (Jvm.hb hb hd) rfl hv hw (XT.aa_eq_f c) q) (no c)
theorem acmp_ne (pc : Nat) (tgt : Nat) {o : Int} {v w : Value} (hv : v.isRef = true) (hw : w.isRef = true) (hd : decode B.bs pc = .ok (.if_acmp .ne o, 3)) (ht : (pc : Int) + o = (tgt : Int)) (yes : ¬ (v = w) → Go l Z a0 EL n0 kn B D Q h σ ce sl tgt Ls st) (no : v = w → Go l Z a0 EL n0 kn B D Q h σ ce sl (pc + 3) Ls st) : Go l Z a0 EL n0 kn B D Q h σ ce sl pc Ls (w :: v :: st) := by
  by_cases c : v = w
  · exact Go.step (fun T hA hx hb t q => XT.acmpNo hA hx rfl (Jvm.hb hb hd) rfl hv hw (XT.aa_ne_f c) q) (no c)
  · exact Go.step (fun T hA hx hb t q => XT.acmpYes hA hx rfl (pc0 := pc) (pc' := tgt) rfl (Jvm.hb hb hd) rfl hv hw (XT.aa_ne_t c) (by rw [ht]; exact Int.natCast_nonneg _) (by rw [ht]; rfl) q) (yes c)
end Plain
end Jvm.Road
namespace Jvm.Road
open Jvm Jvm.ClassFile Sem Op Lib Jvm.Free Jvm.Stand Jvm.LawKit Jvm.RoadKit Bundle
section Facts
variable {Z : State} {h h' : Heap} {a b : Addr} {ty : FieldType} {vs : List Value} {ws : List Addr}
/-- the array at a holds just these values -/
def Ary (Z : State) (h : Heap) (a : Addr) (ty : FieldType) (vs : List Value) : Prop := ∃ c : Cell, Arr Z h a c ty ∧ c.slots.toList = vs ∧ vs.length < 2147483648 ∧ ∀ v ∈ vs, fits ty v = true
theorem Ary.keep (F : Ary Z h a ty vs) (K : Keep h h' ws) (q : a ∉ ws) : Ary Z h' a ty vs := by
  obtain ⟨c, A, r⟩ := F; exact ⟨c, ⟨K.2.1 a c A.1 q, A.2⟩, r⟩
theorem Ary.lt (F : Ary Z h a ty vs) : a < h.size := by obtain ⟨c, A, -⟩ := F; exact A.lt
theorem Ary.small (F : Ary Z h a ty vs) : vs.length < 2147483648 := by obtain ⟨c, A, -, q, -⟩ := F; exact q
theorem Ary.fit (F : Ary Z h a ty vs) : ∀ v ∈ vs, fits ty v = true := by obtain ⟨c, A, -, -, q⟩ := F; exact q
theorem Ary.wr {i : Nat} {v : Value} (F : Ary Z h a ty vs) (W : Wr h h' a i v) (hv : fits ty v = true) : Ary Z h' a ty (vs.set i v) := by
  obtain ⟨c, A, e, q, f⟩ := F
  refine ⟨_, Arr.same W A, ?_, by rw [List.length_set]; exact q, fun u hu => ?_⟩
  · show (c.slots.setIfInBounds i v).toList = _
    rw [Array.toList_setIfInBounds, e]
  · rcases List.mem_or_eq_of_mem_set hu with r | r
    · exact f u r
    · exact r ▸ hv
theorem ix_of {j : Int32} {i : Nat} (hj : j.toInt = (i : Int)) : ¬ j < 0 ∧ j.toNatClampNeg = i := by
  refine ⟨?_, ?_⟩
  · simp only [Int32.lt_iff_toInt_lt, hj, Int32.reduceToInt]; omega
  · simp only [Int32.toNatClampNeg, hj]; omega
theorem Ary.inb {c : Cell} {j : Int32} {i : Nat} (e : c.slots.toList = vs) (hj : j.toInt = (i : Int)) (hi : i < vs.length) : ¬ (j < 0 ∨ c.slots.size ≤ j.toNatClampNeg) := by
  obtain ⟨q1, q2⟩ := ix_of hj
  rw [q2, ← Array.length_toList, e]
  intro q; rcases q with q | q
  · exact q1 q
  · omega
theorem Ary.of_arv {k : ClassId} {z : Int32} {d : Value} (F : Arv Z h a k ty z vs d) (hz : z.toNatClampNeg = vs.length) : Ary Z h a ty vs := by
  obtain ⟨c, A, -, S, hn, H, G⟩ := F
  have hsz : c.slots.size = vs.length := S.trans hz
  have e : c.slots.toList = vs := by
    apply List.ext_getElem?
    intro i
    by_cases hi : i < vs.length
    · have := H i (by rw [hsz]; exact hi)
      rw [Array.getElem?_toList, this, List.getD_eq_getElem?_getD, List.getElem?_eq_getElem hi]; rfl
    · rw [List.getElem?_eq_none (Nat.le_of_not_lt hi), List.getElem?_eq_none (by rw [Array.length_toList, hsz]; exact Nat.le_of_not_lt hi)]
  refine ⟨c, A, e, by have := Int32.toInt_lt z; simp only [Int32.toNatClampNeg] at hz; omega, fun v hv => ?_⟩
  obtain ⟨i, hi, rfl⟩ := List.getElem_of_mem hv
  have := G i (by rw [hsz]; exact hi)
  rwa [List.getD_eq_getElem?_getD, List.getElem?_eq_getElem hi] at this
def byt (c : Int32) : Value := .int c.toInt8.toInt32
abbrev SN : String := "java/lang/String"
/-- the object at a is a compact String of these chars, its bytes at b -/
def Str (Z : State) (h : Heap) (a b : Addr) (cs : List Int32) : Prop := Exa Z h a SN ∧ Fld Z h a SN "coder" "B" (.int 0) ∧ Fld Z h a SN "value" "[B" (.ref b) ∧ Ary Z h b .byte (cs.map byt) ∧ ∀ c ∈ cs, 0 ≤ c.toInt ∧ c.toInt < 256
theorem Str.keep {cs : List Int32} (F : Str Z h a b cs) (K : Keep h h' ws) (q : a ∉ ws) (q' : b ∉ ws) : Str Z h' a b cs := ⟨F.1.keep K, F.2.1.keep K q, F.2.2.1.keep K q, F.2.2.2.1.keep K q', F.2.2.2.2⟩
theorem Str.lt {cs : List Int32} (F : Str Z h a b cs) : a < h.size := F.1.lt
theorem Str.ltb {cs : List Int32} (F : Str Z h a b cs) : b < h.size := F.2.2.2.1.lt
theorem keep_ext (E : Ext h h') : Keep h h' [] := (Keep.refl h []).ext E
end Facts
section Heap
variable {l : Launch} {Z : State} {a0 : Array Value} {EL : List (String × Nat)} {n0 : Nat} {kn : Bool} {B : Bdy} {D : Dyn} {Q : Post} {h : Heap} {σ : Addr → Prop} {ce sl : Nat} {Ls : Array Slot} {st : List Value} {a : Addr}
theorem getfield (pc : Nat) {ix : Nat} {R0 O n d : String} {v : Value} (hd : decode B.bs pc = .ok (.getfield ix, 3)) (w : (Jvm.Cond.fieldLink B.y.cls ix R0 n d).before a0 Z = true) (via : Via Z R0 O n d) (F : Fld Z h a O n d v)
    (r : Go l Z a0 EL n0 kn B D Q h σ ce sl (pc + 3) Ls (v :: st)) : Go l Z a0 EL n0 kn B D Q h σ ce sl pc Ls (.ref a :: st) := by
  intro ok ew T vm0 I
  obtain ⟨k0, locs, X, h1, h2, h3, h4, h5, h6, h7, h8, h9, h10⟩ := I
  obtain ⟨T', X', e', s'⟩ := getF X ok.1 (s := D.s.setVm vm0) h4 h5 (host := "") (Or.inl w) via h1 F (g := mkF D.m pc Ls (.ref a :: st)) rfl rfl (Jvm.hb ok.2.1 hd)
  obtain ⟨s2, o, q, rest⟩ := r ok ew T' vm0 ⟨k0, locs, X', e', h2, h3, h4, h5, h6, h7, h8, h9, h10⟩
  exact ⟨s2, o, s' _ q, rest⟩
theorem own_wr {vm0 : Vm} {h' : Heap} {i : Nat} {v : Value} (W : Wr h h' a i v) (hC : CHv Z EL vm0 h) (ha : Own Z EL n0 vm0 h a) {x : Addr} (hx : Own Z EL n0 vm0 h x) : Own Z EL n0 vm0 h' x :=
  ⟨Safe.wr W ha.1 hC hx.1, hx.2.1, by rw [W.size]; exact hx.2.2⟩
/-- behind a write of one place -/
theorem wrote {pc pc' : Nat} {Ls' : Array Slot} {st' : List Value} {i : Nat} {v : Value} (hσ : σ a)
    (s : ∀ T vm0 locs, Stand D.p l D.e B.rm (D.s.setVm vm0) D.m D.args D.bl D.meth D.c T locs ce sl → T.heap = h → Z.Warmed39 vm0 → vm0.findClass B.y.cls = some D.m.cls → Ok B D →
      ∃ T' h', Stand D.p l D.e B.rm (D.s.setVm vm0) D.m D.args D.bl D.meth D.c T' (locs ++ [⟨a, i⟩]) ce sl ∧ T'.heap = h' ∧ Wr h h' a i v ∧ ∀ target, Steps D.p.tables D.e D.bl (T'.setTop (mkF D.m pc' Ls' st')) target → Steps D.p.tables D.e D.bl (T.setTop (mkF D.m pc Ls st)) target)
    (r : ∀ h', Wr h h' a i v → Keep h h' [a] → Go l Z a0 EL n0 kn B D Q h' σ ce sl pc' Ls' st') : Go l Z a0 EL n0 kn B D Q h σ ce sl pc Ls st := by
  intro ok ew T vm0 I
  obtain ⟨k0, locs, X, h1, h2, h3, h4, h5, h6, h7, h8, h9, h10⟩ := I
  obtain ⟨T', h', X', e', W, s'⟩ := s T vm0 locs X h1 h4 h5 ok
  have ha := h9 a hσ
  obtain ⟨s2, o, q, rest⟩ := r h' W (Keep.of_wr W) ok ew T' vm0 ⟨k0, _, X', e', h2, by rw [W.size]; exact h3, h4, h5, h6.trans (CHr.wr W ha.1 h6.1), h7.app fun y hy => by cases List.mem_singleton.mp hy; exact ha.2.1, h8.wr W ha.2.1, fun x hx => own_wr W h6.1 ha (h9 x hx), h10⟩
  exact ⟨s2, o, s' _ q, rest⟩
theorem putfield (pc : Nat) {ix : Nat} {R0 O n d C : String} {kk : Nat} {ty : FieldType} {v old : Value} (hd : decode B.bs pc = .ok (.putfield ix, 3)) (w : (Jvm.Cond.fieldLink B.y.cls ix R0 n d).before a0 Z = true) (via : Via Z R0 O n d) (F : Fld Z h a O n d old) (E : Exa Z h a C)
    (L : (Jvm.Cond.lays C O n d).before a0 Z = true ∨ ((Jvm.Cond.laysFinal C O n d).before a0 Z = true ∧ B.y.cls = O ∧ B.y.name = "<init>")) (wi : (Jvm.Cond.instantiable C kk).before a0 Z = true) (hty : parseFieldDescriptor d = some ty) (hn : narrow ty v = v) (hf : fits ty v = true) (hσ : σ a)
    (r : ∀ h', Wr h h' a (RoadKit.slotOf Z O n d) v → Keep h h' [a] → Go l Z a0 EL n0 kn B D Q h' σ ce sl (pc + 3) Ls st) : Go l Z a0 EL n0 kn B D Q h σ ce sl pc Ls (v :: .ref a :: st) :=
  wrote hσ (fun T vm0 locs X h1 h4 h5 ok => putF X ok.1 (s := D.s.setVm vm0) h4 h5 (host := "") (Or.inl w) via h1 F E (L.imp id fun q => ⟨q.1, q.2.1, ok.2.2.2.2.2.trans q.2.2⟩) wi hty hn hf (g := mkF D.m pc Ls (v :: .ref a :: st)) rfl rfl (Jvm.hb ok.2.1 hd)) r
theorem getstatic (pc : Nat) {ix : Nat} {R0 O n d : String} {v : Value} (hd : decode B.bs pc = .ok (.getstatic ix, 3)) (w : (Jvm.Cond.fieldLink B.y.cls ix R0 n d).before a0 Z = true) (via : Via Z R0 O n d) (F : Sta Z Z.heap O n d v)
    (r : Go l Z a0 EL n0 kn B D Q h σ ce sl (pc + 3) Ls (v :: st)) : Go l Z a0 EL n0 kn B D Q h σ ce sl pc Ls st := by
  intro ok ew T vm0 I
  obtain ⟨k0, locs, X, h1, h2, h3, h4, h5, h6, h7, h8, h9, h10⟩ := I
  obtain ⟨T', X', e', s'⟩ := getS X ok.1 (s := D.s.setVm vm0) h4 h5 (host := "") w via h1 (F.ext h8.2) (g := mkF D.m pc Ls st) rfl (Jvm.hb ok.2.1 hd)
  obtain ⟨s2, o, q, rest⟩ := r ok ew T' vm0 ⟨k0, locs, X', e', h2, h3, h4, h5, h6, h7, h8, h9, h10⟩
  exact ⟨s2, o, s' _ q, rest⟩
theorem own_new {vm0 : Vm} {h' : Heap} (E : Ext h h') (hC : CHv Z EL vm0 h) (hO : Old Z n0 h) (hlt : h.size < h'.size) : Own Z EL n0 vm0 h' h.size :=
  ⟨(Safe.new (Nat.le_refl _)).ext E hC, hO.1 ▸ hO.2.1, hlt⟩
/-- behind the making of one cell -/
theorem made {pc pc' ce' sl' : Nat} {Ls' : Array Slot} {st' : List Value} {P : Heap → Prop}
    (s : ∀ T vm0 locs, Stand D.p l D.e B.rm (D.s.setVm vm0) D.m D.args D.bl D.meth D.c T locs ce sl → T.heap = h → Z.Warmed39 vm0 → vm0.findClass B.y.cls = some D.m.cls → Ok B D →
      ∃ T' h', Stand D.p l D.e B.rm (D.s.setVm vm0) D.m D.args D.bl D.meth D.c T' locs ce' sl' ∧ T'.heap = h' ∧ Ext h h' ∧ h.size < h'.size ∧ P h' ∧ ∀ target, Steps D.p.tables D.e D.bl (T'.setTop (mkF D.m pc' Ls' st')) target → Steps D.p.tables D.e D.bl (T.setTop (mkF D.m pc Ls st)) target)
    (r : ∀ h' σ', Keep h h' [] → h.size < h'.size → (∀ x, σ x → σ' x) → σ' h.size → P h' → Go l Z a0 EL n0 kn B D Q h' σ' ce' sl' pc' Ls' st') : Go l Z a0 EL n0 kn B D Q h σ ce sl pc Ls st := by
  intro ok ew T vm0 I
  obtain ⟨k0, locs, X, h1, h2, h3, h4, h5, h6, h7, h8, h9, h10⟩ := I
  obtain ⟨T', h', X', e', E, hlt, hP, s'⟩ := s T vm0 locs X h1 h4 h5 ok
  obtain ⟨s2, o, q, rest⟩ := r h' (Own Z EL n0 vm0 h') (keep_ext E) hlt (fun x hx => ⟨(h9 x hx).1.ext E h6.1, (h9 x hx).2.1, Nat.lt_of_lt_of_le (h9 x hx).2.2 E.1⟩) (own_new E h6.1 h8 hlt) hP ok ew T' vm0
    ⟨k0, locs, X', e', h2, Nat.le_trans h3 E.1, h4, h5, h6.trans (CHr.ext E h6.1), h7, h8.ext E, fun x hx => hx, h10⟩
  exact ⟨s2, o, s' _ q, rest⟩
theorem new (pc : Nat) {ix : Nat} (C : String) {n : Nat} (hd : decode B.bs pc = .ok (.new ix, 3)) (w : (Jvm.Cond.classLink B.y.cls ix C).before a0 Z = true) (wi : (Jvm.Cond.instantiable C n).before a0 Z = true) (wz : (Jvm.Cond.initialized C).before a0 Z = true) {ce' sl' : Nat} (hce : ce + 1 = ce') (hsl : sl + n = sl') (hc : ce' ≤ B.rm.cells) (hs : sl' ≤ B.rm.slots)
    (r : ∀ a h' σ', a = h.size → Keep h h' [] → a < h'.size → (∀ x, σ x → σ' x) → σ' a → Exa Z h' a C → (∀ {O nm d : String} {ty : FieldType}, Laid Z a0 C O nm d → parseFieldDescriptor d = some ty → Fld Z h' a O nm d (defaultValue ty)) → (∃ cell : Cell, h'[a]? = some cell ∧ cell.vm = .none ∧ cell.monitor = {}) →
      Go l Z a0 EL n0 kn B D Q h' σ' ce' sl' (pc + 3) Ls (.ref a :: st)) : Go l Z a0 EL n0 kn B D Q h σ ce sl pc Ls st := by
  subst hce hsl
  exact made (P := fun h' => Exa Z h' h.size C ∧ (∀ {O nm d : String} {ty : FieldType}, Laid Z a0 C O nm d → parseFieldDescriptor d = some ty → Fld Z h' h.size O nm d (defaultValue ty)) ∧ (∃ cell : Cell, h'[h.size]? = some cell ∧ cell.vm = .none ∧ cell.monitor = {}))
    (fun T vm0 locs X h1 h4 h5 ok => by
      obtain ⟨T', h', X', e', E, A, Dd, M, s'⟩ := newO X ok.1 (s := D.s.setVm vm0) h4 h5 w wi wz h1 (g := mkF D.m pc Ls st) rfl (Jvm.hb ok.2.1 hd) hc hs
      exact ⟨T', h', X', e', E, A.lt, ⟨A, Dd, M⟩, s'⟩)
    (fun h' σ' K hlt m1 m2 P => r h.size h' σ' rfl K hlt m1 m2 P.1 P.2.1 P.2.2)
theorem newarray (pc : Nat) {aty : ArrayType} (ty : FieldType) (n cap : Nat) {z : Int32} (hd : decode B.bs pc = .ok (.newarray aty, 2)) (hty : newarray.typeOf aty = ty) (w : (Jvm.Cond.arrayClass ty).before a0 Z = true) (hz : z.toInt = (n : Int)) (hcap : n ≤ cap) (hb : cap * 8 ≤ 536870912) {ce' sl' : Nat} (hce : ce + 1 = ce') (hsl : sl + cap = sl') (hc : ce' ≤ B.rm.cells) (hs : sl' ≤ B.rm.slots)
    (r : ∀ a h' σ', a = h.size → Keep h h' [] → a < h'.size → (∀ x, σ x → σ' x) → σ' a → Ary Z h' a ty (List.replicate n (defaultValue ty)) → Go l Z a0 EL n0 kn B D Q h' σ' ce' sl' (pc + 2) Ls (.ref a :: st)) : Go l Z a0 EL n0 kn B D Q h σ ce sl pc Ls (.int z :: st) := by
  subst hce hsl
  exact made (P := fun h' => Ary Z h' h.size ty (List.replicate n (defaultValue ty)))
    (fun T vm0 locs X h1 h4 h5 ok => by
      subst hty
      obtain ⟨q1, q2⟩ := ix_of hz
      obtain ⟨T', h', cA, X', e', E, A, s'⟩ := newP X ok.1 (s := D.s.setVm vm0) h4 w h1 (g := mkF D.m pc Ls (.int z :: st)) rfl (Jvm.hb ok.2.1 hd) rfl q1 (cap := cap) (by rw [q2]; exact hcap) hb hc hs
      refine ⟨T', h', X', e', E, A.lt, ⟨_, A, ?_, ?_, ?_⟩, s'⟩
      · show (Array.replicate z.toNatClampNeg (defaultValue (newarray.typeOf aty))).toList = _
        rw [q2, Array.toList_replicate]
      · rw [List.length_replicate]; omega
      · intro v hv
        rw [(List.mem_replicate.mp hv).2]
        cases aty <;> rfl)
    (fun h' σ' K hlt m1 m2 P => r h.size h' σ' rfl K hlt m1 m2 P)
theorem plainX {pc pc' : Nat} {Ls' : Array Slot} {st' : List Value}
    (k : ∀ T vm0 locs, Stand D.p l D.e B.rm (D.s.setVm vm0) D.m D.args D.bl D.meth D.c T locs ce sl → T.heap = h → Z.Warmed39 vm0 → vm0.findClass B.y.cls = some D.m.cls → Ok B D → ∀ t, Steps D.p.tables D.e D.bl (T.setTop (mkF D.m pc' Ls' st')) t → Steps D.p.tables D.e D.bl (T.setTop (mkF D.m pc Ls st)) t)
    (r : Go l Z a0 EL n0 kn B D Q h σ ce sl pc' Ls' st') : Go l Z a0 EL n0 kn B D Q h σ ce sl pc Ls st := by
  intro ok ew T vm0 I
  obtain ⟨s2, o, q, rest⟩ := r ok ew T vm0 I
  obtain ⟨k0, locs, X, h1, h2, h3, h4, h5, -⟩ := I
  exact ⟨s2, o, k T vm0 locs X h1 h4 h5 ok _ q, rest⟩
theorem alen (pc : Nat) {ty : FieldType} {vs : List Value} {n : Nat} (z : Int32) (hd : decode B.bs pc = .ok (.arraylength, 1)) (A : Ary Z h a ty vs) (hn : vs.length = n) (hz : n.toInt32 = z) (r : Go l Z a0 EL n0 kn B D Q h σ ce sl (pc + 1) Ls (.int z :: st)) : Go l Z a0 EL n0 kn B D Q h σ ce sl pc Ls (.ref a :: st) :=
  plainX (fun T vm0 locs X h1 h4 h5 ok t q => by
    obtain ⟨c, A, e, -⟩ := A
    refine X.arraylength ok.1 (by rw [h1]; exact A.1) (State.isArrayOf_alike (T := D.s.setVm vm0) h4.alike A.2.1) (g := mkF D.m pc Ls (.ref a :: st)) rfl rfl (Jvm.hb ok.2.1 hd) t ?_
    rw [← Array.length_toList, e, hn, hz]; exact q) r
theorem caload (pc : Nat) {vs : List Value} {j : Int32} (i : Nat) {v : Value} (hd : decode B.bs pc = .ok (.caload, 1)) (A : Ary Z h a .char vs) (hj : j.toInt = (i : Int)) (hv : vs[i]? = some v) (r : Go l Z a0 EL n0 kn B D Q h σ ce sl (pc + 1) Ls (v :: st)) : Go l Z a0 EL n0 kn B D Q h σ ce sl pc Ls (.int j :: .ref a :: st) :=
  plainX (fun T vm0 locs X h1 h4 h5 ok t q => by
    obtain ⟨c, A, e, -⟩ := A
    have hi : i < vs.length := (List.getElem?_eq_some_iff.mp hv).1
    exact X.caload ok.1 (by rw [h1]; exact A.1) (State.isArrayOf_alike (T := D.s.setVm vm0) h4.alike A.2.1) A.2.2 (Ary.inb e hj hi) (by rw [(ix_of hj).2, ← Array.getElem?_toList, e]; exact hv) (g := mkF D.m pc Ls (.int j :: .ref a :: st)) rfl rfl (Jvm.hb ok.2.1 hd) t q) r
theorem baload (pc : Nat) {vs : List Value} {j : Int32} (i : Nat) {v : Value} (hd : decode B.bs pc = .ok (.baload, 1)) (A : Ary Z h a .byte vs) (hj : j.toInt = (i : Int)) (hv : vs[i]? = some v) (r : Go l Z a0 EL n0 kn B D Q h σ ce sl (pc + 1) Ls (v :: st)) : Go l Z a0 EL n0 kn B D Q h σ ce sl pc Ls (.int j :: .ref a :: st) :=
  plainX (fun T vm0 locs X h1 h4 h5 ok t q => by
    obtain ⟨c, A, e, -⟩ := A
    have hi : i < vs.length := (List.getElem?_eq_some_iff.mp hv).1
    exact X.baloadBytes ok.1 (by rw [h1]; exact A.1) (State.isArrayOf_alike (T := D.s.setVm vm0) h4.alike A.2.1) A.2.2 (Ary.inb e hj hi) (by rw [(ix_of hj).2, ← Array.getElem?_toList, e]; exact hv) (g := mkF D.m pc Ls (.int j :: .ref a :: st)) rfl rfl (Jvm.hb ok.2.1 hd) t q) r
theorem laload (pc : Nat) {vs : List Value} {j : Int32} (i : Nat) {v : Value} (hd : decode B.bs pc = .ok (.laload, 1)) (A : Ary Z h a .long vs) (hj : j.toInt = (i : Int)) (hv : vs[i]? = some v) (r : Go l Z a0 EL n0 kn B D Q h σ ce sl (pc + 1) Ls (v :: st)) : Go l Z a0 EL n0 kn B D Q h σ ce sl pc Ls (.int j :: .ref a :: st) :=
  plainX (fun T vm0 locs X h1 h4 h5 ok t q => by
    obtain ⟨c, A, e, -⟩ := A
    have hi : i < vs.length := (List.getElem?_eq_some_iff.mp hv).1
    exact X.laload ok.1 (by rw [h1]; exact A.1) (State.isArrayOf_alike (T := D.s.setVm vm0) h4.alike A.2.1) A.2.2 (Ary.inb e hj hi) (by rw [(ix_of hj).2, ← Array.getElem?_toList, e]; exact hv) (g := mkF D.m pc Ls (.int j :: .ref a :: st)) rfl rfl (Jvm.hb ok.2.1 hd) t q) r
theorem castore (pc : Nat) {vs : List Value} {j x : Int32} (i : Nat) (w : Int32) (hd : decode B.bs pc = .ok (.castore, 1)) (A : Ary Z h a .char vs) (hj : j.toInt = (i : Int)) (hi : i < vs.length) (hw : nar .char x = w) (hσ : σ a)
    (r : ∀ h', Keep h h' [a] → Ary Z h' a .char (vs.set i (.int w)) → Go l Z a0 EL n0 kn B D Q h' σ ce sl (pc + 1) Ls st) : Go l Z a0 EL n0 kn B D Q h σ ce sl pc Ls (.int x :: .int j :: .ref a :: st) :=
  wrote hσ (i := i) (v := .int w) (fun T vm0 locs X h1 h4 h5 ok => by
    subst hw
    obtain ⟨c, Ar, e, -⟩ := A
    have := stC X ok.1 (s := D.s.setVm vm0) h4 h1 Ar (Ary.inb e hj hi) (g := mkF D.m pc Ls (.int x :: .int j :: .ref a :: st)) rfl rfl (Jvm.hb ok.2.1 hd)
    rw [(ix_of hj).2] at this; exact this)
    (fun h' W K => r h' K (A.wr W (hw ▸ fits_nar_char x)))
theorem bastore (pc : Nat) {vs : List Value} {j x : Int32} (i : Nat) (w : Int32) (hd : decode B.bs pc = .ok (.bastore, 1)) (A : Ary Z h a .byte vs) (hj : j.toInt = (i : Int)) (hi : i < vs.length) (hw : nar .byte x = w) (hσ : σ a)
    (r : ∀ h', Keep h h' [a] → Ary Z h' a .byte (vs.set i (.int w)) → Go l Z a0 EL n0 kn B D Q h' σ ce sl (pc + 1) Ls st) : Go l Z a0 EL n0 kn B D Q h σ ce sl pc Ls (.int x :: .int j :: .ref a :: st) :=
  wrote hσ (i := i) (v := .int w) (fun T vm0 locs X h1 h4 h5 ok => by
    subst hw
    obtain ⟨c, Ar, e, -⟩ := A
    have := stB X ok.1 (s := D.s.setVm vm0) h4 h1 Ar (Ary.inb e hj hi) (g := mkF D.m pc Ls (.int x :: .int j :: .ref a :: st)) rfl rfl (Jvm.hb ok.2.1 hd)
    rw [(ix_of hj).2] at this; exact this)
    (fun h' W K => r h' K (A.wr W (hw ▸ fits_nar_byte x)))
theorem lastore (pc : Nat) {vs : List Value} {j : Int32} {x : Int64} (i : Nat) (hd : decode B.bs pc = .ok (.lastore, 1)) (A : Ary Z h a .long vs) (hj : j.toInt = (i : Int)) (hi : i < vs.length) (hσ : σ a)
    (r : ∀ h', Keep h h' [a] → Ary Z h' a .long (vs.set i (.long x)) → Go l Z a0 EL n0 kn B D Q h' σ ce sl (pc + 1) Ls st) : Go l Z a0 EL n0 kn B D Q h σ ce sl pc Ls (.long x :: .int j :: .ref a :: st) :=
  wrote hσ (i := i) (v := .long x) (fun T vm0 locs X h1 h4 h5 ok => by
    obtain ⟨c, Ar, e, -⟩ := A
    have := stJ X ok.1 (s := D.s.setVm vm0) h4 h1 Ar (Ary.inb e hj hi) (g := mkF D.m pc Ls (.long x :: .int j :: .ref a :: st)) rfl rfl (Jvm.hb ok.2.1 hd)
    rw [(ix_of hj).2] at this; exact this)
    (fun h' W K => r h' K (A.wr W rfl))
theorem ldcI (pc : Nat) {ix : Nat} {v : Int32} (hd : decode B.bs pc = .ok (.ldc ix, 2)) (w : (Jvm.Cond.constant B.y.cls ix v).before a0 Z = true) (r : Go l Z a0 EL n0 kn B D Q h σ ce sl (pc + 2) Ls (.int v :: st)) : Go l Z a0 EL n0 kn B D Q h σ ce sl pc Ls st :=
  plainX (fun T vm0 locs X h1 h4 h5 ok t q => X.ldcI ok.1 (own := B.y.cls) h5 (mv (s := D.s.setVm vm0) h4 w) (g := mkF D.m pc Ls st) rfl (Jvm.hb ok.2.1 hd) q) r
theorem ldc2J (pc : Nat) {ix : Nat} {v : Int64} (hd : decode B.bs pc = .ok (.ldc2_w ix, 3)) (w : (Jvm.Cond.constantLong B.y.cls ix v).before a0 Z = true) (r : Go l Z a0 EL n0 kn B D Q h σ ce sl (pc + 3) Ls (.long v :: st)) : Go l Z a0 EL n0 kn B D Q h σ ce sl pc Ls st :=
  plainX (fun T vm0 locs X h1 h4 h5 ok t q => X.ldc2J ok.1 (own := B.y.cls) h5 (mv (s := D.s.setVm vm0) h4 w) (g := mkF D.m pc Ls st) rfl (Jvm.hb ok.2.1 hd) q) r
end Heap
end Jvm.Road
namespace Jvm.Road
open Jvm Jvm.ClassFile Sem Op Lib Jvm.Free Jvm.Stand Jvm.LawKit Jvm.RoadKit Bundle
section Cast
variable {l : Launch} {Z : State} {a0 : Array Value} {EL : List (String × Nat)} {n0 : Nat} {kn : Bool} {B : Bdy} {D : Dyn} {Q : Post} {h : Heap} {σ : Addr → Prop} {ce sl : Nat} {Ls : Array Slot} {st : List Value} {a : Addr}
theorem instYes (pc : Nat) {ix : Nat} {K : String} (hd : decode B.bs pc = .ok (.instanceof ix, 3)) (w : (Jvm.Cond.classLink B.y.cls ix K).before a0 Z = true) (F : Ins Z h a K true) (r : Go l Z a0 EL n0 kn B D Q h σ ce sl (pc + 3) Ls (.int 1 :: st)) : Go l Z a0 EL n0 kn B D Q h σ ce sl pc Ls (.ref a :: st) := by
  intro ok ew T vm0 I
  obtain ⟨k0, locs, X, h1, h2, h3, h4, h5, h6, h7, h8, h9, h10⟩ := I
  obtain ⟨T', X', e', s'⟩ := instY X ok.1 (s := D.s.setVm vm0) h4 h5 w h1 F (g := mkF D.m pc Ls (.ref a :: st)) rfl rfl (Jvm.hb ok.2.1 hd)
  obtain ⟨s2, o, q, rest⟩ := r ok ew T' vm0 ⟨k0, locs, X', e', h2, h3, h4, h5, h6, h7, h8, h9, h10⟩
  exact ⟨s2, o, s' _ q, rest⟩
theorem castYes (pc : Nat) {ix : Nat} {K : String} (hd : decode B.bs pc = .ok (.checkcast ix, 3)) (w : (Jvm.Cond.classLink B.y.cls ix K).before a0 Z = true) (F : Ins Z h a K true) (r : Go l Z a0 EL n0 kn B D Q h σ ce sl (pc + 3) Ls (.ref a :: st)) : Go l Z a0 EL n0 kn B D Q h σ ce sl pc Ls (.ref a :: st) := by
  intro ok ew T vm0 I
  obtain ⟨k0, locs, X, h1, h2, h3, h4, h5, h6, h7, h8, h9, h10⟩ := I
  obtain ⟨T', X', e', s'⟩ := castY X ok.1 (s := D.s.setVm vm0) h4 h5 w h1 F (g := mkF D.m pc Ls (.ref a :: st)) rfl rfl (Jvm.hb ok.2.1 hd)
  obtain ⟨s2, o, q, rest⟩ := r ok ew T' vm0 ⟨k0, locs, X', e', h2, h3, h4, h5, h6, h7, h8, h9, h10⟩
  exact ⟨s2, o, s' _ q, rest⟩
end Cast
theorem Fld.uniq {Z : State} {h : Heap} {a : Addr} {C n d : String} {v w : Value} (F : Fld Z h a C n d v) (G : Fld Z h a C n d w) : v = w := by
  obtain ⟨c1, _, _, _, f1, a1, a2, -, -, -, -, a7⟩ := F
  obtain ⟨c2, _, _, _, f2, b1, b2, -, -, -, -, b7⟩ := G
  cases a1.symm.trans b1
  have q := a2.symm.trans b2
  simp only [Option.some.injEq, Prod.mk.injEq] at q
  obtain ⟨-, -, -, rfl⟩ := q
  exact Option.some.inj (a7.symm.trans b7)
theorem Ary.uniq {Z : State} {h : Heap} {a : Addr} {ty ty' : FieldType} {vs ws : List Value} (F : Ary Z h a ty vs) (G : Ary Z h a ty' ws) : vs = ws := by
  obtain ⟨c1, A1, e1, -⟩ := F
  obtain ⟨c2, A2, e2, -⟩ := G
  cases A1.1.symm.trans A2.1
  exact e1.symm.trans e2
end Jvm.Road
namespace Jvm.Road
open Jvm Jvm.ClassFile Sem Op Lib Jvm.Free Jvm.Stand Jvm.LawKit Jvm.RoadKit Bundle
section Clone
variable {l : Launch} {Z : State} {a0 : Array Value} {EL : List (String × Nat)} {n0 : Nat} {kn : Bool} {B : Bdy} {D : Dyn} {Q : Post} {h : Heap} {σ : Addr → Prop} {ce sl : Nat} {Ls : Array Slot} {st : List Value} {a : Addr}
theorem cloneArr (pc : Nat) {ix : Nat} {ad : String} {ty : FieldType} {vs : List Value} (W cap : Nat) (hd : decode B.bs pc = .ok (.invokevirtual ix, 3))
    (w1 : (Jvm.Cond.methodLink B.y.cls ix ⟨ad, "clone", "()Ljava/lang/Object;"⟩).before a0 Z = true) (w2 : (Jvm.Cond.sameMethod ad "java/lang/Object" "clone" "()Ljava/lang/Object;").before a0 Z = true) (w3 : (Jvm.Cond.native ⟨"java/lang/Object", "clone", "()Ljava/lang/Object;"⟩).before a0 Z = true)
    (w4 : (Jvm.Cond.instanceMethod ⟨"java/lang/Object", "clone", "()Ljava/lang/Object;"⟩).before a0 Z = true) (w5 : (Jvm.Cond.selects ad ⟨ad, "clone", "()Ljava/lang/Object;"⟩ ⟨"java/lang/Object", "clone", "()Ljava/lang/Object;"⟩).before a0 Z = true) (w6 : (Jvm.Cond.castable ad "java/lang/Cloneable").before a0 Z = true)
    (A : Ary Z h a ty vs) (E : Exa Z h a ad) (hW : (st.map fun v => v.category).sum = W) (hsz : Ls.size = B.ml) (hf : 1 ≤ B.rm.frames) (hl : W + 14 ≤ B.rm.locals) (hcap : vs.length ≤ cap) {ce' sl' : Nat} (hce : ce + 1 = ce') (hsl : sl + cap = sl') (hc : ce' ≤ B.rm.cells) (hs : sl' ≤ B.rm.slots)
    (r : ∀ b h' σ', b = h.size → Keep h h' [] → b < h'.size → (∀ x, σ x → σ' x) → σ' b → Ary Z h' b ty vs → Exa Z h' b ad → Go l Z a0 EL n0 kn B D Q h' σ' ce' sl' (pc + 3) Ls (.ref b :: st)) : Go l Z a0 EL n0 kn B D Q h σ ce sl pc Ls (.ref a :: st) := by
  subst hce hsl
  exact made (P := fun h' => Ary Z h' h.size ty vs ∧ Exa Z h' h.size ad)
    (fun T vm0 locs X h1 h4 h5 ok => by
      obtain ⟨cl, Ar, e, q, f⟩ := A
      obtain ⟨T', h', X', e', ex, A', E', s'⟩ := cloneA X ok.1 (s := D.s.setVm vm0) h4 h5 w1 w2 w3 w4 w5 w6 h1 Ar E (fitC_of Ar fun i hi v hv => f v (by rw [← e]; exact List.mem_of_getElem? (by rw [Array.getElem?_toList]; exact hv))) (g := mkF D.m pc Ls (.ref a :: st)) rfl (hsz.trans ok.2.2.1.symm) rfl (Jvm.hb ok.2.1 hd) hf (W := W) (cap := cap) (by show 2 * 0 + _ ≤ _; rw [hW]; omega) hl (by rw [← Array.length_toList, e]; exact hcap) hc hs
      exact ⟨T', h', X', e', ex, E'.lt, ⟨⟨_, A', e, q, f⟩, E'⟩, s'⟩)
    (fun h' σ' K hlt m1 m2 P => r h.size h' σ' rfl K hlt m1 m2 P.1 P.2)
theorem aaload (pc : Nat) {ty : FieldType} {vs : List Value} {j : Int32} (i : Nat) {v : Value} (hd : decode B.bs pc = .ok (.aaload, 1)) (A : Ary Z h a ty vs) (hty : ty.isReference = true) (hj : j.toInt = (i : Int)) (hv : vs[i]? = some v) (r : Go l Z a0 EL n0 kn B D Q h σ ce sl (pc + 1) Ls (v :: st)) : Go l Z a0 EL n0 kn B D Q h σ ce sl pc Ls (.int j :: .ref a :: st) :=
  plainX (fun T vm0 locs X h1 h4 h5 ok t q => by
    obtain ⟨c, A, e, -⟩ := A
    have hi : i < vs.length := (List.getElem?_eq_some_iff.mp hv).1
    exact X.aaload ok.1 (by rw [h1]; exact A.1) (State.isArrayOf_alike (T := D.s.setVm vm0) h4.alike A.2.1) hty A.2.2 (Ary.inb e hj hi) (by rw [(ix_of hj).2, ← Array.getElem?_toList, e]; exact hv) (g := mkF D.m pc Ls (.int j :: .ref a :: st)) rfl rfl (Jvm.hb ok.2.1 hd) t q) r
theorem instNull (pc : Nat) {ix : Nat} (hd : decode B.bs pc = .ok (.instanceof ix, 3)) (r : Go l Z a0 EL n0 kn B D Q h σ ce sl (pc + 3) Ls (.int 0 :: st)) : Go l Z a0 EL n0 kn B D Q h σ ce sl pc Ls (.null :: st) :=
  plainX (fun T vm0 locs X h1 h4 h5 ok t q => X.instanceofNull ok.1 (g := mkF D.m pc Ls (.null :: st)) rfl rfl (Jvm.hb ok.2.1 hd) t q) r
end Clone
end Jvm.Road
namespace Jvm.Road
open Jvm Jvm.ClassFile Sem Op Lib Jvm.Free Jvm.Stand Jvm.LawKit Jvm.RoadKit Bundle
section Ends
variable {l : Launch} {Z : State} {a0 : Array Value} {EL : List (String × Nat)} {n0 : Nat} {kn : Bool} {B : Bdy} {D : Dyn} {Q : Post} {h : Heap} {σ : Addr → Prop} {ce sl : Nat} {Ls : Array Slot} {st : List Value} {a : Addr}
theorem own_at {vm0 : Vm} {T : State} {locs : List Loc} (X : Stand D.p l D.e B.rm (D.s.setVm vm0) D.m D.args D.bl D.meth D.c T locs ce sl) (hZ : Z.Warmed39 vm0) (ew : EW Z a0 EL) (hC : CHv Z EL vm0 h) {x : Addr} (hx : Own Z EL n0 vm0 h x) : Own Z EL n0 T.vm h x :=
  ⟨(CHv.at X hZ ew hC).safe hx.2.2 hx.1, hx.2.1, hx.2.2⟩
/-- the end of a walk -/
theorem ended {pc : Nat} {v : Option Value} (hv : B.rt = none → v = none) (hc : ce ≤ B.rm.cells) (hs : sl ≤ B.rm.slots) (hq : ∀ σ', (∀ x, σ x → σ' x) → Q v h σ')
    (k : ∀ T vm0 locs fs, Stand D.p l D.e B.rm (D.s.setVm vm0) D.m D.args D.bl D.meth D.c T locs ce sl → Ok B D → (∀ (f : JFrame) (acts : List Action), f.method = D.m → f.locked = none → f.entered = [] → (doReturn D.e (T.setTop f) acts v).1 = T.setFrames fs) → Steps D.p.tables D.e D.bl (T.setTop (mkF D.m pc Ls st)) (T.setFrames fs)) :
    Go l Z a0 EL n0 kn B D Q h σ ce sl pc Ls st := by
  intro ok ew T vm0 I
  obtain ⟨k0, locs, X, h1, h2, h3, h4, h5, h6, h7, h8, h9, h10⟩ := I
  obtain ⟨fs, hr, hrun, hended, hE⟩ := X.leaveW h2 (by rw [h1]; exact h3) (v := v) (fun q => hv (ok.2.2.2.1.symm.trans q)) ok.2.2.2.2.1
  have hh : (T.setFrames fs).heap = h := h1
  refine ⟨T.setFrames fs, .returned v, k T vm0 locs fs X ok hr, hrun, hended, v, locs, rfl, ?_, h7, ?_, ?_, ⟨hE.1, hE.2.1, hE.2.2.1, hE.2.2.2.mono hc hs⟩⟩
  · rw [hh]; exact hq _ fun x hx => own_at X h4 ew h6.1 (h9 x hx)
  · rw [hh]; exact h6.trans (show CHr Z EL vm0 h T.vm h from CHv.at X h4 ew h6.1)
  · rw [hh]; exact h8
theorem ret (pc : Nat) (hd : decode B.bs pc = .ok (.return_, 1)) (hrt : B.rt = none) (hc : ce ≤ B.rm.cells) (hs : sl ≤ B.rm.slots) (hq : ∀ σ', (∀ x, σ x → σ' x) → Q none h σ') : Go l Z a0 EL n0 kn B D Q h σ ce sl pc Ls [] :=
  ended (fun _ => rfl) hc hs hq (fun T vm0 locs fs X ok hr => X.returnOut ok.1 (ok.2.2.2.1.trans hrt) (Jvm.hb ok.2.1 hd) hr)
theorem iret (pc : Nat) {x : Int32} {t : FieldType} (w : Int32) (hd : decode B.bs pc = .ok (.ireturn, 1)) (hrt : B.rt = some t) (ht : t = .boolean ∨ t = .byte ∨ t = .char ∨ t = .short) (hw : nar t x = w) (hc : ce ≤ B.rm.cells) (hs : sl ≤ B.rm.slots) (hq : ∀ σ', (∀ x, σ x → σ' x) → Q (some (.int w)) h σ') : Go l Z a0 EL n0 kn B D Q h σ ce sl pc Ls (.int x :: st) :=
  ended (fun q => by rw [hrt] at q; cases q) hc hs hq (fun T vm0 locs fs X ok hr => retN X ok.1 (t := t) (ok.2.2.2.1.trans hrt) ht (Jvm.hb ok.2.1 hd) (by rw [hw]; exact hr))
theorem iretI (pc : Nat) {x : Int32} (hd : decode B.bs pc = .ok (.ireturn, 1)) (hrt : B.rt = some .int) (hc : ce ≤ B.rm.cells) (hs : sl ≤ B.rm.slots) (hq : ∀ σ', (∀ x, σ x → σ' x) → Q (some (.int x)) h σ') : Go l Z a0 EL n0 kn B D Q h σ ce sl pc Ls (.int x :: st) :=
  ended (fun q => by rw [hrt] at q; cases q) hc hs hq (fun T vm0 locs fs X ok hr => retOut X ok.1 (t := .int) (ok.2.2.2.1.trans hrt) rfl (Or.inl ⟨rfl, Or.inl rfl, x, rfl⟩) (Jvm.hb ok.2.1 hd) hr)
theorem aret (pc : Nat) {v : Value} {t : FieldType} (hd : decode B.bs pc = .ok (.areturn, 1)) (hrt : B.rt = some t) (ht : t.isReference = true) (hv : v.isRef = true) (hc : ce ≤ B.rm.cells) (hs : sl ≤ B.rm.slots) (hq : ∀ σ', (∀ x, σ x → σ' x) → Q (some v) h σ') : Go l Z a0 EL n0 kn B D Q h σ ce sl pc Ls (v :: st) :=
  ended (fun q => by rw [hrt] at q; cases q) hc hs hq (fun T vm0 locs fs X ok hr => retOut X ok.1 (t := t) (ok.2.2.2.1.trans hrt) (by rcases ref_cases hv with rfl | ⟨_, rfl⟩ <;> cases t <;> first | rfl | (cases ht; done)) (Or.inr (Or.inr (Or.inr (Or.inr ⟨rfl, ht, hv⟩)))) (Jvm.hb ok.2.1 hd) hr)
/-- ldc of a String constant that is read -/
theorem ldcS (pc : Nat) {ix : Nat} (text : String) (cs : List Int32) (n : Nat) (hd : decode B.bs pc = .ok (.ldc ix, 2)) (w : (Jvm.Cond.stringLink B.y.cls ix text).before a0 Z = true) (wS : ∀ a ∈ Bundle.stringAtoms, a.before a0 Z = true) (hmem : (B.y.cls, ix) ∈ EL)
    (ht : ∀ c ∈ text.toList, c.toNat < 256) (hvs : text.toList.map (fun c => Value.int (Jvm.Lit.byteI c.toNat.toUInt16)) = cs.map byt) (hcs : ∀ c ∈ cs, 0 ≤ c.toInt ∧ c.toInt < 256) (hn : 4 * text.toList.length ≤ n) (hbig : n ≤ 536870912) {ce' sl' : Nat} (hce : ce + 2 = ce') (hsl : sl + (n + 4) = sl') (hc : ce' ≤ B.rm.cells) (hs : sl' ≤ B.rm.slots)
    (r : ∀ a b h' σ', Keep h h' [] → (∀ x, σ x → σ' x) → Str Z h' a b cs → (∀ x, σ' x → x ≠ a ∧ x ≠ b) → Go l Z a0 EL n0 kn B D Q h' σ' ce' sl' (pc + 2) Ls (.ref a :: st)) : Go l Z a0 EL n0 kn B D Q h σ ce sl pc Ls st := by
  subst hce hsl
  intro ok ew T vm0 I
  obtain ⟨k0, locs, X, h1, h2, h3, h4, h5, h6, h7, h8, h9, h10⟩ := I
  have hlen : (cs.map byt).length = text.toList.length := by rw [← hvs, List.length_map]
  have hsm : text.toList.length < 2147483648 := by omega
  have hz : (text.toList.length).toInt32.toInt = (text.toList.length : Int) := len_toInt hsm
  obtain ⟨q1, q2⟩ := ix_of hz
  obtain ⟨a, T', h', k1, b, k, X', e', E, hS', hk', hZ', ho', E1, E2, E3, E4, l1, l2, hCr, hL, hne, s'⟩ := ldcCH (s := D.s) X ok.1 h4 h5 w wS h1 h2 h3 ew hmem h6.1 (vs := cs.map byt) (z := (text.toList.length).toInt32) ⟨ht, hvs⟩ q1 (by rw [q2, hlen]) (g := mkF D.m pc Ls st) rfl (Jvm.hb ok.2.1 hd) hn hbig hc hs
  have hal : vm0.Alike T'.vm := by
    have z1 := h4.alike
    have z2 : Z.vm.Alike T'.vm := State.Warmed39.alike hZ'
    exact z1.symm.trans z2
  obtain ⟨s2, o, q, rest⟩ := r a b h' (Own Z EL n0 T'.vm h') (keep_ext E) (fun x hx => ⟨hCr.safe (h9 x hx).2.2 (h9 x hx).1, (h9 x hx).2.1, Nat.lt_of_lt_of_le (h9 x hx).2.2 E.1⟩) ⟨E1, E2, E3, Ary.of_arv E4 (by rw [q2, hlen]), hcs⟩ (fun x hx => hne x hx.1) ok ew T' T'.vm
    ⟨k1, locs, X', e', hS', hk', hZ', ho', h6.trans hCr, h7, h8.ext E, fun x hx => hx, fun z => ⟨(h10 z).1.alikeC hal, (h10 z).2.alikeC hal⟩⟩
  exact ⟨s2, o, s' _ q, rest⟩
end Ends
section Calls
variable {l : Launch} {Z : State} {a0 : Array Value} {EL : List (String × Nat)} {n0 : Nat} {kn : Bool} {B B' : Bdy} {D : Dyn} {Q Q' : Post} {h : Heap} {σ : Addr → Prop} {ce sl : Nat} {Ls : Array Slot} {st : List Value} {a : Addr}
theorem Con.back {R : Room} {p : Program} {e : Env} {below : List Frame} {s : State} {args : Array Value} {vm0 : Vm} {len W : Nat} {as : Array Value} (hM : Con l Z EL n0 kn B' [] σ as h Q') (hZ : Z.Warmed39 vm0) (wc : (Jvm.Cond.code B'.y B'.bs B'.ml B'.rt).before a0 Z = true) (wz : (Jvm.Cond.initialized B'.y.cls).before a0 Z = true)
    (hf : B'.rm.frames + 1 ≤ R.frames) (hl : W + (B'.ml + 11) + B'.rm.locals ≤ R.locals) (hEL : EW Z a0 EL) (H : CHv Z EL vm0 h) (hO : Old Z n0 h) (hσ : ∀ x, σ x → Own Z EL n0 vm0 h x) (hK : kn = true → vm0.MethodsKnown ∧ vm0.FramesKnown below) :
    BackS l R p e below (s.setVm vm0) args B'.y len W (fun A a => a = as ∧ A.U.heap = h ∧ A.cells + B'.rm.cells ≤ R.cells ∧ A.slots + B'.rm.slots ≤ R.slots)
      (fun A _ v Bp => ∃ L, (Q' v Bp.U.heap (Own Z EL n0 Bp.U.vm Bp.U.heap) ∧ Fr n0 L ∧ Old Z n0 Bp.U.heap) ∧ Bp.locs = A.locs ++ L ∧ Bp.cells = A.cells + B'.rm.cells ∧ Bp.slots = A.slots + B'.rm.slots ∧ CHr Z EL vm0 h Bp.U.vm Bp.U.heap) :=
  BackS.of_freeWG (bytes := B'.bs) (maxL := B'.ml) (ret := B'.rt) (E := fun _ first o t L k n => k = B'.rm.cells ∧ n = B'.rm.slots ∧ (∃ v, o = .returned v ∧ Q' v t.heap (Own Z EL n0 t.vm t.heap) ∧ Fr n0 L ∧ Old Z n0 t.heap) ∧ CHr Z EL first.vm first.heap t.vm t.heap) hM hf hl
    (fun m meth c A a Y hp => have hU : Z.Warmed39 A.U.vm := wtrans (s := s.setVm vm0) hZ Y.warmed
      ⟨by show (Cond.and _ .tt).before a A.U = true; rw [Cond.before_and, mv hU wc]; rfl, mv hU wc, mv hU wz, hp.2.2.1, hp.2.2.2⟩)
    (fun m meth c A a g mk Y hp => ⟨hp.1, wtrans (s := s.setVm vm0) hZ Y.warmed, hp.2.1, (CHv.at Y hZ hEL H).1, hO, fun x hx => ⟨(CHv.at Y hZ hEL H).safe (hσ x hx).2.2 (hσ x hx).1, (hσ x hx).2⟩⟩)
    (fun m meth c A a g mk Y _ hg hkn => known_frames Y hg (hK hkn).1 (hK hkn).2)
    (fun _ _ _ _ ⟨v, L, h1, h2, h3, h4, h5, h6⟩ => ⟨L, _, _, h6, rfl, rfl, ⟨v, h1, h2, h3, h5⟩, h4⟩)
    (fun m meth c A a g mk v t L k n Y hp _ _ ⟨e1, e2, ⟨v', e3, e4⟩, e5⟩ => by
      cases e3; subst e1 e2
      refine ⟨L, e4, rfl, rfl, rfl, (CHv.at Y hZ hEL H).trans ?_⟩
      rw [← hp.2.1]; exact e5)
/-- behind a call -/
theorem called {pc len : Nat} {rest : List Value} {as : Array Value} (W : Nat) (hM : Con l Z EL n0 kn B' [] σ as h Q') (wc : (Jvm.Cond.code B'.y B'.bs B'.ml B'.rt).before a0 Z = true) (wz : (Jvm.Cond.initialized B'.y.cls).before a0 Z = true)
    (hf : B'.rm.frames + 1 ≤ B.rm.frames) (hl : W + (B'.ml + 11) + B'.rm.locals ≤ B.rm.locals) (hc : ce + B'.rm.cells ≤ B.rm.cells) (hs : sl + B'.rm.slots ≤ B.rm.slots)
    (k : ∀ T vm0 locs, Stand D.p l D.e B.rm (D.s.setVm vm0) D.m D.args D.bl D.meth D.c T locs ce sl → T.heap = h → Z.Warmed39 vm0 → vm0.findClass B.y.cls = some D.m.cls → Ok B D →
      ∀ {Pre : Pt → Array Value → Prop} {Pst : Pt → Array Value → Option Value → Pt → Prop}, BackS l B.rm D.p D.e D.bl (D.s.setVm vm0) D.args B'.y len W Pre Pst → (∀ vm₁, (D.s.setVm vm0).WarmedH vm₁ → Pre ⟨T.setVm vm₁, locs, ce, sl⟩ as) →
      ∃ (v : Option Value) (vm₁ : Vm) (Bp : Pt), (D.s.setVm vm0).WarmedH vm₁ ∧ Stand D.p l D.e B.rm ((D.s.setVm vm0).setVm Bp.U.vm) D.m D.args D.bl D.meth D.c Bp.U Bp.locs Bp.cells Bp.slots ∧ (D.s.setVm vm0).Since Bp.U.vm Bp.U.heap.size ∧ T.heap.size ≤ Bp.U.heap.size ∧ Pst ⟨T.setVm vm₁, locs, ce, sl⟩ as v Bp ∧
        Steps D.p.tables D.e D.bl (T.setTop (mkF D.m pc Ls st)) (Bp.U.setTop (mkF D.m (pc + len) Ls (v.toList ++ rest))))
    (r : ∀ v h' σ', (∀ x, σ x → σ' x) → Q' v h' σ' → Go l Z a0 EL n0 kn B D Q h' σ' (ce + B'.rm.cells) (sl + B'.rm.slots) (pc + len) Ls (push v rest)) : Go l Z a0 EL n0 kn B D Q h σ ce sl pc Ls st := by
  intro ok ew T vm0 I
  obtain ⟨k0, locs, X, h1, h2, h3, h4, h5, h6, h7, h8, h9, h10⟩ := I
  obtain ⟨v, vm₁, ⟨U, Lc, kc, ks⟩, -, X', hS', hgr, ⟨L, ⟨hQ, hFr, hOld⟩, e1, e2, e3, hCr⟩, stp⟩ := k T vm0 locs X h1 h4 h5 ok (Con.back (s := D.s) hM h4 wc wz hf hl ew h6.1 h8 h9 h10) (fun vm₁ _ => ⟨rfl, h1, hc, hs⟩)
  dsimp only [Pt.U, Pt.locs, Pt.cells, Pt.slots] at X' hS' hgr hQ hOld e1 e2 e3 hCr stp
  subst e1 e2 e3
  obtain ⟨Y, hS2, hZ2, ho2⟩ := rebS h2 (by rw [← h1] at h3; exact h3) X' hS' hgr h4 h5
  have hal : vm0.Alike U.vm := hS'.1.alike
  rw [push_eq] at stp
  obtain ⟨s2, o, q, rest'⟩ := r v U.heap (Own Z EL n0 U.vm U.heap) (fun x hx => ⟨hCr.safe (h9 x hx).2.2 (h9 x hx).1, (h9 x hx).2.1, Nat.lt_of_lt_of_le (h9 x hx).2.2 (by rw [← h1]; exact hgr)⟩) hQ ok ew U U.vm
    ⟨U.heap.size, _, Y, rfl, hS2, Nat.le_refl _, hZ2, ho2, h6.trans hCr, h7.app hFr, hOld, fun x hx => hx, fun z => ⟨(h10 z).1.alikeC hal, (h10 z).2.alikeC hal⟩⟩
  exact ⟨s2, o, stp.trans q, rest'⟩
abbrev notMH (y : MethodName) : Prop := y.cls ≠ "java/lang/invoke/MethodHandle" ∧ y.cls ≠ "java/lang/invoke/VarHandle"
theorem callS (pc : Nat) {ix : Nat} {argsL rest : List Value} (W : Nat) (hd : decode B.bs pc = .ok (.invokestatic ix, 3)) (w1 : (Jvm.Cond.methodLink B.y.cls ix B'.y).before a0 Z = true) (w2 : (Jvm.Cond.static B'.y).before a0 Z = true) (w3 : (Jvm.Cond.initialized B'.y.cls).before a0 Z = true) (w4 : (Jvm.Cond.code B'.y B'.bs B'.ml B'.rt).before a0 Z = true) (hy : notMH B'.y)
    (hM : Con l Z EL n0 kn B' [] σ argsL.toArray h Q') (hlen : ∀ sig, parseMethodDescriptor B'.y.desc = some sig → argsL.length = sig.parameters.length) (hst : st = argsL.reverse ++ rest) (hW : (rest.map fun v => v.category).sum = W) (hsz : Ls.size = B.ml)
    (hf : B'.rm.frames + 1 ≤ B.rm.frames) (hl : W + (B'.ml + 11) + B'.rm.locals ≤ B.rm.locals) {ce' sl' : Nat} (hce : ce + B'.rm.cells = ce') (hsl : sl + B'.rm.slots = sl') (hc : ce' ≤ B.rm.cells) (hs : sl' ≤ B.rm.slots)
    (r : ∀ v h' σ', (∀ x, σ x → σ' x) → Q' v h' σ' → Go l Z a0 EL n0 kn B D Q h' σ' ce' sl' (pc + 3) Ls (push v rest)) : Go l Z a0 EL n0 kn B D Q h σ ce sl pc Ls st := by
  subst hce hsl
  exact called W hM w4 w3 hf hl hc hs (fun T vm0 locs X h1 h4 h5 ok {Pre Pst} hB hpre =>
    callSS X ok.1 (s := D.s.setVm vm0) h5 (mv (s := D.s.setVm vm0) h4 w1) (mv (s := D.s.setVm vm0) h4 w2) (mv (s := D.s.setVm vm0) h4 w3) (mv (s := D.s.setVm vm0) h4 w4) hy hB (g := mkF D.m pc Ls st) rfl (hsz.trans ok.2.2.1.symm) (argsL := argsL) (rest := rest) hlen hst (by show 2 * 0 + _ ≤ _; rw [hW]; omega) (Jvm.hb ok.2.1 hd) hpre) r
theorem callI (pc : Nat) {ix : Nat} {argsL rest : List Value} (W : Nat) (hd : decode B.bs pc = .ok (.invokespecial ix, 3)) (w1 : (Jvm.Cond.methodLink B.y.cls ix B'.y).before a0 Z = true) (w2 : (Jvm.Cond.instanceMethod B'.y).before a0 Z = true) (w3 : (Jvm.Cond.initialized B'.y.cls).before a0 Z = true) (w4 : (Jvm.Cond.code B'.y B'.bs B'.ml B'.rt).before a0 Z = true) (hi : B'.y.name = "<init>") (hrt : B'.rt = none) (hy : notMH B'.y)
    (hM : Con l Z EL n0 kn B' [] σ (.ref a :: argsL).toArray h Q') (hlen : ∀ sig, parseMethodDescriptor B'.y.desc = some sig → argsL.length = sig.parameters.length) (hst : st = argsL.reverse ++ .ref a :: rest) (hW : (rest.map fun v => v.category).sum = W) (hsz : Ls.size = B.ml)
    (hf : B'.rm.frames + 1 ≤ B.rm.frames) (hl : W + (B'.ml + 11) + B'.rm.locals ≤ B.rm.locals) {ce' sl' : Nat} (hce : ce + B'.rm.cells = ce') (hsl : sl + B'.rm.slots = sl') (hc : ce' ≤ B.rm.cells) (hs : sl' ≤ B.rm.slots)
    (r : ∀ v h' σ', (∀ x, σ x → σ' x) → Q' v h' σ' → Go l Z a0 EL n0 kn B D Q h' σ' ce' sl' (pc + 3) Ls (push v rest)) : Go l Z a0 EL n0 kn B D Q h σ ce sl pc Ls st := by
  subst hce hsl
  exact called W hM w4 w3 hf hl hc hs (fun T vm0 locs X h1 h4 h5 ok {Pre Pst} hB hpre =>
    X.specialBackS ok.1 hi (s := D.s.setVm vm0) h5 (mv (s := D.s.setVm vm0) h4 w1) (mv (s := D.s.setVm vm0) h4 w2) (bytes := B'.bs) (maxL := B'.ml) (mv (s := D.s.setVm vm0) h4 (hrt ▸ w4)) hy hB (g := mkF D.m pc Ls st) rfl (hsz.trans ok.2.2.1.symm) (Steps.refl _) (argsL := argsL) (rest := rest) hlen hst (by show 2 * 0 + _ ≤ _; rw [hW]; omega) (Jvm.hb ok.2.1 hd) hpre) r
theorem callV (pc : Nat) {ix : Nat} {y : MethodName} {argsL rest : List Value} (C : String) (W : Nat) (hd : decode B.bs pc = .ok (.invokevirtual ix, 3)) (w1 : (Jvm.Cond.methodLink B.y.cls ix y).before a0 Z = true) (w2 : (Jvm.Cond.declares y).before a0 Z = true) (nf : ∀ vm0, Z.Warmed39 vm0 → NotFace (D.s.setVm vm0) y) (w5 : (Jvm.Cond.selects C y B'.y).before a0 Z = true) (w6 : (Jvm.Cond.instanceMethod B'.y).before a0 Z = true) (w3 : (Jvm.Cond.initialized B'.y.cls).before a0 Z = true) (w4 : (Jvm.Cond.code B'.y B'.bs B'.ml B'.rt).before a0 Z = true) (hy : notMH y)
    (E : Exa Z h a C) (hM : Con l Z EL n0 kn B' [] σ (.ref a :: argsL).toArray h Q') (hlen : ∀ sig, parseMethodDescriptor y.desc = some sig → argsL.length = sig.parameters.length) (hst : st = argsL.reverse ++ .ref a :: rest) (hW : (rest.map fun v => v.category).sum = W) (hsz : Ls.size = B.ml)
    (hf : B'.rm.frames + 1 ≤ B.rm.frames) (hl : W + (B'.ml + 11) + B'.rm.locals ≤ B.rm.locals) {ce' sl' : Nat} (hce : ce + B'.rm.cells = ce') (hsl : sl + B'.rm.slots = sl') (hc : ce' ≤ B.rm.cells) (hs : sl' ≤ B.rm.slots)
    (r : ∀ v h' σ', (∀ x, σ x → σ' x) → Q' v h' σ' → Go l Z a0 EL n0 kn B D Q h' σ' ce' sl' (pc + 3) Ls (push v rest)) : Go l Z a0 EL n0 kn B D Q h σ ce sl pc Ls st := by
  subst hce hsl
  exact called W hM w4 w3 hf hl hc hs (fun T vm0 locs X h1 h4 h5 ok {Pre Pst} hB hpre => by
    obtain ⟨cq, kq, qa, qb, qc⟩ := isOf (s := D.s.setVm vm0) h4 h1 E
    exact X.virtualBackS ok.1 (s := D.s.setVm vm0) (C := C) h5 (mv (s := D.s.setVm vm0) h4 w1) (mv (s := D.s.setVm vm0) h4 w2) (nf vm0 h4) (mv (s := D.s.setVm vm0) h4 w5) (mv (s := D.s.setVm vm0) h4 w6) hy hB qa qc (g := mkF D.m pc Ls st) rfl (hsz.trans ok.2.2.1.symm) (Steps.refl _) (argsL := argsL) (rest := rest) hlen hst (by show 2 * 0 + _ ≤ _; rw [hW]; omega) (Jvm.hb ok.2.1 hd) hpre) r
/-- Object.<init> -/
theorem initObj (pc : Nat) {ix : Nat} (hd : decode B.bs pc = .ok (.invokespecial ix, 3)) (w1 : (Jvm.Cond.methodLink B.y.cls ix Lib.objectInit).before a0 Z = true) (w2 : (Jvm.Cond.instanceMethod Lib.objectInit).before a0 Z = true) (w3 : (Jvm.Cond.code Lib.objectInit ⟨#[0xb1]⟩ 1 none).before a0 Z = true) (W : Nat) (hW : (st.map fun v => v.category).sum = W) (hsz : Ls.size = B.ml) (hf : 1 ≤ B.rm.frames) (hl : W + 12 ≤ B.rm.locals)
    (r : Go l Z a0 EL n0 kn B D Q h σ ce sl (pc + 3) Ls st) : Go l Z a0 EL n0 kn B D Q h σ ce sl pc Ls (.ref a :: st) := by
  intro ok ew T vm0 I
  obtain ⟨k0, locs, X, h1, h2, h3, h4, h5, h6, h7, h8, h9, h10⟩ := I
  obtain ⟨T', X', e', s'⟩ := initO X ok.1 (s := D.s.setVm vm0) h4 h5 w1 w2 w3 h1 (g := mkF D.m pc Ls (.ref a :: st)) rfl (hsz.trans ok.2.2.1.symm) rfl (Jvm.hb ok.2.1 hd) hf (W := W) (by show 2 * 0 + _ ≤ _; rw [hW]; omega) hl
  obtain ⟨s2, o, q, rest⟩ := r ok ew T' vm0 ⟨k0, locs, X', e', h2, h3, h4, h5, h6, h7, h8, h9, h10⟩
  exact ⟨s2, o, s' _ q, rest⟩
end Calls
end Jvm.Road
namespace Jvm.Road
open Jvm Jvm.ClassFile Sem Op Lib Jvm.Free Jvm.Stand Jvm.LawKit Jvm.RoadKit Bundle
theorem n32 {i : Nat} (h : i < 2147483648) : i.toInt32.toInt = (i : Int) := len_toInt h
theorem succ32 (i : Nat) : i.toInt32 + 1 = (i + 1).toInt32 := (Int32.ofNat_add i 1).symm
theorem add32n (i j : Nat) : i.toInt32 + j.toInt32 = (i + j).toInt32 := (Int32.ofNat_add i j).symm
theorem lt32 {i j : Nat} (hi : i < 2147483648) (hj : j < 2147483648) : i.toInt32 < j.toInt32 ↔ i < j := by
  rw [Int32.lt_iff_toInt_lt, n32 hi, n32 hj]; omega
theorem eq32 {i j : Nat} (hi : i < 2147483648) (hj : j < 2147483648) : i.toInt32 = j.toInt32 ↔ i = j := by
  rw [← Int32.toInt_inj, n32 hi, n32 hj]; omega
/-- a slot that an int may be stored in -/
def W1 (w : Slot) : Prop := w = .unset ∨ ∃ v, w = .val (.int v)
theorem nar_byte (x : Int32) : nar .byte (Int8.toInt32 (Int32.toInt8 x)) = Int8.toInt32 (Int32.toInt8 x) := by simp [nar]
theorem nar_chr (x : Int32) : nar .char (chr x) = chr x := by simp only [nar, chr, UInt32.toUInt32_toInt32, UInt16.toUInt16_toUInt32]
theorem set_mid {α β : Type} (f : α → β) (cs : List α) (z : β) (k r : Nat) (hk : k < cs.length) : ((cs.take k).map f ++ List.replicate (r + 1) z).set k (f cs[k]) = (cs.take (k + 1)).map f ++ List.replicate r z := by
  have hl : ((cs.take k).map f).length = k := by simp; omega
  rw [List.set_append, if_neg (by omega), hl, Nat.sub_self, List.replicate_succ, List.set_cons_zero, List.take_succ_eq_append_getElem hk, List.map_append]
  simp
end Jvm.Road
namespace Jvm.Road
open Jvm Jvm.ClassFile Sem Op Lib Jvm.Free Jvm.Stand Jvm.LawKit Jvm.RoadKit Bundle
theorem narRef {t : FieldType} {v : Value} (ht : t.isReference = true) (hv : v.isRef = true) : narrow t v = v := by
  rcases ref_cases hv with rfl | ⟨_, rfl⟩ <;> cases t <;> first | rfl | (cases ht; done)
theorem fitRef {t : FieldType} {v : Value} (ht : t.isReference = true) (hv : v.isRef = true) : fits t v = true := by
  rcases ref_cases hv with rfl | ⟨_, rfl⟩ <;> cases t <;> first | rfl | (cases ht; done)
theorem and255 (x : Int32) : 0 ≤ (chr (x &&& 255)).toInt ∧ (chr (x &&& 255)).toInt < 256 := by
  rw [show chr (x &&& 255) = x &&& 255 from i2c_mask x]
  have h1 : (x &&& 255).toInt = ((x.toBitVec &&& 255#32).toInt) := rfl
  have h2 : (x.toBitVec &&& 255#32).toNat ≤ 255 := by rw [BitVec.toNat_and]; exact Nat.and_le_right
  have h3 : (x.toBitVec &&& 255#32).toInt = ((x.toBitVec &&& 255#32).toNat : Int) := BitVec.toInt_eq_toNat_of_lt (by omega)
  rw [h1, h3]; omega
end Jvm.Road
namespace Jvm.Road
open Jvm Jvm.ClassFile Sem Op Lib Jvm.Free Jvm.Stand Jvm.LawKit Jvm.RoadKit Bundle
theorem nameI {l : Launch} {Z : State} {a0 : Array Value} {EL : List (String × Nat)} {n0 : Nat} {kn : Bool} {B : Bdy} {D : Dyn} {Q : Post} {h : Heap} {σ : Addr → Prop} {ce sl : Nat} {Ls : Array Slot} {st : List Value} {pc : Nat} {x : Int32}
    (r : ∀ z, z = x → Go l Z a0 EL n0 kn B D Q h σ ce sl pc Ls (.int z :: st)) : Go l Z a0 EL n0 kn B D Q h σ ce sl pc Ls (.int x :: st) := r x rfl
theorem nameJ {l : Launch} {Z : State} {a0 : Array Value} {EL : List (String × Nat)} {n0 : Nat} {kn : Bool} {B : Bdy} {D : Dyn} {Q : Post} {h : Heap} {σ : Addr → Prop} {ce sl : Nat} {Ls : Array Slot} {st : List Value} {pc : Nat} {x : Int64}
    (r : ∀ z, z = x → Go l Z a0 EL n0 kn B D Q h σ ce sl pc Ls (.long z :: st)) : Go l Z a0 EL n0 kn B D Q h σ ce sl pc Ls (.long x :: st) := r x rfl
theorem and3 (x : Int32) : x &&& 3 = 0 ∨ x &&& 3 = 1 ∨ x &&& 3 = 2 ∨ x &&& 3 = 3 := by
  have h1 : (x &&& 3).toInt = ((x.toBitVec &&& 3#32).toInt) := rfl
  have h2 : (x.toBitVec &&& 3#32).toNat ≤ 3 := by rw [BitVec.toNat_and]; exact Nat.and_le_right
  have h3 : (x.toBitVec &&& 3#32).toInt = ((x.toBitVec &&& 3#32).toNat : Int) := BitVec.toInt_eq_toNat_of_lt (by omega)
  have h4 : (x &&& 3).toInt = 0 ∨ (x &&& 3).toInt = 1 ∨ (x &&& 3).toInt = 2 ∨ (x &&& 3).toInt = 3 := by rw [h1, h3]; omega
  rcases h4 with h | h | h | h
  · exact Or.inl (Int32.toInt_inj.mp h)
  · exact Or.inr (Or.inl (Int32.toInt_inj.mp h))
  · exact Or.inr (Or.inr (Or.inl (Int32.toInt_inj.mp h)))
  · exact Or.inr (Or.inr (Or.inr (Int32.toInt_inj.mp h)))
/-- a slot that a reference may be stored in -/
def W2 (w : Slot) : Prop := w = .unset ∨ ∃ v, w = .val (.ref v)
end Jvm.Road
namespace Jvm.Road
open Jvm Jvm.ClassFile Sem Op Lib Jvm.Free Jvm.Stand Jvm.LawKit Jvm.RoadKit Bundle
theorem shr0 (x : Int32) : x >>> ((0 : Int32) &&& 31) = x := by
  apply Int32.toBitVec_inj.mp; simp [Int32.toBitVec_shiftRight]
theorem lat_nat {c : Int32} (h : 0 ≤ c.toInt ∧ c.toInt < 256) : ∃ i : Fin 256, c = Int32.ofInt (i.1 : Int) := by
  refine ⟨⟨c.toInt.toNat, by omega⟩, ?_⟩
  apply Int32.toInt_inj.mp
  show c.toInt = (Int32.ofInt ((c.toInt.toNat : Nat) : Int)).toInt
  rw [Int.toNat_of_nonneg h.1, Int32.ofInt_toInt]
theorem byte_back {c : Int32} (h : 0 ≤ c.toInt ∧ c.toInt < 256) : nar .char (chr (Int8.toInt32 (Int32.toInt8 c) &&& 255)) = c := by
  obtain ⟨i, rfl⟩ := lat_nat h
  exact (by decide +kernel : ∀ i : Fin 256, nar .char (chr (Int8.toInt32 (Int32.toInt8 (Int32.ofInt (i.1 : Int))) &&& 255)) = Int32.ofInt (i.1 : Int)) i
theorem nar_lat {c : Int32} (h : 0 ≤ c.toInt ∧ c.toInt < 256) : nar .char c = c := by
  obtain ⟨i, rfl⟩ := lat_nat h
  exact (by decide +kernel : ∀ i : Fin 256, nar .char (Int32.ofInt (i.1 : Int)) = Int32.ofInt (i.1 : Int)) i
end Jvm.Road
namespace Jvm.Road
open Jvm Jvm.ClassFile Sem Op Lib Jvm.Free Jvm.Stand Jvm.LawKit Jvm.RoadKit Bundle
/-- an int's 32 bits as a number -/
def u32 (x : Int32) : Nat := x.toBitVec.toNat
theorem u32_lt (x : Int32) : u32 x < 4294967296 := x.toBitVec.isLt
theorem u32_inj {x y : Int32} (h : u32 x = u32 y) : x = y := Int32.toBitVec_inj.mp (BitVec.eq_of_toNat_eq h)
theorem toInt_u32 {x : Int32} (h : u32 x < 2147483648) : x.toInt = (u32 x : Int) := by
  show x.toBitVec.toInt = _
  exact BitVec.toInt_eq_toNat_of_lt (by show 2 * u32 x < 2 ^ 32; omega)
theorem u32_and (x y : Int32) : u32 (x &&& y) = u32 x &&& u32 y := BitVec.toNat_and ..
theorem u32_chr (x : Int32) : u32 (chr x) = u32 x % 65536 := by
  show ((x.toBitVec.setWidth 16).setWidth 32).toNat = _
  rw [BitVec.toNat_setWidth, BitVec.toNat_setWidth]
  show x.toBitVec.toNat % 65536 % 4294967296 = _
  show _ = x.toBitVec.toNat % 65536
  omega
theorem u32_ushr (x y : Int32) : u32 (XT.ushr x y) = u32 x >>> (u32 y % 32) := by
  show ((x.toBitVec >>> ((y &&& 31).toBitVec.umod 32#32)).toNat) = _
  have h : ((y &&& 31).toBitVec.umod 32#32).toNat = u32 y % 32 := by
    show (BitVec.umod (y.toBitVec &&& 31#32) 32#32).toNat = _
    rw [show (BitVec.umod (y.toBitVec &&& 31#32) 32#32) = (y.toBitVec &&& 31#32) % 32#32 from rfl, BitVec.toNat_umod, BitVec.toNat_and]
    show (u32 y &&& 31) % 32 = _
    rw [show (31 : Nat) = 2 ^ 5 - 1 from rfl, Nat.and_two_pow_sub_one_eq_mod]
    omega
  rw [← h]
  exact BitVec.toNat_ushiftRight ..
theorem and_mask (x : Nat) (k : Nat) : x &&& (2 ^ k - 1) = x % 2 ^ k := Nat.and_two_pow_sub_one_eq_mod x k
theorem u32_and255 (x : Int32) : u32 (x &&& 255) = u32 x % 256 := by rw [u32_and]; exact and_mask _ 8
theorem u32_and7 (x : Int32) : u32 (x &&& 7) = u32 x % 8 := by rw [u32_and]; exact and_mask _ 3
theorem u32_and3 (x : Int32) : u32 (x &&& 3) = u32 x % 4 := by rw [u32_and]; exact and_mask _ 2
theorem u32_and1 (x : Int32) : u32 (x &&& 1) = u32 x % 2 := by rw [u32_and]; exact and_mask _ 1
theorem chr_id {x : Int32} (h : u32 x < 65536) : chr x = x := u32_inj (by rw [u32_chr]; omega)
end Jvm.Road
namespace Jvm.Road
open Jvm Jvm.ClassFile Sem Op Lib Jvm.Free Jvm.Stand Jvm.LawKit Jvm.RoadKit Bundle
/-- the byte of a char, as an int -/
def bf (c : Int32) : Int32 := Int8.toInt32 (Int32.toInt8 c)
theorem bf_inj {c d : Int32} (hc : 0 ≤ c.toInt ∧ c.toInt < 256) (hd : 0 ≤ d.toInt ∧ d.toInt < 256) (h : bf c = bf d) : c = d := by
  rw [← byte_back hc, ← byte_back hd]
  show nar .char (chr (bf c &&& 255)) = nar .char (chr (bf d &&& 255))
  rw [h]
theorem bfs_inj : ∀ {cs ds : List Int32}, (∀ c ∈ cs, 0 ≤ c.toInt ∧ c.toInt < 256) → (∀ c ∈ ds, 0 ≤ c.toInt ∧ c.toInt < 256) → cs.map bf = ds.map bf → cs = ds
  | [], [], _, _, _ => rfl
  | [], d :: ds, _, _, h => by simp at h
  | c :: cs, [], _, _, h => by simp at h
  | c :: cs, d :: ds, h1, h2, h => by
    simp only [List.map_cons, List.cons.injEq] at h
    rw [bf_inj (h1 _ (by simp)) (h2 _ (by simp)) h.1, bfs_inj (fun x hx => h1 x (by simp [hx])) (fun x hx => h2 x (by simp [hx])) h.2]
theorem byts (cs : List Int32) : cs.map byt = (cs.map bf).map Value.int := by rw [List.map_map]; rfl
theorem ints_inj : ∀ {xs ys : List Int32}, xs.map Value.int = ys.map Value.int → xs = ys
  | [], [], _ => rfl
  | [], d :: ds, h => by simp at h
  | c :: cs, [], h => by simp at h
  | c :: cs, d :: ds, h => by
    simp only [List.map_cons, List.cons.injEq, Value.int.injEq] at h
    rw [h.1, ints_inj h.2]
theorem Str.uniq {Z : State} {h : Heap} {a b b' : Addr} {cs ds : List Int32} (S : Str Z h a b cs) (S' : Str Z h a b' ds) : cs = ds := by
  have e := Value.ref.inj (Fld.uniq S.2.2.1 S'.2.2.1)
  subst e
  have q := Ary.uniq S.2.2.2.1 S'.2.2.2.1
  rw [byts, byts] at q
  exact bfs_inj S.2.2.2.2 S'.2.2.2.2 (ints_inj q)
theorem take_ext {xs ys : List Int32} {k : Nat} (hk : k < xs.length) (hk' : k < ys.length) (h : xs.take k = ys.take k) (e : xs[k] = ys[k]) : xs.take (k + 1) = ys.take (k + 1) := by
  rw [List.take_succ_eq_append_getElem hk, List.take_succ_eq_append_getElem hk', h, e]
theorem u32_mask31 (x : Int32) : u32 (x &&& 2147483647) = u32 x % 2147483648 := by rw [u32_and]; exact and_mask _ 31
theorem rem_pos {x y : Int32} {n : Nat} (hx : u32 x < 2147483648) (hy : y.toInt = (n : Int)) (hn : 0 < n) : (x % y).toInt = ((u32 x % n : Nat) : Int) := by
  rw [Int32.toInt_mod, toInt_u32 hx, hy]
  rfl
theorem small_of {x : Int32} {n : Nat} {k : Nat} (h : x.toInt = ((k % n : Nat) : Int)) (hn : 0 < n) : ∃ i : Fin n, x = Int32.ofInt (i.1 : Int) := by
  refine ⟨⟨k % n, Nat.mod_lt _ hn⟩, ?_⟩
  have := congrArg Int32.ofInt h
  rwa [Int32.ofInt_toInt] at this
end Jvm.Road
namespace Jvm.Road
open Jvm Jvm.ClassFile Sem Op Lib Jvm.Free Jvm.Stand Jvm.LawKit Jvm.RoadKit Bundle Jvm.Free.Exc
section Exc
variable {l : Launch} {Z : State} {a0 : Array Value} {EL : List (String × Nat)} {n0 : Nat} {kn : Bool} {B : Bdy} {D : Dyn} {Q : Post} {h : Heap} {σ : Addr → Prop} {ce sl : Nat} {Ls : Array Slot} {st : List Value} {a : Addr}
/-- super(msg) of a Throwable, down a chain of constructors that only pass it on -/
theorem excInit (pc : Nat) {ix n : Nat} {rc : String} {links : List Link} {msg : Value} (W : Nat) (hd : decode B.bs pc = .ok (.invokespecial ix, 3)) (hok : linksOk 1 links = true)
    (w1 : (Jvm.Cond.methodLink B.y.cls ix (ctor 1 (headName links))).before a0 Z = true) (w2 : (Jvm.Cond.instanceMethod (ctor 1 (headName links))).before a0 Z = true) (wT : (chainTab 1 rc links).before a0 Z = true) (wi : (Jvm.Cond.instantiable rc n).before a0 Z = true) (r2 : ∀ d ∈ twoRefs, d.before a0 Z = true)
    (hl : l.stackTraces = true) (hkn : kn = true) (hO : Old Z n0 D.s.heap) (E : Exa Z h a rc) (N : Unt h a) (F1 : Fld Z h a tN "backtrace" obD .null) (F2 : Fld Z h a tN "detailMessage" msgD .null) (hmsg : msg.isRef = true) (hσ : σ a)
    (hW : (st.map fun v => v.category).sum = W) (hsz : Ls.size = B.ml) (hf : 4 + links.length ≤ B.rm.frames) (hlo : W + (56 + 14 * links.length) ≤ B.rm.locals) {ce' sl' : Nat} (hce : ce + 1 = ce') (hsl : sl + 2752 = sl') (hc : ce' ≤ B.rm.cells) (hs : sl' ≤ B.rm.slots)
    (r : ∀ h', Kp Z h h' a → Keep h h' [a] → Exa Z h' a rc → Unt h' a → Fld Z h' a tN "detailMessage" msgD msg → Fld Z h' a tN "cause" thD (.ref a) → Go l Z a0 EL n0 kn B D Q h' σ ce' sl' (pc + 3) Ls st) : Go l Z a0 EL n0 kn B D Q h σ ce sl pc Ls (msg :: .ref a :: st) := by
  subst hce hsl
  intro ok ew T vm0 I
  obtain ⟨k0, locs, X, h1, h2, h3, h4, h5, h6, h7, h8, h9, h10⟩ := I
  obtain ⟨T', h', X', e', K, E', N', M', C', -, s'⟩ := excL1 X ok.1 hl (s := D.s.setVm vm0) h4 h5 hok w1 w2 wT wi r2 (ThS.start.ext hO.2) (ThS.start.ext h8.2) (h10 hkn).1 (h10 hkn).2 h1 E N F1 F2 hmsg (g := mkF D.m pc Ls (msg :: .ref a :: st)) rfl (hsz.trans ok.2.2.1.symm) (rest := st) rfl (Jvm.hb ok.2.1 hd) hf (by show 2 * 0 + _ + _ ≤ _; rw [hW]; omega) hc hs
  have ha := h9 a hσ
  have K2 : Keep h h' [a] := keep_of_kp K
  have hsf : ∀ x ∈ [a], Safe Z EL vm0 h x := fun x hx => by cases List.mem_singleton.mp hx; exact ha.1
  obtain ⟨s2, o, q, rest⟩ := r h' K K2 E' N' M' C' ok ew T' vm0
    ⟨k0, _, X', e', h2, Nat.le_trans h3 K2.1, h4, h5, h6.trans (CHr.keep K2 hsf h6.1), Fr.six h7 ha.2.1, h8.keep K2 (fun x hx => by cases List.mem_singleton.mp hx; exact ha.2.1), fun x hx => ⟨Safe.keep K2 hsf h6.1 (h9 x hx).1, (h9 x hx).2.1, Nat.lt_of_lt_of_le (h9 x hx).2.2 K2.1⟩, h10⟩
  exact ⟨s2, o, s' _ q, rest⟩
end Exc
section Up
variable {l : Launch} {Z : State} {a0 : Array Value} {EL : List (String × Nat)} {n0 : Nat} {kn : Bool} {B B' : Bdy} {D : Dyn} {Q Q' : Post} {h : Heap} {σ : Addr → Prop} {ce sl : Nat} {Ls : Array Slot} {st : List Value} {a : Addr}
/-- invokevirtual whose entry names the method by a subclass of the one that declares it -/
theorem callU (pc : Nat) {ix : Nat} {y : MethodName} {argsL rest : List Value} (C owner : String) (W : Nat) (hd : decode B.bs pc = .ok (.invokevirtual ix, 3)) (w1 : (Jvm.Cond.methodLink B.y.cls ix y).before a0 Z = true) (w2 : (Jvm.Cond.sameMethod y.cls owner y.name y.desc).before a0 Z = true) (w2' : (Jvm.Cond.declares ⟨owner, y.name, y.desc⟩).before a0 Z = true) (hy : owner ≠ "java/lang/invoke/MethodHandle" ∧ owner ≠ "java/lang/invoke/VarHandle") (w5 : (Jvm.Cond.selects C y B'.y).before a0 Z = true) (w6 : (Jvm.Cond.instanceMethod B'.y).before a0 Z = true) (w3 : (Jvm.Cond.initialized B'.y.cls).before a0 Z = true) (w4 : (Jvm.Cond.code B'.y B'.bs B'.ml B'.rt).before a0 Z = true)
    (E : Exa Z h a C) (hM : Con l Z EL n0 kn B' [] σ (.ref a :: argsL).toArray h Q') (hlen : ∀ sig, parseMethodDescriptor y.desc = some sig → argsL.length = sig.parameters.length) (hst : st = argsL.reverse ++ .ref a :: rest) (hW : (rest.map fun v => v.category).sum = W) (hsz : Ls.size = B.ml)
    (hf : B'.rm.frames + 1 ≤ B.rm.frames) (hl : W + (B'.ml + 11) + B'.rm.locals ≤ B.rm.locals) {ce' sl' : Nat} (hce : ce + B'.rm.cells = ce') (hsl : sl + B'.rm.slots = sl') (hc : ce' ≤ B.rm.cells) (hs : sl' ≤ B.rm.slots)
    (r : ∀ v h' σ', (∀ x, σ x → σ' x) → Q' v h' σ' → Go l Z a0 EL n0 kn B D Q h' σ' ce' sl' (pc + 3) Ls (push v rest)) : Go l Z a0 EL n0 kn B D Q h σ ce sl pc Ls st := by
  subst hce hsl
  exact called W hM w4 w3 hf hl hc hs (fun T vm0 locs X h1 h4 h5 ok {Pre Pst} hB hpre => by
    obtain ⟨cq, kq, qa, qb, qc⟩ := isOf (s := D.s.setVm vm0) h4 h1 E
    exact X.virtualBackUpS ok.1 (s := D.s.setVm vm0) (C := C) h5 (mv (s := D.s.setVm vm0) h4 w1) (mv (s := D.s.setVm vm0) h4 w2) (mv (s := D.s.setVm vm0) h4 w2') hy (mv (s := D.s.setVm vm0) h4 w5) (mv (s := D.s.setVm vm0) h4 w6) hB qa qc (g := mkF D.m pc Ls st) rfl (hsz.trans ok.2.2.1.symm) (Steps.refl _) (argsL := argsL) (rest := rest) hlen hst (by show 2 * 0 + _ ≤ _; rw [hW]; omega) (Jvm.hb ok.2.1 hd) hpre) r
end Up
end Jvm.Road
namespace Jvm.Road
open Jvm Jvm.ClassFile Sem Op Lib Jvm.Free Jvm.Stand Jvm.LawKit Jvm.RoadKit Bundle
section Start
variable {Z : State} {a : Addr} {args : Array Value} {t b : Term} {ty : FieldType}
theorem eq_int_of {n : Int32} (h : (Cond.eq t (Term.int n)).value args Z none Z [] = some true) : t.eval args Z none [] Z = some (.int n) := by
  obtain ⟨x, y, q1, q2, -, k2⟩ := cmp_v (Or.inl h)
  cases q2
  obtain ⟨z, rfl⟩ := k2
  have := gotT (Cond.eq_ints q1 (Term.int_eval n)) h
  rw [← this]; exact q1
theorem eq_ref_of {q : Addr} (h : (Cond.eq t b).value args Z none Z [] = some true) (hb : b.eval args Z none [] Z = some (.ref q)) : t.eval args Z none [] Z = some (.ref q) := by
  obtain ⟨x, y, q1, q2, -, k2⟩ := cmp_v (Or.inl h)
  cases hb.symm.trans q2
  have := gotT (eq_R q1 hb k2.2 rfl) h
  rw [← this]; exact q1
theorem len_lt {v : Value} (h : (Term.length t).eval args Z none [] Z = some v) (ev : t.eval args Z none [] Z = some (.ref a)) : ∃ c, Z.arrayAt? a = some c ∧ c.slots.size < 2 ^ 31 ∧ v = .int c.slots.size.toInt32 := by
  obtain ⟨x, c, e1, e2, e3⟩ := Term.length_spec h
  cases ev.symm.trans e1
  refine ⟨c, e2, ?_, e3⟩
  by_cases q : c.slots.size < 2 ^ 31
  · exact q
  · simp [Term.eval, ev, e2, q] at h
theorem Ary.start {n : Int32} {vs : List Value} (ev : t.eval args Z none [] Z = some (.ref a)) (hx : (Cond.arrayOf t ty).value args Z none Z [] = some true)
    (hl : (Cond.eq (Term.length t) (Term.int n)).value args Z none Z [] = some true) (hn : n.toInt = vs.length)
    (he : ∀ i, i < vs.length → ∃ j : Int32, j.toInt = (i : Int) ∧ (Term.elem t (Term.int j)).eval args Z none [] Z = vs[i]?) (hf : ∀ v ∈ vs, fits ty v = true) : Ary Z Z.heap a ty vs := by
  obtain ⟨c, A⟩ := Arr.start ev hx
  obtain ⟨c', e1, e2, e3⟩ := len_lt (eq_int_of hl) ev
  have e4 : Z.heap[a]? = some c' := (arrayAt_spec e1).1
  cases A.1.symm.trans e4
  have e5 : c.slots.size = vs.length := by
    have : n.toInt = (c.slots.size : Int) := by
      injection e3 with q; rw [q]; exact len_toInt e2
    omega
  refine ⟨c, A, ?_, by omega, hf⟩
  apply List.ext_getElem?
  intro i
  by_cases hi : i < vs.length
  · obtain ⟨j, j1, j2⟩ := he i hi
    rw [List.getElem?_eq_getElem hi] at j2 ⊢
    have := (elem_in j2 ev (Term.int_eval j) A.1).2
    rw [(ix_of j1).2] at this
    rw [Array.getElem?_toList]; exact this
  · rw [List.getElem?_eq_none (Nat.le_of_not_lt hi), List.getElem?_eq_none (by rw [Array.length_toList, e5]; exact Nat.le_of_not_lt hi)]
end Start
end Jvm.Road
namespace Jvm.Road
open Jvm Jvm.ClassFile Sem Op Lib Jvm.Free Jvm.Stand Jvm.LawKit Jvm.RoadKit Bundle
section Copy
variable {l : Launch} {Z : State} {a0 : Array Value} {EL : List (String × Nat)} {n0 : Nat} {kn : Bool} {B : Bdy} {D : Dyn} {Q : Post} {h : Heap} {σ : Addr → Prop} {ce sl : Nat} {Ls : Array Slot} {st : List Value} {a b : Addr}
theorem arv_of {ty : FieldType} {vs : List Value} (A : Ary Z h a ty vs) : ∃ k, Arv Z h a k ty (Nat.toInt32 vs.length) vs .null ∧ (Nat.toInt32 vs.length).toNatClampNeg = vs.length := by
  obtain ⟨c, A, e, q, f⟩ := A
  have e1 : (Nat.toInt32 vs.length).toInt = vs.length := len_toInt q
  have e2 := ix_of e1
  have e3 : c.slots.size = vs.length := by rw [← Array.length_toList, e]
  refine ⟨_, ⟨c, A, rfl, e3.trans e2.2.symm, e2.1, fun i hi => ?_, fun i hi => ?_⟩, e2.2⟩
  · rw [← Array.getElem?_toList, e, List.getElem?_eq_getElem (by omega), List.getD_eq_getElem?_getD, List.getElem?_eq_getElem (by omega)]; rfl
  · rw [List.getD_eq_getElem?_getD, List.getElem?_eq_getElem (by omega)]; exact f _ (List.getElem_mem _)
theorem stretch_eq (vs : List Value) (i n : Nat) (h : i + n ≤ vs.length) : (List.range n).map (fun k => vs.getD (i + k) .null) = (vs.drop i).take n := by
  apply List.ext_getElem?
  intro k
  by_cases hk : k < n
  · rw [List.getElem?_map, List.getElem?_range hk, List.getElem?_take_of_lt hk, List.getElem?_drop, List.getElem?_eq_getElem (by omega)]
    simp [List.getD_eq_getElem?_getD, List.getElem?_eq_getElem (show i + k < vs.length by omega)]
  · rw [List.getElem?_eq_none (by simp; omega), List.getElem?_eq_none (by simp; omega)]
theorem acopy (pc : Nat) {ix : Nat} {ty : FieldType} {vs vd : List Value} {sp dp nn : Int32} (i j n W : Nat) (hd : decode B.bs pc = .ok (.invokestatic ix, 3))
    (w1 : (Jvm.Cond.methodLink B.y.cls ix Jvm.Stand.acN).before a0 Z = true) (w2 : (Jvm.Cond.native Jvm.Stand.acN).before a0 Z = true) (w3 : (Jvm.Cond.static Jvm.Stand.acN).before a0 Z = true) (w4 : (Jvm.Cond.initialized "java/lang/System").before a0 Z = true)
    (A : Ary Z h a ty vs) (Ab : Ary Z h b ty vd) (hr : refKind ty = false) (h1 : sp.toInt = (i : Int)) (h2 : dp.toInt = (j : Int)) (h3 : nn.toInt = (n : Int)) (h4 : i + n ≤ vs.length) (h5 : j + n ≤ vd.length) (hσ : σ b)
    (hW : (st.map fun v => v.category).sum = W) (hsz : Ls.size = B.ml) (hf : 1 ≤ B.rm.frames) (hl : W + 18 ≤ B.rm.locals)
    (r : ∀ h', Keep h h' [b] → Ary Z h' b ty (vd.take j ++ (vs.drop i).take n ++ vd.drop (j + n)) → Go l Z a0 EL n0 kn B D Q h' σ ce sl (pc + 3) Ls st) :
    Go l Z a0 EL n0 kn B D Q h σ ce sl pc Ls (.int nn :: .int dp :: .ref b :: .int sp :: .ref a :: st) := by
  intro ok ew T vm0 I
  obtain ⟨k0, locs, X, g1, g2, g3, g4, g5, g6, g7, g8, g9, g10⟩ := I
  obtain ⟨k1, A1, z1⟩ := arv_of A
  obtain ⟨k2, A2, z2⟩ := arv_of Ab
  have ha := g9 b hσ
  obtain ⟨s1, s1'⟩ := ix_of h1
  obtain ⟨s2, s2'⟩ := ix_of h2
  obtain ⟨s3, s3'⟩ := ix_of h3
  obtain ⟨T', h', L, X', e', N, K, A3, s'⟩ := cpA X ok.1 (s := D.s.setVm vm0) g4 g5 w1 w2 w3 w4 g1 A1 A2 (Or.inl ⟨rfl, hr⟩) (sp := sp) (dp := dp) (nn := nn) s1 s2 s3 (by rw [s1', s3', z1]; exact h4) (by rw [s2', s3', z2]; exact h5) rfl (by rw [s2', s3']; exact h5) g7 ha.2.1
    (g := mkF D.m pc Ls (.int nn :: .int dp :: .ref b :: .int sp :: .ref a :: st)) rfl (hsz.trans ok.2.2.1.symm) rfl (Jvm.hb ok.2.1 hd) hf (W := W) (by show 2 * 0 + _ ≤ _; rw [hW]; omega) (by show W + 18 ≤ _; exact hl)
  rw [s1', s2', s3', stretch_eq _ _ _ h4] at A3
  have hlen : (vd.take j ++ (vs.drop i).take n ++ vd.drop (j + n)).length = vd.length := by
    simp only [List.length_append, List.length_take, List.length_drop]; omega
  have hs : ∀ x ∈ [b], Safe Z EL vm0 h x := fun x hx => by cases List.mem_singleton.mp hx; exact ha.1
  obtain ⟨s2, o, q, rest⟩ := r h' K (Ary.of_arv A3 (by rw [z2, hlen])) ok ew T' vm0 ⟨k0, _, X', e', g2, Nat.le_trans g3 K.1, g4, g5, g6.trans (CHr.keep K hs g6.1), N, g8.keep K (fun x hx => by cases List.mem_singleton.mp hx; exact ha.2.1),
    fun x hx => ⟨Safe.keep K hs g6.1 (g9 x hx).1, (g9 x hx).2.1, Nat.lt_of_lt_of_le (g9 x hx).2.2 K.1⟩, g10⟩
  exact ⟨s2, o, s' _ q, rest⟩
end Copy
theorem shl0 (x : Int32) : x <<< ((0 : Int32) &&& 31) = x := by
  apply Int32.toBitVec_inj.mp; simp [Int32.toBitVec_shiftLeft]
theorem sub32n {i j : Nat} (h : j ≤ i) : i.toInt32 - j.toInt32 = (i - j).toInt32 := by
  have e : (i - j).toInt32 + j.toInt32 = i.toInt32 := by rw [add32n, Nat.sub_add_cancel h]
  rw [← e, Int32.add_sub_cancel]
theorem gsub {m N : Nat} (hm : m < 2147483648) (hN : N < 2147483648) : (0 : Int32) < m.toInt32 - N.toInt32 ↔ N < m := by
  by_cases h : N ≤ m
  · rw [sub32n h, show (0 : Int32) = (0 : Nat).toInt32 from rfl, lt32 (by omega) (by omega)]; omega
  · have e : m.toInt32 - N.toInt32 = -((N - m).toInt32) := by rw [← sub32n (show m ≤ N by omega), Int32.neg_sub]
    rw [e, Int32.lt_iff_toInt_lt]
    have : (-((N - m).toInt32)).toInt = -((N - m : Nat) : Int) := by
      rw [Int32.toInt_neg, n32 (by omega)]
      rw [Int.bmod_eq_of_le] <;> omega
    rw [this]
    have : (0 : Int32).toInt = 0 := rfl
    omega
abbrev SB : String := "java/lang/StringBuilder"
abbrev AB : String := "java/lang/AbstractStringBuilder"
/-- the StringBuilder at a holds these chars; its bytes at b, of which there are N -/
def Sb (Z : State) (h : Heap) (a b : Addr) (cs : List Int32) (N : Nat) : Prop := Exa Z h a SB ∧ Fld Z h a AB "coder" "B" (.int 0) ∧ Fld Z h a AB "value" "[B" (.ref b) ∧ Fld Z h a AB "count" "I" (.int (Nat.toInt32 cs.length)) ∧ (∃ r : List Value, Ary Z h b .byte (cs.map byt ++ r) ∧ cs.length + r.length = N) ∧ (∀ c ∈ cs, 0 ≤ c.toInt ∧ c.toInt < 256)
section Builder
variable {Z : State} {h h' : Heap} {a b : Addr} {cs : List Int32} {N : Nat} {ws : List Addr}
theorem Sb.keep (F : Sb Z h a b cs N) (K : Keep h h' ws) (q : a ∉ ws) (q' : b ∉ ws) : Sb Z h' a b cs N := by
  obtain ⟨f1, f2, f3, f4, ⟨r, f5, f6⟩, f7⟩ := F
  exact ⟨f1.keep K, f2.keep K q, f3.keep K q, f4.keep K q, ⟨r, f5.keep K q', f6⟩, f7⟩
theorem Sb.lt (F : Sb Z h a b cs N) : a < h.size := F.1.lt
theorem Sb.ltb (F : Sb Z h a b cs N) : b < h.size := by obtain ⟨_, _, _, _, ⟨r, f5, -⟩, _⟩ := F; exact f5.lt
theorem Sb.le (F : Sb Z h a b cs N) : cs.length ≤ N := by obtain ⟨_, _, _, _, ⟨r, -, f6⟩, _⟩ := F; omega
theorem Sb.small (F : Sb Z h a b cs N) : N < 2147483648 := by obtain ⟨_, _, _, _, ⟨r, f5, f6⟩, _⟩ := F; have := f5.small; simp only [List.length_append, List.length_map] at this; omega
theorem put_str (cs ds : List Int32) (r : List Value) (hl : ds.length ≤ r.length) : (cs.map byt ++ r).take cs.length ++ ((ds.map byt).drop 0).take ds.length ++ (cs.map byt ++ r).drop (cs.length + ds.length) = (cs ++ ds).map byt ++ r.drop ds.length := by
  have e1 : (cs.map byt).length = cs.length := List.length_map _
  have e2 : (ds.map byt).length = ds.length := List.length_map _
  rw [List.take_append_of_le_length (by omega), List.take_of_length_le (by omega), List.drop_zero, List.take_of_length_le (by omega), List.map_append, ← e1, ← List.drop_drop, List.drop_left]
theorem put_chr (cs : List Int32) (x : Int32) (r : List Value) (hl : 1 ≤ r.length) : (cs.map byt ++ r).set cs.length (byt x) = (cs ++ [x]).map byt ++ r.drop 1 := by
  have e1 : (cs.map byt).length = cs.length := List.length_map _
  cases r with
  | nil => simp at hl
  | cons v r => rw [List.set_append_right _ _ (by omega), e1, Nat.sub_self]; simp
theorem keep1 (K : Keep h h' [a]) : Keep h h' [a, b] := ⟨K.1, fun x c q r => K.2.1 x c q (fun z => r (by cases List.mem_singleton.mp z; simp)), K.2.2⟩
theorem keep2 {h2 : Heap} (K : Keep h h' [b]) (K' : Keep h' h2 [a]) : Keep h h2 [a, b] :=
  Keep.trans (ws := [a, b]) ⟨K.1, fun x c q r => K.2.1 x c q (fun z => r (by cases List.mem_singleton.mp z; simp)), K.2.2⟩ K' (by simp)
theorem keep2' {h2 : Heap} (K : Keep h h' [a]) (K' : Keep h' h2 [b]) : Keep h h2 [a, b] :=
  Keep.trans (ws := [a, b]) ⟨K.1, fun x c q r => K.2.1 x c q (fun z => r (by cases List.mem_singleton.mp z; simp)), K.2.2⟩ K' (by simp)
end Builder
end Jvm.Road

namespace Jvm.Road
open Jvm Jvm.ClassFile Sem Op Lib Jvm.Free Jvm.Stand Jvm.LawKit Jvm.RoadKit Bundle
theorem keep_sub {h h' : Heap} {ws ws' : List Addr} (K : Keep h h' ws) (q : ∀ x ∈ ws, x ∈ ws') : Keep h h' ws' := ⟨K.1, fun x c e n => K.2.1 x c e (fun z => n (q x z)), K.2.2⟩
end Jvm.Road
namespace Jvm.Road
open Jvm Jvm.ClassFile Sem Op Lib Jvm.Free Jvm.Stand Jvm.LawKit Jvm.RoadKit Bundle
/-- a method's class is no interface, by another method of the same class -/
theorem notFace_sib {args : Array Value} {s : State} {C : String} {x y z : MethodName} (hsel : (Jvm.Cond.selects C x y).before args s = true) (e : z.cls = y.cls) : NotFace s z := fun r0 h0 => by
  obtain ⟨c2, r2, m2, q1, q2, q3, q4, kP, hkP, hkPi⟩ := Cond.selects_spec hsel
  have e1 := findClass_of_methodNamed h0
  have e2 := findClass_of_methodNamed q3
  rw [e] at e1
  have e3 := Option.some.inj (e1.symm.trans e2)
  exact ⟨kP, by rw [e3]; exact hkP, hkPi⟩
theorem same_of {args : Array Value} {s : State} {y : MethodName} (hi : (Jvm.Cond.instanceMethod y).before args s = true) (nf : NotFace s y) (hy : y.cls ≠ "java/lang/invoke/MethodHandle" ∧ y.cls ≠ "java/lang/invoke/VarHandle") : (Jvm.Cond.sameMethod y.cls y.cls y.name y.desc).before args s = true := by
  obtain ⟨mk, meth, hnamed, -⟩ := Cond.instanceMethod_spec hi
  have h1 := findClass_of_methodNamed hnamed
  have h2 := State.methodFound?_of_named hnamed hy
  obtain ⟨kr, hk, hni⟩ := nf _ hnamed
  simp [Cond.before, Cond.holds, Cond.value, h1, h2, hnamed, hk, hni]
section Calls2
variable {l : Launch} {Z : State} {a0 : Array Value} {EL : List (String × Nat)} {n0 : Nat} {kn : Bool} {B B' : Bdy} {D : Dyn} {Q Q' : Post} {h : Heap} {σ : Addr → Prop} {ce sl : Nat} {Ls : Array Slot} {st : List Value} {a : Addr}
/-- a private method by invokevirtual -/
theorem callP (pc : Nat) {ix : Nat} {argsL rest : List Value} (C : String) (W : Nat) (hd : decode B.bs pc = .ok (.invokevirtual ix, 3)) (w1 : (Jvm.Cond.methodLink B.y.cls ix B'.y).before a0 Z = true) (w2 : (Jvm.Cond.privateMethod B'.y).before a0 Z = true) (w5 : (Jvm.Cond.selects C B'.y B'.y).before a0 Z = true) (w6 : (Jvm.Cond.instanceMethod B'.y).before a0 Z = true) (w3 : (Jvm.Cond.initialized B'.y.cls).before a0 Z = true) (w4 : (Jvm.Cond.code B'.y B'.bs B'.ml B'.rt).before a0 Z = true) (hy : notMH B'.y)
    (E : Exa Z h a C) (hM : Con l Z EL n0 kn B' [] σ (.ref a :: argsL).toArray h Q') (hlen : ∀ sig, parseMethodDescriptor B'.y.desc = some sig → argsL.length = sig.parameters.length) (hst : st = argsL.reverse ++ .ref a :: rest) (hW : (rest.map fun v => v.category).sum = W) (hsz : Ls.size = B.ml)
    (hf : B'.rm.frames + 1 ≤ B.rm.frames) (hl : W + (B'.ml + 11) + B'.rm.locals ≤ B.rm.locals) {ce' sl' : Nat} (hce : ce + B'.rm.cells = ce') (hsl : sl + B'.rm.slots = sl') (hc : ce' ≤ B.rm.cells) (hs : sl' ≤ B.rm.slots)
    (r : ∀ v h' σ', (∀ x, σ x → σ' x) → Q' v h' σ' → Go l Z a0 EL n0 kn B D Q h' σ' ce' sl' (pc + 3) Ls (push v rest)) : Go l Z a0 EL n0 kn B D Q h σ ce sl pc Ls st := by
  subst hce hsl
  refine called W hM w4 w3 hf hl hc hs (fun T vm0 locs X h1 h4 h5 ok {Pre Pst} hB hpre => ?_) r
  obtain ⟨mk, methM, hnamed, hmethM, hstM, habM⟩ := Cond.instanceMethod_spec (mv (s := D.s.setVm vm0) (args := D.args) h4 w6)
  obtain ⟨methM', cM, hmethM', -, -, -, -, -, -, hsigM⟩ := Cond.code_spec hnamed (mv (s := D.s.setVm vm0) (args := D.args) h4 w4)
  cases hmethM.symm.trans hmethM'
  obtain ⟨c2, r2, m2, -, -, q3, -, kP, hkP, hkPi⟩ := Cond.selects_spec (mv (s := D.s.setVm vm0) (args := D.args) h4 w5)
  cases hnamed.symm.trans q3
  have hpriv := Cond.privateMethod_at (mvP (s := D.s.setVm vm0) (args := D.args) h4 w2)
  obtain ⟨cell, k, hcell, -, -, hns, -⟩ := E
  have hselP : selectMethod D.e.platform (D.s.setVm vm0).vm cell.cls mk = .method mk := selectMethod_private hmethM (hpriv mk methM hnamed hmethM)
  obtain ⟨vm₁, X₁, hstep₁⟩ := X.invokevirtual ok.1 (s := D.s.setVm vm0) h5 (mv (s := D.s.setVm vm0) h4 w1) hnamed hmethM hstM hkP hkPi hy (a := a) (cell := cell) (by rw [h1]; exact hcell) (fun q e => by rw [e] at hns; cases hns) hselP hmethM habM hkP hkPi (g := mkF D.m pc Ls st) rfl (argsL := argsL) (rest := rest) (hlen _ hsigM) hst (Jvm.hb ok.2.1 hd)
  obtain ⟨v, Bp, X', hS, hgr, hpost, hsteps⟩ := hB D.m D.meth D.c ⟨T.setVm vm₁, locs, ce, sl⟩ { mkF D.m pc Ls st with stack := rest } (.invokevirtual ix) mk (.ref a :: argsL).toArray X₁ rfl (hsz.trans ok.2.2.1.symm) (Jvm.hb ok.2.1 hd) (by show 2 * 0 + _ ≤ _; rw [hW]; omega) (X₁.named hnamed) (hpre vm₁ X₁.warmed)
  exact ⟨v, vm₁, Bp, X₁.warmed, X', hS, hgr, hpost, (hstep₁ _ fun acts => by rw [doInvoke_state]; exact Steps.refl _).trans hsteps⟩
/-- super.m(..) -/
theorem callUp (pc : Nat) {ix : Nat} {argsL rest : List Value} (C : String) (W : Nat) (hd : decode B.bs pc = .ok (.invokespecial ix, 3)) (w1 : (Jvm.Cond.methodLink B.y.cls ix B'.y).before a0 Z = true) (nf : NotFace Z B'.y) (w6 : (Jvm.Cond.instanceMethod B'.y).before a0 Z = true) (w7 : (Jvm.Cond.superclass B.y.cls B'.y.cls).before a0 Z = true) (w3 : (Jvm.Cond.initialized B'.y.cls).before a0 Z = true) (w4 : (Jvm.Cond.code B'.y B'.bs B'.ml B'.rt).before a0 Z = true) (hn : B'.y.name ≠ "<init>") (hy : notMH B'.y)
    (E : Exa Z h a C) (hM : Con l Z EL n0 kn B' [] σ (.ref a :: argsL).toArray h Q') (hlen : ∀ sig, parseMethodDescriptor B'.y.desc = some sig → argsL.length = sig.parameters.length) (hst : st = argsL.reverse ++ .ref a :: rest) (hW : (rest.map fun v => v.category).sum = W) (hsz : Ls.size = B.ml)
    (hf : B'.rm.frames + 1 ≤ B.rm.frames) (hl : W + (B'.ml + 11) + B'.rm.locals ≤ B.rm.locals) {ce' sl' : Nat} (hce : ce + B'.rm.cells = ce') (hsl : sl + B'.rm.slots = sl') (hc : ce' ≤ B.rm.cells) (hs : sl' ≤ B.rm.slots)
    (r : ∀ v h' σ', (∀ x, σ x → σ' x) → Q' v h' σ' → Go l Z a0 EL n0 kn B D Q h' σ' ce' sl' (pc + 3) Ls (push v rest)) : Go l Z a0 EL n0 kn B D Q h σ ce sl pc Ls st := by
  subst hce hsl
  exact called W hM w4 w3 hf hl hc hs (fun T vm0 locs X h1 h4 h5 ok {Pre Pst} hB hpre =>
    superBackS X ok.1 (s := D.s.setVm vm0) h4 h5 w1 (same_of w6 nf hy) w6 w7 hn hB h1 (Ins.self E) (g := mkF D.m pc Ls st) rfl (hsz.trans ok.2.2.1.symm) w4 (argsL := argsL) (rest := rest) hlen hst (by show 2 * 0 + _ ≤ _; rw [hW]; omega) (Jvm.hb ok.2.1 hd) hpre) r
end Calls2
end Jvm.Road
namespace Jvm.Road
open Jvm Jvm.ClassFile Sem Op Lib Jvm.Free Jvm.Stand Jvm.LawKit Jvm.RoadKit Bundle
/-- a digit's char -/
def dc (k : Nat) : Int32 := Nat.toInt32 (48 + k)
def decN (n : Nat) : List Int32 := if n < 10 then [dc n] else decN (n / 10) ++ [dc (n % 10)]
termination_by n
theorem decN_lt {n : Nat} (h : n < 10) : decN n = [dc n] := by rw [decN, if_pos h]
theorem decN_ge {n : Nat} (h : 10 ≤ n) : decN n = decN (n / 10) ++ [dc (n % 10)] := by rw [decN, if_neg (by omega)]
theorem decN_100 {n : Nat} (h : 100 ≤ n) : decN n = decN (n / 100) ++ [dc (n % 100 / 10), dc (n % 100 % 10)] := by
  rw [decN_ge (by omega), decN_ge (show 10 ≤ n / 10 by omega), List.append_assoc, Nat.div_div_eq_div_mul, show n / 10 % 10 = n % 100 / 10 by omega, show n % 10 = n % 100 % 10 by omega]; rfl
theorem decN_len : ∀ (k n : Nat), n < 10 ^ (k + 1) → (k = 0 ∨ 10 ^ k ≤ n) → (decN n).length = k + 1
  | 0, n, h, _ => by rw [decN_lt (by simpa using h)]; rfl
  | k + 1, n, h, q => by
    have q : 10 ^ (k + 1) ≤ n := q.resolve_left (by omega)
    have e : 10 ^ (k + 1 + 1) = 10 ^ (k + 1) * 10 := Nat.pow_succ ..
    have e2 : 10 ^ (k + 1) = 10 ^ k * 10 := Nat.pow_succ ..
    have e3 : 0 < 10 ^ k := Nat.pow_pos (by omega)
    rw [decN_ge (by omega), List.length_append, decN_len k (n / 10) (by omega) (by by_cases hk : k = 0; exact Or.inl hk; exact Or.inr (by omega))]; rfl
theorem decN_pos (n : Nat) : 1 ≤ (decN n).length := by
  rw [decN]; split
  · simp
  · simp
theorem dc_int {k : Nat} (h : k < 10) : (dc k).toInt = 48 + k := by unfold dc; rw [n32 (by omega)]; omega
theorem decN_lat (n : Nat) : ∀ c ∈ decN n, 0 ≤ c.toInt ∧ c.toInt < 256 := by
  induction n using Nat.strongRecOn with
  | _ n ih =>
    intro c hc
    by_cases h : n < 10
    · rw [decN_lt h] at hc; cases List.mem_singleton.mp hc; rw [dc_int h]; omega
    · rw [decN_ge (by omega)] at hc
      rcases List.mem_append.mp hc with q | q
      · exact ih _ (by omega) c q
      · cases List.mem_singleton.mp q; rw [dc_int (by omega)]; omega
theorem decN_get : ∀ (n i : Nat) (hi : i < (decN n).length), (decN n)[i] = dc (n / 10 ^ ((decN n).length - 1 - i) % 10) := by
  intro n
  induction n using Nat.strongRecOn with
  | _ n ih =>
    intro i hi
    by_cases h : n < 10
    · simp only [decN_lt h, List.length_singleton] at hi ⊢
      have : i = 0 := by omega
      subst this
      simp [Nat.mod_eq_of_lt h]
    · have e := decN_ge (show 10 ≤ n by omega)
      have hl : (decN n).length = (decN (n / 10)).length + 1 := by rw [e, List.length_append]; rfl
      by_cases hk : i < (decN (n / 10)).length
      · have h1 : (decN n)[i] = (decN (n / 10))[i] := by simp only [e]; rw [List.getElem_append_left hk]
        rw [h1, ih _ (by omega) i hk, hl]
        have e2 : (decN (n / 10)).length + 1 - 1 - i = ((decN (n / 10)).length - 1 - i) + 1 := by omega
        rw [e2, Nat.pow_succ, Nat.mul_comm, Nat.div_div_eq_div_mul]
      · have hi2 : i = (decN (n / 10)).length := by omega
        have h1 : (decN n)[i] = dc (n % 10) := by simp only [e]; rw [List.getElem_append_right (by omega)]; simp [hi2]
        rw [h1, hl, hi2]; simp
/-- an int in decimal -/
def dec (x : Int32) : List Int32 := if x.toInt < 0 then 45 :: decN x.toInt.natAbs else decN x.toInt.natAbs
theorem dec_lat (x : Int32) : ∀ c ∈ dec x, 0 ≤ c.toInt ∧ c.toInt < 256 := by
  intro c hc; unfold dec at hc; split at hc
  · rcases List.mem_cons.mp hc with q | q
    · rw [q]; decide
    · exact decN_lat _ c q
  · exact decN_lat _ c hc
theorem set_last (U T : List Value) (v : Value) (P : Nat) (h : U.length = P + 1) : (U ++ T).set P v = U.take P ++ v :: T := by
  rw [List.set_append_left _ _ (by omega), List.set_eq_take_append_cons_drop, if_pos (by omega), List.drop_of_length_le (by omega), List.append_assoc]; rfl
theorem put_wr (cs ds : List Int32) (r : List Value) (hl : ds.length ≤ r.length) : (cs.map byt ++ r).take cs.length ++ (ds.map byt ++ (cs.map byt ++ r).drop (cs.length + ds.length)) = (cs ++ ds).map byt ++ r.drop ds.length := by
  have e1 : (cs.map byt).length = cs.length := List.length_map _
  rw [List.take_append_of_le_length (by omega), List.take_of_length_le (by omega), List.map_append, ← e1, ← List.drop_drop, List.drop_left, List.append_assoc]
def OnesL : List Value := (List.range 100).map fun i => byt (dc (i % 10))
def TensL : List Value := (List.range 100).map fun i => byt (dc (i / 10))
theorem ones_at {k : Nat} (h : k < 100) : OnesL[k]? = some (byt (dc (k % 10))) := by unfold OnesL; rw [List.getElem?_map, List.getElem?_range h]; rfl
theorem tens_at {k : Nat} (h : k < 100) : TensL[k]? = some (byt (dc (k / 10))) := by unfold TensL; rw [List.getElem?_map, List.getElem?_range h]; rfl
theorem byt_dc {k : Nat} (h : k < 10) : byt (dc k) = .int (dc k) := (by decide +kernel : ∀ i : Fin 10, byt (dc i.1) = .int (dc i.1)) ⟨k, h⟩
theorem nar_dc {k : Nat} (h : k < 10) : nar .byte (dc k) = dc k := (by decide +kernel : ∀ i : Fin 10, nar .byte (dc i.1) = dc i.1) ⟨k, h⟩
theorem div100 {x : Int32} {m : Nat} (hm : m ≤ 2147483648) (hx : x.toInt = -(m : Int)) : (x / 100).toInt = -((m / 100 : Nat) : Int) := by
  rw [Int32.toInt_div, hx, show (100 : Int32).toInt = 100 from rfl, Int.neg_tdiv]
  rw [show (m : Int).tdiv 100 = ((m / 100 : Nat) : Int) by rw [Int.tdiv_eq_ediv_of_nonneg (by omega)]; omega]
  rw [Int.bmod_eq_of_le] <;> omega
theorem rem100 {x : Int32} {m : Nat} (hm : m ≤ 2147483648) (hx : x.toInt = -(m : Int)) : (x / 100 * 100 - x).toInt = ((m % 100 : Nat) : Int) := by
  have h1 := div100 hm hx
  rw [Int32.toInt_sub, Int32.toInt_mul, h1, hx, show (100 : Int32).toInt = 100 from rfl]
  rw [Int.bmod_eq_of_le (n := -((m / 100 : Nat) : Int) * 100) (by omega) (by omega)]
  rw [Int.bmod_eq_of_le] <;> omega
theorem neg_int {x : Int32} {m : Nat} (hm : m < 2147483648) (hx : x.toInt = -(m : Int)) : (-x).toInt = (m : Int) := by
  rw [Int32.toInt_neg, hx, Int.bmod_eq_of_le] <;> omega
theorem neg_nat {x : Int32} (hx : 0 ≤ x.toInt) : (-x).toInt = -((x.toInt.natAbs : Nat) : Int) := by
  have := Int32.toInt_lt x
  rw [Int32.toInt_neg, Int.bmod_eq_of_le] <;> omega
theorem nat_le (x : Int32) : x.toInt.natAbs ≤ 2147483648 := by
  have := Int32.toInt_lt x; have := Int32.le_toInt x; omega
theorem lt0 (x : Int32) : x < 0 ↔ x.toInt < 0 := by rw [Int32.lt_iff_toInt_lt]; rfl
theorem pred32 (i : Nat) : (i + 1).toInt32 + (-1) = i.toInt32 := by rw [← succ32, Int32.add_assoc]; exact Int32.add_zero _
theorem decN_le : ∀ (k n : Nat), n < 10 ^ (k + 1) → (decN n).length ≤ k + 1
  | 0, n, h => by rw [decN_lt (by simpa using h)]; exact Nat.le_refl _
  | k + 1, n, h => by
    by_cases q : n < 10
    · rw [decN_lt q]; simp
    · have e : 10 ^ (k + 1 + 1) = 10 ^ (k + 1) * 10 := Nat.pow_succ ..
      rw [decN_ge (by omega), List.length_append]
      have := decN_le k (n / 10) (by omega)
      simp only [List.length_singleton]; omega
theorem dec_le (x : Int32) : (dec x).length ≤ 11 := by
  have h := decN_le 9 x.toInt.natAbs (by have := nat_le x; omega)
  unfold dec; split
  · rw [List.length_cons]; omega
  · omega
theorem dec_pos (x : Int32) : 1 ≤ (dec x).length := by
  unfold dec; split
  · simp
  · exact decN_pos _
def PWL : List Value := [.long 1, .long 10, .long 100, .long 1000, .long 10000, .long 100000, .long 1000000, .long 10000000, .long 100000000, .long 1000000000]
def pw (e : Nat) : Int64 := Int64.ofNat (10 ^ e)
theorem pw_at {e : Nat} (h : e < 10) : PWL[e]? = some (.long (pw e)) := (fun | 0 => rfl | 1 => rfl | 2 => rfl | 3 => rfl | 4 => rfl | 5 => rfl | 6 => rfl | 7 => rfl | 8 => rfl | 9 => rfl : ∀ i : Fin 10, PWL[i.1]? = some (.long (pw i.1))) ⟨e, h⟩
theorem pw_int {e : Nat} (h : e < 10) : (pw e).toInt = ((10 ^ e : Nat) : Int) := (by decide +kernel : ∀ i : Fin 10, (pw i.1).toInt = ((10 ^ i.1 : Nat) : Int)) ⟨e, h⟩
theorem pw_ne {e : Nat} (h : e < 10) : pw e ≠ 0 := (by decide +kernel : ∀ i : Fin 10, pw i.1 ≠ 0) ⟨e, h⟩
theorem ldiv_nat {v w : Int64} {m k : Nat} (hm : m ≤ 2147483648) (hk : 0 < k) (hv : v.toInt = (m : Int)) (hw : w.toInt = (k : Int)) : (v / w).toInt = ((m / k : Nat) : Int) := by
  have hle : m / k ≤ m := Nat.div_le_self m k
  rw [Int64.toInt_div, hv, hw, Int.tdiv_eq_ediv_of_nonneg (by omega), ← Int.natCast_ediv]
  generalize m / k = c at *
  rw [Int.bmod_eq_of_le] <;> omega
theorem lrem_nat {v : Int64} {m : Nat} (hm : m ≤ 2147483648) (hv : v.toInt = (m : Int)) : (v - v / 10 * 10).toInt = ((m % 10 : Nat) : Int) := by
  have h1 := ldiv_nat (w := 10) (k := 10) hm (by omega) hv rfl
  rw [Int64.toInt_sub, Int64.toInt_mul, h1, hv, show (10 : Int64).toInt = 10 from rfl]
  rw [Int.bmod_eq_of_le (n := ((m / 10 : Nat) : Int) * 10) (by omega) (by omega)]
  rw [Int.bmod_eq_of_le] <;> omega
theorem l2i_nat {v : Int64} {m : Nat} (hm : m < 2147483648) (hv : v.toInt = (m : Int)) : v.toInt32 = Nat.toInt32 m := by
  apply Int32.toInt_inj.mp
  rw [n32 hm, Int64.toInt_toInt32, hv, Int.bmod_eq_of_le] <;> omega
theorem digit_chr {k : Nat} (h : k < 10) : chr ((48 : Int32) + Nat.toInt32 k) = dc k := (by decide +kernel : ∀ i : Fin 10, chr ((48 : Int32) + Nat.toInt32 i.1) = dc i.1) ⟨k, h⟩
theorem digit_char {k : Nat} (h : k < 10) : nar .char (chr ((48 : Int32) + Nat.toInt32 k)) = dc k := (by decide +kernel : ∀ i : Fin 10, nar .char (chr ((48 : Int32) + Nat.toInt32 i.1)) = dc i.1) ⟨k, h⟩
theorem i2l_int (x : Int32) : (Int32.toInt64 x).toInt = x.toInt := Int32.toInt_toInt64 x
theorem lneg_nat {v : Int64} {m : Nat} (hm : m ≤ 2147483648) (hv : v.toInt = -(m : Int)) : (-v).toInt = (m : Int) := by
  rw [Int64.toInt_neg, hv, Int.bmod_eq_of_le] <;> omega
theorem decN_list (m : Nat) : decN m = (List.range (decN m).length).map (fun j => dc (m / 10 ^ ((decN m).length - 1 - j) % 10)) := by
  apply List.ext_getElem (by simp)
  intro i h1 h2
  rw [decN_get m i h1, List.getElem_map, List.getElem_range]
theorem nar_dcc {k : Nat} (h : k < 10) : nar .char (dc k) = dc k := (by decide +kernel : ∀ i : Fin 10, nar .char (dc i.1) = dc i.1) ⟨k, h⟩
theorem buf_set {pre : List Int32} {c : Int32} {r k : Nat} (h : k < r) : (pre.map Value.int ++ List.replicate (r - k) (Value.int 0)).set pre.length (Value.int c) = (pre ++ [c]).map Value.int ++ List.replicate (r - (k + 1)) (Value.int 0) := by
  have e1 : (pre.map Value.int).length = pre.length := List.length_map _
  rw [show r - k = (r - (k + 1)) + 1 from by omega, List.set_append_right _ _ (by omega), e1, Nat.sub_self, List.replicate_succ]; simp
theorem rem3 (x : Int32) : (x &&& 1073741823) % 3 = 0 ∨ (x &&& 1073741823) % 3 = 1 ∨ (x &&& 1073741823) % 3 = 2 := by
  have h1 : (x &&& 1073741823).toInt = ((x.toBitVec &&& 1073741823#32).toInt) := rfl
  have h2 : (x.toBitVec &&& 1073741823#32).toNat ≤ 1073741823 := by rw [BitVec.toNat_and]; exact Nat.and_le_right
  have h3 : (x &&& 1073741823).toInt = ((x.toBitVec &&& 1073741823#32).toNat : Int) := by rw [h1, BitVec.toInt_eq_toNat_of_lt (by omega)]
  have h4 : ((x &&& 1073741823) % 3).toInt = (x &&& 1073741823).toInt % 3 := by
    rw [Int32.toInt_mod, show (3 : Int32).toInt = 3 from rfl, Int.tmod_eq_emod_of_nonneg (by omega)]
  have h5 : ∀ k : Int32, ((x &&& 1073741823) % 3).toInt = k.toInt → (x &&& 1073741823) % 3 = k := fun k q => Int32.toInt_inj.mp q
  have e : (x &&& 1073741823).toInt % 3 = 0 ∨ (x &&& 1073741823).toInt % 3 = 1 ∨ (x &&& 1073741823).toInt % 3 = 2 := by omega
  rcases e with e | e | e
  · exact Or.inl (h5 0 (by rw [h4, e]; rfl))
  · exact Or.inr (Or.inl (h5 1 (by rw [h4, e]; rfl)))
  · exact Or.inr (Or.inr (h5 2 (by rw [h4, e]; rfl)))
end Jvm.Road
namespace Jvm.Road
open Jvm Jvm.ClassFile Sem Op Lib Jvm.Free Jvm.Stand Jvm.LawKit Jvm.RoadKit Bundle
section Boot
variable {Z : State} {a : Addr} {args a0 : Array Value}
theorem Ary.boot {C n d : String} {k : Int32} {vs : List Value} {body : Term} (ev : (Term.static C n d).eval args Z none [] Z = some (.ref a)) (hx : (Cond.exactly (Term.static C n d) "[B").value args Z none Z [] = some true)
    (wa : (Jvm.Cond.arrayClass .byte).before a0 Z = true) (hl : (Cond.eq (Term.length (Term.static C n d)) (Term.int k)).value args Z none Z [] = some true) (hn : k.toInt = vs.length)
    (hall : (Cond.all (Term.static C n d) (Cond.eq (Term.elem (Term.static C n d) (Term.index 0)) body)).value args Z none Z [] = some true)
    (hb : ∀ i, i < vs.length → ∃ w, vs[i]? = some (.int w) ∧ fits .byte (.int w) = true ∧ body.eval args Z none [i] Z = some (.int w)) : Ary Z Z.heap a .byte vs := by
  obtain ⟨c, e1, e2, e3⟩ := len_lt (eq_int_of hl) ev
  have e4 := (arrayAt_spec e1).1
  have e5 : c.slots.size = vs.length := by
    have : k.toInt = (c.slots.size : Int) := by
      injection e3 with q; rw [q]; exact len_toInt e2
    omega
  obtain ⟨cell, kk, g1, g2, g3, g4, -⟩ := Exa.start ev hx
  cases e4.symm.trans g1
  obtain ⟨cA, kA, comp, hfind, hk, hkind⟩ := Cond.arrayClass_spec wa
  have hfind : Z.vm.findClass "[B" = some cA := hfind
  cases g2.symm.trans hfind
  have A : Arr Z Z.heap a c .byte := ⟨e4, ⟨(fun q e => by rw [e] at g4; cases g4), kA, hk, comp, hkind⟩, arrayAt_known e1⟩
  have hat : ∀ i, i < vs.length → c.slots[i]? = vs[i]? ∧ ∃ w, vs[i]? = some (.int w) ∧ fits .byte (.int w) = true := fun i hi => by
    obtain ⟨w, w1, w2, w3⟩ := hb i hi
    have q := Cond.all_elim ev e1 hall i (by omega)
    obtain ⟨x, y, q1, q2, -, k2⟩ := cmp_v (Or.inl q)
    cases w3.symm.trans q2
    obtain ⟨z, rfl⟩ := k2
    have r := gotT (Cond.eq_ints q1 w3) q
    subst r
    have hj : (Term.index 0).eval args Z none [i] Z = some (.int (Nat.toInt32 i)) := rfl
    have ev' : (Term.static C n d).eval args Z none [i] Z = some (.ref a) := ev
    have := (elem_in q1 ev' hj e4).2
    rw [(ix_of (n32 (i := i) (by omega))).2] at this
    exact ⟨this.trans w1.symm, _, w1, w2⟩
  refine ⟨c, A, ?_, by omega, fun v hv => ?_⟩
  · apply List.ext_getElem?
    intro i
    by_cases hi : i < vs.length
    · rw [Array.getElem?_toList]; exact (hat i hi).1
    · rw [List.getElem?_eq_none (Nat.le_of_not_lt hi), List.getElem?_eq_none (by rw [Array.length_toList, e5]; exact Nat.le_of_not_lt hi)]
  · obtain ⟨i, hi, rfl⟩ := List.getElem_of_mem hv
    obtain ⟨-, w, w1, w2⟩ := hat i hi
    rw [List.getElem?_eq_getElem hi] at w1
    rw [Option.some.inj w1]; exact w2
theorem ones_boot : ∀ i, i < OnesL.length → ∃ w, OnesL[i]? = some (.int w) ∧ fits .byte (.int w) = true ∧ (Term.add (Term.int 48) (Term.rem (Term.index 0) (Term.int 10))).eval args Z none [i] Z = some (.int w) := fun i hi => by
  have hi : i < 100 := by simpa [OnesL] using hi
  refine ⟨dc (i % 10), by rw [ones_at hi, byt_dc (by omega)], (by decide +kernel : ∀ i : Fin 10, fits .byte (.int (dc i.1)) = true) ⟨i % 10, by omega⟩, ?_⟩
  simp only [Term.eval, List.getElem?_cons_zero, Option.map_some, Option.bind_eq_bind, Option.bind_some]
  have := (by decide +kernel : ∀ i : Fin 100, (48 : Int32) + (Nat.toInt32 i.1) % 10 = dc (i.1 % 10)) ⟨i, hi⟩
  simpa using this
theorem tens_boot : ∀ i, i < TensL.length → ∃ w, TensL[i]? = some (.int w) ∧ fits .byte (.int w) = true ∧ (Term.add (Term.int 48) (Term.div (Term.index 0) (Term.int 10))).eval args Z none [i] Z = some (.int w) := fun i hi => by
  have hi : i < 100 := by simpa [TensL] using hi
  refine ⟨dc (i / 10), by rw [tens_at hi, byt_dc (by omega)], (by decide +kernel : ∀ i : Fin 10, fits .byte (.int (dc i.1)) = true) ⟨i / 10, by omega⟩, ?_⟩
  simp only [Term.eval, List.getElem?_cons_zero, Option.map_some, Option.bind_eq_bind, Option.bind_some]
  have := (by decide +kernel : ∀ i : Fin 100, (48 : Int32) + (Nat.toInt32 i.1) / 10 = dc (i.1 / 10)) ⟨i, hi⟩
  simpa using this
end Boot
end Jvm.Road
namespace Jvm.Road
open Jvm Jvm.ClassFile Sem Op Lib Jvm.Free Jvm.Stand Jvm.LawKit Jvm.RoadKit Bundle
/-- the array at a is over the class C -/
def Ova (Z : State) (h : Heap) (a : Addr) (C : String) : Prop := ∃ cell : Cell, h[a]? = some cell ∧ Ovr Z cell.cls C
theorem Ova.keep {Z : State} {h h' : Heap} {a : Addr} {C : String} {ws : List Addr} (F : Ova Z h a C) (K : Keep h h' ws) : Ova Z h' a C := by
  obtain ⟨c, e, O⟩ := F
  obtain ⟨c', e', q, -⟩ := K.2.2 a c e
  exact ⟨c', e', by rw [q]; exact O⟩
section Refs
variable {l : Launch} {Z : State} {a0 : Array Value} {EL : List (String × Nat)} {n0 : Nat} {kn : Bool} {B B' : Bdy} {D : Dyn} {Q Q' : Post} {h : Heap} {σ : Addr → Prop} {ce sl : Nat} {Ls : Array Slot} {st : List Value} {a : Addr}
theorem anewarray (pc : Nat) {ix : Nat} (C : String) (n cap : Nat) {z : Int32} (hd : decode B.bs pc = .ok (.anewarray ix, 3)) (w1 : (Jvm.Cond.classLink B.y.cls ix C).before a0 Z = true) (w2 : (Jvm.Cond.arrayOver (.object C)).before a0 Z = true) (hz : z.toInt = (n : Int)) (hcap : n ≤ cap) (hb : cap * 8 ≤ 536870912) {ce' sl' : Nat} (hce : ce + 1 = ce') (hsl : sl + cap = sl') (hc : ce' ≤ B.rm.cells) (hs : sl' ≤ B.rm.slots)
    (r : ∀ a h' σ', a = h.size → Keep h h' [] → a < h'.size → (∀ x, σ x → σ' x) → σ' a → Ary Z h' a (.object C) (List.replicate n .null) → Ova Z h' a C → Go l Z a0 EL n0 kn B D Q h' σ' ce' sl' (pc + 3) Ls (.ref a :: st)) : Go l Z a0 EL n0 kn B D Q h σ ce sl pc Ls (.int z :: st) := by
  subst hce hsl
  exact made (P := fun h' => Ary Z h' h.size (.object C) (List.replicate n .null) ∧ Ova Z h' h.size C)
    (fun T vm0 locs X h1 h4 h5 ok => by
      obtain ⟨q1, q2⟩ := ix_of hz
      obtain ⟨T', h', cA, X', e', E, A, O, s'⟩ := newR X ok.1 (s := D.s.setVm vm0) h4 h5 w1 w2 h1 (g := mkF D.m pc Ls (.int z :: st)) rfl (Jvm.hb ok.2.1 hd) rfl q1 (cap := cap) (by rw [q2]; exact hcap) hb hc hs
      refine ⟨T', h', X', e', E, A.lt, ⟨⟨_, A, ?_, ?_, ?_⟩, ⟨_, A.1, O⟩⟩, s'⟩
      · show (Array.replicate z.toNatClampNeg (defaultValue (.object C))).toList = _
        rw [q2, Array.toList_replicate]; rfl
      · rw [List.length_replicate]; omega
      · intro v hv
        rw [(List.mem_replicate.mp hv).2]; rfl)
    (fun h' σ' K hlt m1 m2 P => r h.size h' σ' rfl K hlt m1 m2 P.1 P.2)
theorem newarrayE (pc : Nat) {aty : ArrayType} (ty : FieldType) (n cap : Nat) {z : Int32} (ad : String) (had : "[" ++ (newarray.typeOf aty).toString = ad) (hd : decode B.bs pc = .ok (.newarray aty, 2)) (hty : newarray.typeOf aty = ty) (w : (Jvm.Cond.arrayClass ty).before a0 Z = true) (hz : z.toInt = (n : Int)) (hcap : n ≤ cap) (hb : cap * 8 ≤ 536870912) {ce' sl' : Nat} (hce : ce + 1 = ce') (hsl : sl + cap = sl') (hc : ce' ≤ B.rm.cells) (hs : sl' ≤ B.rm.slots)
    (r : ∀ a h' σ', a = h.size → Keep h h' [] → a < h'.size → (∀ x, σ x → σ' x) → σ' a → Ary Z h' a ty (List.replicate n (defaultValue ty)) → Exa Z h' a ad → Go l Z a0 EL n0 kn B D Q h' σ' ce' sl' (pc + 2) Ls (.ref a :: st)) : Go l Z a0 EL n0 kn B D Q h σ ce sl pc Ls (.int z :: st) := by
  subst hce hsl
  exact made (P := fun h' => Ary Z h' h.size ty (List.replicate n (defaultValue ty)) ∧ Exa Z h' h.size ad)
    (fun T vm0 locs X h1 h4 h5 ok => by
      subst hty
      obtain ⟨q1, q2⟩ := ix_of hz
      obtain ⟨T', h', cA, X', e', E, A, EE, s'⟩ := newPE X ok.1 (s := D.s.setVm vm0) h4 w h1 (g := mkF D.m pc Ls (.int z :: st)) rfl (Jvm.hb ok.2.1 hd) rfl q1 (cap := cap) (by rw [q2]; exact hcap) hb hc hs had
      refine ⟨T', h', X', e', E, A.lt, ⟨⟨_, A, ?_, ?_, ?_⟩, EE⟩, s'⟩
      · show (Array.replicate z.toNatClampNeg (defaultValue (newarray.typeOf aty))).toList = _
        rw [q2, Array.toList_replicate]
      · rw [List.length_replicate]; omega
      · intro v hv
        rw [(List.mem_replicate.mp hv).2]
        cases aty <;> rfl)
    (fun h' σ' K hlt m1 m2 P => r h.size h' σ' rfl K hlt m1 m2 P.1 P.2)
theorem aastore (pc : Nat) {C : String} {vs : List Value} {j : Int32} {y : Addr} (i : Nat) (hd : decode B.bs pc = .ok (.aastore, 1)) (A : Ary Z h a (.object C) vs) (O : Ova Z h a C) (I : Ins Z h y C true) (hj : j.toInt = (i : Int)) (hi : i < vs.length) (hσ : σ a)
    (r : ∀ h', Keep h h' [a] → Ary Z h' a (.object C) (vs.set i (.ref y)) → Go l Z a0 EL n0 kn B D Q h' σ ce sl (pc + 1) Ls st) : Go l Z a0 EL n0 kn B D Q h σ ce sl pc Ls (.ref y :: .int j :: .ref a :: st) :=
  wrote hσ (i := i) (v := .ref y) (fun T vm0 locs X h1 h4 h5 ok => by
    obtain ⟨c, Ar, e, -⟩ := A
    obtain ⟨c', e', Ov⟩ := O
    cases Ar.1.symm.trans e'
    have := stR X ok.1 (s := D.s.setVm vm0) h4 h1 Ar (Ary.inb e hj hi) rfl (Sto.of Ar Ov I) (g := mkF D.m pc Ls (.ref y :: .int j :: .ref a :: st)) rfl rfl (Jvm.hb ok.2.1 hd)
    rw [(ix_of hj).2] at this; exact this)
    (fun h' W K => r h' K (A.wr W rfl))
theorem callF (pc : Nat) {ix cnt : Nat} {xi : MethodName} {argsL rest : List Value} (C : String) (W : Nat) (hd : decode B.bs pc = .ok (.invokeinterface ix cnt, 5)) (w1 : (Jvm.Cond.methodLink B.y.cls ix xi).before a0 Z = true) (w2 : (Jvm.Cond.declares xi).before a0 Z = true) (w7 : (Jvm.Cond.interfaceMethod xi.cls xi.cls xi.name xi.desc).before a0 Z = true)
    (w5 : (Jvm.Cond.selects C xi B'.y).before a0 Z = true) (w6 : (Jvm.Cond.instanceMethod B'.y).before a0 Z = true) (w8 : (Jvm.Cond.publicMethod B'.y).before a0 Z = true) (w9 : (Jvm.Cond.unhidden C xi.name xi.desc).before a0 Z = true) (w10 : (Jvm.Cond.castable C xi.cls).before a0 Z = true) (w3 : (Jvm.Cond.initialized B'.y.cls).before a0 Z = true) (w4 : (Jvm.Cond.code B'.y B'.bs B'.ml B'.rt).before a0 Z = true) (hy : notMH xi) (hk : ((Jvm.Cond.interfaceMethod xi.cls xi.cls xi.name xi.desc).onTables && (Jvm.Cond.interfaceMethod xi.cls xi.cls xi.name xi.desc).keepsFace) = true)
    (E : Exa Z h a C) (hM : Con l Z EL n0 kn B' [] σ (.ref a :: argsL).toArray h Q') (hlen : ∀ sig, parseMethodDescriptor xi.desc = some sig → argsL.length = sig.parameters.length) (hst : st = argsL.reverse ++ .ref a :: rest) (hW : (rest.map fun v => v.category).sum = W) (hsz : Ls.size = B.ml)
    (hf : B'.rm.frames + 1 ≤ B.rm.frames) (hl : W + (B'.ml + 11) + B'.rm.locals ≤ B.rm.locals) {ce' sl' : Nat} (hce : ce + B'.rm.cells = ce') (hsl : sl + B'.rm.slots = sl') (hc : ce' ≤ B.rm.cells) (hs : sl' ≤ B.rm.slots)
    (r : ∀ v h' σ', (∀ x, σ x → σ' x) → Q' v h' σ' → Go l Z a0 EL n0 kn B D Q h' σ' ce' sl' (pc + 5) Ls (push v rest)) : Go l Z a0 EL n0 kn B D Q h σ ce sl pc Ls st := by
  subst hce hsl
  exact called W hM w4 w3 hf hl hc hs (fun T vm0 locs X h1 h4 h5 ok {Pre Pst} hB hpre => by
    obtain ⟨cq, kq, qa, qb, qc⟩ := isOf (s := D.s.setVm vm0) h4 h1 E
    exact X.interfaceBackS ok.1 (s := D.s.setVm vm0) (C := C) h5 (mv (s := D.s.setVm vm0) h4 w1) (mv (s := D.s.setVm vm0) h4 w2) (mv (s := D.s.setVm vm0) h4 w7 hk) (mv (s := D.s.setVm vm0) h4 w5) (mv (s := D.s.setVm vm0) h4 w6) (mv (s := D.s.setVm vm0) h4 w8) (mv (s := D.s.setVm vm0) h4 w9) (mv (s := D.s.setVm vm0) h4 w10) hy hB qa qb qc (g := mkF D.m pc Ls st) rfl (hsz.trans ok.2.2.1.symm) (Steps.refl _) (argsL := argsL) (rest := rest) hlen hst (by show 2 * 0 + _ ≤ _; rw [hW]; omega) (Jvm.hb ok.2.1 hd) hpre) r
end Refs
end Jvm.Road
namespace Jvm.Road
open Jvm Jvm.ClassFile Sem Op Lib Jvm.Free Jvm.Stand Jvm.LawKit Jvm.RoadKit Bundle
theorem u32_of {c : Int32} (h : 0 ≤ c.toInt) : (u32 c : Int) = c.toInt := by
  have e : c.toInt = c.toBitVec.toInt := rfl
  have := BitVec.toInt_eq_toNat_cond c.toBitVec
  unfold u32; rw [e] at h ⊢; split at this <;> omega
theorem toInt8_and (x : Int32) : Int32.toInt8 (x &&& 255) = Int32.toInt8 x := by
  apply Int8.toBitVec_inj.mp
  apply BitVec.eq_of_toNat_eq
  show ((x &&& 255).toBitVec.signExtend 8).toNat = (x.toBitVec.signExtend 8).toNat
  have e : ∀ y : BitVec 32, (y.signExtend 8).toNat = y.toNat % 256 := fun y => by rw [BitVec.signExtend_eq_setWidth_of_le _ (by omega), BitVec.toNat_setWidth]
  rw [e, e]
  have := u32_and255 x
  unfold u32 at this
  rw [this]; omega
theorem u32_bf (x : Int32) : u32 (bf x &&& 255) = u32 x % 256 := by
  have h1 : bf x = bf (x &&& 255) := by unfold bf; rw [toInt8_and]
  have h2 : 0 ≤ (x &&& 255).toInt ∧ (x &&& 255).toInt < 256 := by
    have := u32_and255 x
    have h3 : u32 (x &&& 255) < 2147483648 := by omega
    rw [toInt_u32 h3]; omega
  rw [h1, ← u32_and255 x]
  obtain ⟨i, e⟩ := lat_nat h2
  rw [e]
  exact congrArg u32 ((by decide +kernel : ∀ i : Fin 256, bf (Int32.ofInt (i.1 : Int)) &&& 255 = Int32.ofInt (i.1 : Int)) i)
theorem u32_shr8 {c : Int32} (h : 0 ≤ c.toInt) : u32 (c >>> ((8 : Int32) &&& 31)) = u32 c / 256 := by
  have hc : u32 c < 2147483648 := by have := u32_of h; have := Int32.toInt_lt c; omega
  show ((c >>> (8 : Int32)).toBitVec).toNat = _
  have e : (c >>> (8 : Int32)).toBitVec = c.toBitVec.sshiftRight 8 := by
    rw [Int32.toBitVec_shiftRight]; rfl
  rw [e, BitVec.sshiftRight_eq_of_msb_false (by rw [BitVec.msb_eq_false_iff_two_mul_lt]; unfold u32 at hc; omega), BitVec.toNat_ushiftRight, Nat.shiftRight_eq_div_pow]; rfl
theorem u32_shl8 (x : Int32) : u32 (x <<< ((8 : Int32) &&& 31)) = u32 x * 256 % 4294967296 := by
  show ((x <<< (8 : Int32)).toBitVec).toNat = _
  have e : (x <<< (8 : Int32)).toBitVec = x.toBitVec <<< 8 := by
    rw [Int32.toBitVec_shiftLeft]; rfl
  rw [e, BitVec.toNat_shiftLeft, Nat.shiftLeft_eq]; rfl
theorem u32_or (x y : Int32) : u32 (x ||| y) = u32 x ||| u32 y := BitVec.toNat_or ..
/-- two bytes and back -/
theorem u16_back {c : Int32} (h : 0 ≤ c.toInt ∧ c.toInt < 65536) : nar .char (chr (((bf (c >>> ((0 : Int32) &&& 31)) &&& 255) <<< ((0 : Int32) &&& 31)) ||| ((bf (c >>> ((8 : Int32) &&& 31)) &&& 255) <<< ((8 : Int32) &&& 31)))) = c := by
  have hc := u32_of h.1
  have hlt : u32 c < 65536 := by omega
  rw [nar_chr]
  apply u32_inj
  rw [u32_chr, u32_or, shr0, shl0, u32_shl8, u32_bf, u32_bf, u32_shr8 h.1]
  have e1 : u32 c / 256 % 256 = u32 c / 256 := by omega
  rw [e1, Nat.mod_eq_of_lt (show u32 c / 256 * 256 < 4294967296 by omega)]
  have e2 : u32 c % 256 ||| u32 c / 256 * 256 = u32 c := by
    rw [Nat.or_comm, Nat.mul_comm, show (256 : Nat) = 2 ^ 8 from rfl, ← Nat.two_pow_add_eq_or_of_lt (show u32 c % 2 ^ 8 < 2 ^ 8 by omega)]
    omega
  rw [e2]; omega
theorem u32_nat (k : Nat) : u32 (Nat.toInt32 k) = k % 4294967296 := by unfold u32; show (BitVec.ofNat 32 k).toNat = _; rw [BitVec.toNat_ofNat]
theorem u32_shl1 (x : Int32) : u32 (x <<< ((1 : Int32) &&& 31)) = u32 x * 2 % 4294967296 := by
  show ((x <<< (1 : Int32)).toBitVec).toNat = _
  have e : (x <<< (1 : Int32)).toBitVec = x.toBitVec <<< 1 := by
    rw [Int32.toBitVec_shiftLeft]; rfl
  rw [e, BitVec.toNat_shiftLeft, Nat.shiftLeft_eq]; rfl
theorem shl1 (k : Nat) : (Nat.toInt32 k) <<< ((1 : Int32) &&& 31) = Nat.toInt32 (2 * k) := u32_inj (by rw [u32_shl1, u32_nat, u32_nat]; omega)
theorem u32_shr1 {c : Int32} (h : 0 ≤ c.toInt) : u32 (c >>> ((1 : Int32) &&& 31)) = u32 c / 2 := by
  have hc : u32 c < 2147483648 := by have := u32_of h; have := Int32.toInt_lt c; omega
  show ((c >>> (1 : Int32)).toBitVec).toNat = _
  have e : (c >>> (1 : Int32)).toBitVec = c.toBitVec.sshiftRight 1 := by
    rw [Int32.toBitVec_shiftRight]; rfl
  rw [e, BitVec.sshiftRight_eq_of_msb_false (by rw [BitVec.msb_eq_false_iff_two_mul_lt]; unfold u32 at hc; omega), BitVec.toNat_ushiftRight, Nat.shiftRight_eq_div_pow]; rfl
theorem shr1 {k : Nat} (h : 2 * k < 2147483648) : (Nat.toInt32 (2 * k)) >>> ((1 : Int32) &&& 31) = Nat.toInt32 k := u32_inj (by rw [u32_shr1 (by rw [n32 h]; omega), u32_nat, u32_nat]; omega)
def lo8 (c : Int32) : Int32 := Int8.toInt32 (Int32.toInt8 (c >>> ((0 : Int32) &&& 31)))
def hi8 (c : Int32) : Int32 := Int8.toInt32 (Int32.toInt8 (c >>> ((8 : Int32) &&& 31)))
/-- a char's two bytes, the low one first -/
def utf : List Int32 → List Value
  | [] => []
  | c :: r => .int (lo8 c) :: .int (hi8 c) :: utf r
theorem utf_len : ∀ cs : List Int32, (utf cs).length = 2 * cs.length
  | [] => rfl
  | c :: r => by simp only [utf, List.length_cons, utf_len r]; omega
theorem utf_app : ∀ cs ds : List Int32, utf (cs ++ ds) = utf cs ++ utf ds
  | [], ds => rfl
  | c :: r, ds => by simp only [List.cons_append, utf, utf_app r ds]
theorem utf_at : ∀ (cs : List Int32) (k : Nat) (h : k < cs.length), (utf cs)[2 * k]? = some (.int (lo8 cs[k])) ∧ (utf cs)[2 * k + 1]? = some (.int (hi8 cs[k]))
  | c :: r, 0, _ => ⟨rfl, rfl⟩
  | c :: r, k + 1, h => by
    have := utf_at r k (by simpa using h)
    simpa [utf, Nat.mul_add, Nat.add_right_comm] using this
theorem utf_put (cs : List Int32) (r k : Nat) (h : k < cs.length) : ((utf (cs.take k) ++ List.replicate (2 * (r + 1)) (Value.int 0)).set (2 * k) (.int (lo8 cs[k]))).set (2 * k + 1) (.int (hi8 cs[k])) = utf (cs.take (k + 1)) ++ List.replicate (2 * r) (.int 0) := by
  have hl : (utf (cs.take k)).length = 2 * k := by rw [utf_len, List.length_take]; omega
  rw [List.take_succ_eq_append_getElem h, utf_app, show 2 * (r + 1) = 2 * r + 1 + 1 from by omega, List.replicate_succ, List.replicate_succ]
  rw [List.set_append_right _ _ (by omega), List.set_append_right _ _ (by omega), hl, Nat.sub_self, show 2 * k + 1 - 2 * k = 1 from by omega]
  simp [utf]
def Str16 (Z : State) (h : Heap) (a b : Addr) (cs : List Int32) : Prop := Exa Z h a SN ∧ Fld Z h a SN "coder" "B" (.int 1) ∧ Fld Z h a SN "value" "[B" (.ref b) ∧ Ary Z h b .byte (utf cs) ∧ (∀ c ∈ cs, 0 ≤ c.toInt ∧ c.toInt < 65536) ∧ 0 < cs.length
/-- a String of either kind -/
def StrX (Z : State) (h : Heap) (a b : Addr) (cs : List Int32) : Prop := Str Z h a b cs ∨ Str16 Z h a b cs
def hiS (c : Int32) : Prop := 55296 ≤ c.toInt ∧ c.toInt < 56320
def loS (c : Int32) : Prop := 56320 ≤ c.toInt ∧ c.toInt < 57344
instance (c : Int32) : Decidable (hiS c) := inferInstanceAs (Decidable (_ ∧ _))
instance (c : Int32) : Decidable (loS c) := inferInstanceAs (Decidable (_ ∧ _))
/-- a surrogate pair begins at i -/
def pr (cs : List Int32) (i : Nat) : Nat := if h : i + 1 < cs.length then (if hiS cs[i] ∧ loS cs[i + 1] then 1 else 0) else 0
def psum (cs : List Int32) : Nat → Nat
  | 0 => 0
  | m + 1 => psum cs m + pr cs m
theorem pr_le (cs : List Int32) (i : Nat) : pr cs i ≤ 1 := by unfold pr; split <;> (try split) <;> omega
theorem psum_le (cs : List Int32) : ∀ m, psum cs m ≤ m
  | 0 => Nat.le_refl _
  | m + 1 => by have := psum_le cs m; have := pr_le cs m; simp only [psum]; omega
theorem pr_end {cs : List Int32} {i : Nat} (h : cs.length ≤ i + 1) : pr cs i = 0 := by unfold pr; rw [dif_neg (by omega)]
theorem psum_end {cs : List Int32} : ∀ {m k : Nat}, cs.length ≤ m + 1 → m ≤ k → psum cs k = psum cs m := by
  intro m k h hk
  induction k with
  | zero => have : m = 0 := by omega
            subst this; rfl
  | succ k ih =>
    by_cases e : m = k + 1
    · rw [e]
    · simp only [psum]; rw [ih (by omega), pr_end (by omega), Nat.add_zero]
theorem psum_lat {cs : List Int32} (h : ∀ c ∈ cs, 0 ≤ c.toInt ∧ c.toInt < 256) : ∀ m, psum cs m = 0
  | 0 => rfl
  | m + 1 => by
    simp only [psum, psum_lat h m]; unfold pr; split
    · rw [if_neg]; intro q; have := h _ (List.getElem_mem (show m < cs.length by omega)); unfold hiS at q; omega
    · rfl
theorem cfa16 {n : Nat} (h0 : 0 < n) (h : n < 1000) : nar .byte (Int8.toInt32 (Int32.toInt8 (XT.ushr (Nat.toInt32 n - Nat.toInt32 (2 * n)) 31))) = 1 := by
  have e : Nat.toInt32 n - Nat.toInt32 (2 * n) = -(Nat.toInt32 n) := by
    rw [show 2 * n = n + n from by omega, ← add32n]
    generalize Nat.toInt32 n = x
    rw [Int32.sub_eq_add_neg, Int32.neg_add, Int32.sub_eq_add_neg, ← Int32.add_assoc, Int32.add_right_neg, Int32.zero_add]
  rw [e]
  exact (by decide +kernel : ∀ i : Fin 1000, 0 < i.1 → nar .byte (Int8.toInt32 (Int32.toInt8 (XT.ushr (-(Nat.toInt32 i.1)) 31))) = 1) ⟨n, h⟩ h0
theorem pr_lo {cs : List Int32} {i : Nat} (h : i < cs.length) (hl : loS cs[i]) : pr cs i = 0 := by
  unfold pr; split
  · rw [if_neg]; intro q; have := q.1; unfold hiS at this; unfold loS at hl; omega
  · rfl
theorem and255L (y : Int64) : 0 ≤ (Int64.toInt32 (y &&& 255)).toInt ∧ (Int64.toInt32 (y &&& 255)).toInt < 256 := by
  have h : u32 (Int64.toInt32 (y &&& 255)) < 256 := by
    show ((y &&& 255).toBitVec.signExtend 32).toNat < 256
    rw [BitVec.signExtend_eq_setWidth_of_le _ (by omega), BitVec.toNat_setWidth]
    have : ((y &&& 255).toBitVec).toNat ≤ 255 := by
      show (y.toBitVec &&& (255 : Int64).toBitVec).toNat ≤ 255
      rw [BitVec.toNat_and]; exact Nat.and_le_right
    omega
  rw [toInt_u32 (by omega)]; omega
theorem chr_add {a x : Int32} {A : Nat} (ha : a.toInt = (A : Int)) (hA : A + 255 < 65536) (hx : 0 ≤ x.toInt ∧ x.toInt < 256) : (chr (a + x)).toInt = A + x.toInt ∧ nar .char (chr (a + x)) = chr (a + x) := by
  have e1 := u32_of (c := a) (by omega)
  have e2 := u32_of hx.1
  have e3 : u32 (a + x) = u32 a + u32 x := by
    show (a.toBitVec + x.toBitVec).toNat = _
    rw [BitVec.toNat_add]; unfold u32 at *; omega
  have e4 : u32 (chr (a + x)) = u32 a + u32 x := by rw [u32_chr, e3]; omega
  refine ⟨?_, nar_chr _⟩
  rw [toInt_u32 (by omega), e4]; omega
/-- the law's kind of a place -/
def kd (kinds : Int32) (i : Nat) : Int32 := XT.ushr kinds ((2 : Int32) * Nat.toInt32 i) &&& 3
theorem u32_and15 (x : Int32) : x &&& 15 = Nat.toInt32 (u32 x % 16) := u32_inj (by rw [u32_nat, u32_and]; have : u32 x &&& u32 (15 : Int32) = u32 x % 16 := and_mask _ 4; rw [this]; omega)
/-- what the law's chars are, by their kinds -/
def KF (kinds : Int32) (cs : List Int32) : Prop := ∀ j (hj : j < cs.length), (0 ≤ cs[j].toInt ∧ cs[j].toInt < 65536) ∧ (hiS cs[j] ↔ kd kinds j = 2) ∧ (loS cs[j] ↔ kd kinds j = 3)
theorem KF.snoc {kinds : Int32} {cs : List Int32} {c : Int32} {i : Nat} (h : KF kinds cs) (hi : cs.length = i) (hc : (0 ≤ c.toInt ∧ c.toInt < 65536) ∧ (hiS c ↔ kd kinds i = 2) ∧ (loS c ↔ kd kinds i = 3)) : KF kinds (cs ++ [c]) := by
  intro j hj
  rw [List.length_append, List.length_singleton] at hj
  by_cases q : j < cs.length
  · rw [List.getElem_append_left q]; exact h j q
  · have : j = cs.length := by omega
    subst this
    rw [List.getElem_append_right (Nat.le_refl _)]; simp only [Nat.sub_self, List.getElem_cons_zero]; rw [hi]; exact hc
theorem KF.c16 {kinds : Int32} {cs : List Int32} (h : KF kinds cs) : ∀ c ∈ cs, 0 ≤ c.toInt ∧ c.toInt < 65536 := fun c hc => by
  obtain ⟨j, hj, rfl⟩ := List.getElem_of_mem hc; exact (h j hj).1
theorem KF.pr {kinds : Int32} {cs : List Int32} (h : KF kinds cs) (i : Nat) : pr cs i = if i + 1 < cs.length ∧ kd kinds i = 2 ∧ kd kinds (i + 1) = 3 then 1 else 0 := by
  unfold Road.pr
  by_cases q : i + 1 < cs.length
  · rw [dif_pos q]
    have a := (h i (by omega)).2.1
    have b := (h (i + 1) q).2.2
    by_cases u : hiS cs[i] ∧ loS cs[i + 1]
    · rw [if_pos u, if_pos ⟨q, a.mp u.1, b.mp u.2⟩]
    · rw [if_neg u, if_neg (fun v => u ⟨a.mpr v.2.1, b.mpr v.2.2⟩)]
  · rw [dif_neg q, if_neg (fun v => q v.1)]
theorem buf_put (pre : List Int32) (c : Int32) (r : Nat) : (pre.map Value.int ++ List.replicate (r + 1) (Value.int 0)).set pre.length (Value.int c) = (pre ++ [c]).map Value.int ++ List.replicate r (Value.int 0) := by
  have e1 : (pre.map Value.int).length = pre.length := List.length_map _
  rw [List.set_append_right _ _ (by omega), e1, Nat.sub_self, List.replicate_succ]; simp
theorem nar16 {c : Int32} (h : 0 ≤ c.toInt ∧ c.toInt < 65536) : nar .char c = c := by
  have e := u32_of h.1
  have : chr c = c := chr_id (by omega)
  rw [← this, nar_chr]
end Jvm.Road
namespace Jvm.Road
open Jvm Jvm.ClassFile Sem Op Lib Jvm.Free Jvm.Stand Jvm.LawKit Jvm.RoadKit Bundle Jvm.Free.Exc Jvm.Free.Str
/-- what a sheet says of Throwable, its instance fields over the exception's own class rc alone -/
def thrW (rc : String) : List Jvm.Cond := [.native tFill0, .initialized tN, .superclass tN "java/lang/Object", .instanceMethod tFill, .codeSync tFill LibCode.Throwable.Fill.code 1 (some (.object tN)), .instanceMethod tFill0, .instanceMethod oInit, .code oInit ⟨#[0xb1]⟩ 1 none,
  .methodLink tN 1 oInit, .methodLink tN 27 tFill, .methodLink tN 202 tFill0, .fieldLink tN 7 tN "cause" thD, .fieldLink tN 17 tN "stackTrace" steD, .fieldLink tN 24 tN "suppressedExceptions" listD, .fieldLink tN 13 tN "UNASSIGNED_STACK" steD, .fieldLink tN 20 tN "SUPPRESSED_SENTINEL" listD, .fieldLink tN 198 tN "backtrace" obD,
  .laysStatic tN "UNASSIGNED_STACK" steD, .laysStatic tN "SUPPRESSED_SENTINEL" listD, .lays rc tN "cause" thD, .lays rc tN "stackTrace" steD, .lays rc tN "suppressedExceptions" listD, .lays rc tN "detailMessage" msgD, .lays rc tN "backtrace" obD, .lays rc tN "depth" "I",
  .declares tFill, .selects rc tFill0 tFill0, .selects rc tFill tFill, .arrayOver (.object "java/lang/Object"), .soleField tN "backtrace", .soleField tN "depth"]
theorem thrW_ok {rc : String} : (thrW rc).all xOk = true := rfl
theorem thr_of {args : Array Value} {s : State} {pl : Platform} {rc : String} (howns : pl.frameOwnsMonitors = true) (hfin : pl.finalization = false) (hpl : pl.magicAccessors = ({} : Platform).magicAccessors) (h : ∀ c ∈ thrW rc, c.before args s = true) :
    ∃ T : ThrowableC, T.Links pl s ∧ s.vm.findClass tN = some T.cT ∧ s.methodNamed? tFill = some T.fill ∧ s.methodNamed? tFill0 = some T.fill0 ∧ s.fieldFound? tN "stackTrace" steD = some (T.cT, T.kT, T.i17, T.fStack) ∧ T.fStack.type = .array (.object "java/lang/StackTraceElement") ∧
      s.fieldFound? tN "UNASSIGNED_STACK" steD = some (T.cT, T.kT, T.i13, T.fUnassigned) := by
  have a : ∀ (k : Nat) (c : Jvm.Cond), (thrW rc)[k]? = some c → c.holds args s none s [] = true := fun k c q => h c (List.mem_of_getElem? q)
  obtain ⟨⟨c, i0⟩, m0, n0, e0, nat0, cod0, loc0, sig0⟩ := Cond.native_spec (a 0 _ rfl)
  have hc : s.vm.findClass tN = some c := findClass_of_methodNamed n0
  obtain ⟨k, hk, hnm⟩ := Vm.findClass_spec hc
  obtain ⟨_, k1, _, _, r1, _, _, hord, _, hni⟩ := Cond.superclass_spec hc (a 2 _ rfl)
  cases hk.symm.trans r1
  obtain ⟨iF, mF, nF, eF, atF, stF, abF, -, -⟩ := Cond.ownMethod (x := tFill) hc hk (a 3 _ rfl)
  obtain ⟨mF', cF, eF', cdF, bF, lF, rF, lkF, -, sgF⟩ := Cond.codeSync_spec nF (a 4 _ rfl)
  cases eF.symm.trans eF'
  obtain ⟨j0, m0', n0', e0', at0, st0, ab0, nm0, ds0⟩ := Cond.ownMethod (x := tFill0) hc hk (a 5 _ rfl)
  cases n0.symm.trans n0'
  cases e0.symm.trans e0'
  obtain ⟨mO, meO, nO, eO, stO, abO⟩ := Cond.instanceMethod_spec (a 6 _ rfl)
  obtain ⟨meO', cO, eO', cdO, bO, lO, -, lkO, -, sgO⟩ := Cond.code_spec nO (a 7 _ rfl)
  cases eO.symm.trans eO'
  obtain ⟨kO, hkO, hnO⟩ := Vm.findClass_spec (findClass_of_methodNamed nO)
  obtain ⟨nmO, dsO⟩ := name_of_methodNamed nO eO
  obtain ⟨ci1, n1, cf, l1, r1', f1, p1⟩ := Cond.linkedMethod hc hk nO (a 8 _ rfl) pl hpl
  obtain ⟨ci27, n27, cf2, l27, r27, f27, p27⟩ := Cond.linkedMethod hc hk nF (a 9 _ rfl) pl hpl
  cases f1.symm.trans f27
  obtain ⟨ci202, n202, cf3, l202, r202, f202, p202⟩ := Cond.linkedMethod hc hk n0 (a 10 _ rfl) pl hpl
  cases f1.symm.trans f202
  obtain ⟨c7, i7, f7, k7, g7, t7, s7, fi7, -, -, -⟩ := Cond.ownField (t := .object tN) hc hk (by decide +kernel) (a 11 _ rfl) (a 19 _ rfl) pl hpl
  obtain ⟨c17, i17, f17, k17, g17, t17, s17, fi17, na17, ty17, ff17⟩ := Cond.ownField (t := .array (.object "java/lang/StackTraceElement")) hc hk (by decide +kernel) (a 12 _ rfl) (a 20 _ rfl) pl hpl
  obtain ⟨c24, i24, f24, k24, g24, t24, s24, fi24, na24, -, ff24⟩ := Cond.ownField (t := .object "java/util/List") hc hk (by decide +kernel) (a 13 _ rfl) (a 21 _ rfl) pl hpl
  obtain ⟨c13, i13, f13, aS, cS, k13, g13, t13, s13, -, -, hsta, -, -, -, -, ff13⟩ := Cond.ownStatic (t := .array (.object "java/lang/StackTraceElement")) hc hk (by decide +kernel) (a 14 _ rfl) (a 17 _ rfl) pl hpl
  obtain ⟨c20, i20, f20, _, _, k20, g20, t20, s20, -⟩ := Cond.ownStatic (t := .object "java/util/List") hc hk (by decide +kernel) (a 15 _ rfl) (a 18 _ rfl) pl hpl
  obtain ⟨cR, kR, cM, kM, iM, fM, hcR, hkR, ffM, sM, fiM, -⟩ := Cond.lays_spec (a 22 _ rfl)
  obtain ⟨-, d17, hd17, hn17⟩ := Cond.laysAt hcR hkR ff17 (a 20 _ rfl)
  obtain ⟨-, d24, hd24, hn24⟩ := Cond.laysAt hcR hkR ff24 (a 21 _ rfl)
  have apart : f17.slot ≠ f24.slot := Cond.laysApart hd17 hd24 hn17 hn24 (by rw [na17, na24]; decide)
  have pF : mF.sig.parameters = [] := by
    have q : (parseMethodDescriptor tFill.desc).map (·.parameters) = some [] := by decide +kernel
    rw [sgF] at q; exact Option.some.inj q
  have p0 : m0.sig.parameters = [.int] := by
    have q : (parseMethodDescriptor tFill0.desc).map (·.parameters) = some [.int] := by decide +kernel
    rw [sig0] at q; exact Option.some.inj q
  have pO : meO.sig.parameters.length = 0 := by
    have q : (parseMethodDescriptor oInit.desc).map (·.parameters.length) = some 0 := by decide +kernel
    rw [sgO] at q; exact Option.some.inj q
  refine ⟨{ cT := c, kT := k, cO := c, aS := aS, fillIdx := iF, fill0Idx := i0, initSIdx := iF, obj := mO, kObj := kO, methFill := mF, methFill0 := m0, methInitS := mF, methObj := meO, codeFill := cF, codeInitS := cF, codeObj := cO, fBack := f7, fDepth := f7, fStack := f17, fCause := f7, fSupp := f24, fMsg := fM, fUnassigned := f13, fSentinel := f20, cfT := cf, ci1 := ci1, n1 := n1, ci27 := ci27, n27 := n27, ci202 := ci202, n202 := n202, ci7 := c7, i7 := i7, ci13 := c13, i13 := i13, ci17 := c17, i17 := i17, ci20 := c20, i20 := i20, ci24 := c24, i24 := i24 }, ?_, hc, nF, n0, ff17, ty17, ff13⟩
  constructor <;> first | assumption | (exact Vm.findClass_boot hc hk) | (exact Cond.initialized_spec hc hk (a 1 _ rfl)) | (rw [dsO]; exact lookupSpecial_of_named nO eO stO)
section Thr
variable {l : Launch} {Z : State} {a0 : Array Value} {EL : List (String × Nat)} {n0 : Nat} {kn : Bool} {B : Bdy} {D : Dyn} {Q : Post} {h : Heap} {σ : Addr → Prop} {ce sl : Nat} {Ls : Array Slot} {st : List Value} {a : Addr}
/-- fillInStackTrace() of a Throwable of class rc whose stackTrace holds UNASSIGNED_STACK, no null -/
theorem fillIn (pc : Nat) {n : Nat} {u : Addr} (rc : String) (W : Nat) (hd : decode B.bs pc = .ok (.invokevirtual 27, 3)) (hB : B.y.cls = tN) (wT : ∀ d ∈ thrW rc, d.before a0 Z = true) (wi : (Jvm.Cond.instantiable rc n).before a0 Z = true)
    (hl : l.stackTraces = true) (hkn : kn = true) (hO : Old Z n0 D.s.heap) (E : Exa Z h a rc) (N : Unt h a) (Fb : Fld Z h a tN "backtrace" obD .null) (Fs : Fld Z h a tN "stackTrace" steD (.ref u)) (Su : Sta Z Z.heap tN "UNASSIGNED_STACK" steD (.ref u)) (hσ : σ a)
    (hW : (st.map fun v => v.category).sum = W) (hsz : Ls.size = B.ml) (hf : 3 ≤ B.rm.frames) (hlo : W + 42 ≤ B.rm.locals) {ce' sl' : Nat} (hce : ce + 1 = ce') (hsl : sl + 2752 = sl') (hc : ce' ≤ B.rm.cells) (hs : sl' ≤ B.rm.slots)
    (r : ∀ h', Keep h h' [a] → (∀ {O nm d : String} {ty : FieldType} {v : Value}, Fld Z h a O nm d v → Laid Z a0 rc O nm d → parseFieldDescriptor d = some ty → nm ≠ "backtrace" → nm ≠ "depth" → nm ≠ "stackTrace" → Fld Z h' a O nm d v) → Go l Z a0 EL n0 kn B D Q h' σ ce' sl' (pc + 3) Ls (.ref a :: st)) : Go l Z a0 EL n0 kn B D Q h σ ce sl pc Ls (.ref a :: st) := by
  subst hce hsl
  intro ok ew T vm0 I
  obtain ⟨k0, locs, X, h1, h2, h3, h4, h5, h6, h7, h8, h9, h10⟩ := I
  have hT0 : ThS Z (D.s.setVm vm0).heap := ThS.start.ext hO.2
  have wv : ∀ d ∈ thrW rc, d.before D.args (D.s.setVm vm0) = true := fun d hd => mvX hT0 h4 (List.all_eq_true.mp thrW_ok d hd) (wT d hd)
  have w : ∀ (k : Nat) (d : Jvm.Cond), (thrW rc)[k]? = some d → d.before D.args (D.s.setVm vm0) = true := fun k d q => wv d (List.mem_of_getElem? q)
  have htr : D.e.platform.stackTraces = true := by rw [X.admits.platform]; exact hl
  have hpl : D.e.platform.magicAccessors = ({} : Platform).magicAccessors := by rw [X.admits.platform]
  obtain ⟨Tt, L, found, fill, fill0, stk, sty, una⟩ := thr_of (args := D.args) (by rw [X.admits.platform]) (by rw [X.admits.platform]) hpl wv
  have hal : Z.vm.Alike (D.s.setVm vm0).vm := h4.alike
  have ffs : ∀ {C nm d : String} {cf : ClassId} {k : Class} {i : Nat} {f : Field}, Z.fieldFound? C nm d = some (cf, k, i, f) → ∃ k', (D.s.setVm vm0).fieldFound? C nm d = some (cf, k', i, f) := fun q => by
    obtain ⟨k', q1, -⟩ := State.fieldFound?_setVm (s := Z) hal q; exact ⟨k', q1⟩
  obtain ⟨cell, kc, a1, a2, a3, a4, a5⟩ := id E
  obtain ⟨_, u1, u2, u3⟩ := id N
  cases a1.symm.trans u1
  obtain ⟨_, _, i1, i2, i3, -⟩ := Cond.instantiable_spec wi
  cases a2.symm.trans i1
  cases a3.symm.trans i2
  obtain ⟨kX, q1, q2⟩ := hal.2.2 _ _ a3
  have hord : kX.kind = .ordinary := by rw [q2]; exact i3
  have hsz' : cell.slots.size = kX.instanceTypes.size := by rw [q2]; exact a5 i3
  have hfound : (D.s.setVm vm0).vm.findClass rc = some cell.cls := by rw [hal.findClass]; exact a2
  -- the fields
  obtain ⟨_, _, _, _, fB', b1, b2, -, -, -, -, b7⟩ := id Fb
  cases a1.symm.trans b1
  obtain ⟨_, b3⟩ := ffs b2
  obtain ⟨ci198, i198, fB, hk198, hg198, ha198, hsB, -, hnB, htB, hffB⟩ := Cond.ownField (t := .object "java/lang/Object") found L.cls (by decide +kernel) (w 16 _ rfl) (w 23 _ rfl) D.e.platform hpl
  have eB : fB' = fB := by have q := hffB.symm.trans b3; simp only [Option.some.injEq, Prod.mk.injEq] at q; exact q.2.2.2.symm
  rw [eB] at b7
  obtain ⟨_, _, _, _, fS', s1, s2, -, -, -, -, s7⟩ := id Fs
  cases a1.symm.trans s1
  obtain ⟨_, s3⟩ := ffs s2
  have eS : fS' = Tt.fStack := by have q := stk.symm.trans s3; simp only [Option.some.injEq, Prod.mk.injEq] at q; exact q.2.2.2.symm
  rw [eS] at s7
  obtain ⟨_, _, cD, kD, iD, fD, -, -, hffD, hstD, -, -, -, -⟩ := Cond.lays_spec (w 24 _ rfl)
  cases Option.some.inj ((Cond.lays_declared (w 24 _ rfl) hffD).symm.trans found)
  obtain ⟨hkD, hatD⟩ := State.fieldFound?_spec hffD
  cases hkD.symm.trans L.cls
  obtain ⟨hnD, htD⟩ := State.fieldFound?_type hffD (t := .int) (by decide +kernel)
  have hfb := Cond.soleField_find found L.cls (w 29 _ rfl) ha198 hnB hsB
  have hfd := Cond.soleField_find found L.cls (w 30 _ rfl) hatD hnD hstD
  obtain ⟨comp, cO, kO, -, -, hkO, hkindO, hOO⟩ := Cond.arrayOver_spec (w 28 _ rfl)
  obtain ⟨tyS, dS, hdS, hdnS⟩ := Cond.laysAt hfound q1 stk (w 20 _ rfl)
  obtain ⟨tyB, dB, hdB, hdnB⟩ := Cond.laysAt hfound q1 hffB (w 23 _ rfl)
  obtain ⟨tyD, dD, hdD, hdnD⟩ := Cond.laysAt hfound q1 hffD (w 24 _ rfl)
  have nmS : Tt.fStack.name = "stackTrace" := (State.fieldFound?_type stk (t := .array (.object "java/lang/StackTraceElement")) (by decide +kernel)).1
  have tk : ∀ {f : Field} {v : Value}, kX.instanceTypes[f.slot]? = some f.type → fits f.type v = true → Jvm.Takes (D.s.setVm vm0) cell f v := fun {f v} x1 x2 => by
    obtain ⟨y1, y2⟩ := Takes.of_laid (v := v) q1 hord x1 x2
    exact ⟨by rw [hsz']; simpa using y1, by rw [u2]; exact y2⟩
  have hsel0 : selectMethod D.e.platform (D.s.setVm vm0).vm cell.cls Tt.fill0 = .method Tt.fill0 := by
    obtain ⟨_, _, _, x1, x2, x3, x4, -⟩ := Cond.selects_spec (w 26 _ rfl)
    cases x1.symm.trans hfound
    cases x2.symm.trans (State.methodFound?_of_named fill0 (by decide))
    cases x3.symm.trans fill0
    rw [Launch.admits_selectMethod X.admits]; exact x4
  -- the statics
  obtain ⟨_, _, kU, fU, aU, cellS, g1, -, -, g4, g5, g6, g7⟩ := id Su
  obtain ⟨kU', g8, g9⟩ := State.fieldFound?_setVm (s := Z) hal g1
  have g8' : (D.s.setVm vm0).fieldFound? tN "UNASSIGNED_STACK" steD = _ := g8
  have qU := una.symm.trans g8'
  simp only [Option.some.injEq, Prod.mk.injEq] at qU
  obtain ⟨-, eK, -, eU⟩ := qU
  have gs : Tt.kT.statics = some aU := by rw [eK, g9]; exact g4
  have eA : aU = Tt.aS := Option.some.inj (gs.symm.trans L.statics)
  rw [eA] at g5
  rw [← eU] at g7
  have hcS : T.heap[Tt.aS]? = some cellS := by rw [h1]; exact h8.2.2 _ _ g5
  have hneS : Tt.aS ≠ a := fun z => by
    have := h8.2.2 _ _ g5
    rw [z, a1] at this
    rw [← Option.some.inj this, u2] at g6; cases g6
  have hSE := w 27 _ rfl
  have hown : (D.s.setVm vm0).vm.findClass tN = some D.m.cls := hB ▸ h5
  obtain ⟨v6, vm6, ⟨T6, L6, c6, n6⟩, -, X6, ⟨hv6, vm', lines, hlines, -, hU, hL, hcc, hnn⟩, stp⟩ := X.virtualBack ok.1 (own := tN) (C := rc) (index := 27) (y := tFill) (z := tFill) hown (w 9 _ rfl) (w 25 _ rfl) (notFace_of_selects hSE) hSE (w 3 _ rfl) (by decide)
    (fillPays (l := l) (W := W) ok.1 htr Tt L fill (u0 := ⟨.ref u, rfl⟩) (by simp) (self := a) (cell := cell) (cellS := cellS) (fun _ => by rw [u2]; simp) (by rw [u2]; simp) (by rw [u3]) (by rw [u3]) s7 hsel0 hneS (by cases hz : cellS.vm <;> simp [hz, VmData.isStatics] at g6 ⊢) g7 (tk tyS (by rw [sty]; rfl))
      ⟨{ ci198 := ci198, i198 := i198, fBack := fB }, ⟨hk198, hg198, ha198, hsB⟩, b7⟩ (h10 hkn).1 (h10 hkn).2 found hOO hkO hkindO hfb hfd (fun x => tk tyB (by rw [htB]; rfl)) (fun x => tk tyD (by rw [htD]; rfl)) (by omega) (by omega))
    (b := a) (cB := cell.cls) hfound ⟨cell, by rw [h1]; exact a1, rfl, a4⟩ (g := mkF D.m pc Ls (.ref a :: st)) rfl (hsz.trans ok.2.2.1.symm) (Steps.refl _) (argsL := []) (rest := st)
    (fun sig q => by rw [show parseMethodDescriptor tFill.desc = some ⟨[], some (.object tN)⟩ from by decide +kernel] at q; rw [← Option.some.inj q]; rfl) rfl (by show 2 * 0 + _ ≤ W; rw [hW]; omega) (Jvm.hb ok.2.1 hd)
    (fun vmx _ => ⟨rfl, hc, hs, by show T.heap[a]? = _; rw [h1]; exact a1, hcS⟩)
  dsimp only [Pt.U, Pt.locs, Pt.cells, Pt.slots] at X6 hU hL hcc hnn stp
  subst hv6 hL hcc hnn
  have hlt : a < h.size := (Array.getElem?_eq_some_iff.mp a1).1
  have hh : T6.heap = (h.push (traceHolder cO lines)).setIfInBounds a (filledOn Tt.toThrowableT fB fD cell ⟨.ref u, rfl⟩ h.size lines.length.toInt32) := by
    rw [hU, ← h1]; rfl
  have hat : T6.heap[a]? = some (filledOn Tt.toThrowableT fB fD cell ⟨.ref u, rfl⟩ h.size lines.length.toInt32) := by
    rw [hh, Array.getElem?_setIfInBounds_self_of_lt (by rw [Array.size_push]; exact Nat.lt_succ_of_lt hlt)]
  have hot : ∀ x c, h[x]? = some c → x ≠ a → T6.heap[x]? = some c := fun x c q ne => by
    have hx : x < h.size := (Array.getElem?_eq_some_iff.mp q).1
    rw [hh, Array.getElem?_setIfInBounds_ne (Ne.symm ne), Array.getElem?_push_lt hx, ← q, Array.getElem?_eq_getElem hx]
  have K : Keep h T6.heap [a] := by
    refine ⟨by rw [hh, Array.size_setIfInBounds, Array.size_push]; omega, fun x c q ne => hot x c q (by simpa using ne), fun x c q => ?_⟩
    by_cases z : x = a
    · subst z; cases a1.symm.trans q
      exact ⟨_, hat, rfl, rfl, by simp [filledOn, Cell.setSlot]⟩
    · exact ⟨c, hot x c q z, rfl, rfl, rfl⟩
  have ha := h9 a hσ
  have hsf : ∀ x ∈ [a], Safe Z EL vm0 h x := fun x hx => by cases List.mem_singleton.mp hx; exact ha.1
  have X7 := X6.more (Nat.le_refl _) (Nat.add_le_add_left (traceHolder_size_le cO hlines) sl)
  obtain ⟨s2', o, q, rest⟩ := r T6.heap K (fun {O nm d ty v} F Lf ht m1 m2 m3 => by
      obtain ⟨_, cf, k, i, f, p1, p2, p3, p4, p5, p6, p7⟩ := F
      cases a1.symm.trans p1
      obtain ⟨c9, k9, cf9, kf9, i9, f9, y1, y2, y3, y4, y5, y6, -, d9, y8, y9⟩ := Lf.spec
      cases a2.symm.trans y1
      cases p2.symm.trans y3
      obtain ⟨kz, z1⟩ := ffs p2
      have nmF := (State.fieldFound?_type z1 ht).1
      have go : ∀ {C' n' d' : String} {cg : ClassId} {kg : Class} {ig : Nat} {g : Field}, (Jvm.Cond.lays rc C' n' d').before a0 Z = true → (D.s.setVm vm0).fieldFound? C' n' d' = some (cg, kg, ig, g) → nm ≠ n' → (∃ t, parseFieldDescriptor d' = some t) → f.slot ≠ g.slot := fun {C' n' d' cg kg ig g} lw fg ne tt => by
        obtain ⟨t, ht'⟩ := tt
        obtain ⟨_, _, _, _, _, g', x1, x2, x3, -, -, -, -, dd, x8, -, x9, -⟩ := Cond.lays_spec lw
        obtain ⟨_, x4⟩ := ffs x3
        cases fg.symm.trans x4
        cases a2.symm.trans x1
        exact Cond.laysApart y8 x8 y9 x9 (by rw [nmF, (State.fieldFound?_type fg ht').1]; exact ne)
      refine ⟨_, cf, k, i, f, hat, p2, p3, ?_, ?_, ?_, ?_⟩
      · show cell.vm ≠ _; exact p4
      · show cell.vm.isStatics = _; exact p5
      · show Z.vm.assignable cell.cls cf = true; exact p6
      · have e1 := go (wT _ (List.mem_of_getElem? (i := 23) rfl)) hffB m1 ⟨_, (by decide +kernel : parseFieldDescriptor obD = some (.object "java/lang/Object"))⟩
        have e2 := go (wT _ (List.mem_of_getElem? (i := 24) rfl)) hffD m2 ⟨_, (by decide +kernel : parseFieldDescriptor "I" = some .int)⟩
        have e3 := go (wT _ (List.mem_of_getElem? (i := 20) rfl)) stk m3 ⟨_, (by decide +kernel : parseFieldDescriptor steD = some (.array (.object "java/lang/StackTraceElement")))⟩
        simp [filledOn, Cell.setSlot, Array.getElem?_setIfInBounds, Ne.symm e1, Ne.symm e2, Ne.symm e3, p7]) ok ew T6 vm0
    ⟨k0, _, X7, rfl, h2, Nat.le_trans h3 K.1, h4, h5, h6.trans (CHr.keep K hsf h6.1), h7.app (fun y hy => by simp only [List.mem_cons, List.not_mem_nil, or_false] at hy; rcases hy with rfl | rfl | rfl <;> exact ha.2.1), h8.keep K (fun x hx => by cases List.mem_singleton.mp hx; exact ha.2.1), fun x hx => ⟨Safe.keep K hsf h6.1 (h9 x hx).1, (h9 x hx).2.1, Nat.lt_of_lt_of_le (h9 x hx).2.2 K.1⟩, h10⟩
  exact ⟨s2', o, stp.trans q, rest⟩
end Thr
end Jvm.Road
namespace Jvm.Road
open Jvm Jvm.ClassFile Sem Op Lib Jvm.Free Jvm.Stand Jvm.LawKit Jvm.RoadKit Bundle Jvm.Free.Exc Jvm.Free.Str
abbrev sixF : List String := ["cause", "stackTrace", "suppressedExceptions", "backtrace", "depth", "detailMessage"]
/-- the fields of a that are none of Throwable's own -/
def KeepF (Z : State) (a0 : Array Value) (rc : String) (a : Addr) (h h2 : Heap) : Prop := ∀ (O nm d : String) (ty : FieldType) (v : Value), Fld Z h a O nm d v → Laid Z a0 rc O nm d → parseFieldDescriptor d = some ty → nm ∉ sixF → Fld Z h2 a O nm d v
section KF
variable {Z : State} {a0 : Array Value} {rc : String} {a : Addr} {h h1 h2 : Heap}
theorem KeepF.refl : KeepF Z a0 rc a h h := fun _ _ _ _ _ F _ _ _ => F
theorem KeepF.wr {x dx : String} {w : Value} {ty : FieldType} (K : KeepF Z a0 rc a h h1) (W : Wr h1 h2 a (RoadKit.slotOf Z tN x dx) w) (lw : Laid Z a0 rc tN x dx) (hx : x ∈ sixF) (ht : parseFieldDescriptor dx = some ty) : KeepF Z a0 rc a h h2 :=
  fun O nm d t v F Lf ht' ne => (K O nm d t v F Lf ht' ne).other W (Or.inr (slot_ne Lf lw (fun z => ne (z ▸ hx)) ht' ht))
theorem KeepF.fill (K : KeepF Z a0 rc a h h1) (G : ∀ {O nm d : String} {ty : FieldType} {v : Value}, Fld Z h1 a O nm d v → Laid Z a0 rc O nm d → parseFieldDescriptor d = some ty → nm ≠ "backtrace" → nm ≠ "depth" → nm ≠ "stackTrace" → Fld Z h2 a O nm d v) : KeepF Z a0 rc a h h2 :=
  fun O nm d t v F Lf ht ne => G (K O nm d t v F Lf ht ne) Lf ht (fun z => ne (by subst z; decide)) (fun z => ne (by subst z; decide)) (fun z => ne (by subst z; decide))
end KF
end Jvm.Road
namespace Jvm.Pilot.@@N@@
open Jvm Jvm.ClassFile Sem Op Lib Jvm.Free Jvm.Stand Jvm.LawKit Jvm.RoadKit Bundle Jvm.Pilot.@@N@@.Jvm.D
set_option maxRecDepth 65536
theorem wI {a0 : Array Value} {Z : State} (hw : ∀ d ∈ tables_1, d.before a0 Z = true) (i : Nat) {d : Jvm.Cond} (h : tables_1[i]? = some d) : d.before a0 Z = true := hw d (List.mem_of_getElem? h)
def bCmp5 : Road.Bdy := (⟨"java/lang/StringUTF16", "compress", "([CI[BII)I"⟩, jdk_52_method_21_code, 7, (some .int), { frames := 0, cells := 0, slots := 0, locals := 0 })
theorem bCmp5_d0 : decode bCmp5.bs 0 = .ok (.iconst 0, 1) := by decide +kernel
theorem bCmp5_d1 : decode bCmp5.bs 1 = .ok (.istore 5, 2) := by decide +kernel
theorem bCmp5_d3 : decode bCmp5.bs 3 = .ok (.iload 5, 2) := by decide +kernel
theorem bCmp5_d5 : decode bCmp5.bs 5 = .ok (.iload 4, 2) := by decide +kernel
theorem bCmp5_d7 : decode bCmp5.bs 7 = .ok (.if_icmp .ge 37, 3) := by decide +kernel
theorem bCmp5_d10 : decode bCmp5.bs 10 = .ok (.aload_n 0, 1) := by decide +kernel
theorem bCmp5_d11 : decode bCmp5.bs 11 = .ok (.iload_n 1, 1) := by decide +kernel
theorem bCmp5_d12 : decode bCmp5.bs 12 = .ok (.caload, 1) := by decide +kernel
theorem bCmp5_d13 : decode bCmp5.bs 13 = .ok (.istore 6, 2) := by decide +kernel
theorem bCmp5_d15 : decode bCmp5.bs 15 = .ok (.iload 6, 2) := by decide +kernel
theorem bCmp5_d17 : decode bCmp5.bs 17 = .ok (.sipush 255, 3) := by decide +kernel
theorem bCmp5_d20 : decode bCmp5.bs 20 = .ok (.if_icmp .le 6, 3) := by decide +kernel
theorem bCmp5_d23 : decode bCmp5.bs 23 = .ok (.iload 5, 2) := by decide +kernel
theorem bCmp5_d25 : decode bCmp5.bs 25 = .ok (.ireturn, 1) := by decide +kernel
theorem bCmp5_d26 : decode bCmp5.bs 26 = .ok (.aload_n 2, 1) := by decide +kernel
theorem bCmp5_d27 : decode bCmp5.bs 27 = .ok (.iload_n 3, 1) := by decide +kernel
theorem bCmp5_d28 : decode bCmp5.bs 28 = .ok (.iload 6, 2) := by decide +kernel
theorem bCmp5_d30 : decode bCmp5.bs 30 = .ok (.i2b, 1) := by decide +kernel
theorem bCmp5_d31 : decode bCmp5.bs 31 = .ok (.bastore, 1) := by decide +kernel
theorem bCmp5_d32 : decode bCmp5.bs 32 = .ok (.iinc 1 1, 3) := by decide +kernel
theorem bCmp5_d35 : decode bCmp5.bs 35 = .ok (.iinc 3 1, 3) := by decide +kernel
theorem bCmp5_d38 : decode bCmp5.bs 38 = .ok (.iinc 5 1, 3) := by decide +kernel
theorem bCmp5_d41 : decode bCmp5.bs 41 = .ok (.goto (-38), 3) := by decide +kernel
theorem bCmp5_d44 : decode bCmp5.bs 44 = .ok (.iload 4, 2) := by decide +kernel
theorem bCmp5_d46 : decode bCmp5.bs 46 = .ok (.ireturn, 1) := by decide +kernel
theorem bCmp5_pd : parseMethodDescriptor "([CI[BII)I" = some ⟨[(.array .char), .int, (.array .byte), .int, .int], (some .int)⟩ := by decide +kernel
theorem bCmp5_pn : plainFor bCmp5.y = true := plainFor_of_name (show plainName "java/lang/StringUTF16" = true from by first | (simp [plainName, overriddenIn]; done) | decide +kernel)
theorem cCmp5 (l : Launch) (Z : State) (a0 : Array Value) (hw : ∀ d ∈ tables_1, d.before a0 Z = true) (n0 : Nat) (hEW : EW Z a0 consts_1) (b d : Addr) (cs : List Int32) (h0 : Heap) (σ : Addr → Prop) (A : Road.Ary Z h0 b .char (cs.map .int)) (Dd : Road.Ary Z h0 d .byte (List.replicate cs.length (.int 0))) (hlat : ∀ c ∈ cs, 0 ≤ c.toInt ∧ c.toInt < 256) (hbd : b ≠ d) (sd : σ d) :
    Road.Con l Z consts_1 n0 true bCmp5 [] σ #[(.ref b), (.int (0 : Int32)), (.ref d), (.int (0 : Int32)), (.int (Nat.toInt32 cs.length))] h0 (fun v h2 _ => v = some (.int (Nat.toInt32 cs.length)) ∧ Keep h0 h2 [d] ∧ Road.Ary Z h2 d .byte (cs.map Road.byt)) := by
  refine Road.Con.of bCmp5_pn hEW #[.val (.ref b), .val (.int (0 : Int32)), .val (.ref d), .val (.int (0 : Int32)), .val (.int (Nat.toInt32 cs.length)), .unset, .unset] (fun m => Road.ent (Road.laid1 rfl (Road.laid1 rfl (Road.laid1 rfl (Road.laid1 rfl (Road.laid1 rfl Road.laid0))))) (k := 2) rfl rfl) ?_
  intro D hD
  have hn : cs.length < 2147483648 := by have := A.small; rwa [List.length_map] at this
  refine Road.iconst 0 (0 : Int32) bCmp5_d0 rfl ?_
  refine Road.istore 1 #[.val (.ref b), .val (.int (0 : Int32)), .val (.ref d), .val (.int (0 : Int32)), .val (.int (Nat.toInt32 cs.length)), .val (.int (0 : Int32)), .unset] bCmp5_d1 rfl ?_
  have loop : ∀ r k, k + r = cs.length → ∀ (h : Heap) (w : Slot), Road.W1 w → Keep h0 h [d] → Road.Ary Z h d .byte ((cs.take k).map Road.byt ++ List.replicate r (.int 0)) → Road.Go l Z a0 consts_1 n0 true bCmp5 D (fun v h2 _ => v = some (.int (Nat.toInt32 cs.length)) ∧ Keep h0 h2 [d] ∧ Road.Ary Z h2 d .byte (cs.map Road.byt)) h σ 0 0 3 #[.val (.ref b), .val (.int (Nat.toInt32 k)), .val (.ref d), .val (.int (Nat.toInt32 k)), .val (.int (Nat.toInt32 cs.length)), .val (.int (Nat.toInt32 k)), w] [] := by
    intro r
    induction r with
    | zero =>
      intro k hk h w hw1 K1 A1
      have hk' : k = cs.length := by omega
      subst hk'
      refine Road.iload 3 bCmp5_d3 rfl ?_
      refine Road.iload 5 bCmp5_d5 rfl ?_
      refine Road.icmp_ge 7 44 bCmp5_d7 rfl (fun hc7 => ?_) (fun q => absurd q Int32.lt_irrefl)
      refine Road.iload 44 bCmp5_d44 rfl ?_
      exact Road.iretI 46 bCmp5_d46 rfl (by decide) (by decide) (fun σ' m => ⟨rfl, K1, by simpa using A1⟩)
    | succ r ih =>
      intro k hk h w hw1 K1 A1
      have hk' : k < cs.length := by omega
      have hc := hlat _ (List.getElem_mem hk')
      have A2 := A.keep K1 (ninS hbd nin0)
      refine Road.iload 3 bCmp5_d3 rfl ?_
      refine Road.iload 5 bCmp5_d5 rfl ?_
      refine Road.icmp_ge 7 44 bCmp5_d7 rfl (fun q => absurd q (by rw [Decidable.not_not, Road.lt32 (by omega) hn]; omega)) (fun hc7 => ?_)
      refine Road.aloadN 10 bCmp5_d10 rfl ?_
      refine Road.iloadN 11 bCmp5_d11 rfl ?_
      refine Road.caload 12 k bCmp5_d12 A2 (Road.n32 (by omega)) (by rw [List.getElem?_map, List.getElem?_eq_getElem hk']; rfl) ?_
      refine Road.istore 13 #[.val (.ref b), .val (.int (Nat.toInt32 k)), .val (.ref d), .val (.int (Nat.toInt32 k)), .val (.int (Nat.toInt32 cs.length)), .val (.int (Nat.toInt32 k)), .val (.int cs[k])] bCmp5_d13 (by rcases hw1 with rfl | ⟨x, rfl⟩ <;> rfl) ?_
      refine Road.iload 15 bCmp5_d15 rfl ?_
      refine Road.sipush 17 (255 : Int32) bCmp5_d17 rfl ?_
      refine Road.icmp_le 20 26 bCmp5_d20 rfl (fun hc20 => ?_) (fun q => absurd q (by rw [Int32.lt_iff_toInt_lt]; have : (255 : Int32).toInt = 255 := rfl; omega))
      refine Road.aloadN 26 bCmp5_d26 rfl ?_
      refine Road.iloadN 27 bCmp5_d27 rfl ?_
      refine Road.iload 28 bCmp5_d28 rfl ?_
      refine Road.i2b 30 bCmp5_d30 ?_
      refine Road.bastore 31 k (Int8.toInt32 (Int32.toInt8 cs[k])) bCmp5_d31 A1 (Road.n32 (by omega)) (by simp; omega) (Road.nar_byte _) sd ?_
      intro h_1 K_2 A_3
      replace A1 := A_3
      refine Road.iinc 32 (1) #[.val (.ref b), .val (.int ((Nat.toInt32 k) + 1)), .val (.ref d), .val (.int (Nat.toInt32 k)), .val (.int (Nat.toInt32 cs.length)), .val (.int (Nat.toInt32 k)), .val (.int cs[k])] bCmp5_d32 rfl rfl rfl ?_
      refine Road.iinc 35 (1) #[.val (.ref b), .val (.int ((Nat.toInt32 k) + 1)), .val (.ref d), .val (.int ((Nat.toInt32 k) + 1)), .val (.int (Nat.toInt32 cs.length)), .val (.int (Nat.toInt32 k)), .val (.int cs[k])] bCmp5_d35 rfl rfl rfl ?_
      refine Road.iinc 38 (1) #[.val (.ref b), .val (.int ((Nat.toInt32 k) + 1)), .val (.ref d), .val (.int ((Nat.toInt32 k) + 1)), .val (.int (Nat.toInt32 cs.length)), .val (.int ((Nat.toInt32 k) + 1)), .val (.int cs[k])] bCmp5_d38 rfl rfl rfl ?_
      refine Road.goto 41 3 bCmp5_d41 rfl ?_
      rw [show (Value.int (Int8.toInt32 (Int32.toInt8 cs[k]))) = Road.byt cs[k] from rfl, Road.set_mid] at A1
      have := ih (k + 1) (by omega) h_1 (.val (.int cs[k])) (Or.inr ⟨_, rfl⟩) (K1.trans K_2 (by simp)) A1
      rw [← Road.succ32] at this
      exact this
  exact loop cs.length 0 (by omega) h0 .unset (Or.inl rfl) (Keep.refl _ _) (by simpa using Dd)
def bCfa : Road.Bdy := (⟨"java/lang/StringUTF16", "coderFromArrayLen", "([BI)B"⟩, jdk_52_method_15_code, 2, (some .byte), { frames := 0, cells := 0, slots := 0, locals := 0 })
theorem bCfa_d0 : decode bCfa.bs 0 = .ok (.iload_n 1, 1) := by decide +kernel
theorem bCfa_d1 : decode bCfa.bs 1 = .ok (.aload_n 0, 1) := by decide +kernel
theorem bCfa_d2 : decode bCfa.bs 2 = .ok (.arraylength, 1) := by decide +kernel
theorem bCfa_d3 : decode bCfa.bs 3 = .ok (.isub, 1) := by decide +kernel
theorem bCfa_d4 : decode bCfa.bs 4 = .ok (.bipush 31, 2) := by decide +kernel
theorem bCfa_d6 : decode bCfa.bs 6 = .ok (.iushr, 1) := by decide +kernel
theorem bCfa_d7 : decode bCfa.bs 7 = .ok (.i2b, 1) := by decide +kernel
theorem bCfa_d8 : decode bCfa.bs 8 = .ok (.ireturn, 1) := by decide +kernel
theorem bCfa_pd : parseMethodDescriptor "([BI)B" = some ⟨[(.array .byte), .int], (some .byte)⟩ := by decide +kernel
theorem bCfa_pn : plainFor bCfa.y = true := plainFor_of_name (show plainName "java/lang/StringUTF16" = true from by first | (simp [plainName, overriddenIn]; done) | decide +kernel)
theorem cCfa (l : Launch) (Z : State) (a0 : Array Value) (hw : ∀ d ∈ tables_1, d.before a0 Z = true) (n0 : Nat) (hEW : EW Z a0 consts_1) (d : Addr) (vs : List Value) (h0 : Heap) (σ : Addr → Prop) (A : Road.Ary Z h0 d .byte vs) :
    Road.Con l Z consts_1 n0 true bCfa [] σ #[(.ref d), (.int (Nat.toInt32 vs.length))] h0 (fun v h2 _ => v = some (.int 0) ∧ h0 = h2) := by
  refine Road.Con.of bCfa_pn hEW #[.val (.ref d), .val (.int (Nat.toInt32 vs.length))] (fun m => Road.ent (Road.laid1 rfl (Road.laid1 rfl Road.laid0)) (k := 0) rfl rfl) ?_
  intro D hD
  refine Road.iloadN 0 bCfa_d0 rfl ?_
  refine Road.aloadN 1 bCfa_d1 rfl ?_
  refine Road.alen 2 (Nat.toInt32 vs.length) bCfa_d2 A (n := vs.length) rfl rfl ?_
  refine Road.isub 3 bCfa_d3 ?_
  refine Road.bipush 4 (31 : Int32) bCfa_d4 rfl ?_
  refine Road.iushr 6 bCfa_d6 ?_
  refine Road.i2b 7 bCfa_d7 ?_
  exact Road.iret 8 0 bCfa_d8 (t := .byte) rfl (by simp) (by rw [Int32.sub_self]; rfl) (by decide) (by decide) (fun σ' m => ⟨rfl, rfl⟩)
def bCmp4 : Road.Bdy := (⟨"java/lang/StringUTF16", "compress", "([CII)[B"⟩, jdk_52_method_16_code, 6, (some (.array .byte)), { frames := 1, cells := 1, slots := 48, locals := 18 })
theorem bCmp4_d0 : decode bCmp4.bs 0 = .ok (.iload_n 2, 1) := by decide +kernel
theorem bCmp4_d1 : decode bCmp4.bs 1 = .ok (.newarray .byte, 2) := by decide +kernel
theorem bCmp4_d3 : decode bCmp4.bs 3 = .ok (.astore_n 3, 1) := by decide +kernel
theorem bCmp4_d4 : decode bCmp4.bs 4 = .ok (.aload_n 0, 1) := by decide +kernel
theorem bCmp4_d5 : decode bCmp4.bs 5 = .ok (.iload_n 1, 1) := by decide +kernel
theorem bCmp4_d6 : decode bCmp4.bs 6 = .ok (.aload_n 3, 1) := by decide +kernel
theorem bCmp4_d7 : decode bCmp4.bs 7 = .ok (.iconst 0, 1) := by decide +kernel
theorem bCmp4_d8 : decode bCmp4.bs 8 = .ok (.iload_n 2, 1) := by decide +kernel
theorem bCmp4_d9 : decode bCmp4.bs 9 = .ok (.invokestatic 115, 3) := by decide +kernel
theorem bCmp4_d12 : decode bCmp4.bs 12 = .ok (.istore 4, 2) := by decide +kernel
theorem bCmp4_d14 : decode bCmp4.bs 14 = .ok (.iload 4, 2) := by decide +kernel
theorem bCmp4_d16 : decode bCmp4.bs 16 = .ok (.iload_n 2, 1) := by decide +kernel
theorem bCmp4_d17 : decode bCmp4.bs 17 = .ok (.if_icmp .eq 40, 3) := by decide +kernel
theorem bCmp4_d20 : decode bCmp4.bs 20 = .ok (.aload_n 0, 1) := by decide +kernel
theorem bCmp4_d21 : decode bCmp4.bs 21 = .ok (.iload_n 1, 1) := by decide +kernel
theorem bCmp4_d22 : decode bCmp4.bs 22 = .ok (.iload_n 2, 1) := by decide +kernel
theorem bCmp4_d23 : decode bCmp4.bs 23 = .ok (.invokestatic 119, 3) := by decide +kernel
theorem bCmp4_d26 : decode bCmp4.bs 26 = .ok (.astore 5, 2) := by decide +kernel
theorem bCmp4_d28 : decode bCmp4.bs 28 = .ok (.aload 5, 2) := by decide +kernel
theorem bCmp4_d30 : decode bCmp4.bs 30 = .ok (.iload 4, 2) := by decide +kernel
theorem bCmp4_d32 : decode bCmp4.bs 32 = .ok (.invokestatic 71, 3) := by decide +kernel
theorem bCmp4_d35 : decode bCmp4.bs 35 = .ok (.sipush 255, 3) := by decide +kernel
theorem bCmp4_d38 : decode bCmp4.bs 38 = .ok (.if_icmp .gt 16, 3) := by decide +kernel
theorem bCmp4_d41 : decode bCmp4.bs 41 = .ok (.aload 5, 2) := by decide +kernel
theorem bCmp4_d43 : decode bCmp4.bs 43 = .ok (.iconst 0, 1) := by decide +kernel
theorem bCmp4_d44 : decode bCmp4.bs 44 = .ok (.aload_n 3, 1) := by decide +kernel
theorem bCmp4_d45 : decode bCmp4.bs 45 = .ok (.iconst 0, 1) := by decide +kernel
theorem bCmp4_d46 : decode bCmp4.bs 46 = .ok (.iload_n 2, 1) := by decide +kernel
theorem bCmp4_d47 : decode bCmp4.bs 47 = .ok (.invokestatic 123, 3) := by decide +kernel
theorem bCmp4_d50 : decode bCmp4.bs 50 = .ok (.iload_n 2, 1) := by decide +kernel
theorem bCmp4_d51 : decode bCmp4.bs 51 = .ok (.if_icmp .eq 6, 3) := by decide +kernel
theorem bCmp4_d54 : decode bCmp4.bs 54 = .ok (.aload 5, 2) := by decide +kernel
theorem bCmp4_d56 : decode bCmp4.bs 56 = .ok (.areturn, 1) := by decide +kernel
theorem bCmp4_d57 : decode bCmp4.bs 57 = .ok (.aload_n 3, 1) := by decide +kernel
theorem bCmp4_d58 : decode bCmp4.bs 58 = .ok (.areturn, 1) := by decide +kernel
theorem bCmp4_pd : parseMethodDescriptor "([CII)[B" = some ⟨[(.array .char), .int, .int], (some (.array .byte))⟩ := by decide +kernel
theorem bCmp4_pn : plainFor bCmp4.y = true := plainFor_of_name (show plainName "java/lang/StringUTF16" = true from by first | (simp [plainName, overriddenIn]; done) | decide +kernel)
theorem cCmp4 (l : Launch) (Z : State) (a0 : Array Value) (hw : ∀ d ∈ tables_1, d.before a0 Z = true) (n0 : Nat) (hEW : EW Z a0 consts_1) (b : Addr) (cs : List Int32) (h0 : Heap) (σ : Addr → Prop) (A : Road.Ary Z h0 b .char (cs.map .int)) (hcap : cs.length ≤ 48) (hlat : ∀ c ∈ cs, 0 ≤ c.toInt ∧ c.toInt < 256) :
    Road.Con l Z consts_1 n0 true bCmp4 [] σ #[(.ref b), (.int (0 : Int32)), (.int (Nat.toInt32 cs.length))] h0 (fun v h2 s2 => ∃ d, v = some (.ref d) ∧ h0.size ≤ d ∧ Keep h0 h2 [] ∧ s2 d ∧ Road.Ary Z h2 d .byte (cs.map Road.byt)) := by
  refine Road.Con.of bCmp4_pn hEW #[.val (.ref b), .val (.int (0 : Int32)), .val (.int (Nat.toInt32 cs.length)), .unset, .unset, .unset] (fun m => Road.ent (Road.laid1 rfl (Road.laid1 rfl (Road.laid1 rfl Road.laid0))) (k := 3) rfl rfl) ?_
  intro D hD
  refine Road.iloadN 0 bCmp4_d0 rfl ?_
  refine Road.newarray 1 .byte cs.length 48 bCmp4_d1 rfl (wI hw 4 rfl) (Road.n32 (by omega)) hcap (by decide) (ce' := 1) (sl' := 48) rfl rfl (by decide) (by decide) ?_
  intro d h_1 σ_2 g_3 K_4 lt_5 m_6 s_7 Ad
  have ne_b_d : b ≠ d := Nat.ne_of_lt (Nat.lt_of_lt_of_le A.lt (Nat.le_of_eq g_3.symm))
  replace A := A.keep K_4 nin0
  refine Road.astoreN 3 #[.val (.ref b), .val (.int (0 : Int32)), .val (.int (Nat.toInt32 cs.length)), .val (.ref d), .unset, .unset] bCmp4_d3 rfl ?_
  refine Road.aloadN 4 bCmp4_d4 rfl ?_
  refine Road.iloadN 5 bCmp4_d5 rfl ?_
  refine Road.aloadN 6 bCmp4_d6 rfl ?_
  refine Road.iconst 7 (0 : Int32) bCmp4_d7 rfl ?_
  refine Road.iloadN 8 bCmp4_d8 rfl ?_
  refine Road.callS (B' := bCmp5) 9 (argsL := [(.ref b), (.int (0 : Int32)), (.ref d), (.int (0 : Int32)), (.int (Nat.toInt32 cs.length))]) (rest := []) 0 bCmp4_d9 (wI hw 308 rfl) (wI hw 309 rfl) (wI hw 306 rfl) (wI hw 310 rfl) (by decide) (cCmp5 l Z a0 hw n0 hEW b d cs h_1 σ_2 A Ad hlat ne_b_d s_7) (lenOf bCmp5_pd rfl) rfl rfl rfl (by decide) (by decide) (ce' := 1) (sl' := 48) rfl rfl (by decide) (by decide) ?_
  rintro _ h_8 σ_9 m_10 ⟨rfl, K_11, Ad2⟩
  replace A := A.keep K_11 (ninS ne_b_d nin0)
  replace s_7 := m_10 _ s_7
  refine Road.istore 12 #[.val (.ref b), .val (.int (0 : Int32)), .val (.int (Nat.toInt32 cs.length)), .val (.ref d), .val (.int (Nat.toInt32 cs.length)), .unset] bCmp4_d12 rfl ?_
  refine Road.iload 14 bCmp4_d14 rfl ?_
  refine Road.iloadN 16 bCmp4_d16 rfl ?_
  refine Road.icmp_eq 17 57 bCmp4_d17 rfl (fun hc17 => ?_) (fun q => absurd q (by simp))
  refine Road.aloadN 57 bCmp4_d57 rfl ?_
  exact Road.aret 58 bCmp4_d58 (t := (.array .byte)) rfl rfl rfl (by decide) (by decide) (fun σ' m => ⟨d, rfl, Nat.le_of_eq g_3.symm, K_4.trans K_11 (by intro x hx; cases List.mem_singleton.mp hx; exact Or.inr (Nat.le_of_eq g_3.symm)), m _ s_7, Ad2⟩)
def bStr2 : Road.Bdy := (⟨"java/lang/String", "<init>", "([CIILjava/lang/Void;)V"⟩, jdk_42_method_149_code, 6, none, { frames := 2, cells := 1, slots := 48, locals := 39 })
theorem bStr2_d0 : decode bStr2.bs 0 = .ok (.aload_n 0, 1) := by decide +kernel
theorem bStr2_d1 : decode bStr2.bs 1 = .ok (.invokespecial 1, 3) := by decide +kernel
theorem bStr2_d4 : decode bStr2.bs 4 = .ok (.iload_n 3, 1) := by decide +kernel
theorem bStr2_d5 : decode bStr2.bs 5 = .ok (.ifCond .ne 22, 3) := by decide +kernel
theorem bStr2_d8 : decode bStr2.bs 8 = .ok (.aload_n 0, 1) := by decide +kernel
theorem bStr2_d9 : decode bStr2.bs 9 = .ok (.ldc 7, 2) := by decide +kernel
theorem bStr2_d11 : decode bStr2.bs 11 = .ok (.getfield 9, 3) := by decide +kernel
theorem bStr2_d14 : decode bStr2.bs 14 = .ok (.putfield 9, 3) := by decide +kernel
theorem bStr2_d17 : decode bStr2.bs 17 = .ok (.aload_n 0, 1) := by decide +kernel
theorem bStr2_d18 : decode bStr2.bs 18 = .ok (.ldc 7, 2) := by decide +kernel
theorem bStr2_d20 : decode bStr2.bs 20 = .ok (.getfield 15, 3) := by decide +kernel
theorem bStr2_d23 : decode bStr2.bs 23 = .ok (.putfield 15, 3) := by decide +kernel
theorem bStr2_d26 : decode bStr2.bs 26 = .ok (.return_, 1) := by decide +kernel
theorem bStr2_d27 : decode bStr2.bs 27 = .ok (.getstatic 38, 3) := by decide +kernel
theorem bStr2_d30 : decode bStr2.bs 30 = .ok (.ifCond .eq 28, 3) := by decide +kernel
theorem bStr2_d33 : decode bStr2.bs 33 = .ok (.aload_n 1, 1) := by decide +kernel
theorem bStr2_d34 : decode bStr2.bs 34 = .ok (.iload_n 2, 1) := by decide +kernel
theorem bStr2_d35 : decode bStr2.bs 35 = .ok (.iload_n 3, 1) := by decide +kernel
theorem bStr2_d36 : decode bStr2.bs 36 = .ok (.invokestatic 177, 3) := by decide +kernel
theorem bStr2_d39 : decode bStr2.bs 39 = .ok (.astore 5, 2) := by decide +kernel
theorem bStr2_d41 : decode bStr2.bs 41 = .ok (.aload_n 0, 1) := by decide +kernel
theorem bStr2_d42 : decode bStr2.bs 42 = .ok (.aload 5, 2) := by decide +kernel
theorem bStr2_d44 : decode bStr2.bs 44 = .ok (.iload_n 3, 1) := by decide +kernel
theorem bStr2_d45 : decode bStr2.bs 45 = .ok (.invokestatic 47, 3) := by decide +kernel
theorem bStr2_d48 : decode bStr2.bs 48 = .ok (.putfield 15, 3) := by decide +kernel
theorem bStr2_d51 : decode bStr2.bs 51 = .ok (.aload_n 0, 1) := by decide +kernel
theorem bStr2_d52 : decode bStr2.bs 52 = .ok (.aload 5, 2) := by decide +kernel
theorem bStr2_d54 : decode bStr2.bs 54 = .ok (.putfield 9, 3) := by decide +kernel
theorem bStr2_d57 : decode bStr2.bs 57 = .ok (.return_, 1) := by decide +kernel
theorem bStr2_d58 : decode bStr2.bs 58 = .ok (.aload_n 0, 1) := by decide +kernel
theorem bStr2_d59 : decode bStr2.bs 59 = .ok (.iconst 1, 1) := by decide +kernel
theorem bStr2_d60 : decode bStr2.bs 60 = .ok (.putfield 15, 3) := by decide +kernel
theorem bStr2_d63 : decode bStr2.bs 63 = .ok (.aload_n 0, 1) := by decide +kernel
theorem bStr2_d64 : decode bStr2.bs 64 = .ok (.aload_n 1, 1) := by decide +kernel
theorem bStr2_d65 : decode bStr2.bs 65 = .ok (.iload_n 2, 1) := by decide +kernel
theorem bStr2_d66 : decode bStr2.bs 66 = .ok (.iload_n 3, 1) := by decide +kernel
theorem bStr2_d67 : decode bStr2.bs 67 = .ok (.invokestatic 180, 3) := by decide +kernel
theorem bStr2_d70 : decode bStr2.bs 70 = .ok (.putfield 9, 3) := by decide +kernel
theorem bStr2_d73 : decode bStr2.bs 73 = .ok (.return_, 1) := by decide +kernel
theorem bStr2_pd : parseMethodDescriptor "([CIILjava/lang/Void;)V" = some ⟨[(.array .char), .int, .int, (.object "java/lang/Void")], none⟩ := by decide +kernel
theorem bStr2_pn : plainFor bStr2.y = true := plainFor_of_name (show plainName "java/lang/String" = true from by first | (simp [plainName, overriddenIn]; done) | decide +kernel)
theorem cStr2 (l : Launch) (Z : State) (a0 : Array Value) (hw : ∀ d ∈ tables_1, d.before a0 Z = true) (n0 : Nat) (hEW : EW Z a0 consts_1) (a b : Addr) (cs : List Int32) (h0 : Heap) (σ : Addr → Prop) (E : Exa Z h0 a Road.SN) (Fc : Fld Z h0 a Road.SN "coder" "B" (.int 0)) (Fv : Fld Z h0 a Road.SN "value" "[B" .null) (A : Road.Ary Z h0 b .char (cs.map .int)) (hcap : cs.length ≤ 48) (hlat : ∀ c ∈ cs, 0 ≤ c.toInt ∧ c.toInt < 256) (sa : σ a) (cp : Int32) (Hc : Sta Z Z.heap Road.SN "COMPACT_STRINGS" "Z" (.int cp)) (hcp : ¬ cp = 0) (hne0 : cs ≠ []) :
    Road.Con l Z consts_1 n0 true bStr2 [] σ #[(.ref a), (.ref b), (.int (0 : Int32)), (.int (Nat.toInt32 cs.length)), .null] h0 (fun v h2 s2 => v = none ∧ Keep h0 h2 [a] ∧ ∃ d, Road.Str Z h2 a d cs ∧ ∀ x, σ x → x ≠ d) := by
  have nab : a ≠ b := by obtain ⟨c, Ar, -⟩ := A; exact ne_arr E (wI hw 3 rfl) Ar
  refine Road.Con.of bStr2_pn hEW #[.val (.ref a), .val (.ref b), .val (.int (0 : Int32)), .val (.int (Nat.toInt32 cs.length)), .val .null, .unset] (fun m => Road.ent (Road.laid1 rfl (Road.laid1 rfl (Road.laid1 rfl (Road.laid1 rfl (Road.laid1 rfl Road.laid0))))) (k := 1) rfl rfl) ?_
  intro D hD
  refine Road.Go.ownAll ?_
  intro hall
  refine Road.aloadN 0 bStr2_d0 rfl ?_
  refine Road.initObj 1 bStr2_d1 (wI hw 25 rfl) (wI hw 26 rfl) (wI hw 27 rfl) 0 rfl rfl (by decide) (by decide) ?_
  refine Road.iloadN 4 bStr2_d4 rfl ?_
  refine Road.if_ne 5 27 bStr2_d5 rfl (fun hc5 => ?_) (fun hc5 => ?_)
  · skip
    refine Road.getstatic 27 bStr2_d27 (wI hw 12 rfl) Via.refl Hc ?_
    refine Road.if_eq 30 58 bStr2_d30 rfl (fun q => absurd q hcp) (fun hc30 => ?_)
    refine Road.aloadN 33 bStr2_d33 rfl ?_
    refine Road.iloadN 34 bStr2_d34 rfl ?_
    refine Road.iloadN 35 bStr2_d35 rfl ?_
    refine Road.callS (B' := bCmp4) 36 (argsL := [(.ref b), (.int (0 : Int32)), (.int (Nat.toInt32 cs.length))]) (rest := []) 0 bStr2_d36 (wI hw 304 rfl) (wI hw 305 rfl) (wI hw 306 rfl) (wI hw 307 rfl) (by decide) (cCmp4 l Z a0 hw n0 hEW b cs h0 σ A hcap hlat) (lenOf bCmp4_pd rfl) rfl rfl rfl (by decide) (by decide) (ce' := 1) (sl' := 48) rfl rfl (by decide) (by decide) ?_
    rintro _ h_1 σ_2 m_3 ⟨d, rfl, gd, K_4, sd, Ad⟩
    have ne_a_d : a ≠ d := Nat.ne_of_lt (Nat.lt_of_lt_of_le E.lt gd)
    have ne_b_d : b ≠ d := Nat.ne_of_lt (Nat.lt_of_lt_of_le A.lt gd)
    replace E := E.keep K_4
    replace Fc := Fc.keep K_4 nin0
    replace Fv := Fv.keep K_4 nin0
    replace A := A.keep K_4 nin0
    replace sa := m_3 _ sa
    refine Road.astore 39 #[.val (.ref a), .val (.ref b), .val (.int (0 : Int32)), .val (.int (Nat.toInt32 cs.length)), .val .null, .val (.ref d)] bStr2_d39 rfl ?_
    refine Road.aloadN 41 bStr2_d41 rfl ?_
    refine Road.aload 42 bStr2_d42 rfl ?_
    refine Road.iloadN 44 bStr2_d44 rfl ?_
    have hlm : (cs.map Road.byt).length = cs.length := List.length_map _
    refine Road.callS (B' := bCfa) 45 (argsL := [(.ref d), (.int (Nat.toInt32 cs.length))]) (rest := [(.ref a)]) 1 bStr2_d45 (wI hw 311 rfl) (wI hw 312 rfl) (wI hw 306 rfl) (wI hw 313 rfl) (by decide) (by rw [← List.length_map (f := Road.byt) (as := cs)]; exact cCfa l Z a0 hw n0 hEW d (cs.map Road.byt) h_1 σ_2 Ad) (lenOf bCfa_pd rfl) rfl rfl rfl (by decide) (by decide) (ce' := 1) (sl' := 48) rfl rfl (by decide) (by decide) ?_
    rintro _ h_6 σ_7 m_8 ⟨rfl, rfl⟩
    refine Road.Go.weaken (σ' := σ_2) m_8 (Nat.le_refl _) (Nat.le_refl _) ?_
    refine Road.putfield 48 bStr2_d48 (wI hw 29 rfl) Via.refl Fc E (Or.inr ⟨(wI hw 6 rfl), rfl, rfl⟩) (wI hw 3 rfl) (ty := .byte) (by decide) rfl rfl sa ?_
    intro h_12 W_10 K_11
    replace Fc := Fc.same W_10
    replace Fv := Fv.other W_10 (Or.inr (slot_ne (Or.inr (wI hw 5 rfl)) (Or.inr (wI hw 6 rfl)) (by decide) (t := (.array .byte)) (by decide) (t' := .byte) (by decide)))
    replace E := E.keep K_11
    replace A := A.keep K_11 (ninS (Ne.symm nab) nin0)
    replace Ad := Ad.keep K_11 (ninS (Ne.symm ne_a_d) nin0)
    refine Road.aloadN 51 bStr2_d51 rfl ?_
    refine Road.aload 52 bStr2_d52 rfl ?_
    refine Road.putfield 54 bStr2_d54 (wI hw 28 rfl) Via.refl Fv E (Or.inr ⟨(wI hw 5 rfl), rfl, rfl⟩) (wI hw 3 rfl) (ty := (.array .byte)) (by decide) rfl rfl sa ?_
    intro h_15 W_13 K_14
    replace Fv := Fv.same W_13
    replace Fc := Fc.other W_13 (Or.inr (slot_ne (Or.inr (wI hw 6 rfl)) (Or.inr (wI hw 5 rfl)) (by decide) (t := .byte) (by decide) (t' := (.array .byte)) (by decide)))
    replace E := E.keep K_14
    replace A := A.keep K_14 (ninS (Ne.symm nab) nin0)
    replace Ad := Ad.keep K_14 (ninS (Ne.symm ne_a_d) nin0)
    exact Road.ret 57 bStr2_d57 rfl (by decide) (by decide) (fun σ' m => ⟨rfl, ((Road.keep_more K_4).trans K_11 (by simp)).trans K_14 (by simp), d, ⟨E, Fc, Fv, Ad, hlat⟩, fun x hx => Nat.ne_of_lt (Nat.lt_of_lt_of_le (hall x hx).2 gd)⟩)
  · skip
    exact absurd (List.eq_nil_of_length_eq_zero (by have := (Road.eq32 (i := cs.length) (j := 0) (by omega) (by omega)).mp hc5; exact this)) hne0
def bStr1 : Road.Bdy := (⟨"java/lang/String", "<init>", "([C)V"⟩, jdk_42_method_3_code, 2, none, { frames := 3, cells := 1, slots := 48, locals := 56 })
theorem bStr1_d0 : decode bStr1.bs 0 = .ok (.aload_n 0, 1) := by decide +kernel
theorem bStr1_d1 : decode bStr1.bs 1 = .ok (.aload_n 1, 1) := by decide +kernel
theorem bStr1_d2 : decode bStr1.bs 2 = .ok (.iconst 0, 1) := by decide +kernel
theorem bStr1_d3 : decode bStr1.bs 3 = .ok (.aload_n 1, 1) := by decide +kernel
theorem bStr1_d4 : decode bStr1.bs 4 = .ok (.arraylength, 1) := by decide +kernel
theorem bStr1_d5 : decode bStr1.bs 5 = .ok (.aconst_null, 1) := by decide +kernel
theorem bStr1_d6 : decode bStr1.bs 6 = .ok (.invokespecial 27, 3) := by decide +kernel
theorem bStr1_d9 : decode bStr1.bs 9 = .ok (.return_, 1) := by decide +kernel
theorem bStr1_pd : parseMethodDescriptor "([C)V" = some ⟨[(.array .char)], none⟩ := by decide +kernel
theorem bStr1_pn : plainFor bStr1.y = true := plainFor_of_name (show plainName "java/lang/String" = true from by first | (simp [plainName, overriddenIn]; done) | decide +kernel)
theorem cStr1 (l : Launch) (Z : State) (a0 : Array Value) (hw : ∀ d ∈ tables_1, d.before a0 Z = true) (n0 : Nat) (hEW : EW Z a0 consts_1) (a b : Addr) (cs : List Int32) (h0 : Heap) (σ : Addr → Prop) (E : Exa Z h0 a Road.SN) (Fc : Fld Z h0 a Road.SN "coder" "B" (.int 0)) (Fv : Fld Z h0 a Road.SN "value" "[B" .null) (A : Road.Ary Z h0 b .char (cs.map .int)) (hcap : cs.length ≤ 48) (hlat : ∀ c ∈ cs, 0 ≤ c.toInt ∧ c.toInt < 256) (sa : σ a) (cp : Int32) (Hc : Sta Z Z.heap Road.SN "COMPACT_STRINGS" "Z" (.int cp)) (hcp : ¬ cp = 0) (hne0 : cs ≠ []) :
    Road.Con l Z consts_1 n0 true bStr1 [] σ #[(.ref a), (.ref b)] h0 (fun v h2 s2 => v = none ∧ Keep h0 h2 [a] ∧ ∃ d, Road.Str Z h2 a d cs ∧ ∀ x, σ x → x ≠ d) := by
  refine Road.Con.of bStr1_pn hEW #[.val (.ref a), .val (.ref b)] (fun m => Road.ent (Road.laid1 rfl (Road.laid1 rfl Road.laid0)) (k := 0) rfl rfl) ?_
  intro D hD
  refine Road.aloadN 0 bStr1_d0 rfl ?_
  refine Road.aloadN 1 bStr1_d1 rfl ?_
  refine Road.iconst 2 (0 : Int32) bStr1_d2 rfl ?_
  refine Road.aloadN 3 bStr1_d3 rfl ?_
  refine Road.alen 4 (Nat.toInt32 cs.length) bStr1_d4 A (n := cs.length) (List.length_map _) rfl ?_
  refine Road.aconstNull 5 bStr1_d5 ?_
  refine Road.callI (B' := bStr2) (a := a) 6 (argsL := [(.ref b), (.int (0 : Int32)), (.int (Nat.toInt32 cs.length)), .null]) (rest := []) 0 bStr1_d6 (wI hw 301 rfl) (wI hw 302 rfl) (wI hw 2 rfl) (wI hw 303 rfl) rfl rfl (by decide) (cStr2 l Z a0 hw n0 hEW a b cs h0 σ E Fc Fv A hcap hlat sa cp Hc hcp hne0) (lenOf bStr2_pd rfl) rfl rfl rfl (by decide) (by decide) (ce' := 1) (sl' := 48) rfl rfl (by decide) (by decide) ?_
  rintro _ h_1 σ_2 m_3 ⟨rfl, K_4, d, S, hd⟩
  exact Road.ret 9 bStr1_d9 rfl (by decide) (by decide) (fun σ' m => ⟨rfl, K_4, d, S, hd⟩)
def bCan : Road.Bdy := (⟨"java/lang/StringLatin1", "canEncode", "(C)Z"⟩, jdk_43_method_3_code, 1, (some .boolean), { frames := 0, cells := 0, slots := 0, locals := 0 })
theorem bCan_d0 : decode bCan.bs 0 = .ok (.iload_n 0, 1) := by decide +kernel
theorem bCan_d1 : decode bCan.bs 1 = .ok (.sipush 255, 3) := by decide +kernel
theorem bCan_d4 : decode bCan.bs 4 = .ok (.if_icmp .gt 7, 3) := by decide +kernel
theorem bCan_d7 : decode bCan.bs 7 = .ok (.iconst 1, 1) := by decide +kernel
theorem bCan_d8 : decode bCan.bs 8 = .ok (.goto 4, 3) := by decide +kernel
theorem bCan_d11 : decode bCan.bs 11 = .ok (.iconst 0, 1) := by decide +kernel
theorem bCan_d12 : decode bCan.bs 12 = .ok (.ireturn, 1) := by decide +kernel
theorem bCan_pd : parseMethodDescriptor "(C)Z" = some ⟨[.char], (some .boolean)⟩ := by decide +kernel
theorem bCan_pn : plainFor bCan.y = true := plainFor_of_name (show plainName "java/lang/StringLatin1" = true from by first | (simp [plainName, overriddenIn]; done) | decide +kernel)
theorem cCan (l : Launch) (Z : State) (a0 : Array Value) (hw : ∀ d ∈ tables_1, d.before a0 Z = true) (n0 : Nat) (hEW : EW Z a0 consts_1) (c : Int32) (h0 : Heap) (σ : Addr → Prop) (hc : 0 ≤ c.toInt ∧ c.toInt < 256) :
    Road.Con l Z consts_1 n0 true bCan [] σ #[(.int c)] h0 (fun v h2 _ => v = some (.int 1) ∧ h0 = h2) := by
  refine Road.Con.of bCan_pn hEW #[.val (.int c)] (fun m => Road.ent (Road.laid1 rfl Road.laid0) (k := 0) rfl rfl) ?_
  intro D hD
  refine Road.iloadN 0 bCan_d0 rfl ?_
  refine Road.sipush 1 (255 : Int32) bCan_d1 rfl ?_
  refine Road.icmp_gt 4 11 bCan_d4 rfl (fun q => absurd q (by rw [Int32.lt_iff_toInt_lt]; have : (255 : Int32).toInt = 255 := rfl; omega)) (fun hc4 => ?_)
  refine Road.iconst 7 (1 : Int32) bCan_d7 rfl ?_
  refine Road.goto 8 12 bCan_d8 rfl ?_
  exact Road.iret 12 1 bCan_d12 (t := .boolean) rfl (by simp) rfl (by decide) (by decide) (fun σ' m => ⟨rfl, rfl⟩)
def bToB : Road.Bdy := (⟨"java/lang/StringLatin1", "toBytes", "(C)[B"⟩, jdk_43_method_46_code, 1, (some (.array .byte)), { frames := 0, cells := 1, slots := 1, locals := 0 })
theorem bToB_d0 : decode bToB.bs 0 = .ok (.iconst 1, 1) := by decide +kernel
theorem bToB_d1 : decode bToB.bs 1 = .ok (.newarray .byte, 2) := by decide +kernel
theorem bToB_d3 : decode bToB.bs 3 = .ok (.dup, 1) := by decide +kernel
theorem bToB_d4 : decode bToB.bs 4 = .ok (.iconst 0, 1) := by decide +kernel
theorem bToB_d5 : decode bToB.bs 5 = .ok (.iload_n 0, 1) := by decide +kernel
theorem bToB_d6 : decode bToB.bs 6 = .ok (.i2b, 1) := by decide +kernel
theorem bToB_d7 : decode bToB.bs 7 = .ok (.bastore, 1) := by decide +kernel
theorem bToB_d8 : decode bToB.bs 8 = .ok (.areturn, 1) := by decide +kernel
theorem bToB_pd : parseMethodDescriptor "(C)[B" = some ⟨[.char], (some (.array .byte))⟩ := by decide +kernel
theorem bToB_pn : plainFor bToB.y = true := plainFor_of_name (show plainName "java/lang/StringLatin1" = true from by first | (simp [plainName, overriddenIn]; done) | decide +kernel)
theorem cToB (l : Launch) (Z : State) (a0 : Array Value) (hw : ∀ d ∈ tables_1, d.before a0 Z = true) (n0 : Nat) (hEW : EW Z a0 consts_1) (c : Int32) (h0 : Heap) (σ : Addr → Prop)  :
    Road.Con l Z consts_1 n0 true bToB [] σ #[(.int c)] h0 (fun v h2 s2 => ∃ d, v = some (.ref d) ∧ h0.size ≤ d ∧ Keep h0 h2 [] ∧ s2 d ∧ Road.Ary Z h2 d .byte ([c].map Road.byt)) := by
  refine Road.Con.of bToB_pn hEW #[.val (.int c)] (fun m => Road.ent (Road.laid1 rfl Road.laid0) (k := 0) rfl rfl) ?_
  intro D hD
  refine Road.iconst 0 (1 : Int32) bToB_d0 rfl ?_
  refine Road.newarray 1 .byte 1 1 bToB_d1 rfl (wI hw 4 rfl) (by decide) (by decide) (by decide) (ce' := 1) (sl' := 1) rfl rfl (by decide) (by decide) ?_
  intro d h_1 σ_2 g_3 K_4 lt_5 m_6 s_7 Ad
  refine Road.dup 3 bToB_d3 ?_
  refine Road.iconst 4 (0 : Int32) bToB_d4 rfl ?_
  refine Road.iloadN 5 bToB_d5 rfl ?_
  refine Road.i2b 6 bToB_d6 ?_
  refine Road.bastore 7 0 (Int8.toInt32 (Int32.toInt8 c)) bToB_d7 Ad (by decide) (by simp) (Road.nar_byte _) s_7 ?_
  intro h_8 K_9 A_10
  replace Ad := A_10
  exact Road.aret 8 bToB_d8 (t := (.array .byte)) rfl rfl rfl (by decide) (by decide) (fun σ' m => ⟨d, rfl, Nat.le_of_eq g_3.symm, K_4.trans K_9 (by intro x hx; cases List.mem_singleton.mp hx; exact Or.inr (Nat.le_of_eq g_3.symm)), m _ s_7, Ad⟩)
def bStB : Road.Bdy := (⟨"java/lang/String", "<init>", "([BB)V"⟩, jdk_42_method_151_code, 3, none, { frames := 1, cells := 0, slots := 0, locals := 13 })
theorem bStB_d0 : decode bStB.bs 0 = .ok (.aload_n 0, 1) := by decide +kernel
theorem bStB_d1 : decode bStB.bs 1 = .ok (.invokespecial 1, 3) := by decide +kernel
theorem bStB_d4 : decode bStB.bs 4 = .ok (.aload_n 0, 1) := by decide +kernel
theorem bStB_d5 : decode bStB.bs 5 = .ok (.aload_n 1, 1) := by decide +kernel
theorem bStB_d6 : decode bStB.bs 6 = .ok (.putfield 9, 3) := by decide +kernel
theorem bStB_d9 : decode bStB.bs 9 = .ok (.aload_n 0, 1) := by decide +kernel
theorem bStB_d10 : decode bStB.bs 10 = .ok (.iload_n 2, 1) := by decide +kernel
theorem bStB_d11 : decode bStB.bs 11 = .ok (.putfield 15, 3) := by decide +kernel
theorem bStB_d14 : decode bStB.bs 14 = .ok (.return_, 1) := by decide +kernel
theorem bStB_pd : parseMethodDescriptor "([BB)V" = some ⟨[(.array .byte), .byte], none⟩ := by decide +kernel
theorem bStB_pn : plainFor bStB.y = true := plainFor_of_name (show plainName "java/lang/String" = true from by first | (simp [plainName, overriddenIn]; done) | decide +kernel)
theorem cStB (l : Launch) (Z : State) (a0 : Array Value) (hw : ∀ d ∈ tables_1, d.before a0 Z = true) (n0 : Nat) (hEW : EW Z a0 consts_1) (a d : Addr) (cs : List Int32) (h0 : Heap) (σ : Addr → Prop) (E : Exa Z h0 a Road.SN) (Fc : Fld Z h0 a Road.SN "coder" "B" (.int 0)) (Fv : Fld Z h0 a Road.SN "value" "[B" .null) (Ad : Road.Ary Z h0 d .byte (cs.map Road.byt)) (hlat : ∀ c ∈ cs, 0 ≤ c.toInt ∧ c.toInt < 256) (sa : σ a) :
    Road.Con l Z consts_1 n0 true bStB [] σ #[(.ref a), (.ref d), (.int (0 : Int32))] h0 (fun v h2 s2 => v = none ∧ Keep h0 h2 [a] ∧ Road.Str Z h2 a d cs) := by
  have nad : a ≠ d := by obtain ⟨c, Ar, -⟩ := Ad; exact ne_arr E (wI hw 3 rfl) Ar
  refine Road.Con.of bStB_pn hEW #[.val (.ref a), .val (.ref d), .val (.int (0 : Int32))] (fun m => Road.ent (Road.laid1 rfl (Road.laid1 rfl (Road.laid1 rfl Road.laid0))) (k := 0) rfl rfl) ?_
  intro D hD
  refine Road.aloadN 0 bStB_d0 rfl ?_
  refine Road.initObj 1 bStB_d1 (wI hw 25 rfl) (wI hw 26 rfl) (wI hw 27 rfl) 0 rfl rfl (by decide) (by decide) ?_
  refine Road.aloadN 4 bStB_d4 rfl ?_
  refine Road.aloadN 5 bStB_d5 rfl ?_
  refine Road.putfield 6 bStB_d6 (wI hw 28 rfl) Via.refl Fv E (Or.inr ⟨(wI hw 5 rfl), rfl, rfl⟩) (wI hw 3 rfl) (ty := (.array .byte)) (by decide) rfl rfl sa ?_
  intro h_3 W_1 K_2
  replace Fv := Fv.same W_1
  replace Fc := Fc.other W_1 (Or.inr (slot_ne (Or.inr (wI hw 6 rfl)) (Or.inr (wI hw 5 rfl)) (by decide) (t := .byte) (by decide) (t' := (.array .byte)) (by decide)))
  replace E := E.keep K_2
  replace Ad := Ad.keep K_2 (ninS (Ne.symm nad) nin0)
  refine Road.aloadN 9 bStB_d9 rfl ?_
  refine Road.iloadN 10 bStB_d10 rfl ?_
  refine Road.putfield 11 bStB_d11 (wI hw 29 rfl) Via.refl Fc E (Or.inr ⟨(wI hw 6 rfl), rfl, rfl⟩) (wI hw 3 rfl) (ty := .byte) (by decide) rfl rfl sa ?_
  intro h_6 W_4 K_5
  replace Fc := Fc.same W_4
  replace Fv := Fv.other W_4 (Or.inr (slot_ne (Or.inr (wI hw 5 rfl)) (Or.inr (wI hw 6 rfl)) (by decide) (t := (.array .byte)) (by decide) (t' := .byte) (by decide)))
  replace E := E.keep K_5
  replace Ad := Ad.keep K_5 (ninS (Ne.symm nad) nin0)
  exact Road.ret 14 bStB_d14 rfl (by decide) (by decide) (fun σ' m => ⟨rfl, K_2.trans K_5 (by simp), E, Fc, Fv, Ad, hlat⟩)
def bVal : Road.Bdy := (⟨"java/lang/String", "valueOf", "(C)Ljava/lang/String;"⟩, jdk_42_method_139_code, 1, (some (.object "java/lang/String")), { frames := 2, cells := 2, slots := 5, locals := 28 })
theorem bVal_d0 : decode bVal.bs 0 = .ok (.getstatic 38, 3) := by decide +kernel
theorem bVal_d3 : decode bVal.bs 3 = .ok (.ifCond .eq 23, 3) := by decide +kernel
theorem bVal_d6 : decode bVal.bs 6 = .ok (.iload_n 0, 1) := by decide +kernel
theorem bVal_d7 : decode bVal.bs 7 = .ok (.invokestatic 1015, 3) := by decide +kernel
theorem bVal_d10 : decode bVal.bs 10 = .ok (.ifCond .eq 16, 3) := by decide +kernel
theorem bVal_d13 : decode bVal.bs 13 = .ok (.new 10, 3) := by decide +kernel
theorem bVal_d16 : decode bVal.bs 16 = .ok (.dup, 1) := by decide +kernel
theorem bVal_d17 : decode bVal.bs 17 = .ok (.iload_n 0, 1) := by decide +kernel
theorem bVal_d18 : decode bVal.bs 18 = .ok (.invokestatic 1018, 3) := by decide +kernel
theorem bVal_d21 : decode bVal.bs 21 = .ok (.iconst 0, 1) := by decide +kernel
theorem bVal_d22 : decode bVal.bs 22 = .ok (.invokespecial 209, 3) := by decide +kernel
theorem bVal_d25 : decode bVal.bs 25 = .ok (.areturn, 1) := by decide +kernel
theorem bVal_d26 : decode bVal.bs 26 = .ok (.new 10, 3) := by decide +kernel
theorem bVal_d29 : decode bVal.bs 29 = .ok (.dup, 1) := by decide +kernel
theorem bVal_d30 : decode bVal.bs 30 = .ok (.iload_n 0, 1) := by decide +kernel
theorem bVal_d31 : decode bVal.bs 31 = .ok (.invokestatic 1021, 3) := by decide +kernel
theorem bVal_d34 : decode bVal.bs 34 = .ok (.iconst 1, 1) := by decide +kernel
theorem bVal_d35 : decode bVal.bs 35 = .ok (.invokespecial 209, 3) := by decide +kernel
theorem bVal_d38 : decode bVal.bs 38 = .ok (.areturn, 1) := by decide +kernel
theorem bVal_pd : parseMethodDescriptor "(C)Ljava/lang/String;" = some ⟨[.char], (some (.object "java/lang/String"))⟩ := by decide +kernel
theorem bVal_pn : plainFor bVal.y = true := plainFor_of_name (show plainName "java/lang/String" = true from by first | (simp [plainName, overriddenIn]; done) | decide +kernel)
theorem cVal (l : Launch) (Z : State) (a0 : Array Value) (hw : ∀ d ∈ tables_1, d.before a0 Z = true) (n0 : Nat) (hEW : EW Z a0 consts_1) (c : Int32) (h0 : Heap) (σ : Addr → Prop) (hc : 0 ≤ c.toInt ∧ c.toInt < 256) (cp : Int32) (Hc : Sta Z Z.heap Road.SN "COMPACT_STRINGS" "Z" (.int cp)) (hcp : ¬ cp = 0) :
    Road.Con l Z consts_1 n0 true bVal [] σ #[(.int c)] h0 (fun v h2 s2 => ∃ a d, v = some (.ref a) ∧ h0.size ≤ a ∧ h0.size ≤ d ∧ Keep h0 h2 [] ∧ Road.Str Z h2 a d [c]) := by
  refine Road.Con.of bVal_pn hEW #[.val (.int c)] (fun m => Road.ent (Road.laid1 rfl Road.laid0) (k := 0) rfl rfl) ?_
  intro D hD
  refine Road.getstatic 0 bVal_d0 (wI hw 12 rfl) Via.refl Hc ?_
  refine Road.if_eq 3 26 bVal_d3 rfl (fun q => absurd q hcp) (fun hc3 => ?_)
  refine Road.iloadN 6 bVal_d6 rfl ?_
  refine Road.callS (B' := bCan) 7 (argsL := [(.int c)]) (rest := []) 0 bVal_d7 (wI hw 13 rfl) (wI hw 14 rfl) (wI hw 15 rfl) (wI hw 16 rfl) (by decide) (cCan l Z a0 hw n0 hEW c h0 σ hc) (lenOf bCan_pd rfl) rfl rfl rfl (by decide) (by decide) (ce' := 0) (sl' := 0) rfl rfl (by decide) (by decide) ?_
  rintro _ h_1 σ_2 m_3 ⟨rfl, rfl⟩
  refine Road.Go.weaken (σ' := σ) m_3 (Nat.le_refl _) (Nat.le_refl _) ?_
  refine Road.if_eq 10 26 bVal_d10 rfl (fun q => absurd q (by decide)) (fun hc10 => ?_)
  refine Road.new 13 "java/lang/String" bVal_d13 (wI hw 17 rfl) (wI hw 3 rfl) (wI hw 2 rfl) (ce' := 1) (sl' := 4) rfl rfl (by decide) (by decide) ?_
  intro a h_5 σ_6 g_7 K_8 lt_9 m_10 s_11 E D_12 M_13
  have Fc := D_12 (Or.inr (wI hw 6 rfl)) (ty := .byte) (by decide)
  have Fv := D_12 (Or.inr (wI hw 5 rfl)) (ty := (.array .byte)) (by decide)
  refine Road.dup 16 bVal_d16 ?_
  refine Road.iloadN 17 bVal_d17 rfl ?_
  refine Road.callS (B' := bToB) 18 (argsL := [(.int c)]) (rest := [(.ref a), (.ref a)]) 2 bVal_d18 (wI hw 18 rfl) (wI hw 19 rfl) (wI hw 15 rfl) (wI hw 20 rfl) (by decide) (cToB l Z a0 hw n0 hEW c h_5 σ_6) (lenOf bToB_pd rfl) rfl rfl rfl (by decide) (by decide) (ce' := 2) (sl' := 5) rfl rfl (by decide) (by decide) ?_
  rintro _ h_14 σ_15 m_16 ⟨d, rfl, gd, K_17, sd, Ad⟩
  have ne_a_d : a ≠ d := Nat.ne_of_lt (Nat.lt_of_lt_of_le E.lt gd)
  replace E := E.keep K_17
  replace Fc := Fc.keep K_17 nin0
  replace Fv := Fv.keep K_17 nin0
  replace s_11 := m_16 _ s_11
  refine Road.iconst 21 (0 : Int32) bVal_d21 rfl ?_
  refine Road.callI (B' := bStB) (a := a) 22 (argsL := [(.ref d), (.int (0 : Int32))]) (rest := [(.ref a)]) 1 bVal_d22 (wI hw 21 rfl) (wI hw 22 rfl) (wI hw 2 rfl) (wI hw 24 rfl) rfl rfl (by decide) (cStB l Z a0 hw n0 hEW a d [c] h_14 σ_15 E Fc Fv Ad (by intro x hx; cases List.mem_singleton.mp hx; exact hc) s_11) (lenOf bStB_pd rfl) rfl rfl rfl (by decide) (by decide) (ce' := 2) (sl' := 5) rfl rfl (by decide) (by decide) ?_
  rintro _ h_19 σ_20 m_21 ⟨rfl, K_22, S⟩
  replace s_11 := m_21 _ s_11
  exact Road.aret 25 bVal_d25 (t := (.object "java/lang/String")) rfl rfl rfl (by decide) (by decide) (fun σ' m => ⟨a, d, rfl, Nat.le_of_eq g_7.symm, Nat.le_trans K_8.1 gd, (K_8.trans K_17 (by simp)).trans K_22 (by intro x hx; cases List.mem_singleton.mp hx; exact Or.inr (Nat.le_of_eq g_7.symm)), S⟩)
def bLeq : Road.Bdy := (⟨"java/lang/StringLatin1", "equals", "([B[B)Z"⟩, jdk_43_method_13_code, 3, (some .boolean), { frames := 0, cells := 0, slots := 0, locals := 0 })
theorem bLeq_d0 : decode bLeq.bs 0 = .ok (.aload_n 0, 1) := by decide +kernel
theorem bLeq_d1 : decode bLeq.bs 1 = .ok (.arraylength, 1) := by decide +kernel
theorem bLeq_d2 : decode bLeq.bs 2 = .ok (.aload_n 1, 1) := by decide +kernel
theorem bLeq_d3 : decode bLeq.bs 3 = .ok (.arraylength, 1) := by decide +kernel
theorem bLeq_d4 : decode bLeq.bs 4 = .ok (.if_icmp .ne 30, 3) := by decide +kernel
theorem bLeq_d7 : decode bLeq.bs 7 = .ok (.iconst 0, 1) := by decide +kernel
theorem bLeq_d8 : decode bLeq.bs 8 = .ok (.istore_n 2, 1) := by decide +kernel
theorem bLeq_d9 : decode bLeq.bs 9 = .ok (.iload_n 2, 1) := by decide +kernel
theorem bLeq_d10 : decode bLeq.bs 10 = .ok (.aload_n 0, 1) := by decide +kernel
theorem bLeq_d11 : decode bLeq.bs 11 = .ok (.arraylength, 1) := by decide +kernel
theorem bLeq_d12 : decode bLeq.bs 12 = .ok (.if_icmp .ge 20, 3) := by decide +kernel
theorem bLeq_d15 : decode bLeq.bs 15 = .ok (.aload_n 0, 1) := by decide +kernel
theorem bLeq_d16 : decode bLeq.bs 16 = .ok (.iload_n 2, 1) := by decide +kernel
theorem bLeq_d17 : decode bLeq.bs 17 = .ok (.baload, 1) := by decide +kernel
theorem bLeq_d18 : decode bLeq.bs 18 = .ok (.aload_n 1, 1) := by decide +kernel
theorem bLeq_d19 : decode bLeq.bs 19 = .ok (.iload_n 2, 1) := by decide +kernel
theorem bLeq_d20 : decode bLeq.bs 20 = .ok (.baload, 1) := by decide +kernel
theorem bLeq_d21 : decode bLeq.bs 21 = .ok (.if_icmp .eq 5, 3) := by decide +kernel
theorem bLeq_d24 : decode bLeq.bs 24 = .ok (.iconst 0, 1) := by decide +kernel
theorem bLeq_d25 : decode bLeq.bs 25 = .ok (.ireturn, 1) := by decide +kernel
theorem bLeq_d26 : decode bLeq.bs 26 = .ok (.iinc 2 1, 3) := by decide +kernel
theorem bLeq_d29 : decode bLeq.bs 29 = .ok (.goto (-20), 3) := by decide +kernel
theorem bLeq_d32 : decode bLeq.bs 32 = .ok (.iconst 1, 1) := by decide +kernel
theorem bLeq_d33 : decode bLeq.bs 33 = .ok (.ireturn, 1) := by decide +kernel
theorem bLeq_d34 : decode bLeq.bs 34 = .ok (.iconst 0, 1) := by decide +kernel
theorem bLeq_d35 : decode bLeq.bs 35 = .ok (.ireturn, 1) := by decide +kernel
theorem bLeq_pd : parseMethodDescriptor "([B[B)Z" = some ⟨[(.array .byte), (.array .byte)], (some .boolean)⟩ := by decide +kernel
theorem bLeq_pn : plainFor bLeq.y = true := plainFor_of_name (show plainName "java/lang/StringLatin1" = true from by first | (simp [plainName, overriddenIn]; done) | decide +kernel)
theorem cLeq (l : Launch) (Z : State) (a0 : Array Value) (hw : ∀ d ∈ tables_1, d.before a0 Z = true) (n0 : Nat) (hEW : EW Z a0 consts_1) (a b : Addr) (xs ys : List Int32) (h0 : Heap) (σ : Addr → Prop) (A : Road.Ary Z h0 a .byte (xs.map .int)) (A' : Road.Ary Z h0 b .byte (ys.map .int)) :
    Road.Con l Z consts_1 n0 true bLeq [] σ #[(.ref a), (.ref b)] h0 (fun v h2 _ => v = some (.int (if xs = ys then 1 else 0)) ∧ h0 = h2) := by
  refine Road.Con.of bLeq_pn hEW #[.val (.ref a), .val (.ref b), .unset] (fun m => Road.ent (Road.laid1 rfl (Road.laid1 rfl Road.laid0)) (k := 1) rfl rfl) ?_
  intro D hD
  have hx : xs.length < 2147483648 := by have := A.small; rwa [List.length_map] at this
  have hy : ys.length < 2147483648 := by have := A'.small; rwa [List.length_map] at this
  refine Road.aloadN 0 bLeq_d0 rfl ?_
  refine Road.alen 1 (Nat.toInt32 xs.length) bLeq_d1 A (n := xs.length) (List.length_map _) rfl ?_
  refine Road.aloadN 2 bLeq_d2 rfl ?_
  refine Road.alen 3 (Nat.toInt32 ys.length) bLeq_d3 A' (n := ys.length) (List.length_map _) rfl ?_
  refine Road.icmp_ne 4 34 bLeq_d4 rfl (fun hc4 => ?_) (fun hc4 => ?_)
  · skip
    refine Road.iconst 34 (0 : Int32) bLeq_d34 rfl ?_
    exact Road.iret 35 0 bLeq_d35 (t := .boolean) rfl (by simp) rfl (by decide) (by decide) (fun σ' m => ⟨by rw [if_neg (fun q => hc4 (by rw [q]))], rfl⟩)
  · skip
    have hl : xs.length = ys.length := (Road.eq32 hx hy).mp hc4
    refine Road.iconst 7 (0 : Int32) bLeq_d7 rfl ?_
    refine Road.istoreN 8 #[.val (.ref a), .val (.ref b), .val (.int (0 : Int32))] bLeq_d8 rfl ?_
    have loop : ∀ r k, k + r = xs.length → xs.take k = ys.take k → Road.Go l Z a0 consts_1 n0 true bLeq D (fun v h2 _ => v = some (.int (if xs = ys then 1 else 0)) ∧ h0 = h2) h0 σ 0 0 9 #[.val (.ref a), .val (.ref b), .val (.int (Nat.toInt32 k))] [] := by
      intro r
      induction r with
      | zero =>
        intro k hk ht
        have hk' : k = xs.length := by omega
        subst hk'
        refine Road.iloadN 9 bLeq_d9 rfl ?_
        refine Road.aloadN 10 bLeq_d10 rfl ?_
        refine Road.alen 11 (Nat.toInt32 xs.length) bLeq_d11 A (n := xs.length) (List.length_map _) rfl ?_
        refine Road.icmp_ge 12 32 bLeq_d12 rfl (fun hc12 => ?_) (fun q => absurd q Int32.lt_irrefl)
        refine Road.iconst 32 (1 : Int32) bLeq_d32 rfl ?_
        have he : xs = ys := by rw [List.take_of_length_le (Nat.le_refl _), List.take_of_length_le (by omega)] at ht; exact ht
        exact Road.iret 33 1 bLeq_d33 (t := .boolean) rfl (by simp) rfl (by decide) (by decide) (fun σ' m => ⟨by rw [if_pos he], rfl⟩)
      | succ r ih =>
        intro k hk ht
        have hk1 : k < xs.length := by omega
        have hk2 : k < ys.length := by omega
        refine Road.iloadN 9 bLeq_d9 rfl ?_
        refine Road.aloadN 10 bLeq_d10 rfl ?_
        refine Road.alen 11 (Nat.toInt32 xs.length) bLeq_d11 A (n := xs.length) (List.length_map _) rfl ?_
        refine Road.icmp_ge 12 32 bLeq_d12 rfl (fun q => absurd q (by rw [Decidable.not_not, Road.lt32 (by omega) hx]; omega)) (fun hc12 => ?_)
        refine Road.aloadN 15 bLeq_d15 rfl ?_
        refine Road.iloadN 16 bLeq_d16 rfl ?_
        refine Road.baload 17 k bLeq_d17 A (Road.n32 (by omega)) (by rw [List.getElem?_map, List.getElem?_eq_getElem hk1]; rfl) ?_
        refine Road.aloadN 18 bLeq_d18 rfl ?_
        refine Road.iloadN 19 bLeq_d19 rfl ?_
        refine Road.baload 20 k bLeq_d20 A' (Road.n32 (by omega)) (by rw [List.getElem?_map, List.getElem?_eq_getElem hk2]; rfl) ?_
        refine Road.icmp_eq 21 26 bLeq_d21 rfl (fun hc21 => ?_) (fun hc21 => ?_)
        · skip
          refine Road.iinc 26 (1) #[.val (.ref a), .val (.ref b), .val (.int ((Nat.toInt32 k) + 1))] bLeq_d26 rfl rfl rfl ?_
          refine Road.goto 29 9 bLeq_d29 rfl ?_
          have := ih (k + 1) (by omega) (Road.take_ext hk1 hk2 ht hc21)
          rw [← Road.succ32] at this
          exact this
        · skip
          refine Road.iconst 24 (0 : Int32) bLeq_d24 rfl ?_
          exact Road.iret 25 0 bLeq_d25 (t := .boolean) rfl (by simp) rfl (by decide) (by decide) (fun σ' m => ⟨by rw [if_neg (by rintro rfl; exact hc21 rfl)], rfl⟩)
    exact loop xs.length 0 (by omega) rfl
def bEq : Road.Bdy := (⟨"java/lang/String", "equals", "(Ljava/lang/Object;)Z"⟩, jdk_42_method_66_code, 3, (some .boolean), { frames := 1, cells := 0, slots := 0, locals := 14 })
theorem bEq_d0 : decode bEq.bs 0 = .ok (.aload_n 0, 1) := by decide +kernel
theorem bEq_d1 : decode bEq.bs 1 = .ok (.aload_n 1, 1) := by decide +kernel
theorem bEq_d2 : decode bEq.bs 2 = .ok (.if_acmp .ne 5, 3) := by decide +kernel
theorem bEq_d5 : decode bEq.bs 5 = .ok (.iconst 1, 1) := by decide +kernel
theorem bEq_d6 : decode bEq.bs 6 = .ok (.ireturn, 1) := by decide +kernel
theorem bEq_d7 : decode bEq.bs 7 = .ok (.aload_n 1, 1) := by decide +kernel
theorem bEq_d8 : decode bEq.bs 8 = .ok (.instanceof 10, 3) := by decide +kernel
theorem bEq_d11 : decode bEq.bs 11 = .ok (.ifCond .eq 43, 3) := by decide +kernel
theorem bEq_d14 : decode bEq.bs 14 = .ok (.aload_n 1, 1) := by decide +kernel
theorem bEq_d15 : decode bEq.bs 15 = .ok (.checkcast 10, 3) := by decide +kernel
theorem bEq_d18 : decode bEq.bs 18 = .ok (.astore_n 2, 1) := by decide +kernel
theorem bEq_d19 : decode bEq.bs 19 = .ok (.getstatic 38, 3) := by decide +kernel
theorem bEq_d22 : decode bEq.bs 22 = .ok (.ifCond .eq 14, 3) := by decide +kernel
theorem bEq_d25 : decode bEq.bs 25 = .ok (.aload_n 0, 1) := by decide +kernel
theorem bEq_d26 : decode bEq.bs 26 = .ok (.getfield 15, 3) := by decide +kernel
theorem bEq_d29 : decode bEq.bs 29 = .ok (.aload_n 2, 1) := by decide +kernel
theorem bEq_d30 : decode bEq.bs 30 = .ok (.getfield 15, 3) := by decide +kernel
theorem bEq_d33 : decode bEq.bs 33 = .ok (.if_icmp .ne 21, 3) := by decide +kernel
theorem bEq_d36 : decode bEq.bs 36 = .ok (.aload_n 0, 1) := by decide +kernel
theorem bEq_d37 : decode bEq.bs 37 = .ok (.getfield 9, 3) := by decide +kernel
theorem bEq_d40 : decode bEq.bs 40 = .ok (.aload_n 2, 1) := by decide +kernel
theorem bEq_d41 : decode bEq.bs 41 = .ok (.getfield 9, 3) := by decide +kernel
theorem bEq_d44 : decode bEq.bs 44 = .ok (.invokestatic 541, 3) := by decide +kernel
theorem bEq_d47 : decode bEq.bs 47 = .ok (.ifCond .eq 7, 3) := by decide +kernel
theorem bEq_d50 : decode bEq.bs 50 = .ok (.iconst 1, 1) := by decide +kernel
theorem bEq_d51 : decode bEq.bs 51 = .ok (.goto 4, 3) := by decide +kernel
theorem bEq_d54 : decode bEq.bs 54 = .ok (.iconst 0, 1) := by decide +kernel
theorem bEq_d55 : decode bEq.bs 55 = .ok (.ireturn, 1) := by decide +kernel
theorem bEq_pd : parseMethodDescriptor "(Ljava/lang/Object;)Z" = some ⟨[(.object "java/lang/Object")], (some .boolean)⟩ := by decide +kernel
theorem bEq_pn : plainFor bEq.y = true := plainFor_of_name (show plainName "java/lang/String" = true from by first | (simp [plainName, overriddenIn]; done) | decide +kernel)
theorem cEq (l : Launch) (Z : State) (a0 : Array Value) (hw : ∀ d ∈ tables_1, d.before a0 Z = true) (n0 : Nat) (hEW : EW Z a0 consts_1) (a b a' b' : Addr) (cs ds : List Int32) (h0 : Heap) (σ : Addr → Prop) (S : Road.Str Z h0 a b cs) (S' : Road.Str Z h0 a' b' ds) (cp : Int32) (Hc : Sta Z Z.heap Road.SN "COMPACT_STRINGS" "Z" (.int cp)) (hcp : ¬ cp = 0) :
    Road.Con l Z consts_1 n0 true bEq [] σ #[(.ref a), (.ref a')] h0 (fun v h2 _ => v = some (.int (if cs = ds then 1 else 0)) ∧ h0 = h2) := by
  refine Road.Con.of bEq_pn hEW #[.val (.ref a), .val (.ref a'), .unset] (fun m => Road.ent (Road.laid1 rfl (Road.laid1 rfl Road.laid0)) (k := 1) rfl rfl) ?_
  intro D hD
  refine Road.aloadN 0 bEq_d0 rfl ?_
  refine Road.aloadN 1 bEq_d1 rfl ?_
  refine Road.acmp_ne 2 7 rfl rfl bEq_d2 rfl (fun hc2 => ?_) (fun hc2 => ?_)
  · skip
    refine Road.aloadN 7 bEq_d7 rfl ?_
    refine Road.instYes 8 bEq_d8 (wI hw 17 rfl) (Ins.self S'.1) ?_
    refine Road.if_eq 11 54 bEq_d11 rfl (fun q => absurd q (by decide)) (fun hc11 => ?_)
    refine Road.aloadN 14 bEq_d14 rfl ?_
    refine Road.castYes 15 bEq_d15 (wI hw 17 rfl) (Ins.self S'.1) ?_
    refine Road.astoreN 18 #[.val (.ref a), .val (.ref a'), .val (.ref a')] bEq_d18 rfl ?_
    refine Road.getstatic 19 bEq_d19 (wI hw 12 rfl) Via.refl Hc ?_
    refine Road.if_eq 22 36 bEq_d22 rfl (fun q => absurd q hcp) (fun hc22 => ?_)
    refine Road.aloadN 25 bEq_d25 rfl ?_
    refine Road.getfield 26 bEq_d26 (wI hw 29 rfl) Via.refl S.2.1 ?_
    refine Road.aloadN 29 bEq_d29 rfl ?_
    refine Road.getfield 30 bEq_d30 (wI hw 29 rfl) Via.refl S'.2.1 ?_
    refine Road.icmp_ne 33 54 bEq_d33 rfl (fun q => absurd q (by decide)) (fun hc33 => ?_)
    refine Road.aloadN 36 bEq_d36 rfl ?_
    refine Road.getfield 37 bEq_d37 (wI hw 28 rfl) Via.refl S.2.2.1 ?_
    refine Road.aloadN 40 bEq_d40 rfl ?_
    refine Road.getfield 41 bEq_d41 (wI hw 28 rfl) Via.refl S'.2.2.1 ?_
    refine Road.callS (B' := bLeq) 44 (argsL := [(.ref b), (.ref b')]) (rest := []) 0 bEq_d44 (wI hw 325 rfl) (wI hw 326 rfl) (wI hw 15 rfl) (wI hw 327 rfl) (by decide) (cLeq l Z a0 hw n0 hEW b b' (cs.map Road.bf) (ds.map Road.bf) h0 σ (by rw [← Road.byts]; exact S.2.2.2.1) (by rw [← Road.byts]; exact S'.2.2.2.1)) (lenOf bLeq_pd rfl) rfl rfl rfl (by decide) (by decide) (ce' := 0) (sl' := 0) rfl rfl (by decide) (by decide) ?_
    rintro _ h_1 σ_2 m_3 ⟨rfl, rfl⟩
    refine Road.Go.weaken (σ' := σ) m_3 (Nat.le_refl _) (Nat.le_refl _) ?_
    refine Road.nameI ?_
    intro z hz
    by_cases he : cs = ds
    · skip
      rw [if_pos (by rw [he])] at hz
      subst hz
      refine Road.if_eq 47 54 bEq_d47 rfl (fun q => absurd q (by decide)) (fun hc47 => ?_)
      refine Road.iconst 50 (1 : Int32) bEq_d50 rfl ?_
      refine Road.goto 51 55 bEq_d51 rfl ?_
      exact Road.iret 55 1 bEq_d55 (t := .boolean) rfl (by simp) rfl (by decide) (by decide) (fun σ' m => ⟨by rw [if_pos he], rfl⟩)
    · skip
      rw [if_neg (fun q => he (Road.bfs_inj S.2.2.2.2 S'.2.2.2.2 q))] at hz
      subst hz
      refine Road.if_eq 47 54 bEq_d47 rfl (fun hc47 => ?_) (fun q => absurd q (by decide))
      refine Road.iconst 54 (0 : Int32) bEq_d54 rfl ?_
      exact Road.iret 55 0 bEq_d55 (t := .boolean) rfl (by simp) rfl (by decide) (by decide) (fun σ' m => ⟨by rw [if_neg he], rfl⟩)
  · skip
    refine Road.iconst 5 (1 : Int32) bEq_d5 rfl ?_
    have he : cs = ds := by have q := Value.ref.inj hc2; subst q; exact S.uniq S'
    exact Road.iret 6 1 bEq_d6 (t := .boolean) rfl (by simp) rfl (by decide) (by decide) (fun σ' m => ⟨by rw [if_pos he], rfl⟩)
def bRec : Road.Bdy := (⟨"java/lang/Record", "<init>", "()V"⟩, jdk_30_method_1_code, 1, none, { frames := 1, cells := 0, slots := 0, locals := 12 })
theorem bRec_d0 : decode bRec.bs 0 = .ok (.aload_n 0, 1) := by decide +kernel
theorem bRec_d1 : decode bRec.bs 1 = .ok (.invokespecial 1, 3) := by decide +kernel
theorem bRec_d4 : decode bRec.bs 4 = .ok (.return_, 1) := by decide +kernel
theorem bRec_pd : parseMethodDescriptor "()V" = some ⟨[], none⟩ := by decide +kernel
theorem bRec_pn : plainFor bRec.y = true := plainFor_of_name (show plainName "java/lang/Record" = true from by first | (simp [plainName, overriddenIn]; done) | decide +kernel)
theorem cRec (l : Launch) (Z : State) (a0 : Array Value) (hw : ∀ d ∈ tables_1, d.before a0 Z = true) (n0 : Nat) (hEW : EW Z a0 consts_1) (a : Addr) (h0 : Heap) (σ : Addr → Prop) :
    Road.Con l Z consts_1 n0 true bRec [] σ #[(.ref a)] h0 (fun v h2 _ => v = none ∧ h0 = h2) := by
  refine Road.Con.of bRec_pn hEW #[.val (.ref a)] (fun m => Road.ent (Road.laid1 rfl Road.laid0) (k := 0) rfl rfl) ?_
  intro D hD
  refine Road.aloadN 0 bRec_d0 rfl ?_
  refine Road.initObj 1 bRec_d1 (wI hw 59 rfl) (wI hw 26 rfl) (wI hw 27 rfl) 0 rfl rfl (by decide) (by decide) ?_
  exact Road.ret 4 bRec_d4 rfl (by decide) (by decide) (fun σ' m => ⟨rfl, rfl⟩)
def bAbI : Road.Bdy := (⟨"java/lang/AbstractStringBuilder", "<init>", "(I)V"⟩, jdk_68_method_2_code, 2, none, { frames := 1, cells := 1, slots := 16, locals := 14 })
theorem bAbI_d0 : decode bAbI.bs 0 = .ok (.aload_n 0, 1) := by decide +kernel
theorem bAbI_d1 : decode bAbI.bs 1 = .ok (.invokespecial 3, 3) := by decide +kernel
theorem bAbI_d4 : decode bAbI.bs 4 = .ok (.getstatic 18, 3) := by decide +kernel
theorem bAbI_d7 : decode bAbI.bs 7 = .ok (.ifCond .eq 18, 3) := by decide +kernel
theorem bAbI_d10 : decode bAbI.bs 10 = .ok (.aload_n 0, 1) := by decide +kernel
theorem bAbI_d11 : decode bAbI.bs 11 = .ok (.iload_n 1, 1) := by decide +kernel
theorem bAbI_d12 : decode bAbI.bs 12 = .ok (.newarray .byte, 2) := by decide +kernel
theorem bAbI_d14 : decode bAbI.bs 14 = .ok (.putfield 15, 3) := by decide +kernel
theorem bAbI_d17 : decode bAbI.bs 17 = .ok (.aload_n 0, 1) := by decide +kernel
theorem bAbI_d18 : decode bAbI.bs 18 = .ok (.iconst 0, 1) := by decide +kernel
theorem bAbI_d19 : decode bAbI.bs 19 = .ok (.putfield 22, 3) := by decide +kernel
theorem bAbI_d22 : decode bAbI.bs 22 = .ok (.goto 16, 3) := by decide +kernel
theorem bAbI_d25 : decode bAbI.bs 25 = .ok (.aload_n 0, 1) := by decide +kernel
theorem bAbI_d26 : decode bAbI.bs 26 = .ok (.iload_n 1, 1) := by decide +kernel
theorem bAbI_d27 : decode bAbI.bs 27 = .ok (.invokestatic 26, 3) := by decide +kernel
theorem bAbI_d30 : decode bAbI.bs 30 = .ok (.putfield 15, 3) := by decide +kernel
theorem bAbI_d33 : decode bAbI.bs 33 = .ok (.aload_n 0, 1) := by decide +kernel
theorem bAbI_d34 : decode bAbI.bs 34 = .ok (.iconst 1, 1) := by decide +kernel
theorem bAbI_d35 : decode bAbI.bs 35 = .ok (.putfield 22, 3) := by decide +kernel
theorem bAbI_d38 : decode bAbI.bs 38 = .ok (.return_, 1) := by decide +kernel
theorem bAbI_pd : parseMethodDescriptor "(I)V" = some ⟨[.int], none⟩ := by decide +kernel
theorem bAbI_pn : plainFor bAbI.y = true := plainFor_of_name (show plainName "java/lang/AbstractStringBuilder" = true from by first | (simp [plainName, overriddenIn]; done) | decide +kernel)
theorem cAbI (l : Launch) (Z : State) (a0 : Array Value) (hw : ∀ d ∈ tables_1, d.before a0 Z = true) (n0 : Nat) (hEW : EW Z a0 consts_1) (q : Addr) (h0 : Heap) (σ : Addr → Prop) (E : Exa Z h0 q Road.SB) (Fc : Fld Z h0 q Road.AB "coder" "B" (.int 0)) (Fv : Fld Z h0 q Road.AB "value" "[B" .null) (Fn : Fld Z h0 q Road.AB "count" "I" (.int 0)) (sq : σ q) (cp : Int32) (Hc : Sta Z Z.heap Road.SN "COMPACT_STRINGS" "Z" (.int cp)) (hcp : ¬ cp = 0) :
    Road.Con l Z consts_1 n0 true bAbI [] σ #[(.ref q), (.int (16 : Int32))] h0 (fun v h2 s2 => v = none ∧ Keep h0 h2 [q] ∧ ∃ b, Road.Sb Z h2 q b [] 16 ∧ h0.size ≤ b ∧ s2 b ∧ Exa Z h2 b "[B") := by
  refine Road.Con.of bAbI_pn hEW #[.val (.ref q), .val (.int (16 : Int32))] (fun m => Road.ent (Road.laid1 rfl (Road.laid1 rfl Road.laid0)) (k := 0) rfl rfl) ?_
  intro D hD
  refine Road.aloadN 0 bAbI_d0 rfl ?_
  refine Road.initObj 1 bAbI_d1 (wI hw 81 rfl) (wI hw 26 rfl) (wI hw 27 rfl) 0 rfl rfl (by decide) (by decide) ?_
  refine Road.getstatic 4 bAbI_d4 (wI hw 82 rfl) Via.refl Hc ?_
  refine Road.if_eq 7 25 bAbI_d7 rfl (fun q => absurd q hcp) (fun hc7 => ?_)
  refine Road.aloadN 10 bAbI_d10 rfl ?_
  refine Road.iloadN 11 bAbI_d11 rfl ?_
  refine Road.newarrayE 12 .byte 16 16 "[B" rfl bAbI_d12 rfl (wI hw 4 rfl) (by decide) (by decide) (by decide) (ce' := 1) (sl' := 16) rfl rfl (by decide) (by decide) ?_
  intro b h_1 σ_2 g_3 K_4 lt_5 m_6 s_7 Ab EB
  have ne_q_b : q ≠ b := Nat.ne_of_lt (Nat.lt_of_lt_of_le E.lt (Nat.le_of_eq g_3.symm))
  replace E := E.keep K_4
  replace Fc := Fc.keep K_4 nin0
  replace Fv := Fv.keep K_4 nin0
  replace Fn := Fn.keep K_4 nin0
  replace sq := m_6 _ sq
  refine Road.putfield 14 bAbI_d14 (wI hw 83 rfl) Via.refl Fv E (Or.inl (wI hw 84 rfl)) (wI hw 70 rfl) (ty := (.array .byte)) (by decide) rfl rfl sq ?_
  intro h_10 W_8 K_9
  replace Fv := Fv.same W_8
  replace Fc := Fc.other W_8 (Or.inr (slot_ne (Or.inl (wI hw 86 rfl)) (Or.inl (wI hw 84 rfl)) (by decide) (t := .byte) (by decide) (t' := (.array .byte)) (by decide)))
  replace Fn := Fn.other W_8 (Or.inr (slot_ne (Or.inl (wI hw 108 rfl)) (Or.inl (wI hw 84 rfl)) (by decide) (t := .int) (by decide) (t' := (.array .byte)) (by decide)))
  replace E := E.keep K_9
  replace Ab := Ab.keep K_9 (ninS (Ne.symm ne_q_b) nin0)
  replace EB := EB.keep K_9
  refine Road.aloadN 17 bAbI_d17 rfl ?_
  refine Road.iconst 18 (0 : Int32) bAbI_d18 rfl ?_
  refine Road.putfield 19 bAbI_d19 (wI hw 85 rfl) Via.refl Fc E (Or.inl (wI hw 86 rfl)) (wI hw 70 rfl) (ty := .byte) (by decide) rfl rfl sq ?_
  intro h_13 W_11 K_12
  replace Fc := Fc.same W_11
  replace Fv := Fv.other W_11 (Or.inr (slot_ne (Or.inl (wI hw 84 rfl)) (Or.inl (wI hw 86 rfl)) (by decide) (t := (.array .byte)) (by decide) (t' := .byte) (by decide)))
  replace Fn := Fn.other W_11 (Or.inr (slot_ne (Or.inl (wI hw 108 rfl)) (Or.inl (wI hw 86 rfl)) (by decide) (t := .int) (by decide) (t' := .byte) (by decide)))
  replace E := E.keep K_12
  replace Ab := Ab.keep K_12 (ninS (Ne.symm ne_q_b) nin0)
  replace EB := EB.keep K_12
  refine Road.goto 22 38 bAbI_d22 rfl ?_
  exact Road.ret 38 bAbI_d38 rfl (by decide) (by decide) (fun σ' m => ⟨rfl, ((Road.keep_more K_4).trans K_9 (by simp)).trans K_12 (by simp), b, ⟨E, Fc, Fv, Fn, ⟨_, Ab, rfl⟩, by simp⟩, Nat.le_of_eq g_3.symm, m _ s_7, EB⟩)
def bSbI : Road.Bdy := (⟨"java/lang/StringBuilder", "<init>", "()V"⟩, jdk_67_method_1_code, 1, none, { frames := 2, cells := 1, slots := 16, locals := 27 })
theorem bSbI_d0 : decode bSbI.bs 0 = .ok (.aload_n 0, 1) := by decide +kernel
theorem bSbI_d1 : decode bSbI.bs 1 = .ok (.bipush 16, 2) := by decide +kernel
theorem bSbI_d3 : decode bSbI.bs 3 = .ok (.invokespecial 1, 3) := by decide +kernel
theorem bSbI_d6 : decode bSbI.bs 6 = .ok (.return_, 1) := by decide +kernel
theorem bSbI_pd : parseMethodDescriptor "()V" = some ⟨[], none⟩ := by decide +kernel
theorem bSbI_pn : plainFor bSbI.y = true := plainFor_of_name (show plainName "java/lang/StringBuilder" = true from by first | (simp [plainName, overriddenIn]; done) | decide +kernel)
theorem cSbI (l : Launch) (Z : State) (a0 : Array Value) (hw : ∀ d ∈ tables_1, d.before a0 Z = true) (n0 : Nat) (hEW : EW Z a0 consts_1) (q : Addr) (h0 : Heap) (σ : Addr → Prop) (E : Exa Z h0 q Road.SB) (Fc : Fld Z h0 q Road.AB "coder" "B" (.int 0)) (Fv : Fld Z h0 q Road.AB "value" "[B" .null) (Fn : Fld Z h0 q Road.AB "count" "I" (.int 0)) (sq : σ q) (cp : Int32) (Hc : Sta Z Z.heap Road.SN "COMPACT_STRINGS" "Z" (.int cp)) (hcp : ¬ cp = 0) :
    Road.Con l Z consts_1 n0 true bSbI [] σ #[(.ref q)] h0 (fun v h2 s2 => v = none ∧ Keep h0 h2 [q] ∧ ∃ b, Road.Sb Z h2 q b [] 16 ∧ h0.size ≤ b ∧ s2 b ∧ Exa Z h2 b "[B") := by
  refine Road.Con.of bSbI_pn hEW #[.val (.ref q)] (fun m => Road.ent (Road.laid1 rfl Road.laid0) (k := 0) rfl rfl) ?_
  intro D hD
  refine Road.aloadN 0 bSbI_d0 rfl ?_
  refine Road.bipush 1 (16 : Int32) bSbI_d1 rfl ?_
  refine Road.callI (B' := bAbI) (a := q) 3 (argsL := [(.int (16 : Int32))]) (rest := []) 0 bSbI_d3 (wI hw 75 rfl) (wI hw 76 rfl) (wI hw 79 rfl) (wI hw 80 rfl) rfl rfl (by decide) (cAbI l Z a0 hw n0 hEW q h0 σ E Fc Fv Fn sq cp Hc hcp) (lenOf bAbI_pd rfl) rfl rfl rfl (by decide) (by decide) (ce' := 1) (sl' := 16) rfl rfl (by decide) (by decide) ?_
  rintro _ h_1 σ_2 m_3 ⟨rfl, K_4, b, S, gb, sb, EB⟩
  exact Road.ret 6 bSbI_d6 rfl (by decide) (by decide) (fun σ' m => ⟨rfl, K_4, b, S, gb, m _ sb, EB⟩)
def bEn0 : Road.Bdy := (⟨"java/lang/AbstractStringBuilder", "ensureCapacityInternal", "(I)V"⟩, jdk_68_method_9_code, 3, none, { frames := 0, cells := 0, slots := 0, locals := 0 })
theorem bEn0_d0 : decode bEn0.bs 0 = .ok (.aload_n 0, 1) := by decide +kernel
theorem bEn0_d1 : decode bEn0.bs 1 = .ok (.getfield 15, 3) := by decide +kernel
theorem bEn0_d4 : decode bEn0.bs 4 = .ok (.arraylength, 1) := by decide +kernel
theorem bEn0_d5 : decode bEn0.bs 5 = .ok (.aload_n 0, 1) := by decide +kernel
theorem bEn0_d6 : decode bEn0.bs 6 = .ok (.getfield 22, 3) := by decide +kernel
theorem bEn0_d9 : decode bEn0.bs 9 = .ok (.ishr, 1) := by decide +kernel
theorem bEn0_d10 : decode bEn0.bs 10 = .ok (.istore_n 2, 1) := by decide +kernel
theorem bEn0_d11 : decode bEn0.bs 11 = .ok (.iload_n 1, 1) := by decide +kernel
theorem bEn0_d12 : decode bEn0.bs 12 = .ok (.iload_n 2, 1) := by decide +kernel
theorem bEn0_d13 : decode bEn0.bs 13 = .ok (.isub, 1) := by decide +kernel
theorem bEn0_d14 : decode bEn0.bs 14 = .ok (.ifCond .le 24, 3) := by decide +kernel
theorem bEn0_d17 : decode bEn0.bs 17 = .ok (.aload_n 0, 1) := by decide +kernel
theorem bEn0_d18 : decode bEn0.bs 18 = .ok (.aload_n 0, 1) := by decide +kernel
theorem bEn0_d19 : decode bEn0.bs 19 = .ok (.getfield 15, 3) := by decide +kernel
theorem bEn0_d22 : decode bEn0.bs 22 = .ok (.aload_n 0, 1) := by decide +kernel
theorem bEn0_d23 : decode bEn0.bs 23 = .ok (.iload_n 1, 1) := by decide +kernel
theorem bEn0_d24 : decode bEn0.bs 24 = .ok (.invokevirtual 104, 3) := by decide +kernel
theorem bEn0_d27 : decode bEn0.bs 27 = .ok (.aload_n 0, 1) := by decide +kernel
theorem bEn0_d28 : decode bEn0.bs 28 = .ok (.getfield 22, 3) := by decide +kernel
theorem bEn0_d31 : decode bEn0.bs 31 = .ok (.ishl, 1) := by decide +kernel
theorem bEn0_d32 : decode bEn0.bs 32 = .ok (.invokestatic 108, 3) := by decide +kernel
theorem bEn0_d35 : decode bEn0.bs 35 = .ok (.putfield 15, 3) := by decide +kernel
theorem bEn0_d38 : decode bEn0.bs 38 = .ok (.return_, 1) := by decide +kernel
theorem bEn0_pd : parseMethodDescriptor "(I)V" = some ⟨[.int], none⟩ := by decide +kernel
theorem bEn0_pn : plainFor bEn0.y = true := plainFor_of_name (show plainName "java/lang/AbstractStringBuilder" = true from by first | (simp [plainName, overriddenIn]; done) | decide +kernel)
theorem cEn0 (l : Launch) (Z : State) (a0 : Array Value) (hw : ∀ d ∈ tables_1, d.before a0 Z = true) (n0 : Nat) (hEW : EW Z a0 consts_1) (q b : Addr) (cs : List Int32) (N : Nat) (m : Nat) (h0 : Heap) (σ : Addr → Prop) (S : Road.Sb Z h0 q b cs N) (hm : m ≤ N) :
    Road.Con l Z consts_1 n0 true bEn0 [] σ #[(.ref q), (.int (Nat.toInt32 m))] h0 (fun v h2 _ => v = none ∧ h0 = h2) := by
  have hN := S.small
  have hle := S.le
  obtain ⟨E, Fc, Fv, Fn, ⟨r, Ab, hr⟩, hlt⟩ := S
  refine Road.Con.of bEn0_pn hEW #[.val (.ref q), .val (.int (Nat.toInt32 m)), .unset] (fun m => Road.ent (Road.laid1 rfl (Road.laid1 rfl Road.laid0)) (k := 1) rfl rfl) ?_
  intro D hD
  refine Road.aloadN 0 bEn0_d0 rfl ?_
  refine Road.getfield 1 bEn0_d1 (wI hw 83 rfl) Via.refl Fv ?_
  refine Road.alen 4 (Nat.toInt32 N) bEn0_d4 Ab (n := N) (by rw [List.length_append, List.length_map]; exact hr) rfl ?_
  refine Road.aloadN 5 bEn0_d5 rfl ?_
  refine Road.getfield 6 bEn0_d6 (wI hw 85 rfl) Via.refl Fc ?_
  refine Road.ishr 9 bEn0_d9 ?_
  refine Road.nameI ?_
  intro z_1 hz_1
  obtain rfl : z_1 = (Nat.toInt32 N) := by rw [hz_1]; exact Road.shr0 _
  refine Road.istoreN 10 #[.val (.ref q), .val (.int (Nat.toInt32 m)), .val (.int (Nat.toInt32 N))] bEn0_d10 rfl ?_
  refine Road.iloadN 11 bEn0_d11 rfl ?_
  refine Road.iloadN 12 bEn0_d12 rfl ?_
  refine Road.isub 13 bEn0_d13 ?_
  refine Road.if_le 14 38 bEn0_d14 rfl (fun hc14 => ?_) (fun q => absurd q (by rw [Road.gsub (by omega) hN]; omega))
  exact Road.ret 38 bEn0_d38 rfl (by decide) (by decide) (fun σ' m => ⟨rfl, rfl⟩)
def bCod : Road.Bdy := (⟨"java/lang/String", "coder", "()B"⟩, jdk_42_method_152_code, 1, (some .byte), { frames := 0, cells := 0, slots := 0, locals := 0 })
theorem bCod_d0 : decode bCod.bs 0 = .ok (.getstatic 38, 3) := by decide +kernel
theorem bCod_d3 : decode bCod.bs 3 = .ok (.ifCond .eq 10, 3) := by decide +kernel
theorem bCod_d6 : decode bCod.bs 6 = .ok (.aload_n 0, 1) := by decide +kernel
theorem bCod_d7 : decode bCod.bs 7 = .ok (.getfield 15, 3) := by decide +kernel
theorem bCod_d10 : decode bCod.bs 10 = .ok (.goto 4, 3) := by decide +kernel
theorem bCod_d13 : decode bCod.bs 13 = .ok (.iconst 1, 1) := by decide +kernel
theorem bCod_d14 : decode bCod.bs 14 = .ok (.ireturn, 1) := by decide +kernel
theorem bCod_pd : parseMethodDescriptor "()B" = some ⟨[], (some .byte)⟩ := by decide +kernel
theorem bCod_pn : plainFor bCod.y = true := plainFor_of_name (show plainName "java/lang/String" = true from by first | (simp [plainName, overriddenIn]; done) | decide +kernel)
theorem cCod (l : Launch) (Z : State) (a0 : Array Value) (hw : ∀ d ∈ tables_1, d.before a0 Z = true) (n0 : Nat) (hEW : EW Z a0 consts_1) (a : Addr) (h0 : Heap) (σ : Addr → Prop) (Fc : Fld Z h0 a Road.SN "coder" "B" (.int 0)) (cp : Int32) (Hc : Sta Z Z.heap Road.SN "COMPACT_STRINGS" "Z" (.int cp)) (hcp : ¬ cp = 0) :
    Road.Con l Z consts_1 n0 true bCod [] σ #[(.ref a)] h0 (fun v h2 _ => v = some (.int 0) ∧ h0 = h2) := by
  refine Road.Con.of bCod_pn hEW #[.val (.ref a)] (fun m => Road.ent (Road.laid1 rfl Road.laid0) (k := 0) rfl rfl) ?_
  intro D hD
  refine Road.getstatic 0 bCod_d0 (wI hw 12 rfl) Via.refl Hc ?_
  refine Road.if_eq 3 13 bCod_d3 rfl (fun q => absurd q hcp) (fun hc3 => ?_)
  refine Road.aloadN 6 bCod_d6 rfl ?_
  refine Road.getfield 7 bCod_d7 (wI hw 29 rfl) Via.refl Fc ?_
  refine Road.goto 10 14 bCod_d10 rfl ?_
  exact Road.iret 14 0 bCod_d14 (t := .byte) rfl (by simp) rfl (by decide) (by decide) (fun σ' m => ⟨rfl, rfl⟩)
def bInf : Road.Bdy := (⟨"java/lang/AbstractStringBuilder", "inflateIfNeededFor", "(Ljava/lang/String;)V"⟩, jdk_68_method_71_code, 2, none, { frames := 1, cells := 0, slots := 0, locals := 13 })
theorem bInf_d0 : decode bInf.bs 0 = .ok (.getstatic 18, 3) := by decide +kernel
theorem bInf_d3 : decode bInf.bs 3 = .ok (.ifCond .eq 18, 3) := by decide +kernel
theorem bInf_d6 : decode bInf.bs 6 = .ok (.aload_n 0, 1) := by decide +kernel
theorem bInf_d7 : decode bInf.bs 7 = .ok (.getfield 22, 3) := by decide +kernel
theorem bInf_d10 : decode bInf.bs 10 = .ok (.aload_n 1, 1) := by decide +kernel
theorem bInf_d11 : decode bInf.bs 11 = .ok (.invokevirtual 40, 3) := by decide +kernel
theorem bInf_d14 : decode bInf.bs 14 = .ok (.if_icmp .eq 7, 3) := by decide +kernel
theorem bInf_d17 : decode bInf.bs 17 = .ok (.aload_n 0, 1) := by decide +kernel
theorem bInf_d18 : decode bInf.bs 18 = .ok (.invokevirtual 195, 3) := by decide +kernel
theorem bInf_d21 : decode bInf.bs 21 = .ok (.return_, 1) := by decide +kernel
theorem bInf_pd : parseMethodDescriptor "(Ljava/lang/String;)V" = some ⟨[(.object "java/lang/String")], none⟩ := by decide +kernel
theorem bInf_pn : plainFor bInf.y = true := plainFor_of_name (show plainName "java/lang/AbstractStringBuilder" = true from by first | (simp [plainName, overriddenIn]; done) | decide +kernel)
theorem cInf (l : Launch) (Z : State) (a0 : Array Value) (hw : ∀ d ∈ tables_1, d.before a0 Z = true) (n0 : Nat) (hEW : EW Z a0 consts_1) (q s sb : Addr) (ds : List Int32) (h0 : Heap) (σ : Addr → Prop) (Fc : Fld Z h0 q Road.AB "coder" "B" (.int 0)) (T : Road.Str Z h0 s sb ds) (cp : Int32) (Hc : Sta Z Z.heap Road.SN "COMPACT_STRINGS" "Z" (.int cp)) (hcp : ¬ cp = 0) :
    Road.Con l Z consts_1 n0 true bInf [] σ #[(.ref q), (.ref s)] h0 (fun v h2 _ => v = none ∧ h0 = h2) := by
  refine Road.Con.of bInf_pn hEW #[.val (.ref q), .val (.ref s)] (fun m => Road.ent (Road.laid1 rfl (Road.laid1 rfl Road.laid0)) (k := 0) rfl rfl) ?_
  intro D hD
  refine Road.getstatic 0 bInf_d0 (wI hw 82 rfl) Via.refl Hc ?_
  refine Road.if_eq 3 21 bInf_d3 rfl (fun q => absurd q hcp) (fun hc3 => ?_)
  refine Road.aloadN 6 bInf_d6 rfl ?_
  refine Road.getfield 7 bInf_d7 (wI hw 85 rfl) Via.refl Fc ?_
  refine Road.aloadN 10 bInf_d10 rfl ?_
  refine Road.callV (B' := bCod) (a := s) 11 (argsL := []) (rest := [(.int (0 : Int32))]) "java/lang/String" 1 bInf_d11 (wI hw 124 rfl) (wI hw 103 rfl) (fun vm hz => Road.notFace_sib (args := #[]) (mv (s := D.s.setVm vm) hz (wI hw 100 rfl)) rfl) (wI hw 105 rfl) (wI hw 104 rfl) (wI hw 2 rfl) (wI hw 106 rfl) (by decide) T.1 (cCod l Z a0 hw n0 hEW s h0 σ T.2.1 cp Hc hcp) (lenOf bCod_pd rfl) rfl rfl rfl (by decide) (by decide) (ce' := 0) (sl' := 0) rfl rfl (by decide) (by decide) ?_
  rintro _ h_1 σ_2 m_3 ⟨rfl, rfl⟩
  refine Road.Go.weaken (σ' := σ) m_3 (Nat.le_refl _) (Nat.le_refl _) ?_
  refine Road.icmp_eq 14 21 bInf_d14 rfl (fun hc14 => ?_) (fun q => absurd q (by decide))
  exact Road.ret 21 bInf_d21 rfl (by decide) (by decide) (fun σ' m => ⟨rfl, rfl⟩)
def bGeB : Road.Bdy := (⟨"java/lang/String", "getBytes", "([BIB)V"⟩, jdk_42_method_147_code, 4, none, { frames := 1, cells := 0, slots := 0, locals := 18 })
theorem bGeB_d0 : decode bGeB.bs 0 = .ok (.aload_n 0, 1) := by decide +kernel
theorem bGeB_d1 : decode bGeB.bs 1 = .ok (.invokevirtual 335, 3) := by decide +kernel
theorem bGeB_d4 : decode bGeB.bs 4 = .ok (.iload_n 3, 1) := by decide +kernel
theorem bGeB_d5 : decode bGeB.bs 5 = .ok (.if_icmp .ne 23, 3) := by decide +kernel
theorem bGeB_d8 : decode bGeB.bs 8 = .ok (.aload_n 0, 1) := by decide +kernel
theorem bGeB_d9 : decode bGeB.bs 9 = .ok (.getfield 9, 3) := by decide +kernel
theorem bGeB_d12 : decode bGeB.bs 12 = .ok (.iconst 0, 1) := by decide +kernel
theorem bGeB_d13 : decode bGeB.bs 13 = .ok (.aload_n 1, 1) := by decide +kernel
theorem bGeB_d14 : decode bGeB.bs 14 = .ok (.iload_n 2, 1) := by decide +kernel
theorem bGeB_d15 : decode bGeB.bs 15 = .ok (.iload_n 3, 1) := by decide +kernel
theorem bGeB_d16 : decode bGeB.bs 16 = .ok (.ishl, 1) := by decide +kernel
theorem bGeB_d17 : decode bGeB.bs 17 = .ok (.aload_n 0, 1) := by decide +kernel
theorem bGeB_d18 : decode bGeB.bs 18 = .ok (.getfield 9, 3) := by decide +kernel
theorem bGeB_d21 : decode bGeB.bs 21 = .ok (.arraylength, 1) := by decide +kernel
theorem bGeB_d22 : decode bGeB.bs 22 = .ok (.invokestatic 212, 3) := by decide +kernel
theorem bGeB_d25 : decode bGeB.bs 25 = .ok (.goto 18, 3) := by decide +kernel
theorem bGeB_d28 : decode bGeB.bs 28 = .ok (.aload_n 0, 1) := by decide +kernel
theorem bGeB_d29 : decode bGeB.bs 29 = .ok (.getfield 9, 3) := by decide +kernel
theorem bGeB_d32 : decode bGeB.bs 32 = .ok (.iconst 0, 1) := by decide +kernel
theorem bGeB_d33 : decode bGeB.bs 33 = .ok (.aload_n 1, 1) := by decide +kernel
theorem bGeB_d34 : decode bGeB.bs 34 = .ok (.iload_n 2, 1) := by decide +kernel
theorem bGeB_d35 : decode bGeB.bs 35 = .ok (.aload_n 0, 1) := by decide +kernel
theorem bGeB_d36 : decode bGeB.bs 36 = .ok (.getfield 9, 3) := by decide +kernel
theorem bGeB_d39 : decode bGeB.bs 39 = .ok (.arraylength, 1) := by decide +kernel
theorem bGeB_d40 : decode bGeB.bs 40 = .ok (.invokestatic 106, 3) := by decide +kernel
theorem bGeB_d43 : decode bGeB.bs 43 = .ok (.return_, 1) := by decide +kernel
theorem bGeB_pd : parseMethodDescriptor "([BIB)V" = some ⟨[(.array .byte), .int, .byte], none⟩ := by decide +kernel
theorem bGeB_pn : plainFor bGeB.y = true := plainFor_of_name (show plainName "java/lang/String" = true from by first | (simp [plainName, overriddenIn]; done) | decide +kernel)
theorem cGeB (l : Launch) (Z : State) (a0 : Array Value) (hw : ∀ d ∈ tables_1, d.before a0 Z = true) (n0 : Nat) (hEW : EW Z a0 consts_1) (s sb d : Addr) (ds : List Int32) (vd : List Value) (i : Nat) (h0 : Heap) (σ : Addr → Prop) (T : Road.Str Z h0 s sb ds) (Ad : Road.Ary Z h0 d .byte vd) (hi : i + ds.length ≤ vd.length) (sd : σ d) (cp : Int32) (Hc : Sta Z Z.heap Road.SN "COMPACT_STRINGS" "Z" (.int cp)) (hcp : ¬ cp = 0) :
    Road.Con l Z consts_1 n0 true bGeB [] σ #[(.ref s), (.ref d), (.int (Nat.toInt32 i)), (.int (0 : Int32))] h0 (fun v h2 _ => v = none ∧ Keep h0 h2 [d] ∧ Road.Ary Z h2 d .byte (vd.take i ++ ((ds.map Road.byt).drop 0).take ds.length ++ vd.drop (i + ds.length))) := by
  have hsm := Ad.small
  refine Road.Con.of bGeB_pn hEW #[.val (.ref s), .val (.ref d), .val (.int (Nat.toInt32 i)), .val (.int (0 : Int32))] (fun m => Road.ent (Road.laid1 rfl (Road.laid1 rfl (Road.laid1 rfl (Road.laid1 rfl Road.laid0)))) (k := 0) rfl rfl) ?_
  intro D hD
  refine Road.aloadN 0 bGeB_d0 rfl ?_
  refine Road.callV (B' := bCod) (a := s) 1 (argsL := []) (rest := []) "java/lang/String" 0 bGeB_d1 (wI hw 102 rfl) (wI hw 103 rfl) (fun vm hz => Road.notFace_sib (args := #[]) (mv (s := D.s.setVm vm) hz (wI hw 100 rfl)) rfl) (wI hw 105 rfl) (wI hw 104 rfl) (wI hw 2 rfl) (wI hw 106 rfl) (by decide) T.1 (cCod l Z a0 hw n0 hEW s h0 σ T.2.1 cp Hc hcp) (lenOf bCod_pd rfl) rfl rfl rfl (by decide) (by decide) (ce' := 0) (sl' := 0) rfl rfl (by decide) (by decide) ?_
  rintro _ h_1 σ_2 m_3 ⟨rfl, rfl⟩
  refine Road.Go.weaken (σ' := σ) m_3 (Nat.le_refl _) (Nat.le_refl _) ?_
  refine Road.iloadN 4 bGeB_d4 rfl ?_
  refine Road.icmp_ne 5 28 bGeB_d5 rfl (fun q => absurd q (by decide)) (fun hc5 => ?_)
  refine Road.aloadN 8 bGeB_d8 rfl ?_
  refine Road.getfield 9 bGeB_d9 (wI hw 28 rfl) Via.refl T.2.2.1 ?_
  refine Road.iconst 12 (0 : Int32) bGeB_d12 rfl ?_
  refine Road.aloadN 13 bGeB_d13 rfl ?_
  refine Road.iloadN 14 bGeB_d14 rfl ?_
  refine Road.iloadN 15 bGeB_d15 rfl ?_
  refine Road.ishl 16 bGeB_d16 ?_
  refine Road.nameI ?_
  intro z_5 hz_5
  obtain rfl : z_5 = (Nat.toInt32 i) := by rw [hz_5]; exact Road.shl0 _
  refine Road.aloadN 17 bGeB_d17 rfl ?_
  refine Road.getfield 18 bGeB_d18 (wI hw 28 rfl) Via.refl T.2.2.1 ?_
  refine Road.alen 21 (Nat.toInt32 ds.length) bGeB_d21 T.2.2.2.1 (n := ds.length) (List.length_map _) rfl ?_
  refine Road.acopy 22 0 i ds.length 0 bGeB_d22 (wI hw 130 rfl) (wI hw 133 rfl) (wI hw 131 rfl) (wI hw 132 rfl) T.2.2.2.1 Ad rfl rfl (Road.n32 (by omega)) (Road.n32 (by omega)) (by rw [List.length_map]; omega) hi sd rfl rfl (by decide) (by decide) ?_
  intro h_6 K_7 Ae
  refine Road.goto 25 43 bGeB_d25 rfl ?_
  exact Road.ret 43 bGeB_d43 rfl (by decide) (by decide) (fun σ' m => ⟨rfl, K_7, Ae⟩)
def bPut : Road.Bdy := (⟨"java/lang/AbstractStringBuilder", "putStringAt", "(ILjava/lang/String;)V"⟩, jdk_68_method_73_code, 3, none, { frames := 2, cells := 0, slots := 0, locals := 33 })
theorem bPut_d0 : decode bPut.bs 0 = .ok (.aload_n 0, 1) := by decide +kernel
theorem bPut_d1 : decode bPut.bs 1 = .ok (.aload_n 2, 1) := by decide +kernel
theorem bPut_d2 : decode bPut.bs 2 = .ok (.invokevirtual 397, 3) := by decide +kernel
theorem bPut_d5 : decode bPut.bs 5 = .ok (.aload_n 2, 1) := by decide +kernel
theorem bPut_d6 : decode bPut.bs 6 = .ok (.aload_n 0, 1) := by decide +kernel
theorem bPut_d7 : decode bPut.bs 7 = .ok (.getfield 15, 3) := by decide +kernel
theorem bPut_d10 : decode bPut.bs 10 = .ok (.iload_n 1, 1) := by decide +kernel
theorem bPut_d11 : decode bPut.bs 11 = .ok (.aload_n 0, 1) := by decide +kernel
theorem bPut_d12 : decode bPut.bs 12 = .ok (.getfield 22, 3) := by decide +kernel
theorem bPut_d15 : decode bPut.bs 15 = .ok (.invokevirtual 399, 3) := by decide +kernel
theorem bPut_d18 : decode bPut.bs 18 = .ok (.return_, 1) := by decide +kernel
theorem bPut_pd : parseMethodDescriptor "(ILjava/lang/String;)V" = some ⟨[.int, (.object "java/lang/String")], none⟩ := by decide +kernel
theorem bPut_pn : plainFor bPut.y = true := plainFor_of_name (show plainName "java/lang/AbstractStringBuilder" = true from by first | (simp [plainName, overriddenIn]; done) | decide +kernel)
theorem cPut (l : Launch) (Z : State) (a0 : Array Value) (hw : ∀ d ∈ tables_1, d.before a0 Z = true) (n0 : Nat) (hEW : EW Z a0 consts_1) (q b : Addr) (cs : List Int32) (N : Nat) (s sb : Addr) (ds : List Int32) (h0 : Heap) (σ : Addr → Prop) (S : Road.Sb Z h0 q b cs N) (T : Road.Str Z h0 s sb ds) (hm : cs.length + ds.length ≤ N) (sb_ : σ b) (cp : Int32) (Hc : Sta Z Z.heap Road.SN "COMPACT_STRINGS" "Z" (.int cp)) (hcp : ¬ cp = 0) :
    Road.Con l Z consts_1 n0 true bPut [] σ #[(.ref q), (.int (Nat.toInt32 cs.length)), (.ref s)] h0 (fun v h2 _ => v = none ∧ Keep h0 h2 [b] ∧ ∃ r, Road.Ary Z h2 b .byte ((cs ++ ds).map Road.byt ++ r) ∧ (cs ++ ds).length + r.length = N) := by
  have hN := S.small
  have hle := S.le
  obtain ⟨E, Fc, Fv, Fn, ⟨r, Ab, hr⟩, hlt⟩ := S
  refine Road.Con.of bPut_pn hEW #[.val (.ref q), .val (.int (Nat.toInt32 cs.length)), .val (.ref s)] (fun m => Road.ent (Road.laid1 rfl (Road.laid1 rfl (Road.laid1 rfl Road.laid0))) (k := 0) rfl rfl) ?_
  intro D hD
  refine Road.aloadN 0 bPut_d0 rfl ?_
  refine Road.aloadN 1 bPut_d1 rfl ?_
  refine Road.callP (B' := bInf) (a := q) 2 (argsL := [(.ref s)]) (rest := []) "java/lang/StringBuilder" 0 bPut_d2 (wI hw 119 rfl) (wI hw 121 rfl) (wI hw 122 rfl) (wI hw 120 rfl) (wI hw 79 rfl) (wI hw 123 rfl) (by decide) E (cInf l Z a0 hw n0 hEW q s sb ds h0 σ Fc T cp Hc hcp) (lenOf bInf_pd rfl) rfl rfl rfl (by decide) (by decide) (ce' := 0) (sl' := 0) rfl rfl (by decide) (by decide) ?_
  rintro _ h_1 σ_2 m_3 ⟨rfl, rfl⟩
  refine Road.Go.weaken (σ' := σ) m_3 (Nat.le_refl _) (Nat.le_refl _) ?_
  refine Road.aloadN 5 bPut_d5 rfl ?_
  refine Road.aloadN 6 bPut_d6 rfl ?_
  refine Road.getfield 7 bPut_d7 (wI hw 83 rfl) Via.refl Fv ?_
  refine Road.iloadN 10 bPut_d10 rfl ?_
  refine Road.aloadN 11 bPut_d11 rfl ?_
  refine Road.getfield 12 bPut_d12 (wI hw 85 rfl) Via.refl Fc ?_
  refine Road.callV (B' := bGeB) (a := s) 15 (argsL := [(.ref b), (.int (Nat.toInt32 cs.length)), (.int (0 : Int32))]) (rest := []) "java/lang/String" 0 bPut_d15 (wI hw 125 rfl) (wI hw 126 rfl) (fun vm hz => Road.notFace_sib (args := #[]) (mv (s := D.s.setVm vm) hz (wI hw 100 rfl)) rfl) (wI hw 128 rfl) (wI hw 127 rfl) (wI hw 2 rfl) (wI hw 129 rfl) (by decide) T.1 (cGeB l Z a0 hw n0 hEW s sb b ds _ cs.length h0 σ T Ab (by rw [List.length_append, List.length_map]; omega) sb_ cp Hc hcp) (lenOf bGeB_pd rfl) rfl rfl rfl (by decide) (by decide) (ce' := 0) (sl' := 0) rfl rfl (by decide) (by decide) ?_
  rintro _ h_5 σ_6 m_7 ⟨rfl, K_8, A2⟩
  rw [Road.put_str _ _ _ (by omega)] at A2
  exact Road.ret 18 bPut_d18 rfl (by decide) (by decide) (fun σ' m => ⟨rfl, K_8, _, A2, by rw [List.length_append, List.length_drop]; omega⟩)
def bLen : Road.Bdy := (⟨"java/lang/String", "length", "()I"⟩, jdk_42_method_54_code, 1, (some .int), { frames := 1, cells := 0, slots := 0, locals := 13 })
theorem bLen_d0 : decode bLen.bs 0 = .ok (.aload_n 0, 1) := by decide +kernel
theorem bLen_d1 : decode bLen.bs 1 = .ok (.getfield 9, 3) := by decide +kernel
theorem bLen_d4 : decode bLen.bs 4 = .ok (.arraylength, 1) := by decide +kernel
theorem bLen_d5 : decode bLen.bs 5 = .ok (.aload_n 0, 1) := by decide +kernel
theorem bLen_d6 : decode bLen.bs 6 = .ok (.invokevirtual 335, 3) := by decide +kernel
theorem bLen_d9 : decode bLen.bs 9 = .ok (.ishr, 1) := by decide +kernel
theorem bLen_d10 : decode bLen.bs 10 = .ok (.ireturn, 1) := by decide +kernel
theorem bLen_pd : parseMethodDescriptor "()I" = some ⟨[], (some .int)⟩ := by decide +kernel
theorem bLen_pn : plainFor bLen.y = true := plainFor_of_name (show plainName "java/lang/String" = true from by first | (simp [plainName, overriddenIn]; done) | decide +kernel)
theorem cLen (l : Launch) (Z : State) (a0 : Array Value) (hw : ∀ d ∈ tables_1, d.before a0 Z = true) (n0 : Nat) (hEW : EW Z a0 consts_1) (a b : Addr) (cs : List Int32) (h0 : Heap) (σ : Addr → Prop) (S : Road.Str Z h0 a b cs) (cp : Int32) (Hc : Sta Z Z.heap Road.SN "COMPACT_STRINGS" "Z" (.int cp)) (hcp : ¬ cp = 0) :
    Road.Con l Z consts_1 n0 true bLen [] σ #[(.ref a)] h0 (fun v h2 _ => v = some (.int (Nat.toInt32 cs.length)) ∧ h0 = h2) := by
  refine Road.Con.of bLen_pn hEW #[.val (.ref a)] (fun m => Road.ent (Road.laid1 rfl Road.laid0) (k := 0) rfl rfl) ?_
  intro D hD
  refine Road.aloadN 0 bLen_d0 rfl ?_
  refine Road.getfield 1 bLen_d1 (wI hw 28 rfl) Via.refl S.2.2.1 ?_
  refine Road.alen 4 (Nat.toInt32 cs.length) bLen_d4 S.2.2.2.1 (n := cs.length) (List.length_map _) rfl ?_
  refine Road.aloadN 5 bLen_d5 rfl ?_
  refine Road.callV (B' := bCod) (a := a) 6 (argsL := []) (rest := [(.int (Nat.toInt32 cs.length))]) "java/lang/String" 1 bLen_d6 (wI hw 102 rfl) (wI hw 103 rfl) (fun vm hz => Road.notFace_sib (args := #[]) (mv (s := D.s.setVm vm) hz (wI hw 100 rfl)) rfl) (wI hw 105 rfl) (wI hw 104 rfl) (wI hw 2 rfl) (wI hw 106 rfl) (by decide) S.1 (cCod l Z a0 hw n0 hEW a h0 σ S.2.1 cp Hc hcp) (lenOf bCod_pd rfl) rfl rfl rfl (by decide) (by decide) (ce' := 0) (sl' := 0) rfl rfl (by decide) (by decide) ?_
  rintro _ h_1 σ_2 m_3 ⟨rfl, rfl⟩
  refine Road.Go.weaken (σ' := σ) m_3 (Nat.le_refl _) (Nat.le_refl _) ?_
  refine Road.ishr 9 bLen_d9 ?_
  exact Road.iretI 10 bLen_d10 rfl (by decide) (by decide) (fun σ' m => ⟨by rw [Road.shr0], rfl⟩)
def bAp0 : Road.Bdy := (⟨"java/lang/AbstractStringBuilder", "append", "(Ljava/lang/String;)Ljava/lang/AbstractStringBuilder;"⟩, jdk_68_method_22_code, 3, (some (.object "java/lang/AbstractStringBuilder")), { frames := 3, cells := 0, slots := 0, locals := 48 })
theorem bAp0_d0 : decode bAp0.bs 0 = .ok (.aload_n 1, 1) := by decide +kernel
theorem bAp0_d1 : decode bAp0.bs 1 = .ok (.ifnonnull 8, 3) := by decide +kernel
theorem bAp0_d4 : decode bAp0.bs 4 = .ok (.aload_n 0, 1) := by decide +kernel
theorem bAp0_d5 : decode bAp0.bs 5 = .ok (.invokevirtual 204, 3) := by decide +kernel
theorem bAp0_d8 : decode bAp0.bs 8 = .ok (.areturn, 1) := by decide +kernel
theorem bAp0_d9 : decode bAp0.bs 9 = .ok (.aload_n 1, 1) := by decide +kernel
theorem bAp0_d10 : decode bAp0.bs 10 = .ok (.invokevirtual 32, 3) := by decide +kernel
theorem bAp0_d13 : decode bAp0.bs 13 = .ok (.istore_n 2, 1) := by decide +kernel
theorem bAp0_d14 : decode bAp0.bs 14 = .ok (.aload_n 0, 1) := by decide +kernel
theorem bAp0_d15 : decode bAp0.bs 15 = .ok (.aload_n 0, 1) := by decide +kernel
theorem bAp0_d16 : decode bAp0.bs 16 = .ok (.getfield 79, 3) := by decide +kernel
theorem bAp0_d19 : decode bAp0.bs 19 = .ok (.iload_n 2, 1) := by decide +kernel
theorem bAp0_d20 : decode bAp0.bs 20 = .ok (.iadd, 1) := by decide +kernel
theorem bAp0_d21 : decode bAp0.bs 21 = .ok (.invokevirtual 100, 3) := by decide +kernel
theorem bAp0_d24 : decode bAp0.bs 24 = .ok (.aload_n 0, 1) := by decide +kernel
theorem bAp0_d25 : decode bAp0.bs 25 = .ok (.aload_n 0, 1) := by decide +kernel
theorem bAp0_d26 : decode bAp0.bs 26 = .ok (.getfield 79, 3) := by decide +kernel
theorem bAp0_d29 : decode bAp0.bs 29 = .ok (.aload_n 1, 1) := by decide +kernel
theorem bAp0_d30 : decode bAp0.bs 30 = .ok (.invokevirtual 208, 3) := by decide +kernel
theorem bAp0_d33 : decode bAp0.bs 33 = .ok (.aload_n 0, 1) := by decide +kernel
theorem bAp0_d34 : decode bAp0.bs 34 = .ok (.dup, 1) := by decide +kernel
theorem bAp0_d35 : decode bAp0.bs 35 = .ok (.getfield 79, 3) := by decide +kernel
theorem bAp0_d38 : decode bAp0.bs 38 = .ok (.iload_n 2, 1) := by decide +kernel
theorem bAp0_d39 : decode bAp0.bs 39 = .ok (.iadd, 1) := by decide +kernel
theorem bAp0_d40 : decode bAp0.bs 40 = .ok (.putfield 79, 3) := by decide +kernel
theorem bAp0_d43 : decode bAp0.bs 43 = .ok (.aload_n 0, 1) := by decide +kernel
theorem bAp0_d44 : decode bAp0.bs 44 = .ok (.areturn, 1) := by decide +kernel
theorem bAp0_pd : parseMethodDescriptor "(Ljava/lang/String;)Ljava/lang/AbstractStringBuilder;" = some ⟨[(.object "java/lang/String")], (some (.object "java/lang/AbstractStringBuilder"))⟩ := by decide +kernel
theorem bAp0_pn : plainFor bAp0.y = true := plainFor_of_name (show plainName "java/lang/AbstractStringBuilder" = true from by first | (simp [plainName, overriddenIn]; done) | decide +kernel)
theorem cAp0 (l : Launch) (Z : State) (a0 : Array Value) (hw : ∀ d ∈ tables_1, d.before a0 Z = true) (n0 : Nat) (hEW : EW Z a0 consts_1) (q b : Addr) (cs : List Int32) (N : Nat) (s sb : Addr) (ds : List Int32) (h0 : Heap) (σ : Addr → Prop) (S : Road.Sb Z h0 q b cs N) (T : Road.Str Z h0 s sb ds) (hm : cs.length + ds.length ≤ N) (sb_ : σ b) (sq : σ q) (cp : Int32) (Hc : Sta Z Z.heap Road.SN "COMPACT_STRINGS" "Z" (.int cp)) (hcp : ¬ cp = 0) :
    Road.Con l Z consts_1 n0 true bAp0 [] σ #[(.ref q), (.ref s)] h0 (fun v h2 s2 => v = some (.ref q) ∧ Keep h0 h2 [q, b] ∧ Road.Sb Z h2 q b (cs ++ ds) N) := by
  have S0 := S
  have hN := S.small
  have hle := S.le
  obtain ⟨E, Fc, Fv, Fn, ⟨r, Ab, hr⟩, hlt⟩ := S
  have nqb : q ≠ b := by obtain ⟨c, Ar, -⟩ := Ab; exact ne_arr E (wI hw 70 rfl) Ar
  refine Road.Con.of bAp0_pn hEW #[.val (.ref q), .val (.ref s), .unset] (fun m => Road.ent (Road.laid1 rfl (Road.laid1 rfl Road.laid0)) (k := 1) rfl rfl) ?_
  intro D hD
  refine Road.aloadN 0 bAp0_d0 rfl ?_
  refine Road.ifnonnull 1 9 rfl bAp0_d1 rfl (fun hc1 => ?_) (fun q => absurd q (by simp))
  refine Road.aloadN 9 bAp0_d9 rfl ?_
  refine Road.callV (B' := bLen) (a := s) 10 (argsL := []) (rest := []) "java/lang/String" 0 bAp0_d10 (wI hw 97 rfl) (wI hw 98 rfl) (fun vm hz => Road.notFace_sib (args := #[]) (mv (s := D.s.setVm vm) hz (wI hw 100 rfl)) rfl) (wI hw 100 rfl) (wI hw 99 rfl) (wI hw 2 rfl) (wI hw 101 rfl) (by decide) T.1 (cLen l Z a0 hw n0 hEW s sb ds h0 σ T cp Hc hcp) (lenOf bLen_pd rfl) rfl rfl rfl (by decide) (by decide) (ce' := 0) (sl' := 0) rfl rfl (by decide) (by decide) ?_
  rintro _ h_1 σ_2 m_3 ⟨rfl, rfl⟩
  refine Road.Go.weaken (σ' := σ) m_3 (Nat.le_refl _) (Nat.le_refl _) ?_
  refine Road.istoreN 13 #[.val (.ref q), .val (.ref s), .val (.int (Nat.toInt32 ds.length))] bAp0_d13 rfl ?_
  refine Road.aloadN 14 bAp0_d14 rfl ?_
  refine Road.aloadN 15 bAp0_d15 rfl ?_
  refine Road.getfield 16 bAp0_d16 (wI hw 107 rfl) Via.refl Fn ?_
  refine Road.iloadN 19 bAp0_d19 rfl ?_
  refine Road.iadd 20 bAp0_d20 ?_
  refine Road.nameI ?_
  intro z_5 hz_5
  obtain rfl : z_5 = (Nat.toInt32 (cs.length + ds.length)) := by rw [hz_5]; exact Road.add32n _ _
  refine Road.callP (B' := bEn0) (a := q) 21 (argsL := [(.int (Nat.toInt32 (cs.length + ds.length)))]) (rest := []) "java/lang/StringBuilder" 0 bAp0_d21 (wI hw 109 rfl) (wI hw 111 rfl) (wI hw 112 rfl) (wI hw 110 rfl) (wI hw 79 rfl) (wI hw 113 rfl) (by decide) E (cEn0 l Z a0 hw n0 hEW q b cs N (cs.length + ds.length) h0 σ S0 hm) (lenOf bEn0_pd rfl) rfl rfl rfl (by decide) (by decide) (ce' := 0) (sl' := 0) rfl rfl (by decide) (by decide) ?_
  rintro _ h_6 σ_7 m_8 ⟨rfl, rfl⟩
  refine Road.Go.weaken (σ' := σ) m_8 (Nat.le_refl _) (Nat.le_refl _) ?_
  refine Road.aloadN 24 bAp0_d24 rfl ?_
  refine Road.aloadN 25 bAp0_d25 rfl ?_
  refine Road.getfield 26 bAp0_d26 (wI hw 107 rfl) Via.refl Fn ?_
  refine Road.aloadN 29 bAp0_d29 rfl ?_
  refine Road.callP (B' := bPut) (a := q) 30 (argsL := [(.int (Nat.toInt32 cs.length)), (.ref s)]) (rest := []) "java/lang/StringBuilder" 0 bAp0_d30 (wI hw 114 rfl) (wI hw 116 rfl) (wI hw 117 rfl) (wI hw 115 rfl) (wI hw 79 rfl) (wI hw 118 rfl) (by decide) E (cPut l Z a0 hw n0 hEW q b cs N s sb ds h0 σ S0 T hm sb_ cp Hc hcp) (lenOf bPut_pd rfl) rfl rfl rfl (by decide) (by decide) (ce' := 0) (sl' := 0) rfl rfl (by decide) (by decide) ?_
  rintro _ h_10 σ_11 m_12 ⟨rfl, K_13, r3, A3, hr3⟩
  replace E := E.keep K_13
  replace Fc := Fc.keep K_13 (ninS nqb nin0)
  replace Fv := Fv.keep K_13 (ninS nqb nin0)
  replace Fn := Fn.keep K_13 (ninS nqb nin0)
  replace sq := m_12 _ sq
  replace sb_ := m_12 _ sb_
  refine Road.aloadN 33 bAp0_d33 rfl ?_
  refine Road.dup 34 bAp0_d34 ?_
  refine Road.getfield 35 bAp0_d35 (wI hw 107 rfl) Via.refl Fn ?_
  refine Road.iloadN 38 bAp0_d38 rfl ?_
  refine Road.iadd 39 bAp0_d39 ?_
  refine Road.nameI ?_
  intro z_16 hz_16
  obtain rfl : z_16 = (Nat.toInt32 (cs ++ ds).length) := by rw [hz_16]; rw [Road.add32n, List.length_append]
  refine Road.putfield 40 bAp0_d40 (wI hw 107 rfl) Via.refl Fn E (Or.inl (wI hw 108 rfl)) (wI hw 70 rfl) (ty := .int) (by decide) rfl rfl sq ?_
  intro h_19 W_17 K_18
  replace Fn := Fn.same W_17
  replace Fc := Fc.other W_17 (Or.inr (slot_ne (Or.inl (wI hw 86 rfl)) (Or.inl (wI hw 108 rfl)) (by decide) (t := .byte) (by decide) (t' := .int) (by decide)))
  replace Fv := Fv.other W_17 (Or.inr (slot_ne (Or.inl (wI hw 84 rfl)) (Or.inl (wI hw 108 rfl)) (by decide) (t := (.array .byte)) (by decide) (t' := .int) (by decide)))
  replace E := E.keep K_18
  replace A3 := A3.keep K_18 (ninS (Ne.symm nqb) nin0)
  refine Road.aloadN 43 bAp0_d43 rfl ?_
  exact Road.aret 44 bAp0_d44 (t := (.object "java/lang/AbstractStringBuilder")) rfl rfl rfl (by decide) (by decide) (fun σ' m => ⟨rfl, (Road.keep2 K_13 K_18), ⟨E, Fc, Fv, Fn, ⟨r3, A3, hr3⟩, (fun c hc => (List.mem_append.mp hc).elim (hlt c) (T.2.2.2.2 c))⟩⟩)
def bSp0 : Road.Bdy := (⟨"java/lang/StringBuilder", "append", "(Ljava/lang/String;)Ljava/lang/StringBuilder;"⟩, jdk_67_method_7_code, 2, (some (.object "java/lang/StringBuilder")), { frames := 4, cells := 0, slots := 0, locals := 62 })
theorem bSp0_d0 : decode bSp0.bs 0 = .ok (.aload_n 0, 1) := by decide +kernel
theorem bSp0_d1 : decode bSp0.bs 1 = .ok (.aload_n 1, 1) := by decide +kernel
theorem bSp0_d2 : decode bSp0.bs 2 = .ok (.invokespecial 29, 3) := by decide +kernel
theorem bSp0_d5 : decode bSp0.bs 5 = .ok (.pop, 1) := by decide +kernel
theorem bSp0_d6 : decode bSp0.bs 6 = .ok (.aload_n 0, 1) := by decide +kernel
theorem bSp0_d7 : decode bSp0.bs 7 = .ok (.areturn, 1) := by decide +kernel
theorem bSp0_pd : parseMethodDescriptor "(Ljava/lang/String;)Ljava/lang/StringBuilder;" = some ⟨[(.object "java/lang/String")], (some (.object "java/lang/StringBuilder"))⟩ := by decide +kernel
theorem bSp0_pn : plainFor bSp0.y = true := plainFor_of_name (show plainName "java/lang/StringBuilder" = true from by first | (simp [plainName, overriddenIn]; done) | decide +kernel)
theorem cSp0 (l : Launch) (Z : State) (a0 : Array Value) (hw : ∀ d ∈ tables_1, d.before a0 Z = true) (n0 : Nat) (hEW : EW Z a0 consts_1) (q b : Addr) (cs : List Int32) (N : Nat) (s sb : Addr) (ds : List Int32) (h0 : Heap) (σ : Addr → Prop) (S : Road.Sb Z h0 q b cs N) (T : Road.Str Z h0 s sb ds) (hm : cs.length + ds.length ≤ N) (sb_ : σ b) (sq : σ q) (cp : Int32) (Hc : Sta Z Z.heap Road.SN "COMPACT_STRINGS" "Z" (.int cp)) (hcp : ¬ cp = 0) :
    Road.Con l Z consts_1 n0 true bSp0 [] σ #[(.ref q), (.ref s)] h0 (fun v h2 s2 => v = some (.ref q) ∧ Keep h0 h2 [q, b] ∧ Road.Sb Z h2 q b (cs ++ ds) N) := by
  refine Road.Con.of bSp0_pn hEW #[.val (.ref q), .val (.ref s)] (fun m => Road.ent (Road.laid1 rfl (Road.laid1 rfl Road.laid0)) (k := 0) rfl rfl) ?_
  intro D hD
  refine Road.aloadN 0 bSp0_d0 rfl ?_
  refine Road.aloadN 1 bSp0_d1 rfl ?_
  refine Road.callUp (B' := bAp0) (a := q) 2 (argsL := [(.ref s)]) (rest := []) "java/lang/StringBuilder" 0 bSp0_d2 (wI hw 92 rfl) (Road.notFace_sib (wI hw 112 rfl) rfl) (wI hw 93 rfl) (wI hw 94 rfl) (wI hw 79 rfl) (wI hw 96 rfl) (by decide) (by decide) S.1 (cAp0 l Z a0 hw n0 hEW q b cs N s sb ds h0 σ S T hm sb_ sq cp Hc hcp) (lenOf bAp0_pd rfl) rfl rfl rfl (by decide) (by decide) (ce' := 0) (sl' := 0) rfl rfl (by decide) (by decide) ?_
  rintro _ h_1 σ_2 m_3 ⟨rfl, K_4, S2⟩
  refine Road.pop 5 bSp0_d5 ?_
  refine Road.aloadN 6 bSp0_d6 rfl ?_
  exact Road.aret 7 bSp0_d7 (t := (.object "java/lang/StringBuilder")) rfl rfl rfl (by decide) (by decide) (fun σ' m => ⟨rfl, K_4, S2⟩)
def bMin : Road.Bdy := (⟨"java/lang/Math", "min", "(II)I"⟩, jdk_29_method_69_code, 2, (some .int), { frames := 0, cells := 0, slots := 0, locals := 0 })
theorem bMin_d0 : decode bMin.bs 0 = .ok (.iload_n 0, 1) := by decide +kernel
theorem bMin_d1 : decode bMin.bs 1 = .ok (.iload_n 1, 1) := by decide +kernel
theorem bMin_d2 : decode bMin.bs 2 = .ok (.if_icmp .gt 7, 3) := by decide +kernel
theorem bMin_d5 : decode bMin.bs 5 = .ok (.iload_n 0, 1) := by decide +kernel
theorem bMin_d6 : decode bMin.bs 6 = .ok (.goto 4, 3) := by decide +kernel
theorem bMin_d9 : decode bMin.bs 9 = .ok (.iload_n 1, 1) := by decide +kernel
theorem bMin_d10 : decode bMin.bs 10 = .ok (.ireturn, 1) := by decide +kernel
theorem bMin_pd : parseMethodDescriptor "(II)I" = some ⟨[.int, .int], (some .int)⟩ := by decide +kernel
theorem bMin_pn : plainFor bMin.y = true := Jvm.Free.JP.mathPlain rfl (by decide +kernel)
theorem cMin (l : Launch) (Z : State) (a0 : Array Value) (hw : ∀ d ∈ tables_1, d.before a0 Z = true) (n0 : Nat) (hEW : EW Z a0 consts_1) (i j : Nat) (h0 : Heap) (σ : Addr → Prop) (hi : i < 2147483648) (hj : j < 2147483648) :
    Road.Con l Z consts_1 n0 true bMin [] σ #[(.int (Nat.toInt32 i)), (.int (Nat.toInt32 j))] h0 (fun v h2 _ => v = some (.int (Nat.toInt32 (min i j))) ∧ h0 = h2) := by
  refine Road.Con.of bMin_pn hEW #[.val (.int (Nat.toInt32 i)), .val (.int (Nat.toInt32 j))] (fun m => Road.ent (Road.laid1 rfl (Road.laid1 rfl Road.laid0)) (k := 0) rfl rfl) ?_
  intro D hD
  refine Road.iloadN 0 bMin_d0 rfl ?_
  refine Road.iloadN 1 bMin_d1 rfl ?_
  refine Road.icmp_gt 2 9 bMin_d2 rfl (fun hc2 => ?_) (fun hc2 => ?_)
  · skip
    refine Road.iloadN 9 bMin_d9 rfl ?_
    exact Road.iretI 10 bMin_d10 rfl (by decide) (by decide) (fun σ' m => ⟨by rw [Road.lt32 hj hi] at hc2; rw [Nat.min_eq_right (by omega)], rfl⟩)
  · skip
    refine Road.iloadN 5 bMin_d5 rfl ?_
    refine Road.goto 6 10 bMin_d6 rfl ?_
    exact Road.iretI 10 bMin_d10 rfl (by decide) (by decide) (fun σ' m => ⟨by rw [Road.lt32 hj hi] at hc2; rw [Nat.min_eq_left (by omega)], rfl⟩)
def bCpO : Road.Bdy := (⟨"java/util/Arrays", "copyOf", "([BI)[B"⟩, jdk_65_method_121_code, 3, (some (.array .byte)), { frames := 1, cells := 1, slots := 48, locals := 22 })
theorem bCpO_d0 : decode bCpO.bs 0 = .ok (.iload_n 1, 1) := by decide +kernel
theorem bCpO_d1 : decode bCpO.bs 1 = .ok (.aload_n 0, 1) := by decide +kernel
theorem bCpO_d2 : decode bCpO.bs 2 = .ok (.arraylength, 1) := by decide +kernel
theorem bCpO_d3 : decode bCpO.bs 3 = .ok (.if_icmp .ne 11, 3) := by decide +kernel
theorem bCpO_d6 : decode bCpO.bs 6 = .ok (.aload_n 0, 1) := by decide +kernel
theorem bCpO_d7 : decode bCpO.bs 7 = .ok (.invokevirtual 310, 3) := by decide +kernel
theorem bCpO_d10 : decode bCpO.bs 10 = .ok (.checkcast 311, 3) := by decide +kernel
theorem bCpO_d13 : decode bCpO.bs 13 = .ok (.areturn, 1) := by decide +kernel
theorem bCpO_d14 : decode bCpO.bs 14 = .ok (.iload_n 1, 1) := by decide +kernel
theorem bCpO_d15 : decode bCpO.bs 15 = .ok (.newarray .byte, 2) := by decide +kernel
theorem bCpO_d17 : decode bCpO.bs 17 = .ok (.astore_n 2, 1) := by decide +kernel
theorem bCpO_d18 : decode bCpO.bs 18 = .ok (.aload_n 0, 1) := by decide +kernel
theorem bCpO_d19 : decode bCpO.bs 19 = .ok (.iconst 0, 1) := by decide +kernel
theorem bCpO_d20 : decode bCpO.bs 20 = .ok (.aload_n 2, 1) := by decide +kernel
theorem bCpO_d21 : decode bCpO.bs 21 = .ok (.iconst 0, 1) := by decide +kernel
theorem bCpO_d22 : decode bCpO.bs 22 = .ok (.aload_n 0, 1) := by decide +kernel
theorem bCpO_d23 : decode bCpO.bs 23 = .ok (.arraylength, 1) := by decide +kernel
theorem bCpO_d24 : decode bCpO.bs 24 = .ok (.iload_n 1, 1) := by decide +kernel
theorem bCpO_d25 : decode bCpO.bs 25 = .ok (.invokestatic 304, 3) := by decide +kernel
theorem bCpO_d28 : decode bCpO.bs 28 = .ok (.invokestatic 150, 3) := by decide +kernel
theorem bCpO_d31 : decode bCpO.bs 31 = .ok (.aload_n 2, 1) := by decide +kernel
theorem bCpO_d32 : decode bCpO.bs 32 = .ok (.areturn, 1) := by decide +kernel
theorem bCpO_pd : parseMethodDescriptor "([BI)[B" = some ⟨[(.array .byte), .int], (some (.array .byte))⟩ := by decide +kernel
theorem bCpO_pn : plainFor bCpO.y = true := plainFor_of_name (show plainName "java/util/Arrays" = true from by first | (simp [plainName, overriddenIn]; done) | decide +kernel)
theorem cCpO (l : Launch) (Z : State) (a0 : Array Value) (hw : ∀ d ∈ tables_1, d.before a0 Z = true) (n0 : Nat) (hEW : EW Z a0 consts_1) (b : Addr) (vs : List Value) (m : Nat) (h0 : Heap) (σ : Addr → Prop) (A : Road.Ary Z h0 b .byte vs) (hm : vs.length < m) (hcap : m ≤ 48) :
    Road.Con l Z consts_1 n0 true bCpO [] σ #[(.ref b), (.int (Nat.toInt32 m))] h0 (fun v h2 s2 => ∃ d, v = some (.ref d) ∧ h0.size ≤ d ∧ Keep h0 h2 [] ∧ s2 d ∧ Road.Ary Z h2 d .byte (vs ++ List.replicate (m - vs.length) (.int 0)) ∧ Exa Z h2 d "[B") := by
  have hsm := A.small
  refine Road.Con.of bCpO_pn hEW #[.val (.ref b), .val (.int (Nat.toInt32 m)), .unset] (fun m => Road.ent (Road.laid1 rfl (Road.laid1 rfl Road.laid0)) (k := 1) rfl rfl) ?_
  intro D hD
  refine Road.iloadN 0 bCpO_d0 rfl ?_
  refine Road.aloadN 1 bCpO_d1 rfl ?_
  refine Road.alen 2 (Nat.toInt32 vs.length) bCpO_d2 A (n := vs.length) rfl rfl ?_
  refine Road.icmp_ne 3 14 bCpO_d3 rfl (fun hc3 => ?_) (fun q => absurd q (by rw [Road.eq32 (by omega) (by omega)]; omega))
  refine Road.iloadN 14 bCpO_d14 rfl ?_
  refine Road.newarrayE 15 .byte m 48 "[B" rfl bCpO_d15 rfl (wI hw 4 rfl) (Road.n32 (by omega)) hcap (by decide) (ce' := 1) (sl' := 48) rfl rfl (by decide) (by decide) ?_
  intro d h_1 σ_2 g_3 K_4 lt_5 m_6 s_7 Ad ED
  have ne_b_d : b ≠ d := Nat.ne_of_lt (Nat.lt_of_lt_of_le A.lt (Nat.le_of_eq g_3.symm))
  replace A := A.keep K_4 nin0
  refine Road.astoreN 17 #[.val (.ref b), .val (.int (Nat.toInt32 m)), .val (.ref d)] bCpO_d17 rfl ?_
  refine Road.aloadN 18 bCpO_d18 rfl ?_
  refine Road.iconst 19 (0 : Int32) bCpO_d19 rfl ?_
  refine Road.aloadN 20 bCpO_d20 rfl ?_
  refine Road.iconst 21 (0 : Int32) bCpO_d21 rfl ?_
  refine Road.aloadN 22 bCpO_d22 rfl ?_
  refine Road.alen 23 (Nat.toInt32 vs.length) bCpO_d23 A (n := vs.length) rfl rfl ?_
  refine Road.iloadN 24 bCpO_d24 rfl ?_
  refine Road.callS (B' := bMin) 25 (argsL := [(.int (Nat.toInt32 vs.length)), (.int (Nat.toInt32 m))]) (rest := [(.int (0 : Int32)), (.ref d), (.int (0 : Int32)), (.ref b)]) 4 bCpO_d25 (wI hw 154 rfl) (wI hw 155 rfl) (wI hw 146 rfl) (wI hw 156 rfl) (by decide) (cMin l Z a0 hw n0 hEW vs.length m h_1 σ_2 hsm (by omega)) (lenOf bMin_pd rfl) rfl rfl rfl (by decide) (by decide) (ce' := 1) (sl' := 48) rfl rfl (by decide) (by decide) ?_
  rintro _ h_8 σ_9 m_10 ⟨rfl, rfl⟩
  refine Road.Go.weaken (σ' := σ_2) m_10 (Nat.le_refl _) (Nat.le_refl _) ?_
  refine Road.acopy 28 0 0 vs.length 0 bCpO_d28 (wI hw 157 rfl) (wI hw 133 rfl) (wI hw 131 rfl) (wI hw 132 rfl) A Ad rfl rfl rfl (by rw [Nat.min_eq_left (by omega)]; exact Road.n32 hsm) (by omega) (by rw [List.length_replicate]; omega) s_7 rfl rfl (by decide) (by decide) ?_
  intro h_12 K_13 Ae
  replace A := A.keep K_13 (ninS ne_b_d nin0)
  replace ED := ED.keep K_13
  refine Road.aloadN 31 bCpO_d31 rfl ?_
  exact Road.aret 32 bCpO_d32 (t := (.array .byte)) rfl rfl rfl (by decide) (by decide) (fun σ' m => ⟨d, rfl, Nat.le_of_eq g_3.symm, K_4.trans K_13 (by intro x hx; cases List.mem_singleton.mp hx; exact Or.inr (Nat.le_of_eq g_3.symm)), m _ s_7, by simpa [defaultValue] using Ae, ED⟩)
def bMax : Road.Bdy := (⟨"java/lang/Math", "max", "(II)I"⟩, jdk_29_method_65_code, 2, (some .int), { frames := 0, cells := 0, slots := 0, locals := 0 })
theorem bMax_d0 : decode bMax.bs 0 = .ok (.iload_n 0, 1) := by decide +kernel
theorem bMax_d1 : decode bMax.bs 1 = .ok (.iload_n 1, 1) := by decide +kernel
theorem bMax_d2 : decode bMax.bs 2 = .ok (.if_icmp .lt 7, 3) := by decide +kernel
theorem bMax_d5 : decode bMax.bs 5 = .ok (.iload_n 0, 1) := by decide +kernel
theorem bMax_d6 : decode bMax.bs 6 = .ok (.goto 4, 3) := by decide +kernel
theorem bMax_d9 : decode bMax.bs 9 = .ok (.iload_n 1, 1) := by decide +kernel
theorem bMax_d10 : decode bMax.bs 10 = .ok (.ireturn, 1) := by decide +kernel
theorem bMax_pd : parseMethodDescriptor "(II)I" = some ⟨[.int, .int], (some .int)⟩ := by decide +kernel
theorem bMax_pn : plainFor bMax.y = true := Jvm.Free.JP.mathPlain rfl (by decide +kernel)
theorem cMax (l : Launch) (Z : State) (a0 : Array Value) (hw : ∀ d ∈ tables_1, d.before a0 Z = true) (n0 : Nat) (hEW : EW Z a0 consts_1) (i j : Nat) (h0 : Heap) (σ : Addr → Prop) (hi : i < 2147483648) (hj : j < 2147483648) :
    Road.Con l Z consts_1 n0 true bMax [] σ #[(.int (Nat.toInt32 i)), (.int (Nat.toInt32 j))] h0 (fun v h2 _ => v = some (.int (Nat.toInt32 (max i j))) ∧ h0 = h2) := by
  refine Road.Con.of bMax_pn hEW #[.val (.int (Nat.toInt32 i)), .val (.int (Nat.toInt32 j))] (fun m => Road.ent (Road.laid1 rfl (Road.laid1 rfl Road.laid0)) (k := 0) rfl rfl) ?_
  intro D hD
  refine Road.iloadN 0 bMax_d0 rfl ?_
  refine Road.iloadN 1 bMax_d1 rfl ?_
  refine Road.icmp_lt 2 9 bMax_d2 rfl (fun hc2 => ?_) (fun hc2 => ?_)
  · skip
    refine Road.iloadN 9 bMax_d9 rfl ?_
    exact Road.iretI 10 bMax_d10 rfl (by decide) (by decide) (fun σ' m => ⟨by rw [Road.lt32 hi hj] at hc2; rw [Nat.max_eq_right (by omega)], rfl⟩)
  · skip
    refine Road.iloadN 5 bMax_d5 rfl ?_
    refine Road.goto 6 10 bMax_d6 rfl ?_
    exact Road.iretI 10 bMax_d10 rfl (by decide) (by decide) (fun σ' m => ⟨by rw [Road.lt32 hi hj] at hc2; rw [Nat.max_eq_left (by omega)], rfl⟩)
def bNwL : Road.Bdy := (⟨"jdk/internal/util/ArraysSupport", "newLength", "(III)I"⟩, jdk_48_method_27_code, 4, (some .int), { frames := 1, cells := 0, slots := 0, locals := 14 })
theorem bNwL_d0 : decode bNwL.bs 0 = .ok (.iload_n 0, 1) := by decide +kernel
theorem bNwL_d1 : decode bNwL.bs 1 = .ok (.iload_n 1, 1) := by decide +kernel
theorem bNwL_d2 : decode bNwL.bs 2 = .ok (.iload_n 2, 1) := by decide +kernel
theorem bNwL_d3 : decode bNwL.bs 3 = .ok (.invokestatic 194, 3) := by decide +kernel
theorem bNwL_d6 : decode bNwL.bs 6 = .ok (.iadd, 1) := by decide +kernel
theorem bNwL_d7 : decode bNwL.bs 7 = .ok (.istore_n 3, 1) := by decide +kernel
theorem bNwL_d8 : decode bNwL.bs 8 = .ok (.iconst 0, 1) := by decide +kernel
theorem bNwL_d9 : decode bNwL.bs 9 = .ok (.iload_n 3, 1) := by decide +kernel
theorem bNwL_d10 : decode bNwL.bs 10 = .ok (.if_icmp .ge 11, 3) := by decide +kernel
theorem bNwL_d13 : decode bNwL.bs 13 = .ok (.iload_n 3, 1) := by decide +kernel
theorem bNwL_d14 : decode bNwL.bs 14 = .ok (.ldc 200, 2) := by decide +kernel
theorem bNwL_d16 : decode bNwL.bs 16 = .ok (.if_icmp .gt 5, 3) := by decide +kernel
theorem bNwL_d19 : decode bNwL.bs 19 = .ok (.iload_n 3, 1) := by decide +kernel
theorem bNwL_d20 : decode bNwL.bs 20 = .ok (.ireturn, 1) := by decide +kernel
theorem bNwL_d21 : decode bNwL.bs 21 = .ok (.iload_n 0, 1) := by decide +kernel
theorem bNwL_d22 : decode bNwL.bs 22 = .ok (.iload_n 1, 1) := by decide +kernel
theorem bNwL_d23 : decode bNwL.bs 23 = .ok (.invokestatic 201, 3) := by decide +kernel
theorem bNwL_d26 : decode bNwL.bs 26 = .ok (.ireturn, 1) := by decide +kernel
theorem bNwL_pd : parseMethodDescriptor "(III)I" = some ⟨[.int, .int, .int], (some .int)⟩ := by decide +kernel
theorem bNwL_pn : plainFor bNwL.y = true := plainFor_of_name (show plainName "jdk/internal/util/ArraysSupport" = true from by first | (simp [plainName, overriddenIn]; done) | decide +kernel)
theorem cNwL (l : Launch) (Z : State) (a0 : Array Value) (hw : ∀ d ∈ tables_1, d.before a0 Z = true) (n0 : Nat) (hEW : EW Z a0 consts_1) (i g p : Nat) (h0 : Heap) (σ : Addr → Prop) (hi : 0 < i + max g p) (hb : i + max g p ≤ 2147483639) :
    Road.Con l Z consts_1 n0 true bNwL [] σ #[(.int (Nat.toInt32 i)), (.int (Nat.toInt32 g)), (.int (Nat.toInt32 p))] h0 (fun v h2 _ => v = some (.int (Nat.toInt32 (i + max g p))) ∧ h0 = h2) := by
  refine Road.Con.of bNwL_pn hEW #[.val (.int (Nat.toInt32 i)), .val (.int (Nat.toInt32 g)), .val (.int (Nat.toInt32 p)), .unset] (fun m => Road.ent (Road.laid1 rfl (Road.laid1 rfl (Road.laid1 rfl Road.laid0))) (k := 1) rfl rfl) ?_
  intro D hD
  refine Road.iloadN 0 bNwL_d0 rfl ?_
  refine Road.iloadN 1 bNwL_d1 rfl ?_
  refine Road.iloadN 2 bNwL_d2 rfl ?_
  refine Road.callS (B' := bMax) 3 (argsL := [(.int (Nat.toInt32 g)), (.int (Nat.toInt32 p))]) (rest := [(.int (Nat.toInt32 i))]) 1 bNwL_d3 (wI hw 144 rfl) (wI hw 145 rfl) (wI hw 146 rfl) (wI hw 147 rfl) (by decide) (cMax l Z a0 hw n0 hEW g p h0 σ (by omega) (by omega)) (lenOf bMax_pd rfl) rfl rfl rfl (by decide) (by decide) (ce' := 0) (sl' := 0) rfl rfl (by decide) (by decide) ?_
  rintro _ h_1 σ_2 m_3 ⟨rfl, rfl⟩
  refine Road.Go.weaken (σ' := σ) m_3 (Nat.le_refl _) (Nat.le_refl _) ?_
  refine Road.iadd 6 bNwL_d6 ?_
  refine Road.nameI ?_
  intro z_5 hz_5
  obtain rfl : z_5 = (Nat.toInt32 (i + max g p)) := by rw [hz_5]; exact Road.add32n _ _
  refine Road.istoreN 7 #[.val (.int (Nat.toInt32 i)), .val (.int (Nat.toInt32 g)), .val (.int (Nat.toInt32 p)), .val (.int (Nat.toInt32 (i + max g p)))] bNwL_d7 rfl ?_
  refine Road.iconst 8 (0 : Int32) bNwL_d8 rfl ?_
  refine Road.iloadN 9 bNwL_d9 rfl ?_
  refine Road.icmp_ge 10 21 bNwL_d10 rfl (fun q => absurd q (by rw [Decidable.not_not, show (0 : Int32) = Nat.toInt32 0 from rfl, Road.lt32 (by omega) (by omega)]; exact hi)) (fun hc10 => ?_)
  refine Road.iloadN 13 bNwL_d13 rfl ?_
  refine Road.ldcI 14 bNwL_d14 (wI hw 148 rfl) ?_
  refine Road.icmp_gt 16 21 bNwL_d16 rfl (fun q => absurd q (by rw [show (2147483639 : Int32) = Nat.toInt32 2147483639 from rfl, Road.lt32 (by omega) (by omega)]; omega)) (fun hc16 => ?_)
  refine Road.iloadN 19 bNwL_d19 rfl ?_
  exact Road.iretI 20 bNwL_d20 rfl (by decide) (by decide) (fun σ' m => ⟨rfl, rfl⟩)
def bNwC : Road.Bdy := (⟨"java/lang/AbstractStringBuilder", "newCapacity", "(I)I"⟩, jdk_68_method_10_code, 6, (some .int), { frames := 2, cells := 0, slots := 0, locals := 29 })
theorem bNwC_d0 : decode bNwC.bs 0 = .ok (.aload_n 0, 1) := by decide +kernel
theorem bNwC_d1 : decode bNwC.bs 1 = .ok (.getfield 15, 3) := by decide +kernel
theorem bNwC_d4 : decode bNwC.bs 4 = .ok (.arraylength, 1) := by decide +kernel
theorem bNwC_d5 : decode bNwC.bs 5 = .ok (.istore_n 2, 1) := by decide +kernel
theorem bNwC_d6 : decode bNwC.bs 6 = .ok (.iload_n 1, 1) := by decide +kernel
theorem bNwC_d7 : decode bNwC.bs 7 = .ok (.aload_n 0, 1) := by decide +kernel
theorem bNwC_d8 : decode bNwC.bs 8 = .ok (.getfield 22, 3) := by decide +kernel
theorem bNwC_d11 : decode bNwC.bs 11 = .ok (.ishl, 1) := by decide +kernel
theorem bNwC_d12 : decode bNwC.bs 12 = .ok (.istore_n 3, 1) := by decide +kernel
theorem bNwC_d13 : decode bNwC.bs 13 = .ok (.iload_n 3, 1) := by decide +kernel
theorem bNwC_d14 : decode bNwC.bs 14 = .ok (.iload_n 2, 1) := by decide +kernel
theorem bNwC_d15 : decode bNwC.bs 15 = .ok (.isub, 1) := by decide +kernel
theorem bNwC_d16 : decode bNwC.bs 16 = .ok (.istore 4, 2) := by decide +kernel
theorem bNwC_d18 : decode bNwC.bs 18 = .ok (.iload_n 2, 1) := by decide +kernel
theorem bNwC_d19 : decode bNwC.bs 19 = .ok (.iload 4, 2) := by decide +kernel
theorem bNwC_d21 : decode bNwC.bs 21 = .ok (.iload_n 2, 1) := by decide +kernel
theorem bNwC_d22 : decode bNwC.bs 22 = .ok (.iconst 2, 1) := by decide +kernel
theorem bNwC_d23 : decode bNwC.bs 23 = .ok (.aload_n 0, 1) := by decide +kernel
theorem bNwC_d24 : decode bNwC.bs 24 = .ok (.getfield 22, 3) := by decide +kernel
theorem bNwC_d27 : decode bNwC.bs 27 = .ok (.ishl, 1) := by decide +kernel
theorem bNwC_d28 : decode bNwC.bs 28 = .ok (.iadd, 1) := by decide +kernel
theorem bNwC_d29 : decode bNwC.bs 29 = .ok (.invokestatic 114, 3) := by decide +kernel
theorem bNwC_d32 : decode bNwC.bs 32 = .ok (.istore 5, 2) := by decide +kernel
theorem bNwC_d34 : decode bNwC.bs 34 = .ok (.iload 5, 2) := by decide +kernel
theorem bNwC_d36 : decode bNwC.bs 36 = .ok (.ldc 39, 2) := by decide +kernel
theorem bNwC_d38 : decode bNwC.bs 38 = .ok (.if_icmp .ne 13, 3) := by decide +kernel
theorem bNwC_d41 : decode bNwC.bs 41 = .ok (.new 120, 3) := by decide +kernel
theorem bNwC_d44 : decode bNwC.bs 44 = .ok (.dup, 1) := by decide +kernel
theorem bNwC_d45 : decode bNwC.bs 45 = .ok (.ldc 122, 2) := by decide +kernel
theorem bNwC_d47 : decode bNwC.bs 47 = .ok (.invokespecial 124, 3) := by decide +kernel
theorem bNwC_d50 : decode bNwC.bs 50 = .ok (.athrow, 1) := by decide +kernel
theorem bNwC_d51 : decode bNwC.bs 51 = .ok (.iload 5, 2) := by decide +kernel
theorem bNwC_d53 : decode bNwC.bs 53 = .ok (.aload_n 0, 1) := by decide +kernel
theorem bNwC_d54 : decode bNwC.bs 54 = .ok (.getfield 22, 3) := by decide +kernel
theorem bNwC_d57 : decode bNwC.bs 57 = .ok (.ishr, 1) := by decide +kernel
theorem bNwC_d58 : decode bNwC.bs 58 = .ok (.ireturn, 1) := by decide +kernel
theorem bNwC_pd : parseMethodDescriptor "(I)I" = some ⟨[.int], (some .int)⟩ := by decide +kernel
theorem bNwC_pn : plainFor bNwC.y = true := plainFor_of_name (show plainName "java/lang/AbstractStringBuilder" = true from by first | (simp [plainName, overriddenIn]; done) | decide +kernel)
theorem cNwC (l : Launch) (Z : State) (a0 : Array Value) (hw : ∀ d ∈ tables_1, d.before a0 Z = true) (n0 : Nat) (hEW : EW Z a0 consts_1) (q b : Addr) (cs : List Int32) (N : Nat) (m : Nat) (h0 : Heap) (σ : Addr → Prop) (S : Road.Sb Z h0 q b cs N) (hm : N < m) (hb : max m (2 * N + 2) ≤ 2147483639) :
    Road.Con l Z consts_1 n0 true bNwC [] σ #[(.ref q), (.int (Nat.toInt32 m))] h0 (fun v h2 _ => v = some (.int (Nat.toInt32 (max m (2 * N + 2)))) ∧ h0 = h2) := by
  have hN := S.small
  have hle := S.le
  obtain ⟨E, Fc, Fv, Fn, ⟨r, Ab, hr⟩, hlt⟩ := S
  refine Road.Con.of bNwC_pn hEW #[.val (.ref q), .val (.int (Nat.toInt32 m)), .unset, .unset, .unset, .unset] (fun m => Road.ent (Road.laid1 rfl (Road.laid1 rfl Road.laid0)) (k := 4) rfl rfl) ?_
  intro D hD
  refine Road.aloadN 0 bNwC_d0 rfl ?_
  refine Road.getfield 1 bNwC_d1 (wI hw 83 rfl) Via.refl Fv ?_
  refine Road.alen 4 (Nat.toInt32 N) bNwC_d4 Ab (n := N) (by rw [List.length_append, List.length_map]; exact hr) rfl ?_
  refine Road.istoreN 5 #[.val (.ref q), .val (.int (Nat.toInt32 m)), .val (.int (Nat.toInt32 N)), .unset, .unset, .unset] bNwC_d5 rfl ?_
  refine Road.iloadN 6 bNwC_d6 rfl ?_
  refine Road.aloadN 7 bNwC_d7 rfl ?_
  refine Road.getfield 8 bNwC_d8 (wI hw 85 rfl) Via.refl Fc ?_
  refine Road.ishl 11 bNwC_d11 ?_
  refine Road.nameI ?_
  intro z_1 hz_1
  obtain rfl : z_1 = (Nat.toInt32 m) := by rw [hz_1]; exact Road.shl0 _
  refine Road.istoreN 12 #[.val (.ref q), .val (.int (Nat.toInt32 m)), .val (.int (Nat.toInt32 N)), .val (.int (Nat.toInt32 m)), .unset, .unset] bNwC_d12 rfl ?_
  refine Road.iloadN 13 bNwC_d13 rfl ?_
  refine Road.iloadN 14 bNwC_d14 rfl ?_
  refine Road.isub 15 bNwC_d15 ?_
  refine Road.nameI ?_
  intro z_2 hz_2
  obtain rfl : z_2 = (Nat.toInt32 (m - N)) := by rw [hz_2]; exact Road.sub32n (by omega)
  refine Road.istore 16 #[.val (.ref q), .val (.int (Nat.toInt32 m)), .val (.int (Nat.toInt32 N)), .val (.int (Nat.toInt32 m)), .val (.int (Nat.toInt32 (m - N))), .unset] bNwC_d16 rfl ?_
  refine Road.iloadN 18 bNwC_d18 rfl ?_
  refine Road.iload 19 bNwC_d19 rfl ?_
  refine Road.iloadN 21 bNwC_d21 rfl ?_
  refine Road.iconst 22 (2 : Int32) bNwC_d22 rfl ?_
  refine Road.aloadN 23 bNwC_d23 rfl ?_
  refine Road.getfield 24 bNwC_d24 (wI hw 85 rfl) Via.refl Fc ?_
  refine Road.ishl 27 bNwC_d27 ?_
  refine Road.nameI ?_
  intro z_3 hz_3
  obtain rfl : z_3 = (2 : Int32) := by rw [hz_3]; exact Road.shl0 _
  refine Road.iadd 28 bNwC_d28 ?_
  refine Road.nameI ?_
  intro z_4 hz_4
  obtain rfl : z_4 = (Nat.toInt32 (N + 2)) := by rw [hz_4]; exact Road.add32n N 2
  refine Road.callS (B' := bNwL) 29 (argsL := [(.int (Nat.toInt32 N)), (.int (Nat.toInt32 (m - N))), (.int (Nat.toInt32 (N + 2)))]) (rest := []) 0 bNwC_d29 (wI hw 140 rfl) (wI hw 141 rfl) (wI hw 142 rfl) (wI hw 143 rfl) (by decide) (cNwL l Z a0 hw n0 hEW N (m - N) (N + 2) h0 σ (by omega) (by omega)) (lenOf bNwL_pd rfl) rfl rfl rfl (by decide) (by decide) (ce' := 0) (sl' := 0) rfl rfl (by decide) (by decide) ?_
  rintro _ h_5 σ_6 m_7 ⟨rfl, rfl⟩
  refine Road.Go.weaken (σ' := σ) m_7 (Nat.le_refl _) (Nat.le_refl _) ?_
  refine Road.nameI ?_
  intro z_9 hz_9
  obtain rfl : z_9 = (Nat.toInt32 (max m (2 * N + 2))) := by rw [hz_9]; congr 1; omega
  refine Road.istore 32 #[.val (.ref q), .val (.int (Nat.toInt32 m)), .val (.int (Nat.toInt32 N)), .val (.int (Nat.toInt32 m)), .val (.int (Nat.toInt32 (m - N))), .val (.int (Nat.toInt32 (max m (2 * N + 2))))] bNwC_d32 rfl ?_
  refine Road.iload 34 bNwC_d34 rfl ?_
  refine Road.ldcI 36 bNwC_d36 (wI hw 149 rfl) ?_
  refine Road.icmp_ne 38 51 bNwC_d38 rfl (fun hc38 => ?_) (fun q => absurd q (by rw [show (2147483647 : Int32) = Nat.toInt32 2147483647 from rfl, Road.eq32 (by omega) (by omega)]; omega))
  refine Road.iload 51 bNwC_d51 rfl ?_
  refine Road.aloadN 53 bNwC_d53 rfl ?_
  refine Road.getfield 54 bNwC_d54 (wI hw 85 rfl) Via.refl Fc ?_
  refine Road.ishr 57 bNwC_d57 ?_
  exact Road.iretI 58 bNwC_d58 rfl (by decide) (by decide) (fun σ' m => ⟨by rw [Road.shr0], rfl⟩)
def bEnG : Road.Bdy := (⟨"java/lang/AbstractStringBuilder", "ensureCapacityInternal", "(I)V"⟩, jdk_68_method_9_code, 3, none, { frames := 3, cells := 1, slots := 48, locals := 48 })
theorem bEnG_pd : parseMethodDescriptor "(I)V" = some ⟨[.int], none⟩ := by decide +kernel
theorem bEnG_pn : plainFor bEnG.y = true := plainFor_of_name (show plainName "java/lang/AbstractStringBuilder" = true from by first | (simp [plainName, overriddenIn]; done) | decide +kernel)
theorem cEnG (l : Launch) (Z : State) (a0 : Array Value) (hw : ∀ d ∈ tables_1, d.before a0 Z = true) (n0 : Nat) (hEW : EW Z a0 consts_1) (q b : Addr) (cs : List Int32) (N : Nat) (m : Nat) (h0 : Heap) (σ : Addr → Prop) (S : Road.Sb Z h0 q b cs N) (hm : N < m) (hcap : max m (2 * N + 2) ≤ 48) (sq : σ q) :
    Road.Con l Z consts_1 n0 true bEnG [] σ #[(.ref q), (.int (Nat.toInt32 m))] h0 (fun v h2 s2 => v = none ∧ Keep h0 h2 [q] ∧ ∃ d, Road.Sb Z h2 q d cs (max m (2 * N + 2)) ∧ h0.size ≤ d ∧ s2 d ∧ Exa Z h2 d "[B") := by
  have S0 := S
  have hN := S.small
  have hle := S.le
  obtain ⟨E, Fc, Fv, Fn, ⟨r, Ab, hr⟩, hlt⟩ := S
  have nqb : q ≠ b := by obtain ⟨c, Ar, -⟩ := Ab; exact ne_arr E (wI hw 70 rfl) Ar
  refine Road.Con.of bEnG_pn hEW #[.val (.ref q), .val (.int (Nat.toInt32 m)), .unset] (fun m => Road.ent (Road.laid1 rfl (Road.laid1 rfl Road.laid0)) (k := 1) rfl rfl) ?_
  intro D hD
  refine Road.aloadN 0 bEn0_d0 rfl ?_
  refine Road.getfield 1 bEn0_d1 (wI hw 83 rfl) Via.refl Fv ?_
  refine Road.alen 4 (Nat.toInt32 N) bEn0_d4 Ab (n := N) (by rw [List.length_append, List.length_map]; exact hr) rfl ?_
  refine Road.aloadN 5 bEn0_d5 rfl ?_
  refine Road.getfield 6 bEn0_d6 (wI hw 85 rfl) Via.refl Fc ?_
  refine Road.ishr 9 bEn0_d9 ?_
  refine Road.nameI ?_
  intro z_1 hz_1
  obtain rfl : z_1 = (Nat.toInt32 N) := by rw [hz_1]; exact Road.shr0 _
  refine Road.istoreN 10 #[.val (.ref q), .val (.int (Nat.toInt32 m)), .val (.int (Nat.toInt32 N))] bEn0_d10 rfl ?_
  refine Road.iloadN 11 bEn0_d11 rfl ?_
  refine Road.iloadN 12 bEn0_d12 rfl ?_
  refine Road.isub 13 bEn0_d13 ?_
  refine Road.if_le 14 38 bEn0_d14 rfl (fun q => absurd q (by rw [Decidable.not_not, Road.gsub (by omega) hN]; omega)) (fun hc14 => ?_)
  refine Road.aloadN 17 bEn0_d17 rfl ?_
  refine Road.aloadN 18 bEn0_d18 rfl ?_
  refine Road.getfield 19 bEn0_d19 (wI hw 83 rfl) Via.refl Fv ?_
  refine Road.aloadN 22 bEn0_d22 rfl ?_
  refine Road.iloadN 23 bEn0_d23 rfl ?_
  refine Road.callP (B' := bNwC) (a := q) 24 (argsL := [(.int (Nat.toInt32 m))]) (rest := [(.ref b), (.ref q)]) "java/lang/StringBuilder" 2 bEn0_d24 (wI hw 135 rfl) (wI hw 137 rfl) (wI hw 138 rfl) (wI hw 136 rfl) (wI hw 79 rfl) (wI hw 139 rfl) (by decide) E (cNwC l Z a0 hw n0 hEW q b cs N m h0 σ S0 hm (by omega)) (lenOf bNwC_pd rfl) rfl rfl rfl (by decide) (by decide) (ce' := 0) (sl' := 0) rfl rfl (by decide) (by decide) ?_
  rintro _ h_2 σ_3 m_4 ⟨rfl, rfl⟩
  refine Road.Go.weaken (σ' := σ) m_4 (Nat.le_refl _) (Nat.le_refl _) ?_
  refine Road.aloadN 27 bEn0_d27 rfl ?_
  refine Road.getfield 28 bEn0_d28 (wI hw 85 rfl) Via.refl Fc ?_
  refine Road.ishl 31 bEn0_d31 ?_
  refine Road.nameI ?_
  intro z_6 hz_6
  obtain rfl : z_6 = (Nat.toInt32 (max m (2 * N + 2))) := by rw [hz_6]; exact Road.shl0 _
  refine Road.callS (B' := bCpO) 32 (argsL := [(.ref b), (.int (Nat.toInt32 (max m (2 * N + 2))))]) (rest := [(.ref q)]) 1 bEn0_d32 (wI hw 150 rfl) (wI hw 151 rfl) (wI hw 152 rfl) (wI hw 153 rfl) (by decide) (cCpO l Z a0 hw n0 hEW b _ (max m (2 * N + 2)) h0 σ Ab (by rw [List.length_append, List.length_map]; omega) (by omega)) (lenOf bCpO_pd rfl) rfl rfl rfl (by decide) (by decide) (ce' := 1) (sl' := 48) rfl rfl (by decide) (by decide) ?_
  rintro _ h_7 σ_8 m_9 ⟨d, rfl, gd, K_10, sd, Ad, ED⟩
  have ne_q_d : q ≠ d := Nat.ne_of_lt (Nat.lt_of_lt_of_le E.lt gd)
  replace E := E.keep K_10
  replace Fc := Fc.keep K_10 nin0
  replace Fv := Fv.keep K_10 nin0
  replace Fn := Fn.keep K_10 nin0
  replace sq := m_9 _ sq
  refine Road.putfield 35 bEn0_d35 (wI hw 83 rfl) Via.refl Fv E (Or.inl (wI hw 84 rfl)) (wI hw 70 rfl) (ty := (.array .byte)) (by decide) rfl rfl sq ?_
  intro h_14 W_12 K_13
  replace Fv := Fv.same W_12
  replace Fc := Fc.other W_12 (Or.inr (slot_ne (Or.inl (wI hw 86 rfl)) (Or.inl (wI hw 84 rfl)) (by decide) (t := .byte) (by decide) (t' := (.array .byte)) (by decide)))
  replace Fn := Fn.other W_12 (Or.inr (slot_ne (Or.inl (wI hw 108 rfl)) (Or.inl (wI hw 84 rfl)) (by decide) (t := .int) (by decide) (t' := (.array .byte)) (by decide)))
  replace E := E.keep K_13
  replace Ad := Ad.keep K_13 (ninS (Ne.symm ne_q_d) nin0)
  replace ED := ED.keep K_13
  exact Road.ret 38 bEn0_d38 rfl (by decide) (by decide) (fun σ' m => ⟨rfl, (Road.keep_more K_10).trans K_13 (by simp), d, ⟨E, Fc, Fv, Fn, ⟨_, by rw [List.append_assoc] at Ad; exact Ad, by simp only [List.length_append, List.length_map, List.length_replicate]; omega⟩, hlt⟩, gd, m _ sd, ED⟩)
def bApG : Road.Bdy := (⟨"java/lang/AbstractStringBuilder", "append", "(Ljava/lang/String;)Ljava/lang/AbstractStringBuilder;"⟩, jdk_68_method_22_code, 3, (some (.object "java/lang/AbstractStringBuilder")), { frames := 4, cells := 1, slots := 48, locals := 63 })
theorem bApG_pd : parseMethodDescriptor "(Ljava/lang/String;)Ljava/lang/AbstractStringBuilder;" = some ⟨[(.object "java/lang/String")], (some (.object "java/lang/AbstractStringBuilder"))⟩ := by decide +kernel
theorem bApG_pn : plainFor bApG.y = true := plainFor_of_name (show plainName "java/lang/AbstractStringBuilder" = true from by first | (simp [plainName, overriddenIn]; done) | decide +kernel)
theorem cApG (l : Launch) (Z : State) (a0 : Array Value) (hw : ∀ d ∈ tables_1, d.before a0 Z = true) (n0 : Nat) (hEW : EW Z a0 consts_1) (q b : Addr) (cs : List Int32) (N : Nat) (s sb : Addr) (ds : List Int32) (h0 : Heap) (σ : Addr → Prop) (S : Road.Sb Z h0 q b cs N) (T : Road.Str Z h0 s sb ds) (hm : N < cs.length + ds.length) (hcap : max (cs.length + ds.length) (2 * N + 2) ≤ 48) (nsq : s ≠ q) (nbq : sb ≠ q) (sq : σ q) (cp : Int32) (Hc : Sta Z Z.heap Road.SN "COMPACT_STRINGS" "Z" (.int cp)) (hcp : ¬ cp = 0) :
    Road.Con l Z consts_1 n0 true bApG [] σ #[(.ref q), (.ref s)] h0 (fun v h2 s2 => v = some (.ref q) ∧ Keep h0 h2 [q] ∧ ∃ d, Road.Sb Z h2 q d (cs ++ ds) (max (cs.length + ds.length) (2 * N + 2)) ∧ h0.size ≤ d ∧ s2 d ∧ Exa Z h2 d "[B") := by
  have S0 := S
  have hN := S.small
  have hle := S.le
  obtain ⟨E, Fc, Fv, Fn, ⟨r, Ab, hr⟩, hlt⟩ := S
  have nqb : q ≠ b := by obtain ⟨c, Ar, -⟩ := Ab; exact ne_arr E (wI hw 70 rfl) Ar
  refine Road.Con.of bApG_pn hEW #[.val (.ref q), .val (.ref s), .unset] (fun m => Road.ent (Road.laid1 rfl (Road.laid1 rfl Road.laid0)) (k := 1) rfl rfl) ?_
  intro D hD
  refine Road.aloadN 0 bAp0_d0 rfl ?_
  refine Road.ifnonnull 1 9 rfl bAp0_d1 rfl (fun hc1 => ?_) (fun q => absurd q (by simp))
  refine Road.aloadN 9 bAp0_d9 rfl ?_
  refine Road.callV (B' := bLen) (a := s) 10 (argsL := []) (rest := []) "java/lang/String" 0 bAp0_d10 (wI hw 97 rfl) (wI hw 98 rfl) (fun vm hz => Road.notFace_sib (args := #[]) (mv (s := D.s.setVm vm) hz (wI hw 100 rfl)) rfl) (wI hw 100 rfl) (wI hw 99 rfl) (wI hw 2 rfl) (wI hw 101 rfl) (by decide) T.1 (cLen l Z a0 hw n0 hEW s sb ds h0 σ T cp Hc hcp) (lenOf bLen_pd rfl) rfl rfl rfl (by decide) (by decide) (ce' := 0) (sl' := 0) rfl rfl (by decide) (by decide) ?_
  rintro _ h_1 σ_2 m_3 ⟨rfl, rfl⟩
  refine Road.Go.weaken (σ' := σ) m_3 (Nat.le_refl _) (Nat.le_refl _) ?_
  refine Road.istoreN 13 #[.val (.ref q), .val (.ref s), .val (.int (Nat.toInt32 ds.length))] bAp0_d13 rfl ?_
  refine Road.aloadN 14 bAp0_d14 rfl ?_
  refine Road.aloadN 15 bAp0_d15 rfl ?_
  refine Road.getfield 16 bAp0_d16 (wI hw 107 rfl) Via.refl Fn ?_
  refine Road.iloadN 19 bAp0_d19 rfl ?_
  refine Road.iadd 20 bAp0_d20 ?_
  refine Road.nameI ?_
  intro z_5 hz_5
  obtain rfl : z_5 = (Nat.toInt32 (cs.length + ds.length)) := by rw [hz_5]; exact Road.add32n _ _
  refine Road.callP (B' := bEnG) (a := q) 21 (argsL := [(.int (Nat.toInt32 (cs.length + ds.length)))]) (rest := []) "java/lang/StringBuilder" 0 bAp0_d21 (wI hw 109 rfl) (wI hw 111 rfl) (wI hw 112 rfl) (wI hw 110 rfl) (wI hw 79 rfl) (wI hw 113 rfl) (by decide) E (cEnG l Z a0 hw n0 hEW q b cs N (cs.length + ds.length) h0 σ S0 hm hcap sq) (lenOf bEnG_pd rfl) rfl rfl rfl (by decide) (by decide) (ce' := 1) (sl' := 48) rfl rfl (by decide) (by decide) ?_
  rintro _ h_6 σ_7 m_8 ⟨rfl, K_9, d, S2, gd, sd, ED⟩
  replace T := T.keep K_9 (ninS nsq nin0) (ninS nbq nin0)
  replace sq := m_8 _ sq
  clear E Fc Fv Fn Ab
  have S3 := S2
  obtain ⟨E, Fc, Fv, Fn, ⟨r2, Ab, hr2⟩, -⟩ := S2
  have nqd : q ≠ d := by obtain ⟨c, Ar, -⟩ := Ab; exact ne_arr E (wI hw 70 rfl) Ar
  refine Road.aloadN 24 bAp0_d24 rfl ?_
  refine Road.aloadN 25 bAp0_d25 rfl ?_
  refine Road.getfield 26 bAp0_d26 (wI hw 107 rfl) Via.refl Fn ?_
  refine Road.aloadN 29 bAp0_d29 rfl ?_
  refine Road.callP (B' := bPut) (a := q) 30 (argsL := [(.int (Nat.toInt32 cs.length)), (.ref s)]) (rest := []) "java/lang/StringBuilder" 0 bAp0_d30 (wI hw 114 rfl) (wI hw 116 rfl) (wI hw 117 rfl) (wI hw 115 rfl) (wI hw 79 rfl) (wI hw 118 rfl) (by decide) E (cPut l Z a0 hw n0 hEW q d cs (max (cs.length + ds.length) (2 * N + 2)) s sb ds h_6 σ_7 S3 T (by omega) sd cp Hc hcp) (lenOf bPut_pd rfl) rfl rfl rfl (by decide) (by decide) (ce' := 1) (sl' := 48) rfl rfl (by decide) (by decide) ?_
  rintro _ h_11 σ_12 m_13 ⟨rfl, K_14, r3, A3, hr3⟩
  replace ED := ED.keep K_14
  replace E := E.keep K_14
  replace Fc := Fc.keep K_14 (ninS nqd nin0)
  replace Fv := Fv.keep K_14 (ninS nqd nin0)
  replace Fn := Fn.keep K_14 (ninS nqd nin0)
  replace sq := m_13 _ sq
  replace sd := m_13 _ sd
  refine Road.aloadN 33 bAp0_d33 rfl ?_
  refine Road.dup 34 bAp0_d34 ?_
  refine Road.getfield 35 bAp0_d35 (wI hw 107 rfl) Via.refl Fn ?_
  refine Road.iloadN 38 bAp0_d38 rfl ?_
  refine Road.iadd 39 bAp0_d39 ?_
  refine Road.nameI ?_
  intro z_17 hz_17
  obtain rfl : z_17 = (Nat.toInt32 (cs ++ ds).length) := by rw [hz_17]; rw [Road.add32n, List.length_append]
  refine Road.putfield 40 bAp0_d40 (wI hw 107 rfl) Via.refl Fn E (Or.inl (wI hw 108 rfl)) (wI hw 70 rfl) (ty := .int) (by decide) rfl rfl sq ?_
  intro h_20 W_18 K_19
  replace Fn := Fn.same W_18
  replace Fc := Fc.other W_18 (Or.inr (slot_ne (Or.inl (wI hw 86 rfl)) (Or.inl (wI hw 108 rfl)) (by decide) (t := .byte) (by decide) (t' := .int) (by decide)))
  replace Fv := Fv.other W_18 (Or.inr (slot_ne (Or.inl (wI hw 84 rfl)) (Or.inl (wI hw 108 rfl)) (by decide) (t := (.array .byte)) (by decide) (t' := .int) (by decide)))
  replace ED := ED.keep K_19
  replace E := E.keep K_19
  replace A3 := A3.keep K_19 (ninS (Ne.symm nqd) nin0)
  refine Road.aloadN 43 bAp0_d43 rfl ?_
  exact Road.aret 44 bAp0_d44 (t := (.object "java/lang/AbstractStringBuilder")) rfl rfl rfl (by decide) (by decide) (fun σ' m => ⟨rfl, (K_9.trans K_14 (by intro x hx; cases List.mem_singleton.mp hx; exact Or.inr gd)).trans K_19 (by simp), d, ⟨E, Fc, Fv, Fn, ⟨r3, A3, hr3⟩, (fun c hc => (List.mem_append.mp hc).elim (hlt c) (T.2.2.2.2 c))⟩, gd, m _ sd, ED⟩)
def bSpG : Road.Bdy := (⟨"java/lang/StringBuilder", "append", "(Ljava/lang/String;)Ljava/lang/StringBuilder;"⟩, jdk_67_method_7_code, 2, (some (.object "java/lang/StringBuilder")), { frames := 5, cells := 1, slots := 48, locals := 77 })
theorem bSpG_pd : parseMethodDescriptor "(Ljava/lang/String;)Ljava/lang/StringBuilder;" = some ⟨[(.object "java/lang/String")], (some (.object "java/lang/StringBuilder"))⟩ := by decide +kernel
theorem bSpG_pn : plainFor bSpG.y = true := plainFor_of_name (show plainName "java/lang/StringBuilder" = true from by first | (simp [plainName, overriddenIn]; done) | decide +kernel)
theorem cSpG (l : Launch) (Z : State) (a0 : Array Value) (hw : ∀ d ∈ tables_1, d.before a0 Z = true) (n0 : Nat) (hEW : EW Z a0 consts_1) (q b : Addr) (cs : List Int32) (N : Nat) (s sb : Addr) (ds : List Int32) (h0 : Heap) (σ : Addr → Prop) (S : Road.Sb Z h0 q b cs N) (T : Road.Str Z h0 s sb ds) (hm : N < cs.length + ds.length) (hcap : max (cs.length + ds.length) (2 * N + 2) ≤ 48) (nsq : s ≠ q) (nbq : sb ≠ q) (sq : σ q) (cp : Int32) (Hc : Sta Z Z.heap Road.SN "COMPACT_STRINGS" "Z" (.int cp)) (hcp : ¬ cp = 0) :
    Road.Con l Z consts_1 n0 true bSpG [] σ #[(.ref q), (.ref s)] h0 (fun v h2 s2 => v = some (.ref q) ∧ Keep h0 h2 [q] ∧ ∃ d, Road.Sb Z h2 q d (cs ++ ds) (max (cs.length + ds.length) (2 * N + 2)) ∧ h0.size ≤ d ∧ s2 d ∧ Exa Z h2 d "[B") := by
  refine Road.Con.of bSpG_pn hEW #[.val (.ref q), .val (.ref s)] (fun m => Road.ent (Road.laid1 rfl (Road.laid1 rfl Road.laid0)) (k := 0) rfl rfl) ?_
  intro D hD
  refine Road.aloadN 0 bSp0_d0 rfl ?_
  refine Road.aloadN 1 bSp0_d1 rfl ?_
  refine Road.callUp (B' := bApG) (a := q) 2 (argsL := [(.ref s)]) (rest := []) "java/lang/StringBuilder" 0 bSp0_d2 (wI hw 92 rfl) (Road.notFace_sib (wI hw 112 rfl) rfl) (wI hw 93 rfl) (wI hw 94 rfl) (wI hw 79 rfl) (wI hw 96 rfl) (by decide) (by decide) S.1 (cApG l Z a0 hw n0 hEW q b cs N s sb ds h0 σ S T hm hcap nsq nbq sq cp Hc hcp) (lenOf bApG_pd rfl) rfl rfl rfl (by decide) (by decide) (ce' := 1) (sl' := 48) rfl rfl (by decide) (by decide) ?_
  rintro _ h_1 σ_2 m_3 ⟨rfl, K_4, d, S2, gd, sd, ED⟩
  refine Road.pop 5 bSp0_d5 ?_
  refine Road.aloadN 6 bSp0_d6 rfl ?_
  exact Road.aret 7 bSp0_d7 (t := (.object "java/lang/StringBuilder")) rfl rfl rfl (by decide) (by decide) (fun σ' m => ⟨rfl, K_4, d, S2, gd, m _ sd, ED⟩)
def bSpX : Road.Bdy := (⟨"java/lang/StringBuilder", "append", "(Ljava/lang/String;)Ljava/lang/StringBuilder;"⟩, jdk_67_method_7_code, 2, (some (.object "java/lang/StringBuilder")), { frames := 5, cells := 1, slots := 48, locals := 77 })
theorem bSpX_pd : parseMethodDescriptor "(Ljava/lang/String;)Ljava/lang/StringBuilder;" = some ⟨[(.object "java/lang/String")], (some (.object "java/lang/StringBuilder"))⟩ := by decide +kernel
theorem bSpX_pn : plainFor bSpX.y = true := plainFor_of_name (show plainName "java/lang/StringBuilder" = true from by first | (simp [plainName, overriddenIn]; done) | decide +kernel)
theorem cSpX (l : Launch) (Z : State) (a0 : Array Value) (hw : ∀ d ∈ tables_1, d.before a0 Z = true) (n0 : Nat) (hEW : EW Z a0 consts_1) (q b : Addr) (cs : List Int32) (N : Nat) (s sb : Addr) (ds : List Int32) (h0 : Heap) (σ : Addr → Prop) (S : Road.Sb Z h0 q b cs N) (EB : Exa Z h0 b "[B") (T : Road.Str Z h0 s sb ds) (hcap : cs.length + ds.length ≤ N ∨ max (cs.length + ds.length) (2 * N + 2) ≤ 48) (nsq : s ≠ q) (nbq : sb ≠ q) (sb_ : σ b) (sq : σ q) (cp : Int32) (Hc : Sta Z Z.heap Road.SN "COMPACT_STRINGS" "Z" (.int cp)) (hcp : ¬ cp = 0) :
    Road.Con l Z consts_1 n0 true bSpX [] σ #[(.ref q), (.ref s)] h0 (fun v h2 s2 => v = some (.ref q) ∧ Keep h0 h2 [q, b] ∧ ∃ d N', Road.Sb Z h2 q d (cs ++ ds) N' ∧ (d = b ∨ h0.size ≤ d) ∧ (cs.length + ds.length ≤ N ∧ N' = N ∨ N < cs.length + ds.length ∧ N' = max (cs.length + ds.length) (2 * N + 2)) ∧ s2 d ∧ Exa Z h2 d "[B") := by
  refine Road.Con.of bSpX_pn hEW #[.val (.ref q), .val (.ref s)] (fun m => Road.ent (Road.laid1 rfl (Road.laid1 rfl Road.laid0)) (k := 0) rfl rfl) ?_
  intro D hD
  refine Road.aloadN 0 bSp0_d0 rfl ?_
  refine Road.aloadN 1 bSp0_d1 rfl ?_
  by_cases hm : cs.length + ds.length ≤ N
  · skip
    refine Road.callUp (B' := bAp0) (a := q) 2 (argsL := [(.ref s)]) (rest := []) "java/lang/StringBuilder" 0 bSp0_d2 (wI hw 92 rfl) (Road.notFace_sib (wI hw 112 rfl) rfl) (wI hw 93 rfl) (wI hw 94 rfl) (wI hw 79 rfl) (wI hw 96 rfl) (by decide) (by decide) S.1 (cAp0 l Z a0 hw n0 hEW q b cs N s sb ds h0 σ S T hm sb_ sq cp Hc hcp) (lenOf bAp0_pd rfl) rfl rfl rfl (by decide) (by decide) (ce' := 0) (sl' := 0) rfl rfl (by decide) (by decide) ?_
    rintro _ h_1 σ_2 m_3 ⟨rfl, K_4, S2⟩
    replace EB := EB.keep K_4
    refine Road.pop 5 bSp0_d5 ?_
    refine Road.aloadN 6 bSp0_d6 rfl ?_
    exact Road.aret 7 bSp0_d7 (t := (.object "java/lang/StringBuilder")) rfl rfl rfl (by decide) (by decide) (fun σ' m => ⟨rfl, K_4, b, N, S2, Or.inl rfl, Or.inl ⟨hm, rfl⟩, m _ (m_3 _ sb_), EB⟩)
  · skip
    refine Road.callUp (B' := bApG) (a := q) 2 (argsL := [(.ref s)]) (rest := []) "java/lang/StringBuilder" 0 bSp0_d2 (wI hw 92 rfl) (Road.notFace_sib (wI hw 112 rfl) rfl) (wI hw 93 rfl) (wI hw 94 rfl) (wI hw 79 rfl) (wI hw 96 rfl) (by decide) (by decide) S.1 (cApG l Z a0 hw n0 hEW q b cs N s sb ds h0 σ S T (by omega) (by omega) nsq nbq sq cp Hc hcp) (lenOf bApG_pd rfl) rfl rfl rfl (by decide) (by decide) (ce' := 1) (sl' := 48) rfl rfl (by decide) (by decide) ?_
    rintro _ h_5 σ_6 m_7 ⟨rfl, K_8, d, S2, gd, sd, ED⟩
    refine Road.pop 5 bSp0_d5 ?_
    refine Road.aloadN 6 bSp0_d6 rfl ?_
    exact Road.aret 7 bSp0_d7 (t := (.object "java/lang/StringBuilder")) rfl rfl rfl (by decide) (by decide) (fun σ' m => ⟨rfl, Road.keep_sub K_8 (by simp), d, _, S2, Or.inr gd, Or.inr ⟨by omega, rfl⟩, m _ sd, ED⟩)
def bAbL : Road.Bdy := (⟨"java/lang/AbstractStringBuilder", "isLatin1", "()Z"⟩, jdk_68_method_68_code, 1, (some .boolean), { frames := 0, cells := 0, slots := 0, locals := 0 })
theorem bAbL_d0 : decode bAbL.bs 0 = .ok (.getstatic 18, 3) := by decide +kernel
theorem bAbL_d3 : decode bAbL.bs 3 = .ok (.ifCond .eq 14, 3) := by decide +kernel
theorem bAbL_d6 : decode bAbL.bs 6 = .ok (.aload_n 0, 1) := by decide +kernel
theorem bAbL_d7 : decode bAbL.bs 7 = .ok (.getfield 22, 3) := by decide +kernel
theorem bAbL_d10 : decode bAbL.bs 10 = .ok (.ifCond .ne 7, 3) := by decide +kernel
theorem bAbL_d13 : decode bAbL.bs 13 = .ok (.iconst 1, 1) := by decide +kernel
theorem bAbL_d14 : decode bAbL.bs 14 = .ok (.goto 4, 3) := by decide +kernel
theorem bAbL_d17 : decode bAbL.bs 17 = .ok (.iconst 0, 1) := by decide +kernel
theorem bAbL_d18 : decode bAbL.bs 18 = .ok (.ireturn, 1) := by decide +kernel
theorem bAbL_pd : parseMethodDescriptor "()Z" = some ⟨[], (some .boolean)⟩ := by decide +kernel
theorem bAbL_pn : plainFor bAbL.y = true := plainFor_of_name (show plainName "java/lang/AbstractStringBuilder" = true from by first | (simp [plainName, overriddenIn]; done) | decide +kernel)
theorem cAbL (l : Launch) (Z : State) (a0 : Array Value) (hw : ∀ d ∈ tables_1, d.before a0 Z = true) (n0 : Nat) (hEW : EW Z a0 consts_1) (q : Addr) (h0 : Heap) (σ : Addr → Prop) (Fc : Fld Z h0 q Road.AB "coder" "B" (.int 0)) (cp : Int32) (Hc : Sta Z Z.heap Road.SN "COMPACT_STRINGS" "Z" (.int cp)) (hcp : ¬ cp = 0) :
    Road.Con l Z consts_1 n0 true bAbL [] σ #[(.ref q)] h0 (fun v h2 _ => v = some (.int 1) ∧ h0 = h2) := by
  refine Road.Con.of bAbL_pn hEW #[.val (.ref q)] (fun m => Road.ent (Road.laid1 rfl Road.laid0) (k := 0) rfl rfl) ?_
  intro D hD
  refine Road.getstatic 0 bAbL_d0 (wI hw 82 rfl) Via.refl Hc ?_
  refine Road.if_eq 3 17 bAbL_d3 rfl (fun q => absurd q hcp) (fun hc3 => ?_)
  refine Road.aloadN 6 bAbL_d6 rfl ?_
  refine Road.getfield 7 bAbL_d7 (wI hw 85 rfl) Via.refl Fc ?_
  refine Road.if_ne 10 17 bAbL_d10 rfl (fun q => absurd q (by decide)) (fun hc10 => ?_)
  refine Road.iconst 13 (1 : Int32) bAbL_d13 rfl ?_
  refine Road.goto 14 18 bAbL_d14 rfl ?_
  exact Road.iret 18 1 bAbL_d18 (t := .boolean) rfl (by simp) rfl (by decide) (by decide) (fun σ' m => ⟨rfl, rfl⟩)
def bSz : Road.Bdy := (⟨"java/lang/Integer", "stringSize", "(I)I"⟩, jdk_33_method_13_code, 4, (some .int), { frames := 0, cells := 0, slots := 0, locals := 0 })
theorem bSz_d0 : decode bSz.bs 0 = .ok (.iconst 1, 1) := by decide +kernel
theorem bSz_d1 : decode bSz.bs 1 = .ok (.istore_n 1, 1) := by decide +kernel
theorem bSz_d2 : decode bSz.bs 2 = .ok (.iload_n 0, 1) := by decide +kernel
theorem bSz_d3 : decode bSz.bs 3 = .ok (.ifCond .lt 8, 3) := by decide +kernel
theorem bSz_d6 : decode bSz.bs 6 = .ok (.iconst 0, 1) := by decide +kernel
theorem bSz_d7 : decode bSz.bs 7 = .ok (.istore_n 1, 1) := by decide +kernel
theorem bSz_d8 : decode bSz.bs 8 = .ok (.iload_n 0, 1) := by decide +kernel
theorem bSz_d9 : decode bSz.bs 9 = .ok (.ineg, 1) := by decide +kernel
theorem bSz_d10 : decode bSz.bs 10 = .ok (.istore_n 0, 1) := by decide +kernel
theorem bSz_d11 : decode bSz.bs 11 = .ok (.bipush (-10), 2) := by decide +kernel
theorem bSz_d13 : decode bSz.bs 13 = .ok (.istore_n 2, 1) := by decide +kernel
theorem bSz_d14 : decode bSz.bs 14 = .ok (.iconst 1, 1) := by decide +kernel
theorem bSz_d15 : decode bSz.bs 15 = .ok (.istore_n 3, 1) := by decide +kernel
theorem bSz_d16 : decode bSz.bs 16 = .ok (.iload_n 3, 1) := by decide +kernel
theorem bSz_d17 : decode bSz.bs 17 = .ok (.bipush 10, 2) := by decide +kernel
theorem bSz_d19 : decode bSz.bs 19 = .ok (.if_icmp .ge 23, 3) := by decide +kernel
theorem bSz_d22 : decode bSz.bs 22 = .ok (.iload_n 0, 1) := by decide +kernel
theorem bSz_d23 : decode bSz.bs 23 = .ok (.iload_n 2, 1) := by decide +kernel
theorem bSz_d24 : decode bSz.bs 24 = .ok (.if_icmp .le 7, 3) := by decide +kernel
theorem bSz_d27 : decode bSz.bs 27 = .ok (.iload_n 3, 1) := by decide +kernel
theorem bSz_d28 : decode bSz.bs 28 = .ok (.iload_n 1, 1) := by decide +kernel
theorem bSz_d29 : decode bSz.bs 29 = .ok (.iadd, 1) := by decide +kernel
theorem bSz_d30 : decode bSz.bs 30 = .ok (.ireturn, 1) := by decide +kernel
theorem bSz_d31 : decode bSz.bs 31 = .ok (.bipush 10, 2) := by decide +kernel
theorem bSz_d33 : decode bSz.bs 33 = .ok (.iload_n 2, 1) := by decide +kernel
theorem bSz_d34 : decode bSz.bs 34 = .ok (.imul, 1) := by decide +kernel
theorem bSz_d35 : decode bSz.bs 35 = .ok (.istore_n 2, 1) := by decide +kernel
theorem bSz_d36 : decode bSz.bs 36 = .ok (.iinc 3 1, 3) := by decide +kernel
theorem bSz_d39 : decode bSz.bs 39 = .ok (.goto (-23), 3) := by decide +kernel
theorem bSz_d42 : decode bSz.bs 42 = .ok (.bipush 10, 2) := by decide +kernel
theorem bSz_d44 : decode bSz.bs 44 = .ok (.iload_n 1, 1) := by decide +kernel
theorem bSz_d45 : decode bSz.bs 45 = .ok (.iadd, 1) := by decide +kernel
theorem bSz_d46 : decode bSz.bs 46 = .ok (.ireturn, 1) := by decide +kernel
theorem bSz_pd : parseMethodDescriptor "(I)I" = some ⟨[.int], (some .int)⟩ := by decide +kernel
theorem bSz_pn : plainFor bSz.y = true := plainFor_of_name (show plainName "java/lang/Integer" = true from by first | (simp [plainName, overriddenIn]; done) | decide +kernel)
theorem cSz (l : Launch) (Z : State) (a0 : Array Value) (hw : ∀ d ∈ tables_1, d.before a0 Z = true) (n0 : Nat) (hEW : EW Z a0 consts_1) (x : Int32) (h0 : Heap) (σ : Addr → Prop)  :
    Road.Con l Z consts_1 n0 true bSz [] σ #[(.int x)] h0 (fun v h2 _ => v = some (.int (Nat.toInt32 (Road.dec x).length)) ∧ h0 = h2) := by
  refine Road.Con.of bSz_pn hEW #[.val (.int x), .unset, .unset, .unset] (fun m => Road.ent (Road.laid1 rfl Road.laid0) (k := 3) rfl rfl) ?_
  intro D hD
  have hmx := Road.nat_le x
  obtain ⟨m, hm⟩ : ∃ m, m = x.toInt.natAbs := ⟨_, rfl⟩
  rw [← hm] at hmx
  have tail : ∀ (y d : Int32) (dn : Nat), y.toInt = -(m : Int) → d = Nat.toInt32 dn → (Road.dec x).length = (Road.decN m).length + dn → Road.Go l Z a0 consts_1 n0 true bSz D (fun v h2 _ => v = some (.int (Nat.toInt32 (Road.dec x).length)) ∧ h0 = h2) h0 σ 0 0 11 #[.val (.int y), .val (.int d), .unset, .unset] [] := by
    intro y d dn hy hd hl
    refine Road.bipush 11 (-10 : Int32) bSz_d11 rfl ?_
    refine Road.istoreN 13 #[.val (.int y), .val (.int d), .val (.int (-10 : Int32)), .unset] bSz_d13 rfl ?_
    refine Road.iconst 14 (1 : Int32) bSz_d14 rfl ?_
    refine Road.istoreN 15 #[.val (.int y), .val (.int d), .val (.int (-10 : Int32)), .val (.int (1 : Int32))] bSz_d15 rfl ?_
    refine Road.iloadN 16 bSz_d16 rfl ?_
    refine Road.bipush 17 (10 : Int32) bSz_d17 rfl ?_
    refine Road.icmp_ge 19 42 bSz_d19 rfl (fun q => absurd q (by decide)) (fun hc19 => ?_)
    refine Road.iloadN 22 bSz_d22 rfl ?_
    refine Road.iloadN 23 bSz_d23 rfl ?_
    refine Road.icmp_le 24 31 bSz_d24 rfl (fun e1 => ?_) (fun e1 => ?_)
    · skip
      have g1 : 10 ^ 1 ≤ m := by rw [Int32.lt_iff_toInt_lt, hy, show ((-10) : Int32).toInt = -10 from rfl] at e1; omega
      refine Road.bipush 31 (10 : Int32) bSz_d31 rfl ?_
      refine Road.iloadN 33 bSz_d33 rfl ?_
      refine Road.imul 34 bSz_d34 ?_
      refine Road.nameI ?_
      intro z_1 hz_1
      obtain rfl : z_1 = (-100 : Int32) := by rw [hz_1]; decide
      refine Road.istoreN 35 #[.val (.int y), .val (.int d), .val (.int (-100 : Int32)), .val (.int (1 : Int32))] bSz_d35 rfl ?_
      refine Road.iinc 36 (1) #[.val (.int y), .val (.int d), .val (.int (-100 : Int32)), .val (.int ((1 : Int32) + 1))] bSz_d36 rfl rfl rfl ?_
      rw [show (1 : Int32) + 1 = 2 from by decide]
      refine Road.goto 39 16 bSz_d39 rfl ?_
      refine Road.iloadN 16 bSz_d16 rfl ?_
      refine Road.bipush 17 (10 : Int32) bSz_d17 rfl ?_
      refine Road.icmp_ge 19 42 bSz_d19 rfl (fun q => absurd q (by decide)) (fun hc19 => ?_)
      refine Road.iloadN 22 bSz_d22 rfl ?_
      refine Road.iloadN 23 bSz_d23 rfl ?_
      refine Road.icmp_le 24 31 bSz_d24 rfl (fun e2 => ?_) (fun e2 => ?_)
      · skip
        have g2 : 10 ^ 2 ≤ m := by rw [Int32.lt_iff_toInt_lt, hy, show ((-100) : Int32).toInt = -100 from rfl] at e2; omega
        refine Road.bipush 31 (10 : Int32) bSz_d31 rfl ?_
        refine Road.iloadN 33 bSz_d33 rfl ?_
        refine Road.imul 34 bSz_d34 ?_
        refine Road.nameI ?_
        intro z_2 hz_2
        obtain rfl : z_2 = (-1000 : Int32) := by rw [hz_2]; decide
        refine Road.istoreN 35 #[.val (.int y), .val (.int d), .val (.int (-1000 : Int32)), .val (.int (2 : Int32))] bSz_d35 rfl ?_
        refine Road.iinc 36 (1) #[.val (.int y), .val (.int d), .val (.int (-1000 : Int32)), .val (.int ((2 : Int32) + 1))] bSz_d36 rfl rfl rfl ?_
        rw [show (2 : Int32) + 1 = 3 from by decide]
        refine Road.goto 39 16 bSz_d39 rfl ?_
        refine Road.iloadN 16 bSz_d16 rfl ?_
        refine Road.bipush 17 (10 : Int32) bSz_d17 rfl ?_
        refine Road.icmp_ge 19 42 bSz_d19 rfl (fun q => absurd q (by decide)) (fun hc19 => ?_)
        refine Road.iloadN 22 bSz_d22 rfl ?_
        refine Road.iloadN 23 bSz_d23 rfl ?_
        refine Road.icmp_le 24 31 bSz_d24 rfl (fun e3 => ?_) (fun e3 => ?_)
        · skip
          have g3 : 10 ^ 3 ≤ m := by rw [Int32.lt_iff_toInt_lt, hy, show ((-1000) : Int32).toInt = -1000 from rfl] at e3; omega
          refine Road.bipush 31 (10 : Int32) bSz_d31 rfl ?_
          refine Road.iloadN 33 bSz_d33 rfl ?_
          refine Road.imul 34 bSz_d34 ?_
          refine Road.nameI ?_
          intro z_3 hz_3
          obtain rfl : z_3 = (-10000 : Int32) := by rw [hz_3]; decide
          refine Road.istoreN 35 #[.val (.int y), .val (.int d), .val (.int (-10000 : Int32)), .val (.int (3 : Int32))] bSz_d35 rfl ?_
          refine Road.iinc 36 (1) #[.val (.int y), .val (.int d), .val (.int (-10000 : Int32)), .val (.int ((3 : Int32) + 1))] bSz_d36 rfl rfl rfl ?_
          rw [show (3 : Int32) + 1 = 4 from by decide]
          refine Road.goto 39 16 bSz_d39 rfl ?_
          refine Road.iloadN 16 bSz_d16 rfl ?_
          refine Road.bipush 17 (10 : Int32) bSz_d17 rfl ?_
          refine Road.icmp_ge 19 42 bSz_d19 rfl (fun q => absurd q (by decide)) (fun hc19 => ?_)
          refine Road.iloadN 22 bSz_d22 rfl ?_
          refine Road.iloadN 23 bSz_d23 rfl ?_
          refine Road.icmp_le 24 31 bSz_d24 rfl (fun e4 => ?_) (fun e4 => ?_)
          · skip
            have g4 : 10 ^ 4 ≤ m := by rw [Int32.lt_iff_toInt_lt, hy, show ((-10000) : Int32).toInt = -10000 from rfl] at e4; omega
            refine Road.bipush 31 (10 : Int32) bSz_d31 rfl ?_
            refine Road.iloadN 33 bSz_d33 rfl ?_
            refine Road.imul 34 bSz_d34 ?_
            refine Road.nameI ?_
            intro z_4 hz_4
            obtain rfl : z_4 = (-100000 : Int32) := by rw [hz_4]; decide
            refine Road.istoreN 35 #[.val (.int y), .val (.int d), .val (.int (-100000 : Int32)), .val (.int (4 : Int32))] bSz_d35 rfl ?_
            refine Road.iinc 36 (1) #[.val (.int y), .val (.int d), .val (.int (-100000 : Int32)), .val (.int ((4 : Int32) + 1))] bSz_d36 rfl rfl rfl ?_
            rw [show (4 : Int32) + 1 = 5 from by decide]
            refine Road.goto 39 16 bSz_d39 rfl ?_
            refine Road.iloadN 16 bSz_d16 rfl ?_
            refine Road.bipush 17 (10 : Int32) bSz_d17 rfl ?_
            refine Road.icmp_ge 19 42 bSz_d19 rfl (fun q => absurd q (by decide)) (fun hc19 => ?_)
            refine Road.iloadN 22 bSz_d22 rfl ?_
            refine Road.iloadN 23 bSz_d23 rfl ?_
            refine Road.icmp_le 24 31 bSz_d24 rfl (fun e5 => ?_) (fun e5 => ?_)
            · skip
              have g5 : 10 ^ 5 ≤ m := by rw [Int32.lt_iff_toInt_lt, hy, show ((-100000) : Int32).toInt = -100000 from rfl] at e5; omega
              refine Road.bipush 31 (10 : Int32) bSz_d31 rfl ?_
              refine Road.iloadN 33 bSz_d33 rfl ?_
              refine Road.imul 34 bSz_d34 ?_
              refine Road.nameI ?_
              intro z_5 hz_5
              obtain rfl : z_5 = (-1000000 : Int32) := by rw [hz_5]; decide
              refine Road.istoreN 35 #[.val (.int y), .val (.int d), .val (.int (-1000000 : Int32)), .val (.int (5 : Int32))] bSz_d35 rfl ?_
              refine Road.iinc 36 (1) #[.val (.int y), .val (.int d), .val (.int (-1000000 : Int32)), .val (.int ((5 : Int32) + 1))] bSz_d36 rfl rfl rfl ?_
              rw [show (5 : Int32) + 1 = 6 from by decide]
              refine Road.goto 39 16 bSz_d39 rfl ?_
              refine Road.iloadN 16 bSz_d16 rfl ?_
              refine Road.bipush 17 (10 : Int32) bSz_d17 rfl ?_
              refine Road.icmp_ge 19 42 bSz_d19 rfl (fun q => absurd q (by decide)) (fun hc19 => ?_)
              refine Road.iloadN 22 bSz_d22 rfl ?_
              refine Road.iloadN 23 bSz_d23 rfl ?_
              refine Road.icmp_le 24 31 bSz_d24 rfl (fun e6 => ?_) (fun e6 => ?_)
              · skip
                have g6 : 10 ^ 6 ≤ m := by rw [Int32.lt_iff_toInt_lt, hy, show ((-1000000) : Int32).toInt = -1000000 from rfl] at e6; omega
                refine Road.bipush 31 (10 : Int32) bSz_d31 rfl ?_
                refine Road.iloadN 33 bSz_d33 rfl ?_
                refine Road.imul 34 bSz_d34 ?_
                refine Road.nameI ?_
                intro z_6 hz_6
                obtain rfl : z_6 = (-10000000 : Int32) := by rw [hz_6]; decide
                refine Road.istoreN 35 #[.val (.int y), .val (.int d), .val (.int (-10000000 : Int32)), .val (.int (6 : Int32))] bSz_d35 rfl ?_
                refine Road.iinc 36 (1) #[.val (.int y), .val (.int d), .val (.int (-10000000 : Int32)), .val (.int ((6 : Int32) + 1))] bSz_d36 rfl rfl rfl ?_
                rw [show (6 : Int32) + 1 = 7 from by decide]
                refine Road.goto 39 16 bSz_d39 rfl ?_
                refine Road.iloadN 16 bSz_d16 rfl ?_
                refine Road.bipush 17 (10 : Int32) bSz_d17 rfl ?_
                refine Road.icmp_ge 19 42 bSz_d19 rfl (fun q => absurd q (by decide)) (fun hc19 => ?_)
                refine Road.iloadN 22 bSz_d22 rfl ?_
                refine Road.iloadN 23 bSz_d23 rfl ?_
                refine Road.icmp_le 24 31 bSz_d24 rfl (fun e7 => ?_) (fun e7 => ?_)
                · skip
                  have g7 : 10 ^ 7 ≤ m := by rw [Int32.lt_iff_toInt_lt, hy, show ((-10000000) : Int32).toInt = -10000000 from rfl] at e7; omega
                  refine Road.bipush 31 (10 : Int32) bSz_d31 rfl ?_
                  refine Road.iloadN 33 bSz_d33 rfl ?_
                  refine Road.imul 34 bSz_d34 ?_
                  refine Road.nameI ?_
                  intro z_7 hz_7
                  obtain rfl : z_7 = (-100000000 : Int32) := by rw [hz_7]; decide
                  refine Road.istoreN 35 #[.val (.int y), .val (.int d), .val (.int (-100000000 : Int32)), .val (.int (7 : Int32))] bSz_d35 rfl ?_
                  refine Road.iinc 36 (1) #[.val (.int y), .val (.int d), .val (.int (-100000000 : Int32)), .val (.int ((7 : Int32) + 1))] bSz_d36 rfl rfl rfl ?_
                  rw [show (7 : Int32) + 1 = 8 from by decide]
                  refine Road.goto 39 16 bSz_d39 rfl ?_
                  refine Road.iloadN 16 bSz_d16 rfl ?_
                  refine Road.bipush 17 (10 : Int32) bSz_d17 rfl ?_
                  refine Road.icmp_ge 19 42 bSz_d19 rfl (fun q => absurd q (by decide)) (fun hc19 => ?_)
                  refine Road.iloadN 22 bSz_d22 rfl ?_
                  refine Road.iloadN 23 bSz_d23 rfl ?_
                  refine Road.icmp_le 24 31 bSz_d24 rfl (fun e8 => ?_) (fun e8 => ?_)
                  · skip
                    have g8 : 10 ^ 8 ≤ m := by rw [Int32.lt_iff_toInt_lt, hy, show ((-100000000) : Int32).toInt = -100000000 from rfl] at e8; omega
                    refine Road.bipush 31 (10 : Int32) bSz_d31 rfl ?_
                    refine Road.iloadN 33 bSz_d33 rfl ?_
                    refine Road.imul 34 bSz_d34 ?_
                    refine Road.nameI ?_
                    intro z_8 hz_8
                    obtain rfl : z_8 = (-1000000000 : Int32) := by rw [hz_8]; decide
                    refine Road.istoreN 35 #[.val (.int y), .val (.int d), .val (.int (-1000000000 : Int32)), .val (.int (8 : Int32))] bSz_d35 rfl ?_
                    refine Road.iinc 36 (1) #[.val (.int y), .val (.int d), .val (.int (-1000000000 : Int32)), .val (.int ((8 : Int32) + 1))] bSz_d36 rfl rfl rfl ?_
                    rw [show (8 : Int32) + 1 = 9 from by decide]
                    refine Road.goto 39 16 bSz_d39 rfl ?_
                    refine Road.iloadN 16 bSz_d16 rfl ?_
                    refine Road.bipush 17 (10 : Int32) bSz_d17 rfl ?_
                    refine Road.icmp_ge 19 42 bSz_d19 rfl (fun q => absurd q (by decide)) (fun hc19 => ?_)
                    refine Road.iloadN 22 bSz_d22 rfl ?_
                    refine Road.iloadN 23 bSz_d23 rfl ?_
                    refine Road.icmp_le 24 31 bSz_d24 rfl (fun e9 => ?_) (fun e9 => ?_)
                    · skip
                      have g9 : 10 ^ 9 ≤ m := by rw [Int32.lt_iff_toInt_lt, hy, show ((-1000000000) : Int32).toInt = -1000000000 from rfl] at e9; omega
                      refine Road.bipush 31 (10 : Int32) bSz_d31 rfl ?_
                      refine Road.iloadN 33 bSz_d33 rfl ?_
                      refine Road.imul 34 bSz_d34 ?_
                      refine Road.nameI ?_
                      intro z_9 hz_9
                      obtain rfl : z_9 = (-1410065408 : Int32) := by rw [hz_9]; decide
                      refine Road.istoreN 35 #[.val (.int y), .val (.int d), .val (.int (-1410065408 : Int32)), .val (.int (9 : Int32))] bSz_d35 rfl ?_
                      refine Road.iinc 36 (1) #[.val (.int y), .val (.int d), .val (.int (-1410065408 : Int32)), .val (.int ((9 : Int32) + 1))] bSz_d36 rfl rfl rfl ?_
                      rw [show (9 : Int32) + 1 = 10 from by decide]
                      refine Road.goto 39 16 bSz_d39 rfl ?_
                      refine Road.iloadN 16 bSz_d16 rfl ?_
                      refine Road.bipush 17 (10 : Int32) bSz_d17 rfl ?_
                      refine Road.icmp_ge 19 42 bSz_d19 rfl (fun hc19 => ?_) (fun q => absurd q (by decide))
                      refine Road.bipush 42 (10 : Int32) bSz_d42 rfl ?_
                      refine Road.iloadN 44 bSz_d44 rfl ?_
                      have hlen := Road.decN_len 9 m (by omega) (Or.inr g9)
                      refine Road.iadd 45 bSz_d45 ?_
                      exact Road.iretI 46 bSz_d46 rfl (by decide) (by decide) (fun σ' m => ⟨by rw [hl, hlen, hd, ← Road.add32n]; rfl, rfl⟩)
                    · skip
                      have q9 : m < 10 ^ 9 := by rw [Int32.lt_iff_toInt_lt, hy, show ((-1000000000) : Int32).toInt = -1000000000 from rfl] at e9; omega
                      have hlen := Road.decN_len 8 m q9 (Or.inr g8)
                      refine Road.iloadN 27 bSz_d27 rfl ?_
                      refine Road.iloadN 28 bSz_d28 rfl ?_
                      refine Road.iadd 29 bSz_d29 ?_
                      exact Road.iretI 30 bSz_d30 rfl (by decide) (by decide) (fun σ' m => ⟨by rw [hl, hlen, hd, ← Road.add32n]; rfl, rfl⟩)
                  · skip
                    have q8 : m < 10 ^ 8 := by rw [Int32.lt_iff_toInt_lt, hy, show ((-100000000) : Int32).toInt = -100000000 from rfl] at e8; omega
                    have hlen := Road.decN_len 7 m q8 (Or.inr g7)
                    refine Road.iloadN 27 bSz_d27 rfl ?_
                    refine Road.iloadN 28 bSz_d28 rfl ?_
                    refine Road.iadd 29 bSz_d29 ?_
                    exact Road.iretI 30 bSz_d30 rfl (by decide) (by decide) (fun σ' m => ⟨by rw [hl, hlen, hd, ← Road.add32n]; rfl, rfl⟩)
                · skip
                  have q7 : m < 10 ^ 7 := by rw [Int32.lt_iff_toInt_lt, hy, show ((-10000000) : Int32).toInt = -10000000 from rfl] at e7; omega
                  have hlen := Road.decN_len 6 m q7 (Or.inr g6)
                  refine Road.iloadN 27 bSz_d27 rfl ?_
                  refine Road.iloadN 28 bSz_d28 rfl ?_
                  refine Road.iadd 29 bSz_d29 ?_
                  exact Road.iretI 30 bSz_d30 rfl (by decide) (by decide) (fun σ' m => ⟨by rw [hl, hlen, hd, ← Road.add32n]; rfl, rfl⟩)
              · skip
                have q6 : m < 10 ^ 6 := by rw [Int32.lt_iff_toInt_lt, hy, show ((-1000000) : Int32).toInt = -1000000 from rfl] at e6; omega
                have hlen := Road.decN_len 5 m q6 (Or.inr g5)
                refine Road.iloadN 27 bSz_d27 rfl ?_
                refine Road.iloadN 28 bSz_d28 rfl ?_
                refine Road.iadd 29 bSz_d29 ?_
                exact Road.iretI 30 bSz_d30 rfl (by decide) (by decide) (fun σ' m => ⟨by rw [hl, hlen, hd, ← Road.add32n]; rfl, rfl⟩)
            · skip
              have q5 : m < 10 ^ 5 := by rw [Int32.lt_iff_toInt_lt, hy, show ((-100000) : Int32).toInt = -100000 from rfl] at e5; omega
              have hlen := Road.decN_len 4 m q5 (Or.inr g4)
              refine Road.iloadN 27 bSz_d27 rfl ?_
              refine Road.iloadN 28 bSz_d28 rfl ?_
              refine Road.iadd 29 bSz_d29 ?_
              exact Road.iretI 30 bSz_d30 rfl (by decide) (by decide) (fun σ' m => ⟨by rw [hl, hlen, hd, ← Road.add32n]; rfl, rfl⟩)
          · skip
            have q4 : m < 10 ^ 4 := by rw [Int32.lt_iff_toInt_lt, hy, show ((-10000) : Int32).toInt = -10000 from rfl] at e4; omega
            have hlen := Road.decN_len 3 m q4 (Or.inr g3)
            refine Road.iloadN 27 bSz_d27 rfl ?_
            refine Road.iloadN 28 bSz_d28 rfl ?_
            refine Road.iadd 29 bSz_d29 ?_
            exact Road.iretI 30 bSz_d30 rfl (by decide) (by decide) (fun σ' m => ⟨by rw [hl, hlen, hd, ← Road.add32n]; rfl, rfl⟩)
        · skip
          have q3 : m < 10 ^ 3 := by rw [Int32.lt_iff_toInt_lt, hy, show ((-1000) : Int32).toInt = -1000 from rfl] at e3; omega
          have hlen := Road.decN_len 2 m q3 (Or.inr g2)
          refine Road.iloadN 27 bSz_d27 rfl ?_
          refine Road.iloadN 28 bSz_d28 rfl ?_
          refine Road.iadd 29 bSz_d29 ?_
          exact Road.iretI 30 bSz_d30 rfl (by decide) (by decide) (fun σ' m => ⟨by rw [hl, hlen, hd, ← Road.add32n]; rfl, rfl⟩)
      · skip
        have q2 : m < 10 ^ 2 := by rw [Int32.lt_iff_toInt_lt, hy, show ((-100) : Int32).toInt = -100 from rfl] at e2; omega
        have hlen := Road.decN_len 1 m q2 (Or.inr g1)
        refine Road.iloadN 27 bSz_d27 rfl ?_
        refine Road.iloadN 28 bSz_d28 rfl ?_
        refine Road.iadd 29 bSz_d29 ?_
        exact Road.iretI 30 bSz_d30 rfl (by decide) (by decide) (fun σ' m => ⟨by rw [hl, hlen, hd, ← Road.add32n]; rfl, rfl⟩)
    · skip
      have q1 : m < 10 ^ 1 := by rw [Int32.lt_iff_toInt_lt, hy, show ((-10) : Int32).toInt = -10 from rfl] at e1; omega
      have hlen := Road.decN_len 0 m q1 (Or.inl rfl)
      refine Road.iloadN 27 bSz_d27 rfl ?_
      refine Road.iloadN 28 bSz_d28 rfl ?_
      refine Road.iadd 29 bSz_d29 ?_
      exact Road.iretI 30 bSz_d30 rfl (by decide) (by decide) (fun σ' m => ⟨by rw [hl, hlen, hd, ← Road.add32n]; rfl, rfl⟩)
  refine Road.iconst 0 (1 : Int32) bSz_d0 rfl ?_
  refine Road.istoreN 1 #[.val (.int x), .val (.int (1 : Int32)), .unset, .unset] bSz_d1 rfl ?_
  refine Road.iloadN 2 bSz_d2 rfl ?_
  refine Road.if_lt 3 11 bSz_d3 rfl (fun hc3 => ?_) (fun hc3 => ?_)
  · skip
    rw [Road.lt0] at hc3
    exact tail x 1 1 (by omega) rfl (by unfold Road.dec; rw [if_pos hc3, ← hm]; rfl)
  · skip
    rw [Road.lt0] at hc3
    refine Road.iconst 6 (0 : Int32) bSz_d6 rfl ?_
    refine Road.istoreN 7 #[.val (.int x), .val (.int (0 : Int32)), .unset, .unset] bSz_d7 rfl ?_
    refine Road.iloadN 8 bSz_d8 rfl ?_
    refine Road.ineg 9 bSz_d9 ?_
    refine Road.istoreN 10 #[.val (.int (-x)), .val (.int (0 : Int32)), .unset, .unset] bSz_d10 rfl ?_
    exact tail (-x) 0 0 (by rw [Road.neg_nat (by omega)]; omega) rfl (by unfold Road.dec; rw [if_neg hc3, ← hm]; rfl)
def bGch : Road.Bdy := (⟨"java/lang/Integer", "getChars", "(II[B)I"⟩, jdk_33_method_12_code, 7, (some .int), { frames := 0, cells := 0, slots := 0, locals := 0 })
theorem bGch_d0 : decode bGch.bs 0 = .ok (.iload_n 1, 1) := by decide +kernel
theorem bGch_d1 : decode bGch.bs 1 = .ok (.istore 5, 2) := by decide +kernel
theorem bGch_d3 : decode bGch.bs 3 = .ok (.iload_n 0, 1) := by decide +kernel
theorem bGch_d4 : decode bGch.bs 4 = .ok (.ifCond .ge 7, 3) := by decide +kernel
theorem bGch_d7 : decode bGch.bs 7 = .ok (.iconst 1, 1) := by decide +kernel
theorem bGch_d8 : decode bGch.bs 8 = .ok (.goto 4, 3) := by decide +kernel
theorem bGch_d11 : decode bGch.bs 11 = .ok (.iconst 0, 1) := by decide +kernel
theorem bGch_d12 : decode bGch.bs 12 = .ok (.istore 6, 2) := by decide +kernel
theorem bGch_d14 : decode bGch.bs 14 = .ok (.iload 6, 2) := by decide +kernel
theorem bGch_d16 : decode bGch.bs 16 = .ok (.ifCond .ne 6, 3) := by decide +kernel
theorem bGch_d19 : decode bGch.bs 19 = .ok (.iload_n 0, 1) := by decide +kernel
theorem bGch_d20 : decode bGch.bs 20 = .ok (.ineg, 1) := by decide +kernel
theorem bGch_d21 : decode bGch.bs 21 = .ok (.istore_n 0, 1) := by decide +kernel
theorem bGch_d22 : decode bGch.bs 22 = .ok (.iload_n 0, 1) := by decide +kernel
theorem bGch_d23 : decode bGch.bs 23 = .ok (.bipush (-100), 2) := by decide +kernel
theorem bGch_d25 : decode bGch.bs 25 = .ok (.if_icmp .gt 47, 3) := by decide +kernel
theorem bGch_d28 : decode bGch.bs 28 = .ok (.iload_n 0, 1) := by decide +kernel
theorem bGch_d29 : decode bGch.bs 29 = .ok (.bipush 100, 2) := by decide +kernel
theorem bGch_d31 : decode bGch.bs 31 = .ok (.idiv, 1) := by decide +kernel
theorem bGch_d32 : decode bGch.bs 32 = .ok (.istore_n 3, 1) := by decide +kernel
theorem bGch_d33 : decode bGch.bs 33 = .ok (.iload_n 3, 1) := by decide +kernel
theorem bGch_d34 : decode bGch.bs 34 = .ok (.bipush 100, 2) := by decide +kernel
theorem bGch_d36 : decode bGch.bs 36 = .ok (.imul, 1) := by decide +kernel
theorem bGch_d37 : decode bGch.bs 37 = .ok (.iload_n 0, 1) := by decide +kernel
theorem bGch_d38 : decode bGch.bs 38 = .ok (.isub, 1) := by decide +kernel
theorem bGch_d39 : decode bGch.bs 39 = .ok (.istore 4, 2) := by decide +kernel
theorem bGch_d41 : decode bGch.bs 41 = .ok (.iload_n 3, 1) := by decide +kernel
theorem bGch_d42 : decode bGch.bs 42 = .ok (.istore_n 0, 1) := by decide +kernel
theorem bGch_d43 : decode bGch.bs 43 = .ok (.aload_n 2, 1) := by decide +kernel
theorem bGch_d44 : decode bGch.bs 44 = .ok (.iinc 5 (-1), 3) := by decide +kernel
theorem bGch_d47 : decode bGch.bs 47 = .ok (.iload 5, 2) := by decide +kernel
theorem bGch_d49 : decode bGch.bs 49 = .ok (.getstatic 83, 3) := by decide +kernel
theorem bGch_d52 : decode bGch.bs 52 = .ok (.iload 4, 2) := by decide +kernel
theorem bGch_d54 : decode bGch.bs 54 = .ok (.baload, 1) := by decide +kernel
theorem bGch_d55 : decode bGch.bs 55 = .ok (.bastore, 1) := by decide +kernel
theorem bGch_d56 : decode bGch.bs 56 = .ok (.aload_n 2, 1) := by decide +kernel
theorem bGch_d57 : decode bGch.bs 57 = .ok (.iinc 5 (-1), 3) := by decide +kernel
theorem bGch_d60 : decode bGch.bs 60 = .ok (.iload 5, 2) := by decide +kernel
theorem bGch_d62 : decode bGch.bs 62 = .ok (.getstatic 87, 3) := by decide +kernel
theorem bGch_d65 : decode bGch.bs 65 = .ok (.iload 4, 2) := by decide +kernel
theorem bGch_d67 : decode bGch.bs 67 = .ok (.baload, 1) := by decide +kernel
theorem bGch_d68 : decode bGch.bs 68 = .ok (.bastore, 1) := by decide +kernel
theorem bGch_d69 : decode bGch.bs 69 = .ok (.goto (-47), 3) := by decide +kernel
theorem bGch_d72 : decode bGch.bs 72 = .ok (.aload_n 2, 1) := by decide +kernel
theorem bGch_d73 : decode bGch.bs 73 = .ok (.iinc 5 (-1), 3) := by decide +kernel
theorem bGch_d76 : decode bGch.bs 76 = .ok (.iload 5, 2) := by decide +kernel
theorem bGch_d78 : decode bGch.bs 78 = .ok (.getstatic 83, 3) := by decide +kernel
theorem bGch_d81 : decode bGch.bs 81 = .ok (.iload_n 0, 1) := by decide +kernel
theorem bGch_d82 : decode bGch.bs 82 = .ok (.ineg, 1) := by decide +kernel
theorem bGch_d83 : decode bGch.bs 83 = .ok (.baload, 1) := by decide +kernel
theorem bGch_d84 : decode bGch.bs 84 = .ok (.bastore, 1) := by decide +kernel
theorem bGch_d85 : decode bGch.bs 85 = .ok (.iload_n 0, 1) := by decide +kernel
theorem bGch_d86 : decode bGch.bs 86 = .ok (.bipush (-9), 2) := by decide +kernel
theorem bGch_d88 : decode bGch.bs 88 = .ok (.if_icmp .ge 16, 3) := by decide +kernel
theorem bGch_d91 : decode bGch.bs 91 = .ok (.aload_n 2, 1) := by decide +kernel
theorem bGch_d92 : decode bGch.bs 92 = .ok (.iinc 5 (-1), 3) := by decide +kernel
theorem bGch_d95 : decode bGch.bs 95 = .ok (.iload 5, 2) := by decide +kernel
theorem bGch_d97 : decode bGch.bs 97 = .ok (.getstatic 87, 3) := by decide +kernel
theorem bGch_d100 : decode bGch.bs 100 = .ok (.iload_n 0, 1) := by decide +kernel
theorem bGch_d101 : decode bGch.bs 101 = .ok (.ineg, 1) := by decide +kernel
theorem bGch_d102 : decode bGch.bs 102 = .ok (.baload, 1) := by decide +kernel
theorem bGch_d103 : decode bGch.bs 103 = .ok (.bastore, 1) := by decide +kernel
theorem bGch_d104 : decode bGch.bs 104 = .ok (.iload 6, 2) := by decide +kernel
theorem bGch_d106 : decode bGch.bs 106 = .ok (.ifCond .eq 12, 3) := by decide +kernel
theorem bGch_d109 : decode bGch.bs 109 = .ok (.aload_n 2, 1) := by decide +kernel
theorem bGch_d110 : decode bGch.bs 110 = .ok (.iinc 5 (-1), 3) := by decide +kernel
theorem bGch_d113 : decode bGch.bs 113 = .ok (.iload 5, 2) := by decide +kernel
theorem bGch_d115 : decode bGch.bs 115 = .ok (.bipush 45, 2) := by decide +kernel
theorem bGch_d117 : decode bGch.bs 117 = .ok (.bastore, 1) := by decide +kernel
theorem bGch_d118 : decode bGch.bs 118 = .ok (.iload 5, 2) := by decide +kernel
theorem bGch_d120 : decode bGch.bs 120 = .ok (.ireturn, 1) := by decide +kernel
theorem bGch_pd : parseMethodDescriptor "(II[B)I" = some ⟨[.int, .int, (.array .byte)], (some .int)⟩ := by decide +kernel
theorem bGch_pn : plainFor bGch.y = true := plainFor_of_name (show plainName "java/lang/Integer" = true from by first | (simp [plainName, overriddenIn]; done) | decide +kernel)
theorem cGch (l : Launch) (Z : State) (a0 : Array Value) (hw : ∀ d ∈ tables_1, d.before a0 Z = true) (n0 : Nat) (hEW : EW Z a0 consts_1) (x : Int32) (d : Addr) (vd : List Value) (p : Nat) (h0 : Heap) (σ : Addr → Prop) (A : Road.Ary Z h0 d .byte vd) (hp : p + (Road.dec x).length ≤ vd.length) (sd : σ d) (o1 o2 : Addr) (HO : Sta Z Z.heap "java/lang/Integer" "DigitOnes" "[B" (.ref o1)) (AO : Road.Ary Z Z.heap o1 .byte Road.OnesL) (HT : Sta Z Z.heap "java/lang/Integer" "DigitTens" "[B" (.ref o2)) (AT : Road.Ary Z Z.heap o2 .byte Road.TensL) :
    Road.Con l Z consts_1 n0 true bGch [] σ #[(.int x), (.int (Nat.toInt32 (p + (Road.dec x).length))), (.ref d)] h0 (fun v h2 _ => v = some (.int (Nat.toInt32 p)) ∧ Keep h0 h2 [d] ∧ Road.Ary Z h2 d .byte (vd.take p ++ ((Road.dec x).map Road.byt ++ vd.drop (p + (Road.dec x).length)))) := by
  refine Road.Con.of bGch_pn hEW #[.val (.int x), .val (.int (Nat.toInt32 (p + (Road.dec x).length))), .val (.ref d), .unset, .unset, .unset, .unset] (fun m => Road.ent (Road.laid1 rfl (Road.laid1 rfl (Road.laid1 rfl Road.laid0))) (k := 4) rfl rfl) ?_
  intro D hD
  have hmx := Road.nat_le x
  have hsm := A.small
  obtain ⟨m0, hm0⟩ : ∃ m, m = x.toInt.natAbs := ⟨_, rfl⟩
  rw [← hm0] at hmx
  obtain ⟨ix, hix⟩ : ∃ i, i = Nat.toInt32 (p + (Road.dec x).length) := ⟨_, rfl⟩
  rw [← hix]
  have loop : ∀ (g : Int32) (p1 : Nat) (R1 : List Value), (∀ (h : Heap) (y : Int32) (w3 w4 : Slot), Keep h0 h [d] → Road.Ary Z h d .byte R1 → Road.Go l Z a0 consts_1 n0 true bGch D (fun v h2 _ => v = some (.int (Nat.toInt32 p)) ∧ Keep h0 h2 [d] ∧ Road.Ary Z h2 d .byte (vd.take p ++ ((Road.dec x).map Road.byt ++ vd.drop (p + (Road.dec x).length)))) h σ 0 0 104 #[.val (.int y), .val (.int ix), .val (.ref d), w3, w4, .val (.int (Nat.toInt32 p1)), .val (.int g)] []) → ∀ (m : Nat), m ≤ 2147483648 → ∀ (h : Heap) (y : Int32) (U T : List Value) (w3 w4 : Slot), Road.W1 w3 → Road.W1 w4 → y.toInt = -(m : Int) → Keep h0 h [d] → Road.Ary Z h d .byte (U ++ T) → U.length = p1 + (Road.decN m).length → U.take p1 ++ ((Road.decN m).map Road.byt ++ T) = R1 → Road.Go l Z a0 consts_1 n0 true bGch D (fun v h2 _ => v = some (.int (Nat.toInt32 p)) ∧ Keep h0 h2 [d] ∧ Road.Ary Z h2 d .byte (vd.take p ++ ((Road.dec x).map Road.byt ++ vd.drop (p + (Road.dec x).length)))) h σ 0 0 22 #[.val (.int y), .val (.int ix), .val (.ref d), w3, w4, .val (.int (Nat.toInt32 (p1 + (Road.decN m).length))), .val (.int g)] [] := by
    intro g p1 R1 hex m
    induction m using Nat.strongRecOn with
    | _ m ih =>
      intro hm h y U T w3 w4 hw3 hw4 hy KT A hU hR
      have hsm := A.small
      rw [List.length_append] at hsm
      refine Road.iloadN 22 bGch_d22 rfl ?_
      refine Road.bipush 23 (-100 : Int32) bGch_d23 rfl ?_
      refine Road.icmp_gt 25 72 bGch_d25 rfl (fun e25 => ?_) (fun e25 => ?_)
      · skip
        rw [Int32.lt_iff_toInt_lt, hy, show ((-100) : Int32).toInt = -100 from rfl] at e25
        by_cases h10 : m < 10
        · skip
          have hl1 : (Road.decN m).length = 1 := by rw [Road.decN_lt h10]; rfl
          rw [hl1] at hU ⊢
          refine Road.aloadN 72 bGch_d72 rfl ?_
          refine Road.iinc 73 (-1) #[.val (.int y), .val (.int ix), .val (.ref d), w3, w4, .val (.int ((Nat.toInt32 (p1 + 1)) + (-1))), .val (.int g)] bGch_d73 rfl rfl rfl ?_
          rw [Road.pred32]
          refine Road.iload 76 bGch_d76 rfl ?_
          refine Road.getstatic 78 bGch_d78 (wI hw 194 rfl) Via.refl HO ?_
          refine Road.iloadN 81 bGch_d81 rfl ?_
          refine Road.ineg 82 bGch_d82 ?_
          refine Road.Go.old ?_
          intro hO
          have KZ_1 := Road.keep_ext hO.2
          have AO' := AO.keep KZ_1 nin0
          refine Road.baload 83 m bGch_d83 AO' (Road.neg_int (by omega) hy) (by rw [Road.ones_at (by omega), Road.byt_dc (by omega)]) ?_
          refine Road.bastore 84 p1 (Road.dc (m % 10)) bGch_d84 A (Road.n32 (by omega)) (by rw [List.length_append]; omega) (Road.nar_dc (by omega)) sd ?_
          intro h_2 K_3 A_4
          replace KT := KT.trans K_3 (by intro z hz; simp only [List.mem_cons, List.not_mem_nil, or_false] at hz; rcases hz with rfl <;> first | (exact Or.inr (by assumption)) | (simp; done))
          replace A := A_4
          rw [Road.set_last U T _ p1 (by omega)] at A
          refine Road.iloadN 85 bGch_d85 rfl ?_
          refine Road.bipush 86 (-9 : Int32) bGch_d86 rfl ?_
          refine Road.icmp_ge 88 104 bGch_d88 rfl (fun hc88 => ?_) (fun q => absurd q (by rw [Int32.lt_iff_toInt_lt, hy, show ((-9) : Int32).toInt = -9 from rfl]; omega))
          rw [Road.decN_lt h10] at hR
          exact hex h_2 y w3 w4 KT (by rw [← hR]; rw [Nat.mod_eq_of_lt h10, ← Road.byt_dc h10] at A; exact A)
        · skip
          have hd2 : Road.decN m = [Road.dc (m / 10), Road.dc (m % 10)] := by rw [Road.decN_ge (by omega), Road.decN_lt (by omega)]; rfl
          have hl2 : (Road.decN m).length = 2 := by rw [hd2]; rfl
          rw [hl2] at hU ⊢
          rw [show p1 + 2 = p1 + 1 + 1 from rfl]
          refine Road.aloadN 72 bGch_d72 rfl ?_
          refine Road.iinc 73 (-1) #[.val (.int y), .val (.int ix), .val (.ref d), w3, w4, .val (.int ((Nat.toInt32 (p1 + 1 + 1)) + (-1))), .val (.int g)] bGch_d73 rfl rfl rfl ?_
          rw [Road.pred32]
          refine Road.iload 76 bGch_d76 rfl ?_
          refine Road.getstatic 78 bGch_d78 (wI hw 194 rfl) Via.refl HO ?_
          refine Road.iloadN 81 bGch_d81 rfl ?_
          refine Road.ineg 82 bGch_d82 ?_
          refine Road.Go.old ?_
          intro hO
          have KZ_5 := Road.keep_ext hO.2
          have AO' := AO.keep KZ_5 nin0
          refine Road.baload 83 m bGch_d83 AO' (Road.neg_int (by omega) hy) (by rw [Road.ones_at (by omega), Road.byt_dc (by omega)]) ?_
          refine Road.bastore 84 (p1 + 1) (Road.dc (m % 10)) bGch_d84 A (Road.n32 (by omega)) (by rw [List.length_append]; omega) (Road.nar_dc (by omega)) sd ?_
          intro h_6 K_7 A_8
          replace KT := KT.trans K_7 (by intro z hz; simp only [List.mem_cons, List.not_mem_nil, or_false] at hz; rcases hz with rfl <;> first | (exact Or.inr (by assumption)) | (simp; done))
          replace A := A_8
          rw [Road.set_last U T _ (p1 + 1) (by omega)] at A
          refine Road.iloadN 85 bGch_d85 rfl ?_
          refine Road.bipush 86 (-9 : Int32) bGch_d86 rfl ?_
          refine Road.icmp_ge 88 104 bGch_d88 rfl (fun q => absurd q (by rw [Decidable.not_not, Int32.lt_iff_toInt_lt, hy, show ((-9) : Int32).toInt = -9 from rfl]; omega)) (fun hc88 => ?_)
          have hU2 : (U.take (p1 + 1)).length = p1 + 1 := by rw [List.length_take]; omega
          refine Road.aloadN 91 bGch_d91 rfl ?_
          refine Road.iinc 92 (-1) #[.val (.int y), .val (.int ix), .val (.ref d), w3, w4, .val (.int ((Nat.toInt32 (p1 + 1)) + (-1))), .val (.int g)] bGch_d92 rfl rfl rfl ?_
          rw [Road.pred32]
          refine Road.iload 95 bGch_d95 rfl ?_
          refine Road.getstatic 97 bGch_d97 (wI hw 330 rfl) Via.refl HT ?_
          refine Road.iloadN 100 bGch_d100 rfl ?_
          refine Road.ineg 101 bGch_d101 ?_
          refine Road.Go.old ?_
          intro hO
          have KZ_9 := Road.keep_ext hO.2
          have AT' := AT.keep KZ_9 nin0
          refine Road.baload 102 m bGch_d102 AT' (Road.neg_int (by omega) hy) (by rw [Road.tens_at (by omega), Road.byt_dc (by omega)]) ?_
          refine Road.bastore 103 p1 (Road.dc (m / 10)) bGch_d103 A (Road.n32 (by omega)) (by rw [List.length_append]; omega) (Road.nar_dc (by omega)) sd ?_
          intro h_10 K_11 A_12
          replace KT := KT.trans K_11 (by intro z hz; simp only [List.mem_cons, List.not_mem_nil, or_false] at hz; rcases hz with rfl <;> first | (exact Or.inr (by assumption)) | (simp; done))
          replace A := A_12
          rw [Road.set_last (U.take (p1 + 1)) _ _ p1 (by omega)] at A
          rw [List.take_take, Nat.min_eq_left (by omega), ← Road.byt_dc (show m / 10 < 10 by omega), ← Road.byt_dc (show m % 10 < 10 by omega)] at A
          exact hex h_10 y w3 w4 KT (by rw [← hR, hd2]; exact A)
      · skip
        rw [Int32.lt_iff_toInt_lt, hy, show ((-100) : Int32).toInt = -100 from rfl] at e25
        have h100 := Road.decN_100 (show 100 ≤ m by omega)
        have hl3 : (Road.decN m).length = (Road.decN (m / 100)).length + 1 + 1 := by rw [h100, List.length_append]; rfl
        rw [hl3] at hU ⊢
        rw [show p1 + ((Road.decN (m / 100)).length + 1 + 1) = p1 + (Road.decN (m / 100)).length + 1 + 1 from by omega]
        refine Road.iloadN 28 bGch_d28 rfl ?_
        refine Road.bipush 29 (100 : Int32) bGch_d29 rfl ?_
        refine Road.idiv 31 bGch_d31 (by decide) ?_
        refine Road.nameI ?_
        intro qq hqq
        have hq : qq.toInt = -((m / 100 : Nat) : Int) := by rw [hqq]; exact Road.div100 hm hy
        refine Road.istoreN 32 #[.val (.int y), .val (.int ix), .val (.ref d), .val (.int qq), w4, .val (.int (Nat.toInt32 (p1 + (Road.decN (m / 100)).length + 1 + 1))), .val (.int g)] bGch_d32 (by rcases hw3 with rfl | ⟨x, rfl⟩ <;> rfl) ?_
        refine Road.iloadN 33 bGch_d33 rfl ?_
        refine Road.bipush 34 (100 : Int32) bGch_d34 rfl ?_
        refine Road.imul 36 bGch_d36 ?_
        refine Road.iloadN 37 bGch_d37 rfl ?_
        refine Road.isub 38 bGch_d38 ?_
        refine Road.nameI ?_
        intro rr hrr
        have hr : rr.toInt = ((m % 100 : Nat) : Int) := by rw [hrr, hqq]; exact Road.rem100 hm hy
        refine Road.istore 39 #[.val (.int y), .val (.int ix), .val (.ref d), .val (.int qq), .val (.int rr), .val (.int (Nat.toInt32 (p1 + (Road.decN (m / 100)).length + 1 + 1))), .val (.int g)] bGch_d39 (by rcases hw4 with rfl | ⟨x, rfl⟩ <;> rfl) ?_
        refine Road.iloadN 41 bGch_d41 rfl ?_
        refine Road.istoreN 42 #[.val (.int qq), .val (.int ix), .val (.ref d), .val (.int qq), .val (.int rr), .val (.int (Nat.toInt32 (p1 + (Road.decN (m / 100)).length + 1 + 1))), .val (.int g)] bGch_d42 rfl ?_
        refine Road.aloadN 43 bGch_d43 rfl ?_
        refine Road.iinc 44 (-1) #[.val (.int qq), .val (.int ix), .val (.ref d), .val (.int qq), .val (.int rr), .val (.int ((Nat.toInt32 (p1 + (Road.decN (m / 100)).length + 1 + 1)) + (-1))), .val (.int g)] bGch_d44 rfl rfl rfl ?_
        rw [Road.pred32]
        refine Road.iload 47 bGch_d47 rfl ?_
        refine Road.getstatic 49 bGch_d49 (wI hw 194 rfl) Via.refl HO ?_
        refine Road.iload 52 bGch_d52 rfl ?_
        refine Road.Go.old ?_
        intro hO
        have KZ_13 := Road.keep_ext hO.2
        have AO' := AO.keep KZ_13 nin0
        refine Road.baload 54 (m % 100) bGch_d54 AO' hr (by rw [Road.ones_at (by omega), Road.byt_dc (by omega)]) ?_
        refine Road.bastore 55 (p1 + (Road.decN (m / 100)).length + 1) (Road.dc (m % 100 % 10)) bGch_d55 A (Road.n32 (by omega)) (by rw [List.length_append]; omega) (Road.nar_dc (by omega)) sd ?_
        intro h_14 K_15 A_16
        replace KT := KT.trans K_15 (by intro z hz; simp only [List.mem_cons, List.not_mem_nil, or_false] at hz; rcases hz with rfl <;> first | (exact Or.inr (by assumption)) | (simp; done))
        replace A := A_16
        rw [Road.set_last U T _ (p1 + (Road.decN (m / 100)).length + 1) (by omega)] at A
        have hU2 : (U.take (p1 + (Road.decN (m / 100)).length + 1)).length = p1 + (Road.decN (m / 100)).length + 1 := by rw [List.length_take]; omega
        refine Road.aloadN 56 bGch_d56 rfl ?_
        refine Road.iinc 57 (-1) #[.val (.int qq), .val (.int ix), .val (.ref d), .val (.int qq), .val (.int rr), .val (.int ((Nat.toInt32 (p1 + (Road.decN (m / 100)).length + 1)) + (-1))), .val (.int g)] bGch_d57 rfl rfl rfl ?_
        rw [Road.pred32]
        refine Road.iload 60 bGch_d60 rfl ?_
        refine Road.getstatic 62 bGch_d62 (wI hw 330 rfl) Via.refl HT ?_
        refine Road.iload 65 bGch_d65 rfl ?_
        refine Road.Go.old ?_
        intro hO
        have KZ_17 := Road.keep_ext hO.2
        have AT' := AT.keep KZ_17 nin0
        refine Road.baload 67 (m % 100) bGch_d67 AT' hr (by rw [Road.tens_at (by omega), Road.byt_dc (by omega)]) ?_
        refine Road.bastore 68 (p1 + (Road.decN (m / 100)).length) (Road.dc (m % 100 / 10)) bGch_d68 A (Road.n32 (by omega)) (by rw [List.length_append]; omega) (Road.nar_dc (by omega)) sd ?_
        intro h_18 K_19 A_20
        replace KT := KT.trans K_19 (by intro z hz; simp only [List.mem_cons, List.not_mem_nil, or_false] at hz; rcases hz with rfl <;> first | (exact Or.inr (by assumption)) | (simp; done))
        replace A := A_20
        rw [Road.set_last (U.take (p1 + (Road.decN (m / 100)).length + 1)) _ _ (p1 + (Road.decN (m / 100)).length) (by omega)] at A
        rw [List.take_take, Nat.min_eq_left (by omega), ← Road.byt_dc (show m % 100 / 10 < 10 by omega), ← Road.byt_dc (show m % 100 % 10 < 10 by omega)] at A
        refine Road.goto 69 22 bGch_d69 rfl ?_
        exact ih (m / 100) (by omega) (by omega) h_18 qq _ _ _ _ (Or.inr ⟨_, rfl⟩) (Or.inr ⟨_, rfl⟩) hq KT A (by rw [List.length_take]; omega) (by rw [← hR, h100, List.take_take, Nat.min_eq_left (by omega), List.map_append, List.append_assoc]; rfl)
  refine Road.iloadN 0 bGch_d0 rfl ?_
  refine Road.istore 1 #[.val (.int x), .val (.int ix), .val (.ref d), .unset, .unset, .val (.int ix), .unset] bGch_d1 rfl ?_
  refine Road.iloadN 3 bGch_d3 rfl ?_
  refine Road.if_ge 4 11 bGch_d4 rfl (fun hc4 => ?_) (fun hc4 => ?_)
  · skip
    rw [Road.lt0] at hc4
    have hdx : Road.dec x = Road.decN m0 := by unfold Road.dec; rw [if_neg hc4, ← hm0]
    rw [hdx] at hp hix
    refine Road.iconst 11 (0 : Int32) bGch_d11 rfl ?_
    refine Road.istore 12 #[.val (.int x), .val (.int ix), .val (.ref d), .unset, .unset, .val (.int ix), .val (.int (0 : Int32))] bGch_d12 rfl ?_
    refine Road.iload 14 bGch_d14 rfl ?_
    refine Road.if_ne 16 22 bGch_d16 rfl (fun q => absurd q (by decide)) (fun hc16 => ?_)
    refine Road.iloadN 19 bGch_d19 rfl ?_
    refine Road.ineg 20 bGch_d20 ?_
    refine Road.istoreN 21 #[.val (.int (-x)), .val (.int ix), .val (.ref d), .unset, .unset, .val (.int ix), .val (.int (0 : Int32))] bGch_d21 rfl ?_
    have hix2 : ix = Nat.toInt32 (p + (Road.decN m0).length) := by rw [hix]
    have exit : ∀ (h : Heap) (y : Int32) (w3 w4 : Slot), Keep h0 h [d] → Road.Ary Z h d .byte (vd.take p ++ ((Road.decN m0).map Road.byt ++ vd.drop (p + (Road.decN m0).length))) → Road.Go l Z a0 consts_1 n0 true bGch D (fun v h2 _ => v = some (.int (Nat.toInt32 p)) ∧ Keep h0 h2 [d] ∧ Road.Ary Z h2 d .byte (vd.take p ++ ((Road.dec x).map Road.byt ++ vd.drop (p + (Road.dec x).length)))) h σ 0 0 104 #[.val (.int y), .val (.int ix), .val (.ref d), w3, w4, .val (.int (Nat.toInt32 p)), .val (.int (0 : Int32))] [] := by
      intro h y w3 w4 KT A
      refine Road.iload 104 bGch_d104 rfl ?_
      refine Road.if_eq 106 118 bGch_d106 rfl (fun hc106 => ?_) (fun q => absurd q (by decide))
      refine Road.iload 118 bGch_d118 rfl ?_
      exact Road.iretI 120 bGch_d120 rfl (by decide) (by decide) (fun σ' m => ⟨rfl, KT, by rw [hdx]; exact A⟩)
    have fin := loop (0 : Int32) p (vd.take p ++ ((Road.decN m0).map Road.byt ++ vd.drop (p + (Road.decN m0).length))) exit m0 hmx h0 (-x) (vd.take (p + (Road.decN m0).length)) (vd.drop (p + (Road.decN m0).length)) .unset .unset (Or.inl rfl) (Or.inl rfl) (by rw [Road.neg_nat (by omega)]; omega) (Keep.refl _ _) (by rw [List.take_append_drop]; exact A) (by rw [List.length_take]; omega) (by rw [List.take_take, Nat.min_eq_left (by omega)])
    rw [← hix2] at fin
    exact fin
  · skip
    rw [Road.lt0] at hc4
    have hdx : Road.dec x = 45 :: Road.decN m0 := by unfold Road.dec; rw [if_pos hc4, ← hm0]
    rw [hdx] at hp hix
    rw [List.length_cons] at hp hix
    refine Road.iconst 7 (1 : Int32) bGch_d7 rfl ?_
    refine Road.goto 8 12 bGch_d8 rfl ?_
    refine Road.istore 12 #[.val (.int x), .val (.int ix), .val (.ref d), .unset, .unset, .val (.int ix), .val (.int (1 : Int32))] bGch_d12 rfl ?_
    refine Road.iload 14 bGch_d14 rfl ?_
    refine Road.if_ne 16 22 bGch_d16 rfl (fun hc16 => ?_) (fun q => absurd q (by decide))
    have hix2 : ix = Nat.toInt32 ((p + 1) + (Road.decN m0).length) := by rw [hix]; congr 1; omega
    have exit : ∀ (h : Heap) (y : Int32) (w3 w4 : Slot), Keep h0 h [d] → Road.Ary Z h d .byte (vd.take (p + 1) ++ ((Road.decN m0).map Road.byt ++ vd.drop ((p + 1) + (Road.decN m0).length))) → Road.Go l Z a0 consts_1 n0 true bGch D (fun v h2 _ => v = some (.int (Nat.toInt32 p)) ∧ Keep h0 h2 [d] ∧ Road.Ary Z h2 d .byte (vd.take p ++ ((Road.dec x).map Road.byt ++ vd.drop (p + (Road.dec x).length)))) h σ 0 0 104 #[.val (.int y), .val (.int ix), .val (.ref d), w3, w4, .val (.int (Nat.toInt32 (p + 1))), .val (.int (1 : Int32))] [] := by
      intro h y w3 w4 KT A
      refine Road.iload 104 bGch_d104 rfl ?_
      refine Road.if_eq 106 118 bGch_d106 rfl (fun q => absurd q (by decide)) (fun hc106 => ?_)
      refine Road.aloadN 109 bGch_d109 rfl ?_
      refine Road.iinc 110 (-1) #[.val (.int y), .val (.int ix), .val (.ref d), w3, w4, .val (.int ((Nat.toInt32 (p + 1)) + (-1))), .val (.int (1 : Int32))] bGch_d110 rfl rfl rfl ?_
      rw [Road.pred32]
      refine Road.iload 113 bGch_d113 rfl ?_
      refine Road.bipush 115 (45 : Int32) bGch_d115 rfl ?_
      refine Road.bastore 117 p (45 : Int32) bGch_d117 A (Road.n32 (by omega)) (by rw [List.length_append, List.length_take]; omega) rfl sd ?_
      intro h_21 K_22 A_23
      replace KT := KT.trans K_22 (by intro z hz; simp only [List.mem_cons, List.not_mem_nil, or_false] at hz; rcases hz with rfl <;> first | (exact Or.inr (by assumption)) | (simp; done))
      replace A := A_23
      rw [Road.set_last (vd.take (p + 1)) _ _ p (by rw [List.length_take]; omega), List.take_take, Nat.min_eq_left (by omega)] at A
      refine Road.iload 118 bGch_d118 rfl ?_
      exact Road.iretI 120 bGch_d120 rfl (by decide) (by decide) (fun σ' m => ⟨rfl, KT, by rw [hdx, List.length_cons, show p + ((Road.decN m0).length + 1) = p + 1 + (Road.decN m0).length from by omega]; exact A⟩)
    have fin := loop (1 : Int32) (p + 1) (vd.take (p + 1) ++ ((Road.decN m0).map Road.byt ++ vd.drop ((p + 1) + (Road.decN m0).length))) exit m0 hmx h0 x (vd.take ((p + 1) + (Road.decN m0).length)) (vd.drop ((p + 1) + (Road.decN m0).length)) .unset .unset (Or.inl rfl) (Or.inl rfl) (by omega) (Keep.refl _ _) (by rw [List.take_append_drop]; exact A) (by rw [List.length_take]; omega) (by rw [List.take_take, Nat.min_eq_left (by omega)])
    rw [← hix2] at fin
    exact fin
def bAi0 : Road.Bdy := (⟨"java/lang/AbstractStringBuilder", "append", "(I)Ljava/lang/AbstractStringBuilder;"⟩, jdk_68_method_32_code, 4, (some (.object "java/lang/AbstractStringBuilder")), { frames := 1, cells := 0, slots := 0, locals := 18 })
theorem bAi0_d0 : decode bAi0.bs 0 = .ok (.aload_n 0, 1) := by decide +kernel
theorem bAi0_d1 : decode bAi0.bs 1 = .ok (.getfield 79, 3) := by decide +kernel
theorem bAi0_d4 : decode bAi0.bs 4 = .ok (.istore_n 2, 1) := by decide +kernel
theorem bAi0_d5 : decode bAi0.bs 5 = .ok (.iload_n 2, 1) := by decide +kernel
theorem bAi0_d6 : decode bAi0.bs 6 = .ok (.iload_n 1, 1) := by decide +kernel
theorem bAi0_d7 : decode bAi0.bs 7 = .ok (.invokestatic 245, 3) := by decide +kernel
theorem bAi0_d10 : decode bAi0.bs 10 = .ok (.iadd, 1) := by decide +kernel
theorem bAi0_d11 : decode bAi0.bs 11 = .ok (.istore_n 3, 1) := by decide +kernel
theorem bAi0_d12 : decode bAi0.bs 12 = .ok (.aload_n 0, 1) := by decide +kernel
theorem bAi0_d13 : decode bAi0.bs 13 = .ok (.iload_n 3, 1) := by decide +kernel
theorem bAi0_d14 : decode bAi0.bs 14 = .ok (.invokevirtual 100, 3) := by decide +kernel
theorem bAi0_d17 : decode bAi0.bs 17 = .ok (.aload_n 0, 1) := by decide +kernel
theorem bAi0_d18 : decode bAi0.bs 18 = .ok (.invokevirtual 83, 3) := by decide +kernel
theorem bAi0_d21 : decode bAi0.bs 21 = .ok (.ifCond .eq 16, 3) := by decide +kernel
theorem bAi0_d24 : decode bAi0.bs 24 = .ok (.iload_n 1, 1) := by decide +kernel
theorem bAi0_d25 : decode bAi0.bs 25 = .ok (.iload_n 3, 1) := by decide +kernel
theorem bAi0_d26 : decode bAi0.bs 26 = .ok (.aload_n 0, 1) := by decide +kernel
theorem bAi0_d27 : decode bAi0.bs 27 = .ok (.getfield 15, 3) := by decide +kernel
theorem bAi0_d30 : decode bAi0.bs 30 = .ok (.invokestatic 248, 3) := by decide +kernel
theorem bAi0_d33 : decode bAi0.bs 33 = .ok (.pop, 1) := by decide +kernel
theorem bAi0_d34 : decode bAi0.bs 34 = .ok (.goto 14, 3) := by decide +kernel
theorem bAi0_d37 : decode bAi0.bs 37 = .ok (.iload_n 1, 1) := by decide +kernel
theorem bAi0_d38 : decode bAi0.bs 38 = .ok (.iload_n 2, 1) := by decide +kernel
theorem bAi0_d39 : decode bAi0.bs 39 = .ok (.iload_n 3, 1) := by decide +kernel
theorem bAi0_d40 : decode bAi0.bs 40 = .ok (.aload_n 0, 1) := by decide +kernel
theorem bAi0_d41 : decode bAi0.bs 41 = .ok (.getfield 15, 3) := by decide +kernel
theorem bAi0_d44 : decode bAi0.bs 44 = .ok (.invokestatic 251, 3) := by decide +kernel
theorem bAi0_d47 : decode bAi0.bs 47 = .ok (.pop, 1) := by decide +kernel
theorem bAi0_d48 : decode bAi0.bs 48 = .ok (.aload_n 0, 1) := by decide +kernel
theorem bAi0_d49 : decode bAi0.bs 49 = .ok (.iload_n 3, 1) := by decide +kernel
theorem bAi0_d50 : decode bAi0.bs 50 = .ok (.putfield 79, 3) := by decide +kernel
theorem bAi0_d53 : decode bAi0.bs 53 = .ok (.aload_n 0, 1) := by decide +kernel
theorem bAi0_d54 : decode bAi0.bs 54 = .ok (.areturn, 1) := by decide +kernel
theorem bAi0_pd : parseMethodDescriptor "(I)Ljava/lang/AbstractStringBuilder;" = some ⟨[.int], (some (.object "java/lang/AbstractStringBuilder"))⟩ := by decide +kernel
theorem bAi0_pn : plainFor bAi0.y = true := plainFor_of_name (show plainName "java/lang/AbstractStringBuilder" = true from by first | (simp [plainName, overriddenIn]; done) | decide +kernel)
theorem cAi0 (l : Launch) (Z : State) (a0 : Array Value) (hw : ∀ d ∈ tables_1, d.before a0 Z = true) (n0 : Nat) (hEW : EW Z a0 consts_1) (q b : Addr) (cs : List Int32) (N : Nat) (x : Int32) (h0 : Heap) (σ : Addr → Prop) (S : Road.Sb Z h0 q b cs N) (hm : cs.length + (Road.dec x).length ≤ N) (sb_ : σ b) (sq : σ q) (cp : Int32) (Hc : Sta Z Z.heap Road.SN "COMPACT_STRINGS" "Z" (.int cp)) (hcp : ¬ cp = 0) (o1 o2 : Addr) (HO : Sta Z Z.heap "java/lang/Integer" "DigitOnes" "[B" (.ref o1)) (AO : Road.Ary Z Z.heap o1 .byte Road.OnesL) (HT : Sta Z Z.heap "java/lang/Integer" "DigitTens" "[B" (.ref o2)) (AT : Road.Ary Z Z.heap o2 .byte Road.TensL) :
    Road.Con l Z consts_1 n0 true bAi0 [] σ #[(.ref q), (.int x)] h0 (fun v h2 s2 => v = some (.ref q) ∧ Keep h0 h2 [q, b] ∧ Road.Sb Z h2 q b (cs ++ Road.dec x) N) := by
  have S0 := S
  have hN := S.small
  have hle := S.le
  obtain ⟨E, Fc, Fv, Fn, ⟨r, Ab, hr⟩, hlt⟩ := S
  have nqb : q ≠ b := by obtain ⟨c, Ar, -⟩ := Ab; exact ne_arr E (wI hw 70 rfl) Ar
  refine Road.Con.of bAi0_pn hEW #[.val (.ref q), .val (.int x), .unset, .unset] (fun m => Road.ent (Road.laid1 rfl (Road.laid1 rfl Road.laid0)) (k := 2) rfl rfl) ?_
  intro D hD
  refine Road.aloadN 0 bAi0_d0 rfl ?_
  refine Road.getfield 1 bAi0_d1 (wI hw 107 rfl) Via.refl Fn ?_
  refine Road.istoreN 4 #[.val (.ref q), .val (.int x), .val (.int (Nat.toInt32 cs.length)), .unset] bAi0_d4 rfl ?_
  refine Road.iloadN 5 bAi0_d5 rfl ?_
  refine Road.iloadN 6 bAi0_d6 rfl ?_
  refine Road.callS (B' := bSz) 7 (argsL := [(.int x)]) (rest := [(.int (Nat.toInt32 cs.length))]) 1 bAi0_d7 (wI hw 182 rfl) (wI hw 183 rfl) (wI hw 184 rfl) (wI hw 185 rfl) (by decide) (cSz l Z a0 hw n0 hEW x h0 σ) (lenOf bSz_pd rfl) rfl rfl rfl (by decide) (by decide) (ce' := 0) (sl' := 0) rfl rfl (by decide) (by decide) ?_
  rintro _ h_1 σ_2 m_3 ⟨rfl, rfl⟩
  refine Road.Go.weaken (σ' := σ) m_3 (Nat.le_refl _) (Nat.le_refl _) ?_
  refine Road.iadd 10 bAi0_d10 ?_
  refine Road.nameI ?_
  intro z_5 hz_5
  obtain rfl : z_5 = (Nat.toInt32 (cs.length + (Road.dec x).length)) := by rw [hz_5]; exact Road.add32n _ _
  refine Road.istoreN 11 #[.val (.ref q), .val (.int x), .val (.int (Nat.toInt32 cs.length)), .val (.int (Nat.toInt32 (cs.length + (Road.dec x).length)))] bAi0_d11 rfl ?_
  refine Road.aloadN 12 bAi0_d12 rfl ?_
  refine Road.iloadN 13 bAi0_d13 rfl ?_
  refine Road.callP (B' := bEn0) (a := q) 14 (argsL := [(.int (Nat.toInt32 (cs.length + (Road.dec x).length)))]) (rest := []) "java/lang/StringBuilder" 0 bAi0_d14 (wI hw 109 rfl) (wI hw 111 rfl) (wI hw 112 rfl) (wI hw 110 rfl) (wI hw 79 rfl) (wI hw 113 rfl) (by decide) E (cEn0 l Z a0 hw n0 hEW q b cs N (cs.length + (Road.dec x).length) h0 σ S0 hm) (lenOf bEn0_pd rfl) rfl rfl rfl (by decide) (by decide) (ce' := 0) (sl' := 0) rfl rfl (by decide) (by decide) ?_
  rintro _ h_6 σ_7 m_8 ⟨rfl, rfl⟩
  refine Road.Go.weaken (σ' := σ) m_8 (Nat.le_refl _) (Nat.le_refl _) ?_
  refine Road.aloadN 17 bAi0_d17 rfl ?_
  refine Road.callV (B' := bAbL) (a := q) 18 (argsL := []) (rest := []) "java/lang/StringBuilder" 0 bAi0_d18 (wI hw 186 rfl) (wI hw 187 rfl) (fun vm hz => Road.notFace_sib (args := #[]) (mv (s := D.s.setVm vm) hz (wI hw 112 rfl)) rfl) (wI hw 189 rfl) (wI hw 188 rfl) (wI hw 79 rfl) (wI hw 190 rfl) (by decide) E (cAbL l Z a0 hw n0 hEW q h0 σ Fc cp Hc hcp) (lenOf bAbL_pd rfl) rfl rfl rfl (by decide) (by decide) (ce' := 0) (sl' := 0) rfl rfl (by decide) (by decide) ?_
  rintro _ h_10 σ_11 m_12 ⟨rfl, rfl⟩
  refine Road.Go.weaken (σ' := σ) m_12 (Nat.le_refl _) (Nat.le_refl _) ?_
  refine Road.if_eq 21 37 bAi0_d21 rfl (fun q => absurd q (by decide)) (fun hc21 => ?_)
  refine Road.iloadN 24 bAi0_d24 rfl ?_
  refine Road.iloadN 25 bAi0_d25 rfl ?_
  refine Road.aloadN 26 bAi0_d26 rfl ?_
  refine Road.getfield 27 bAi0_d27 (wI hw 83 rfl) Via.refl Fv ?_
  refine Road.callS (B' := bGch) 30 (argsL := [(.int x), (.int (Nat.toInt32 (cs.length + (Road.dec x).length))), (.ref b)]) (rest := []) 0 bAi0_d30 (wI hw 191 rfl) (wI hw 192 rfl) (wI hw 184 rfl) (wI hw 193 rfl) (by decide) (cGch l Z a0 hw n0 hEW x b _ cs.length h0 σ Ab (by rw [List.length_append, List.length_map]; omega) sb_ o1 o2 HO AO HT AT) (lenOf bGch_pd rfl) rfl rfl rfl (by decide) (by decide) (ce' := 0) (sl' := 0) rfl rfl (by decide) (by decide) ?_
  rintro _ h_14 σ_15 m_16 ⟨rfl, K_17, A2⟩
  replace E := E.keep K_17
  replace Fc := Fc.keep K_17 (ninS nqb nin0)
  replace Fv := Fv.keep K_17 (ninS nqb nin0)
  replace Fn := Fn.keep K_17 (ninS nqb nin0)
  replace sq := m_16 _ sq
  replace sb_ := m_16 _ sb_
  rw [Road.put_wr _ _ _ (by omega)] at A2
  refine Road.pop 33 bAi0_d33 ?_
  refine Road.goto 34 48 bAi0_d34 rfl ?_
  refine Road.aloadN 48 bAi0_d48 rfl ?_
  refine Road.iloadN 49 bAi0_d49 rfl ?_
  refine Road.nameI ?_
  intro z_20 hz_20
  obtain rfl : z_20 = (Nat.toInt32 (cs ++ Road.dec x).length) := by rw [hz_20]; rw [List.length_append]
  refine Road.putfield 50 bAi0_d50 (wI hw 107 rfl) Via.refl Fn E (Or.inl (wI hw 108 rfl)) (wI hw 70 rfl) (ty := .int) (by decide) rfl rfl sq ?_
  intro h_23 W_21 K_22
  replace Fn := Fn.same W_21
  replace Fc := Fc.other W_21 (Or.inr (slot_ne (Or.inl (wI hw 86 rfl)) (Or.inl (wI hw 108 rfl)) (by decide) (t := .byte) (by decide) (t' := .int) (by decide)))
  replace Fv := Fv.other W_21 (Or.inr (slot_ne (Or.inl (wI hw 84 rfl)) (Or.inl (wI hw 108 rfl)) (by decide) (t := (.array .byte)) (by decide) (t' := .int) (by decide)))
  replace E := E.keep K_22
  replace A2 := A2.keep K_22 (ninS (Ne.symm nqb) nin0)
  refine Road.aloadN 53 bAi0_d53 rfl ?_
  exact Road.aret 54 bAi0_d54 (t := (.object "java/lang/AbstractStringBuilder")) rfl rfl rfl (by decide) (by decide) (fun σ' m => ⟨rfl, Road.keep2 K_17 K_22, ⟨E, Fc, Fv, Fn, ⟨_, A2, by rw [List.length_append, List.length_drop]; omega⟩, (fun c hc => (List.mem_append.mp hc).elim (hlt c) (Road.dec_lat x c))⟩⟩)
def bSi0 : Road.Bdy := (⟨"java/lang/StringBuilder", "append", "(I)Ljava/lang/StringBuilder;"⟩, jdk_67_method_15_code, 2, (some (.object "java/lang/StringBuilder")), { frames := 2, cells := 0, slots := 0, locals := 33 })
theorem bSi0_d0 : decode bSi0.bs 0 = .ok (.aload_n 0, 1) := by decide +kernel
theorem bSi0_d1 : decode bSi0.bs 1 = .ok (.iload_n 1, 1) := by decide +kernel
theorem bSi0_d2 : decode bSi0.bs 2 = .ok (.invokespecial 53, 3) := by decide +kernel
theorem bSi0_d5 : decode bSi0.bs 5 = .ok (.pop, 1) := by decide +kernel
theorem bSi0_d6 : decode bSi0.bs 6 = .ok (.aload_n 0, 1) := by decide +kernel
theorem bSi0_d7 : decode bSi0.bs 7 = .ok (.areturn, 1) := by decide +kernel
theorem bSi0_pd : parseMethodDescriptor "(I)Ljava/lang/StringBuilder;" = some ⟨[.int], (some (.object "java/lang/StringBuilder"))⟩ := by decide +kernel
theorem bSi0_pn : plainFor bSi0.y = true := plainFor_of_name (show plainName "java/lang/StringBuilder" = true from by first | (simp [plainName, overriddenIn]; done) | decide +kernel)
theorem cSi0 (l : Launch) (Z : State) (a0 : Array Value) (hw : ∀ d ∈ tables_1, d.before a0 Z = true) (n0 : Nat) (hEW : EW Z a0 consts_1) (q b : Addr) (cs : List Int32) (N : Nat) (x : Int32) (h0 : Heap) (σ : Addr → Prop) (S : Road.Sb Z h0 q b cs N) (hm : cs.length + (Road.dec x).length ≤ N) (sb_ : σ b) (sq : σ q) (cp : Int32) (Hc : Sta Z Z.heap Road.SN "COMPACT_STRINGS" "Z" (.int cp)) (hcp : ¬ cp = 0) (o1 o2 : Addr) (HO : Sta Z Z.heap "java/lang/Integer" "DigitOnes" "[B" (.ref o1)) (AO : Road.Ary Z Z.heap o1 .byte Road.OnesL) (HT : Sta Z Z.heap "java/lang/Integer" "DigitTens" "[B" (.ref o2)) (AT : Road.Ary Z Z.heap o2 .byte Road.TensL) :
    Road.Con l Z consts_1 n0 true bSi0 [] σ #[(.ref q), (.int x)] h0 (fun v h2 s2 => v = some (.ref q) ∧ Keep h0 h2 [q, b] ∧ Road.Sb Z h2 q b (cs ++ Road.dec x) N) := by
  refine Road.Con.of bSi0_pn hEW #[.val (.ref q), .val (.int x)] (fun m => Road.ent (Road.laid1 rfl (Road.laid1 rfl Road.laid0)) (k := 0) rfl rfl) ?_
  intro D hD
  refine Road.aloadN 0 bSi0_d0 rfl ?_
  refine Road.iloadN 1 bSi0_d1 rfl ?_
  refine Road.callUp (B' := bAi0) (a := q) 2 (argsL := [(.int x)]) (rest := []) "java/lang/StringBuilder" 0 bSi0_d2 (wI hw 178 rfl) (Road.notFace_sib (wI hw 112 rfl) rfl) (wI hw 179 rfl) (wI hw 94 rfl) (wI hw 79 rfl) (wI hw 181 rfl) (by decide) (by decide) S.1 (cAi0 l Z a0 hw n0 hEW q b cs N x h0 σ S hm sb_ sq cp Hc hcp o1 o2 HO AO HT AT) (lenOf bAi0_pd rfl) rfl rfl rfl (by decide) (by decide) (ce' := 0) (sl' := 0) rfl rfl (by decide) (by decide) ?_
  rintro _ h_1 σ_2 m_3 ⟨rfl, K_4, S2⟩
  refine Road.pop 5 bSi0_d5 ?_
  refine Road.aloadN 6 bSi0_d6 rfl ?_
  exact Road.aret 7 bSi0_d7 (t := (.object "java/lang/StringBuilder")) rfl rfl rfl (by decide) (by decide) (fun σ' m => ⟨rfl, K_4, S2⟩)
def bChL : Road.Bdy := (⟨"java/util/Arrays", "checkLength", "(II)V"⟩, jdk_65_method_131_code, 2, none, { frames := 0, cells := 0, slots := 0, locals := 0 })
theorem bChL_d0 : decode bChL.bs 0 = .ok (.iload_n 1, 1) := by decide +kernel
theorem bChL_d1 : decode bChL.bs 1 = .ok (.iload_n 0, 1) := by decide +kernel
theorem bChL_d2 : decode bChL.bs 2 = .ok (.if_icmp .ge 35, 3) := by decide +kernel
theorem bChL_d5 : decode bChL.bs 5 = .ok (.new 43, 3) := by decide +kernel
theorem bChL_d8 : decode bChL.bs 8 = .ok (.dup, 1) := by decide +kernel
theorem bChL_d9 : decode bChL.bs 9 = .ok (.new 45, 3) := by decide +kernel
theorem bChL_d12 : decode bChL.bs 12 = .ok (.dup, 1) := by decide +kernel
theorem bChL_d13 : decode bChL.bs 13 = .ok (.invokespecial 47, 3) := by decide +kernel
theorem bChL_d16 : decode bChL.bs 16 = .ok (.iload_n 0, 1) := by decide +kernel
theorem bChL_d17 : decode bChL.bs 17 = .ok (.invokevirtual 54, 3) := by decide +kernel
theorem bChL_d20 : decode bChL.bs 20 = .ok (.ldc_w 337, 3) := by decide +kernel
theorem bChL_d23 : decode bChL.bs 23 = .ok (.invokevirtual 50, 3) := by decide +kernel
theorem bChL_d26 : decode bChL.bs 26 = .ok (.iload_n 1, 1) := by decide +kernel
theorem bChL_d27 : decode bChL.bs 27 = .ok (.invokevirtual 54, 3) := by decide +kernel
theorem bChL_d30 : decode bChL.bs 30 = .ok (.invokevirtual 61, 3) := by decide +kernel
theorem bChL_d33 : decode bChL.bs 33 = .ok (.invokespecial 65, 3) := by decide +kernel
theorem bChL_d36 : decode bChL.bs 36 = .ok (.athrow, 1) := by decide +kernel
theorem bChL_d37 : decode bChL.bs 37 = .ok (.return_, 1) := by decide +kernel
theorem bChL_pd : parseMethodDescriptor "(II)V" = some ⟨[.int, .int], none⟩ := by decide +kernel
theorem bChL_pn : plainFor bChL.y = true := plainFor_of_name (show plainName "java/util/Arrays" = true from by first | (simp [plainName, overriddenIn]; done) | decide +kernel)
theorem cChL (l : Launch) (Z : State) (a0 : Array Value) (hw : ∀ d ∈ tables_1, d.before a0 Z = true) (n0 : Nat) (hEW : EW Z a0 consts_1) (n : Nat) (h0 : Heap) (σ : Addr → Prop) (hn : n < 2147483648) :
    Road.Con l Z consts_1 n0 true bChL [] σ #[(.int (0 : Int32)), (.int (Nat.toInt32 n))] h0 (fun v h2 _ => v = none ∧ h0 = h2) := by
  refine Road.Con.of bChL_pn hEW #[.val (.int (0 : Int32)), .val (.int (Nat.toInt32 n))] (fun m => Road.ent (Road.laid1 rfl (Road.laid1 rfl Road.laid0)) (k := 0) rfl rfl) ?_
  intro D hD
  refine Road.iloadN 0 bChL_d0 rfl ?_
  refine Road.iloadN 1 bChL_d1 rfl ?_
  refine Road.icmp_ge 2 37 bChL_d2 rfl (fun hc2 => ?_) (fun q => absurd q (by rw [show (0 : Int32) = Nat.toInt32 0 from rfl, Road.lt32 hn (by omega)]; omega))
  exact Road.ret 37 bChL_d37 rfl (by decide) (by decide) (fun σ' m => ⟨rfl, rfl⟩)
def bCrB : Road.Bdy := (⟨"java/util/Arrays", "copyOfRangeByte", "([BII)[B"⟩, jdk_65_method_133_code, 5, (some (.array .byte)), { frames := 1, cells := 1, slots := 48, locals := 22 })
theorem bCrB_d0 : decode bCrB.bs 0 = .ok (.iload_n 1, 1) := by decide +kernel
theorem bCrB_d1 : decode bCrB.bs 1 = .ok (.iload_n 2, 1) := by decide +kernel
theorem bCrB_d2 : decode bCrB.bs 2 = .ok (.invokestatic 343, 3) := by decide +kernel
theorem bCrB_d5 : decode bCrB.bs 5 = .ok (.iload_n 2, 1) := by decide +kernel
theorem bCrB_d6 : decode bCrB.bs 6 = .ok (.iload_n 1, 1) := by decide +kernel
theorem bCrB_d7 : decode bCrB.bs 7 = .ok (.isub, 1) := by decide +kernel
theorem bCrB_d8 : decode bCrB.bs 8 = .ok (.istore_n 3, 1) := by decide +kernel
theorem bCrB_d9 : decode bCrB.bs 9 = .ok (.iload_n 3, 1) := by decide +kernel
theorem bCrB_d10 : decode bCrB.bs 10 = .ok (.newarray .byte, 2) := by decide +kernel
theorem bCrB_d12 : decode bCrB.bs 12 = .ok (.astore 4, 2) := by decide +kernel
theorem bCrB_d14 : decode bCrB.bs 14 = .ok (.aload_n 0, 1) := by decide +kernel
theorem bCrB_d15 : decode bCrB.bs 15 = .ok (.iload_n 1, 1) := by decide +kernel
theorem bCrB_d16 : decode bCrB.bs 16 = .ok (.aload 4, 2) := by decide +kernel
theorem bCrB_d18 : decode bCrB.bs 18 = .ok (.iconst 0, 1) := by decide +kernel
theorem bCrB_d19 : decode bCrB.bs 19 = .ok (.aload_n 0, 1) := by decide +kernel
theorem bCrB_d20 : decode bCrB.bs 20 = .ok (.arraylength, 1) := by decide +kernel
theorem bCrB_d21 : decode bCrB.bs 21 = .ok (.iload_n 1, 1) := by decide +kernel
theorem bCrB_d22 : decode bCrB.bs 22 = .ok (.isub, 1) := by decide +kernel
theorem bCrB_d23 : decode bCrB.bs 23 = .ok (.iload_n 3, 1) := by decide +kernel
theorem bCrB_d24 : decode bCrB.bs 24 = .ok (.invokestatic 304, 3) := by decide +kernel
theorem bCrB_d27 : decode bCrB.bs 27 = .ok (.invokestatic 150, 3) := by decide +kernel
theorem bCrB_d30 : decode bCrB.bs 30 = .ok (.aload 4, 2) := by decide +kernel
theorem bCrB_d32 : decode bCrB.bs 32 = .ok (.areturn, 1) := by decide +kernel
theorem bCrB_pd : parseMethodDescriptor "([BII)[B" = some ⟨[(.array .byte), .int, .int], (some (.array .byte))⟩ := by decide +kernel
theorem bCrB_pn : plainFor bCrB.y = true := plainFor_of_name (show plainName "java/util/Arrays" = true from by first | (simp [plainName, overriddenIn]; done) | decide +kernel)
theorem cCrB (l : Launch) (Z : State) (a0 : Array Value) (hw : ∀ d ∈ tables_1, d.before a0 Z = true) (n0 : Nat) (hEW : EW Z a0 consts_1) (b : Addr) (vs : List Value) (n : Nat) (h0 : Heap) (σ : Addr → Prop) (A : Road.Ary Z h0 b .byte vs) (hn : n < vs.length) (hcap : n ≤ 48) :
    Road.Con l Z consts_1 n0 true bCrB [] σ #[(.ref b), (.int (0 : Int32)), (.int (Nat.toInt32 n))] h0 (fun v h2 s2 => ∃ d, v = some (.ref d) ∧ h0.size ≤ d ∧ Keep h0 h2 [] ∧ s2 d ∧ Road.Ary Z h2 d .byte (vs.take n)) := by
  have hsm := A.small
  refine Road.Con.of bCrB_pn hEW #[.val (.ref b), .val (.int (0 : Int32)), .val (.int (Nat.toInt32 n)), .unset, .unset] (fun m => Road.ent (Road.laid1 rfl (Road.laid1 rfl (Road.laid1 rfl Road.laid0))) (k := 2) rfl rfl) ?_
  intro D hD
  refine Road.iloadN 0 bCrB_d0 rfl ?_
  refine Road.iloadN 1 bCrB_d1 rfl ?_
  refine Road.callS (B' := bChL) 2 (argsL := [(.int (0 : Int32)), (.int (Nat.toInt32 n))]) (rest := []) 0 bCrB_d2 (wI hw 227 rfl) (wI hw 228 rfl) (wI hw 152 rfl) (wI hw 229 rfl) (by decide) (cChL l Z a0 hw n0 hEW n h0 σ (by omega)) (lenOf bChL_pd rfl) rfl rfl rfl (by decide) (by decide) (ce' := 0) (sl' := 0) rfl rfl (by decide) (by decide) ?_
  rintro _ h_1 σ_2 m_3 ⟨rfl, rfl⟩
  refine Road.Go.weaken (σ' := σ) m_3 (Nat.le_refl _) (Nat.le_refl _) ?_
  refine Road.iloadN 5 bCrB_d5 rfl ?_
  refine Road.iloadN 6 bCrB_d6 rfl ?_
  refine Road.isub 7 bCrB_d7 ?_
  refine Road.nameI ?_
  intro z_5 hz_5
  obtain rfl : z_5 = (Nat.toInt32 n) := by rw [hz_5]; exact Int32.sub_zero _
  refine Road.istoreN 8 #[.val (.ref b), .val (.int (0 : Int32)), .val (.int (Nat.toInt32 n)), .val (.int (Nat.toInt32 n)), .unset] bCrB_d8 rfl ?_
  refine Road.iloadN 9 bCrB_d9 rfl ?_
  refine Road.newarray 10 .byte n 48 bCrB_d10 rfl (wI hw 4 rfl) (Road.n32 (by omega)) hcap (by decide) (ce' := 1) (sl' := 48) rfl rfl (by decide) (by decide) ?_
  intro d h_6 σ_7 g_8 K_9 lt_10 m_11 s_12 Ad
  have ne_b_d : b ≠ d := Nat.ne_of_lt (Nat.lt_of_lt_of_le A.lt (Nat.le_of_eq g_8.symm))
  replace A := A.keep K_9 nin0
  refine Road.astore 12 #[.val (.ref b), .val (.int (0 : Int32)), .val (.int (Nat.toInt32 n)), .val (.int (Nat.toInt32 n)), .val (.ref d)] bCrB_d12 rfl ?_
  refine Road.aloadN 14 bCrB_d14 rfl ?_
  refine Road.iloadN 15 bCrB_d15 rfl ?_
  refine Road.aload 16 bCrB_d16 rfl ?_
  refine Road.iconst 18 (0 : Int32) bCrB_d18 rfl ?_
  refine Road.aloadN 19 bCrB_d19 rfl ?_
  refine Road.alen 20 (Nat.toInt32 vs.length) bCrB_d20 A (n := vs.length) rfl rfl ?_
  refine Road.iloadN 21 bCrB_d21 rfl ?_
  refine Road.isub 22 bCrB_d22 ?_
  refine Road.nameI ?_
  intro z_13 hz_13
  obtain rfl : z_13 = (Nat.toInt32 vs.length) := by rw [hz_13]; exact Int32.sub_zero _
  refine Road.iloadN 23 bCrB_d23 rfl ?_
  refine Road.callS (B' := bMin) 24 (argsL := [(.int (Nat.toInt32 vs.length)), (.int (Nat.toInt32 n))]) (rest := [(.int (0 : Int32)), (.ref d), (.int (0 : Int32)), (.ref b)]) 4 bCrB_d24 (wI hw 154 rfl) (wI hw 155 rfl) (wI hw 146 rfl) (wI hw 156 rfl) (by decide) (cMin l Z a0 hw n0 hEW vs.length n h_6 σ_7 hsm (by omega)) (lenOf bMin_pd rfl) rfl rfl rfl (by decide) (by decide) (ce' := 1) (sl' := 48) rfl rfl (by decide) (by decide) ?_
  rintro _ h_14 σ_15 m_16 ⟨rfl, rfl⟩
  refine Road.Go.weaken (σ' := σ_7) m_16 (Nat.le_refl _) (Nat.le_refl _) ?_
  refine Road.acopy 27 0 0 n 0 bCrB_d27 (wI hw 157 rfl) (wI hw 133 rfl) (wI hw 131 rfl) (wI hw 132 rfl) A Ad rfl rfl rfl (by rw [Nat.min_eq_right (by omega)]; exact Road.n32 (by omega)) (by omega) (by rw [List.length_replicate]; omega) s_12 rfl rfl (by decide) (by decide) ?_
  intro h_18 K_19 Ae
  replace A := A.keep K_19 (ninS ne_b_d nin0)
  refine Road.aload 30 bCrB_d30 rfl ?_
  exact Road.aret 32 bCrB_d32 (t := (.array .byte)) rfl rfl rfl (by decide) (by decide) (fun σ' m => ⟨d, rfl, Nat.le_of_eq g_8.symm, K_9.trans K_19 (by intro x hx; cases List.mem_singleton.mp hx; exact Or.inr (Nat.le_of_eq g_8.symm)), m _ s_12, by simpa using Ae⟩)
def bCrR : Road.Bdy := (⟨"java/util/Arrays", "copyOfRange", "([BII)[B"⟩, jdk_65_method_132_code, 3, (some (.array .byte)), { frames := 2, cells := 1, slots := 48, locals := 38 })
theorem bCrR_d0 : decode bCrR.bs 0 = .ok (.iload_n 1, 1) := by decide +kernel
theorem bCrR_d1 : decode bCrR.bs 1 = .ok (.ifCond .ne 9, 3) := by decide +kernel
theorem bCrR_d4 : decode bCrR.bs 4 = .ok (.iload_n 2, 1) := by decide +kernel
theorem bCrR_d5 : decode bCrR.bs 5 = .ok (.aload_n 0, 1) := by decide +kernel
theorem bCrR_d6 : decode bCrR.bs 6 = .ok (.arraylength, 1) := by decide +kernel
theorem bCrR_d7 : decode bCrR.bs 7 = .ok (.if_icmp .eq 10, 3) := by decide +kernel
theorem bCrR_d10 : decode bCrR.bs 10 = .ok (.aload_n 0, 1) := by decide +kernel
theorem bCrR_d11 : decode bCrR.bs 11 = .ok (.iload_n 1, 1) := by decide +kernel
theorem bCrR_d12 : decode bCrR.bs 12 = .ok (.iload_n 2, 1) := by decide +kernel
theorem bCrR_d13 : decode bCrR.bs 13 = .ok (.invokestatic 339, 3) := by decide +kernel
theorem bCrR_d16 : decode bCrR.bs 16 = .ok (.areturn, 1) := by decide +kernel
theorem bCrR_d17 : decode bCrR.bs 17 = .ok (.aload_n 0, 1) := by decide +kernel
theorem bCrR_d18 : decode bCrR.bs 18 = .ok (.invokevirtual 310, 3) := by decide +kernel
theorem bCrR_d21 : decode bCrR.bs 21 = .ok (.checkcast 311, 3) := by decide +kernel
theorem bCrR_d24 : decode bCrR.bs 24 = .ok (.areturn, 1) := by decide +kernel
theorem bCrR_pd : parseMethodDescriptor "([BII)[B" = some ⟨[(.array .byte), .int, .int], (some (.array .byte))⟩ := by decide +kernel
theorem bCrR_pn : plainFor bCrR.y = true := plainFor_of_name (show plainName "java/util/Arrays" = true from by first | (simp [plainName, overriddenIn]; done) | decide +kernel)
theorem cCrR (l : Launch) (Z : State) (a0 : Array Value) (hw : ∀ d ∈ tables_1, d.before a0 Z = true) (n0 : Nat) (hEW : EW Z a0 consts_1) (b : Addr) (vs : List Value) (n : Nat) (h0 : Heap) (σ : Addr → Prop) (A : Road.Ary Z h0 b .byte vs) (hn : n < vs.length) (hcap : n ≤ 48) :
    Road.Con l Z consts_1 n0 true bCrR [] σ #[(.ref b), (.int (0 : Int32)), (.int (Nat.toInt32 n))] h0 (fun v h2 s2 => ∃ d, v = some (.ref d) ∧ h0.size ≤ d ∧ Keep h0 h2 [] ∧ s2 d ∧ Road.Ary Z h2 d .byte (vs.take n)) := by
  have hsm := A.small
  refine Road.Con.of bCrR_pn hEW #[.val (.ref b), .val (.int (0 : Int32)), .val (.int (Nat.toInt32 n))] (fun m => Road.ent (Road.laid1 rfl (Road.laid1 rfl (Road.laid1 rfl Road.laid0))) (k := 0) rfl rfl) ?_
  intro D hD
  refine Road.iloadN 0 bCrR_d0 rfl ?_
  refine Road.if_ne 1 10 bCrR_d1 rfl (fun q => absurd q (by decide)) (fun hc1 => ?_)
  refine Road.iloadN 4 bCrR_d4 rfl ?_
  refine Road.aloadN 5 bCrR_d5 rfl ?_
  refine Road.alen 6 (Nat.toInt32 vs.length) bCrR_d6 A (n := vs.length) rfl rfl ?_
  refine Road.icmp_eq 7 17 bCrR_d7 rfl (fun q => absurd q (by rw [Road.eq32 (by omega) hsm]; omega)) (fun hc7 => ?_)
  refine Road.aloadN 10 bCrR_d10 rfl ?_
  refine Road.iloadN 11 bCrR_d11 rfl ?_
  refine Road.iloadN 12 bCrR_d12 rfl ?_
  refine Road.callS (B' := bCrB) 13 (argsL := [(.ref b), (.int (0 : Int32)), (.int (Nat.toInt32 n))]) (rest := []) 0 bCrR_d13 (wI hw 224 rfl) (wI hw 225 rfl) (wI hw 152 rfl) (wI hw 226 rfl) (by decide) (cCrB l Z a0 hw n0 hEW b vs n h0 σ A hn hcap) (lenOf bCrB_pd rfl) rfl rfl rfl (by decide) (by decide) (ce' := 1) (sl' := 48) rfl rfl (by decide) (by decide) ?_
  rintro _ h_1 σ_2 m_3 ⟨d, rfl, gd, K_4, sd, Ad⟩
  exact Road.aret 16 bCrR_d16 (t := (.array .byte)) rfl rfl rfl (by decide) (by decide) (fun σ' m => ⟨d, rfl, gd, K_4, m _ sd, Ad⟩)
def bGtV : Road.Bdy := (⟨"java/lang/AbstractStringBuilder", "getValue", "()[B"⟩, jdk_68_method_64_code, 1, (some (.array .byte)), { frames := 0, cells := 0, slots := 0, locals := 0 })
theorem bGtV_d0 : decode bGtV.bs 0 = .ok (.aload_n 0, 1) := by decide +kernel
theorem bGtV_d1 : decode bGtV.bs 1 = .ok (.getfield 15, 3) := by decide +kernel
theorem bGtV_d4 : decode bGtV.bs 4 = .ok (.areturn, 1) := by decide +kernel
theorem bGtV_pd : parseMethodDescriptor "()[B" = some ⟨[], (some (.array .byte))⟩ := by decide +kernel
theorem bGtV_pn : plainFor bGtV.y = true := plainFor_of_name (show plainName "java/lang/AbstractStringBuilder" = true from by first | (simp [plainName, overriddenIn]; done) | decide +kernel)
theorem cGtV (l : Launch) (Z : State) (a0 : Array Value) (hw : ∀ d ∈ tables_1, d.before a0 Z = true) (n0 : Nat) (hEW : EW Z a0 consts_1) (q b : Addr) (h0 : Heap) (σ : Addr → Prop) (Fv : Fld Z h0 q Road.AB "value" "[B" (.ref b)) :
    Road.Con l Z consts_1 n0 true bGtV [] σ #[(.ref q)] h0 (fun v h2 _ => v = some (.ref b) ∧ h0 = h2) := by
  refine Road.Con.of bGtV_pn hEW #[.val (.ref q)] (fun m => Road.ent (Road.laid1 rfl Road.laid0) (k := 0) rfl rfl) ?_
  intro D hD
  refine Road.aloadN 0 bGtV_d0 rfl ?_
  refine Road.getfield 1 bGtV_d1 (wI hw 83 rfl) Via.refl Fv ?_
  exact Road.aret 4 bGtV_d4 (t := (.array .byte)) rfl rfl rfl (by decide) (by decide) (fun σ' m => ⟨rfl, rfl⟩)
def bAbN : Road.Bdy := (⟨"java/lang/AbstractStringBuilder", "length", "()I"⟩, jdk_68_method_6_code, 1, (some .int), { frames := 0, cells := 0, slots := 0, locals := 0 })
theorem bAbN_d0 : decode bAbN.bs 0 = .ok (.aload_n 0, 1) := by decide +kernel
theorem bAbN_d1 : decode bAbN.bs 1 = .ok (.getfield 79, 3) := by decide +kernel
theorem bAbN_d4 : decode bAbN.bs 4 = .ok (.ireturn, 1) := by decide +kernel
theorem bAbN_pd : parseMethodDescriptor "()I" = some ⟨[], (some .int)⟩ := by decide +kernel
theorem bAbN_pn : plainFor bAbN.y = true := plainFor_of_name (show plainName "java/lang/AbstractStringBuilder" = true from by first | (simp [plainName, overriddenIn]; done) | decide +kernel)
theorem cAbN (l : Launch) (Z : State) (a0 : Array Value) (hw : ∀ d ∈ tables_1, d.before a0 Z = true) (n0 : Nat) (hEW : EW Z a0 consts_1) (q : Addr) (n : Int32) (h0 : Heap) (σ : Addr → Prop) (Fn : Fld Z h0 q Road.AB "count" "I" (.int n)) :
    Road.Con l Z consts_1 n0 true bAbN [] σ #[(.ref q)] h0 (fun v h2 _ => v = some (.int n) ∧ h0 = h2) := by
  refine Road.Con.of bAbN_pn hEW #[.val (.ref q)] (fun m => Road.ent (Road.laid1 rfl Road.laid0) (k := 0) rfl rfl) ?_
  intro D hD
  refine Road.aloadN 0 bAbN_d0 rfl ?_
  refine Road.getfield 1 bAbN_d1 (wI hw 107 rfl) Via.refl Fn ?_
  exact Road.iretI 4 bAbN_d4 rfl (by decide) (by decide) (fun σ' m => ⟨rfl, rfl⟩)
def bSbN : Road.Bdy := (⟨"java/lang/StringBuilder", "length", "()I"⟩, jdk_67_method_93_code, 1, (some .int), { frames := 1, cells := 0, slots := 0, locals := 12 })
theorem bSbN_d0 : decode bSbN.bs 0 = .ok (.aload_n 0, 1) := by decide +kernel
theorem bSbN_d1 : decode bSbN.bs 1 = .ok (.invokespecial 343, 3) := by decide +kernel
theorem bSbN_d4 : decode bSbN.bs 4 = .ok (.ireturn, 1) := by decide +kernel
theorem bSbN_pd : parseMethodDescriptor "()I" = some ⟨[], (some .int)⟩ := by decide +kernel
theorem bSbN_pn : plainFor bSbN.y = true := plainFor_of_name (show plainName "java/lang/StringBuilder" = true from by first | (simp [plainName, overriddenIn]; done) | decide +kernel)
theorem cSbN (l : Launch) (Z : State) (a0 : Array Value) (hw : ∀ d ∈ tables_1, d.before a0 Z = true) (n0 : Nat) (hEW : EW Z a0 consts_1) (q : Addr) (n : Int32) (h0 : Heap) (σ : Addr → Prop) (E : Exa Z h0 q Road.SB) (Fn : Fld Z h0 q Road.AB "count" "I" (.int n)) :
    Road.Con l Z consts_1 n0 true bSbN [] σ #[(.ref q)] h0 (fun v h2 _ => v = some (.int n) ∧ h0 = h2) := by
  refine Road.Con.of bSbN_pn hEW #[.val (.ref q)] (fun m => Road.ent (Road.laid1 rfl Road.laid0) (k := 0) rfl rfl) ?_
  intro D hD
  refine Road.aloadN 0 bSbN_d0 rfl ?_
  refine Road.callUp (B' := bAbN) (a := q) 1 (argsL := []) (rest := []) "java/lang/StringBuilder" 0 bSbN_d1 (wI hw 218 rfl) (Road.notFace_sib (wI hw 112 rfl) rfl) (wI hw 214 rfl) (wI hw 94 rfl) (wI hw 79 rfl) (wI hw 219 rfl) (by decide) (by decide) E (cAbN l Z a0 hw n0 hEW q n h0 σ Fn) (lenOf bAbN_pd rfl) rfl rfl rfl (by decide) (by decide) (ce' := 0) (sl' := 0) rfl rfl (by decide) (by decide) ?_
  rintro _ h_1 σ_2 m_3 ⟨rfl, rfl⟩
  refine Road.Go.weaken (σ' := σ) m_3 (Nat.le_refl _) (Nat.le_refl _) ?_
  exact Road.iretI 4 bSbN_d4 rfl (by decide) (by decide) (fun σ' m => ⟨rfl, rfl⟩)
def bStV : Road.Bdy := (⟨"java/lang/String", "<init>", "(Ljava/lang/AbstractStringBuilder;Ljava/lang/Void;)V"⟩, jdk_42_method_150_code, 5, none, { frames := 3, cells := 1, slots := 48, locals := 53 })
theorem bStV_d0 : decode bStV.bs 0 = .ok (.aload_n 0, 1) := by decide +kernel
theorem bStV_d1 : decode bStV.bs 1 = .ok (.invokespecial 1, 3) := by decide +kernel
theorem bStV_d4 : decode bStV.bs 4 = .ok (.aload_n 1, 1) := by decide +kernel
theorem bStV_d5 : decode bStV.bs 5 = .ok (.invokevirtual 552, 3) := by decide +kernel
theorem bStV_d8 : decode bStV.bs 8 = .ok (.astore_n 3, 1) := by decide +kernel
theorem bStV_d9 : decode bStV.bs 9 = .ok (.aload_n 1, 1) := by decide +kernel
theorem bStV_d10 : decode bStV.bs 10 = .ok (.invokevirtual 549, 3) := by decide +kernel
theorem bStV_d13 : decode bStV.bs 13 = .ok (.istore 4, 2) := by decide +kernel
theorem bStV_d15 : decode bStV.bs 15 = .ok (.aload_n 1, 1) := by decide +kernel
theorem bStV_d16 : decode bStV.bs 16 = .ok (.invokevirtual 1047, 3) := by decide +kernel
theorem bStV_d19 : decode bStV.bs 19 = .ok (.ifCond .eq 22, 3) := by decide +kernel
theorem bStV_d22 : decode bStV.bs 22 = .ok (.aload_n 0, 1) := by decide +kernel
theorem bStV_d23 : decode bStV.bs 23 = .ok (.iconst 0, 1) := by decide +kernel
theorem bStV_d24 : decode bStV.bs 24 = .ok (.putfield 15, 3) := by decide +kernel
theorem bStV_d27 : decode bStV.bs 27 = .ok (.aload_n 0, 1) := by decide +kernel
theorem bStV_d28 : decode bStV.bs 28 = .ok (.aload_n 3, 1) := by decide +kernel
theorem bStV_d29 : decode bStV.bs 29 = .ok (.iconst 0, 1) := by decide +kernel
theorem bStV_d30 : decode bStV.bs 30 = .ok (.iload 4, 2) := by decide +kernel
theorem bStV_d32 : decode bStV.bs 32 = .ok (.invokestatic 54, 3) := by decide +kernel
theorem bStV_d35 : decode bStV.bs 35 = .ok (.putfield 9, 3) := by decide +kernel
theorem bStV_d38 : decode bStV.bs 38 = .ok (.goto 59, 3) := by decide +kernel
theorem bStV_d41 : decode bStV.bs 41 = .ok (.getstatic 38, 3) := by decide +kernel
theorem bStV_d44 : decode bStV.bs 44 = .ok (.ifCond .eq 35, 3) := by decide +kernel
theorem bStV_d47 : decode bStV.bs 47 = .ok (.aload_n 1, 1) := by decide +kernel
theorem bStV_d48 : decode bStV.bs 48 = .ok (.getfield 1048, 3) := by decide +kernel
theorem bStV_d51 : decode bStV.bs 51 = .ok (.ifCond .eq 28, 3) := by decide +kernel
theorem bStV_d54 : decode bStV.bs 54 = .ok (.aload_n 0, 1) := by decide +kernel
theorem bStV_d55 : decode bStV.bs 55 = .ok (.aload_n 3, 1) := by decide +kernel
theorem bStV_d56 : decode bStV.bs 56 = .ok (.iconst 0, 1) := by decide +kernel
theorem bStV_d57 : decode bStV.bs 57 = .ok (.iload 4, 2) := by decide +kernel
theorem bStV_d59 : decode bStV.bs 59 = .ok (.invokestatic 1051, 3) := by decide +kernel
theorem bStV_d62 : decode bStV.bs 62 = .ok (.putfield 9, 3) := by decide +kernel
theorem bStV_d65 : decode bStV.bs 65 = .ok (.aload_n 0, 1) := by decide +kernel
theorem bStV_d66 : decode bStV.bs 66 = .ok (.aload_n 0, 1) := by decide +kernel
theorem bStV_d67 : decode bStV.bs 67 = .ok (.getfield 9, 3) := by decide +kernel
theorem bStV_d70 : decode bStV.bs 70 = .ok (.iload 4, 2) := by decide +kernel
theorem bStV_d72 : decode bStV.bs 72 = .ok (.invokestatic 47, 3) := by decide +kernel
theorem bStV_d75 : decode bStV.bs 75 = .ok (.putfield 15, 3) := by decide +kernel
theorem bStV_d78 : decode bStV.bs 78 = .ok (.return_, 1) := by decide +kernel
theorem bStV_d79 : decode bStV.bs 79 = .ok (.aload_n 0, 1) := by decide +kernel
theorem bStV_d80 : decode bStV.bs 80 = .ok (.iconst 1, 1) := by decide +kernel
theorem bStV_d81 : decode bStV.bs 81 = .ok (.putfield 15, 3) := by decide +kernel
theorem bStV_d84 : decode bStV.bs 84 = .ok (.aload_n 0, 1) := by decide +kernel
theorem bStV_d85 : decode bStV.bs 85 = .ok (.aload_n 3, 1) := by decide +kernel
theorem bStV_d86 : decode bStV.bs 86 = .ok (.iconst 0, 1) := by decide +kernel
theorem bStV_d87 : decode bStV.bs 87 = .ok (.iload 4, 2) := by decide +kernel
theorem bStV_d89 : decode bStV.bs 89 = .ok (.iconst 1, 1) := by decide +kernel
theorem bStV_d90 : decode bStV.bs 90 = .ok (.ishl, 1) := by decide +kernel
theorem bStV_d91 : decode bStV.bs 91 = .ok (.invokestatic 54, 3) := by decide +kernel
theorem bStV_d94 : decode bStV.bs 94 = .ok (.putfield 9, 3) := by decide +kernel
theorem bStV_d97 : decode bStV.bs 97 = .ok (.return_, 1) := by decide +kernel
theorem bStV_pd : parseMethodDescriptor "(Ljava/lang/AbstractStringBuilder;Ljava/lang/Void;)V" = some ⟨[(.object "java/lang/AbstractStringBuilder"), (.object "java/lang/Void")], none⟩ := by decide +kernel
theorem bStV_pn : plainFor bStV.y = true := plainFor_of_name (show plainName "java/lang/String" = true from by first | (simp [plainName, overriddenIn]; done) | decide +kernel)
theorem cStV (l : Launch) (Z : State) (a0 : Array Value) (hw : ∀ d ∈ tables_1, d.before a0 Z = true) (n0 : Nat) (hEW : EW Z a0 consts_1) (a : Addr) (q b : Addr) (cs : List Int32) (N : Nat) (h0 : Heap) (σ : Addr → Prop) (E : Exa Z h0 a Road.SN) (Gc : Fld Z h0 a Road.SN "coder" "B" (.int 0)) (Gv : Fld Z h0 a Road.SN "value" "[B" .null) (S : Road.Sb Z h0 q b cs N) (hn : cs.length < N) (hcap : cs.length ≤ 48) (naq : a ≠ q) (sa : σ a) (cp : Int32) (Hc : Sta Z Z.heap Road.SN "COMPACT_STRINGS" "Z" (.int cp)) (hcp : ¬ cp = 0) :
    Road.Con l Z consts_1 n0 true bStV [] σ #[(.ref a), (.ref q), .null] h0 (fun v h2 s2 => v = none ∧ Keep h0 h2 [a] ∧ ∃ d, Road.Str Z h2 a d cs ∧ h0.size ≤ d) := by
  have hN := S.small
  obtain ⟨F, Fc, Fv, Fn, ⟨r, Ab, hr⟩, hlt⟩ := S
  refine Road.Con.of bStV_pn hEW #[.val (.ref a), .val (.ref q), .val .null, .unset, .unset] (fun m => Road.ent (Road.laid1 rfl (Road.laid1 rfl (Road.laid1 rfl Road.laid0))) (k := 2) rfl rfl) ?_
  intro D hD
  refine Road.aloadN 0 bStV_d0 rfl ?_
  refine Road.initObj 1 bStV_d1 (wI hw 25 rfl) (wI hw 26 rfl) (wI hw 27 rfl) 0 rfl rfl (by decide) (by decide) ?_
  refine Road.aloadN 4 bStV_d4 rfl ?_
  refine Road.callV (B' := bGtV) (a := q) 5 (argsL := []) (rest := []) "java/lang/StringBuilder" 0 bStV_d5 (wI hw 207 rfl) (wI hw 208 rfl) (fun vm hz => Road.notFace_sib (args := #[]) (mv (s := D.s.setVm vm) hz (wI hw 112 rfl)) rfl) (wI hw 210 rfl) (wI hw 209 rfl) (wI hw 79 rfl) (wI hw 211 rfl) (by decide) F (cGtV l Z a0 hw n0 hEW q b h0 σ Fv) (lenOf bGtV_pd rfl) rfl rfl rfl (by decide) (by decide) (ce' := 0) (sl' := 0) rfl rfl (by decide) (by decide) ?_
  rintro _ h_1 σ_2 m_3 ⟨rfl, rfl⟩
  refine Road.Go.weaken (σ' := σ) m_3 (Nat.le_refl _) (Nat.le_refl _) ?_
  refine Road.astoreN 8 #[.val (.ref a), .val (.ref q), .val .null, .val (.ref b), .unset] bStV_d8 rfl ?_
  refine Road.aloadN 9 bStV_d9 rfl ?_
  refine Road.callV (B' := bSbN) (a := q) 10 (argsL := []) (rest := []) "java/lang/StringBuilder" 0 bStV_d10 (wI hw 212 rfl) (wI hw 213 rfl) (fun vm hz => Road.notFace_sib (args := #[]) (mv (s := D.s.setVm vm) hz (wI hw 112 rfl)) rfl) (wI hw 215 rfl) (wI hw 216 rfl) (wI hw 71 rfl) (wI hw 217 rfl) (by decide) F (cSbN l Z a0 hw n0 hEW q (Nat.toInt32 cs.length) h0 σ F Fn) (lenOf bSbN_pd rfl) rfl rfl rfl (by decide) (by decide) (ce' := 0) (sl' := 0) rfl rfl (by decide) (by decide) ?_
  rintro _ h_5 σ_6 m_7 ⟨rfl, rfl⟩
  refine Road.Go.weaken (σ' := σ) m_7 (Nat.le_refl _) (Nat.le_refl _) ?_
  refine Road.istore 13 #[.val (.ref a), .val (.ref q), .val .null, .val (.ref b), .val (.int (Nat.toInt32 cs.length))] bStV_d13 rfl ?_
  refine Road.aloadN 15 bStV_d15 rfl ?_
  refine Road.callV (B' := bAbL) (a := q) 16 (argsL := []) (rest := []) "java/lang/StringBuilder" 0 bStV_d16 (wI hw 220 rfl) (wI hw 187 rfl) (fun vm hz => Road.notFace_sib (args := #[]) (mv (s := D.s.setVm vm) hz (wI hw 112 rfl)) rfl) (wI hw 189 rfl) (wI hw 188 rfl) (wI hw 79 rfl) (wI hw 190 rfl) (by decide) F (cAbL l Z a0 hw n0 hEW q h0 σ Fc cp Hc hcp) (lenOf bAbL_pd rfl) rfl rfl rfl (by decide) (by decide) (ce' := 0) (sl' := 0) rfl rfl (by decide) (by decide) ?_
  rintro _ h_9 σ_10 m_11 ⟨rfl, rfl⟩
  refine Road.Go.weaken (σ' := σ) m_11 (Nat.le_refl _) (Nat.le_refl _) ?_
  refine Road.if_eq 19 41 bStV_d19 rfl (fun q => absurd q (by decide)) (fun hc19 => ?_)
  refine Road.aloadN 22 bStV_d22 rfl ?_
  refine Road.iconst 23 (0 : Int32) bStV_d23 rfl ?_
  have nab : a ≠ b := by obtain ⟨c, Ar, -⟩ := Ab; exact ne_arr E (wI hw 3 rfl) Ar
  refine Road.putfield 24 bStV_d24 (wI hw 29 rfl) Via.refl Gc E (Or.inr ⟨(wI hw 6 rfl), rfl, rfl⟩) (wI hw 3 rfl) (ty := .byte) (by decide) rfl rfl sa ?_
  intro h_15 W_13 K_14
  replace Gc := Gc.same W_13
  replace Gv := Gv.other W_13 (Or.inr (slot_ne (Or.inr (wI hw 5 rfl)) (Or.inr (wI hw 6 rfl)) (by decide) (t := (.array .byte)) (by decide) (t' := .byte) (by decide)))
  replace E := E.keep K_14
  replace Ab := Ab.keep K_14 (ninS (Ne.symm nab) nin0)
  refine Road.aloadN 27 bStV_d27 rfl ?_
  refine Road.aloadN 28 bStV_d28 rfl ?_
  refine Road.iconst 29 (0 : Int32) bStV_d29 rfl ?_
  refine Road.iload 30 bStV_d30 rfl ?_
  refine Road.callS (B' := bCrR) 32 (argsL := [(.ref b), (.int (0 : Int32)), (.int (Nat.toInt32 cs.length))]) (rest := [(.ref a)]) 1 bStV_d32 (wI hw 221 rfl) (wI hw 222 rfl) (wI hw 152 rfl) (wI hw 223 rfl) (by decide) (cCrR l Z a0 hw n0 hEW b _ cs.length h_15 σ Ab (by rw [List.length_append, List.length_map]; omega) hcap) (lenOf bCrR_pd rfl) rfl rfl rfl (by decide) (by decide) (ce' := 1) (sl' := 48) rfl rfl (by decide) (by decide) ?_
  rintro _ h_16 σ_17 m_18 ⟨d, rfl, gd, K_19, sd, Ad⟩
  have ne_a_d : a ≠ d := Nat.ne_of_lt (Nat.lt_of_lt_of_le E.lt gd)
  have ne_b_d : b ≠ d := Nat.ne_of_lt (Nat.lt_of_lt_of_le Ab.lt gd)
  replace E := E.keep K_19
  replace Gc := Gc.keep K_19 nin0
  replace Gv := Gv.keep K_19 nin0
  replace Ab := Ab.keep K_19 nin0
  replace sa := m_18 _ sa
  refine Road.putfield 35 bStV_d35 (wI hw 28 rfl) Via.refl Gv E (Or.inr ⟨(wI hw 5 rfl), rfl, rfl⟩) (wI hw 3 rfl) (ty := (.array .byte)) (by decide) rfl rfl sa ?_
  intro h_23 W_21 K_22
  replace Gv := Gv.same W_21
  replace Gc := Gc.other W_21 (Or.inr (slot_ne (Or.inr (wI hw 6 rfl)) (Or.inr (wI hw 5 rfl)) (by decide) (t := .byte) (by decide) (t' := (.array .byte)) (by decide)))
  replace E := E.keep K_22
  replace Ab := Ab.keep K_22 (ninS (Ne.symm nab) nin0)
  replace Ad := Ad.keep K_22 (ninS (Ne.symm ne_a_d) nin0)
  refine Road.goto 38 97 bStV_d38 rfl ?_
  rw [List.take_append_of_le_length (by rw [List.length_map]; omega), List.take_of_length_le (by rw [List.length_map]; omega)] at Ad
  exact Road.ret 97 bStV_d97 rfl (by decide) (by decide) (fun σ' m => ⟨rfl, (K_14.trans (Road.keep_more (ws := [a]) K_19) (by simp)).trans K_22 (by simp), d, ⟨E, Gc, Gv, Ad, hlt⟩, Nat.le_trans K_14.1 gd⟩)
def bStS : Road.Bdy := (⟨"java/lang/String", "<init>", "(Ljava/lang/StringBuilder;)V"⟩, jdk_42_method_53_code, 2, none, { frames := 4, cells := 1, slots := 48, locals := 69 })
theorem bStS_d0 : decode bStS.bs 0 = .ok (.aload_n 0, 1) := by decide +kernel
theorem bStS_d1 : decode bStS.bs 1 = .ok (.aload_n 1, 1) := by decide +kernel
theorem bStS_d2 : decode bStS.bs 2 = .ok (.aconst_null, 1) := by decide +kernel
theorem bStS_d3 : decode bStS.bs 3 = .ok (.invokespecial 489, 3) := by decide +kernel
theorem bStS_d6 : decode bStS.bs 6 = .ok (.return_, 1) := by decide +kernel
theorem bStS_pd : parseMethodDescriptor "(Ljava/lang/StringBuilder;)V" = some ⟨[(.object "java/lang/StringBuilder")], none⟩ := by decide +kernel
theorem bStS_pn : plainFor bStS.y = true := plainFor_of_name (show plainName "java/lang/String" = true from by first | (simp [plainName, overriddenIn]; done) | decide +kernel)
theorem cStS (l : Launch) (Z : State) (a0 : Array Value) (hw : ∀ d ∈ tables_1, d.before a0 Z = true) (n0 : Nat) (hEW : EW Z a0 consts_1) (a : Addr) (q b : Addr) (cs : List Int32) (N : Nat) (h0 : Heap) (σ : Addr → Prop) (E : Exa Z h0 a Road.SN) (Gc : Fld Z h0 a Road.SN "coder" "B" (.int 0)) (Gv : Fld Z h0 a Road.SN "value" "[B" .null) (S : Road.Sb Z h0 q b cs N) (hn : cs.length < N) (hcap : cs.length ≤ 48) (naq : a ≠ q) (sa : σ a) (cp : Int32) (Hc : Sta Z Z.heap Road.SN "COMPACT_STRINGS" "Z" (.int cp)) (hcp : ¬ cp = 0) :
    Road.Con l Z consts_1 n0 true bStS [] σ #[(.ref a), (.ref q)] h0 (fun v h2 s2 => v = none ∧ Keep h0 h2 [a] ∧ ∃ d, Road.Str Z h2 a d cs ∧ h0.size ≤ d) := by
  refine Road.Con.of bStS_pn hEW #[.val (.ref a), .val (.ref q)] (fun m => Road.ent (Road.laid1 rfl (Road.laid1 rfl Road.laid0)) (k := 0) rfl rfl) ?_
  intro D hD
  refine Road.aloadN 0 bStS_d0 rfl ?_
  refine Road.aloadN 1 bStS_d1 rfl ?_
  refine Road.aconstNull 2 bStS_d2 ?_
  refine Road.callI (B' := bStV) (a := a) 3 (argsL := [(.ref q), .null]) (rest := []) 0 bStS_d3 (wI hw 204 rfl) (wI hw 205 rfl) (wI hw 2 rfl) (wI hw 206 rfl) rfl rfl (by decide) (cStV l Z a0 hw n0 hEW a q b cs N h0 σ E Gc Gv S hn hcap naq sa cp Hc hcp) (lenOf bStV_pd rfl) rfl rfl rfl (by decide) (by decide) (ce' := 1) (sl' := 48) rfl rfl (by decide) (by decide) ?_
  rintro _ h_1 σ_2 m_3 ⟨rfl, K_4, d, T, gd⟩
  exact Road.ret 6 bStS_d6 rfl (by decide) (by decide) (fun σ' m => ⟨rfl, K_4, d, T, gd⟩)
def bToS : Road.Bdy := (⟨"java/lang/StringBuilder", "toString", "()Ljava/lang/String;"⟩, jdk_67_method_42_code, 1, (some (.object "java/lang/String")), { frames := 5, cells := 2, slots := 52, locals := 83 })
theorem bToS_d0 : decode bToS.bs 0 = .ok (.new 18, 3) := by decide +kernel
theorem bToS_d3 : decode bToS.bs 3 = .ok (.dup, 1) := by decide +kernel
theorem bToS_d4 : decode bToS.bs 4 = .ok (.aload_n 0, 1) := by decide +kernel
theorem bToS_d5 : decode bToS.bs 5 = .ok (.invokespecial 137, 3) := by decide +kernel
theorem bToS_d8 : decode bToS.bs 8 = .ok (.areturn, 1) := by decide +kernel
theorem bToS_pd : parseMethodDescriptor "()Ljava/lang/String;" = some ⟨[], (some (.object "java/lang/String"))⟩ := by decide +kernel
theorem bToS_pn : plainFor bToS.y = true := plainFor_of_name (show plainName "java/lang/StringBuilder" = true from by first | (simp [plainName, overriddenIn]; done) | decide +kernel)
theorem cToS (l : Launch) (Z : State) (a0 : Array Value) (hw : ∀ d ∈ tables_1, d.before a0 Z = true) (n0 : Nat) (hEW : EW Z a0 consts_1) (q b : Addr) (cs : List Int32) (N : Nat) (h0 : Heap) (σ : Addr → Prop) (S : Road.Sb Z h0 q b cs N) (hn : cs.length < N) (hcap : cs.length ≤ 48) (cp : Int32) (Hc : Sta Z Z.heap Road.SN "COMPACT_STRINGS" "Z" (.int cp)) (hcp : ¬ cp = 0) :
    Road.Con l Z consts_1 n0 true bToS [] σ #[(.ref q)] h0 (fun v h2 s2 => ∃ a d, v = some (.ref a) ∧ h0.size ≤ a ∧ h0.size ≤ d ∧ Keep h0 h2 [] ∧ Road.Str Z h2 a d cs) := by
  refine Road.Con.of bToS_pn hEW #[.val (.ref q)] (fun m => Road.ent (Road.laid1 rfl Road.laid0) (k := 0) rfl rfl) ?_
  intro D hD
  refine Road.new 0 "java/lang/String" bToS_d0 (wI hw 200 rfl) (wI hw 3 rfl) (wI hw 2 rfl) (ce' := 1) (sl' := 4) rfl rfl (by decide) (by decide) ?_
  intro a h_1 σ_2 g_3 K_4 lt_5 m_6 s_7 E D_8 M_9
  have ne_q_a : q ≠ a := Nat.ne_of_lt (Nat.lt_of_lt_of_le S.lt (Nat.le_of_eq g_3.symm))
  have ne_b_a : b ≠ a := Nat.ne_of_lt (Nat.lt_of_lt_of_le S.ltb (Nat.le_of_eq g_3.symm))
  replace S := S.keep K_4 nin0 nin0
  have Gc := D_8 (Or.inr (wI hw 6 rfl)) (ty := .byte) (by decide)
  have Gv := D_8 (Or.inr (wI hw 5 rfl)) (ty := (.array .byte)) (by decide)
  refine Road.dup 3 bToS_d3 ?_
  refine Road.aloadN 4 bToS_d4 rfl ?_
  refine Road.callI (B' := bStS) (a := a) 5 (argsL := [(.ref q)]) (rest := [(.ref a)]) 1 bToS_d5 (wI hw 201 rfl) (wI hw 202 rfl) (wI hw 2 rfl) (wI hw 203 rfl) rfl rfl (by decide) (cStS l Z a0 hw n0 hEW a q b cs N h_1 σ_2 E Gc Gv S hn hcap (Ne.symm ne_q_a) s_7 cp Hc hcp) (lenOf bStS_pd rfl) rfl rfl rfl (by decide) (by decide) (ce' := 2) (sl' := 52) rfl rfl (by decide) (by decide) ?_
  rintro _ h_10 σ_11 m_12 ⟨rfl, K_13, d, T, gd⟩
  replace s_7 := m_12 _ s_7
  exact Road.aret 8 bToS_d8 (t := (.object "java/lang/String")) rfl rfl rfl (by decide) (by decide) (fun σ' m => ⟨a, d, rfl, Nat.le_of_eq g_3.symm, Nat.le_trans K_4.1 gd, K_4.trans K_13 (by intro x hx; cases List.mem_singleton.mp hx; exact Or.inr (Nat.le_of_eq g_3.symm)), T⟩)
def bCrE : Road.Bdy := (⟨"java/util/Arrays", "copyOfRange", "([BII)[B"⟩, jdk_65_method_132_code, 3, (some (.array .byte)), { frames := 1, cells := 1, slots := 48, locals := 14 })
theorem bCrE_pd : parseMethodDescriptor "([BII)[B" = some ⟨[(.array .byte), .int, .int], (some (.array .byte))⟩ := by decide +kernel
theorem bCrE_pn : plainFor bCrE.y = true := plainFor_of_name (show plainName "java/util/Arrays" = true from by first | (simp [plainName, overriddenIn]; done) | decide +kernel)
theorem cCrE (l : Launch) (Z : State) (a0 : Array Value) (hw : ∀ d ∈ tables_1, d.before a0 Z = true) (n0 : Nat) (hEW : EW Z a0 consts_1) (b : Addr) (vs : List Value) (n : Nat) (h0 : Heap) (σ : Addr → Prop) (A : Road.Ary Z h0 b .byte vs) (EB : Exa Z h0 b "[B") (hn : vs.length = n) (hcap : n ≤ 48) :
    Road.Con l Z consts_1 n0 true bCrE [] σ #[(.ref b), (.int (0 : Int32)), (.int (Nat.toInt32 n))] h0 (fun v h2 s2 => ∃ d, v = some (.ref d) ∧ h0.size ≤ d ∧ Keep h0 h2 [] ∧ s2 d ∧ Road.Ary Z h2 d .byte vs) := by
  refine Road.Con.of bCrE_pn hEW #[.val (.ref b), .val (.int (0 : Int32)), .val (.int (Nat.toInt32 n))] (fun m => Road.ent (Road.laid1 rfl (Road.laid1 rfl (Road.laid1 rfl Road.laid0))) (k := 0) rfl rfl) ?_
  intro D hD
  subst hn
  refine Road.iloadN 0 bCrR_d0 rfl ?_
  refine Road.if_ne 1 10 bCrR_d1 rfl (fun q => absurd q (by decide)) (fun hc1 => ?_)
  refine Road.iloadN 4 bCrR_d4 rfl ?_
  refine Road.aloadN 5 bCrR_d5 rfl ?_
  refine Road.alen 6 (Nat.toInt32 vs.length) bCrR_d6 A (n := vs.length) rfl rfl ?_
  refine Road.icmp_eq 7 17 bCrR_d7 rfl (fun hc7 => ?_) (fun q => absurd q (by simp))
  refine Road.aloadN 17 bCrR_d17 rfl ?_
  refine Road.cloneArr 18 0 48 bCrR_d18 (wI hw 337 rfl) (wI hw 338 rfl) (wI hw 342 rfl) (wI hw 340 rfl) (wI hw 341 rfl) (wI hw 343 rfl) A EB rfl rfl (by decide) (by decide) hcap (ce' := 1) (sl' := 48) rfl rfl (by decide) (by decide) ?_
  intro d h2 σ2 gd Kd ltd md sd Ad Ed
  refine Road.castYes 21 bCrR_d21 (wI hw 344 rfl) (Ins.self Ed) ?_
  exact Road.aret 24 bCrR_d24 (t := (.array .byte)) rfl rfl rfl (by decide) (by decide) (fun σ' m => ⟨d, rfl, Nat.le_of_eq gd.symm, Kd, m _ sd, Ad⟩)
def bEtV : Road.Bdy := (⟨"java/lang/String", "<init>", "(Ljava/lang/AbstractStringBuilder;Ljava/lang/Void;)V"⟩, jdk_42_method_150_code, 5, none, { frames := 2, cells := 1, slots := 48, locals := 29 })
theorem bEtV_pd : parseMethodDescriptor "(Ljava/lang/AbstractStringBuilder;Ljava/lang/Void;)V" = some ⟨[(.object "java/lang/AbstractStringBuilder"), (.object "java/lang/Void")], none⟩ := by decide +kernel
theorem bEtV_pn : plainFor bEtV.y = true := plainFor_of_name (show plainName "java/lang/String" = true from by first | (simp [plainName, overriddenIn]; done) | decide +kernel)
theorem cEtV (l : Launch) (Z : State) (a0 : Array Value) (hw : ∀ d ∈ tables_1, d.before a0 Z = true) (n0 : Nat) (hEW : EW Z a0 consts_1) (a : Addr) (q b : Addr) (cs : List Int32) (N : Nat) (h0 : Heap) (σ : Addr → Prop) (E : Exa Z h0 a Road.SN) (Gc : Fld Z h0 a Road.SN "coder" "B" (.int 0)) (Gv : Fld Z h0 a Road.SN "value" "[B" .null) (S : Road.Sb Z h0 q b cs N) (EB : Exa Z h0 b "[B") (hn : cs.length = N) (hcap : cs.length ≤ 48) (naq : a ≠ q) (sa : σ a) (cp : Int32) (Hc : Sta Z Z.heap Road.SN "COMPACT_STRINGS" "Z" (.int cp)) (hcp : ¬ cp = 0) :
    Road.Con l Z consts_1 n0 true bEtV [] σ #[(.ref a), (.ref q), .null] h0 (fun v h2 s2 => v = none ∧ Keep h0 h2 [a] ∧ ∃ d, Road.Str Z h2 a d cs ∧ h0.size ≤ d) := by
  have hN := S.small
  obtain ⟨F, Fc, Fv, Fn, ⟨r, Ab, hr⟩, hlt⟩ := S
  have hr0 : r = [] := List.eq_nil_of_length_eq_zero (by omega)
  subst hr0
  rw [List.append_nil] at Ab
  refine Road.Con.of bEtV_pn hEW #[.val (.ref a), .val (.ref q), .val .null, .unset, .unset] (fun m => Road.ent (Road.laid1 rfl (Road.laid1 rfl (Road.laid1 rfl Road.laid0))) (k := 2) rfl rfl) ?_
  intro D hD
  refine Road.aloadN 0 bStV_d0 rfl ?_
  refine Road.initObj 1 bStV_d1 (wI hw 25 rfl) (wI hw 26 rfl) (wI hw 27 rfl) 0 rfl rfl (by decide) (by decide) ?_
  refine Road.aloadN 4 bStV_d4 rfl ?_
  refine Road.callV (B' := bGtV) (a := q) 5 (argsL := []) (rest := []) "java/lang/StringBuilder" 0 bStV_d5 (wI hw 207 rfl) (wI hw 208 rfl) (fun vm hz => Road.notFace_sib (args := #[]) (mv (s := D.s.setVm vm) hz (wI hw 112 rfl)) rfl) (wI hw 210 rfl) (wI hw 209 rfl) (wI hw 79 rfl) (wI hw 211 rfl) (by decide) F (cGtV l Z a0 hw n0 hEW q b h0 σ Fv) (lenOf bGtV_pd rfl) rfl rfl rfl (by decide) (by decide) (ce' := 0) (sl' := 0) rfl rfl (by decide) (by decide) ?_
  rintro _ h_1 σ_2 m_3 ⟨rfl, rfl⟩
  refine Road.Go.weaken (σ' := σ) m_3 (Nat.le_refl _) (Nat.le_refl _) ?_
  refine Road.astoreN 8 #[.val (.ref a), .val (.ref q), .val .null, .val (.ref b), .unset] bStV_d8 rfl ?_
  refine Road.aloadN 9 bStV_d9 rfl ?_
  refine Road.callV (B' := bSbN) (a := q) 10 (argsL := []) (rest := []) "java/lang/StringBuilder" 0 bStV_d10 (wI hw 212 rfl) (wI hw 213 rfl) (fun vm hz => Road.notFace_sib (args := #[]) (mv (s := D.s.setVm vm) hz (wI hw 112 rfl)) rfl) (wI hw 215 rfl) (wI hw 216 rfl) (wI hw 71 rfl) (wI hw 217 rfl) (by decide) F (cSbN l Z a0 hw n0 hEW q (Nat.toInt32 cs.length) h0 σ F Fn) (lenOf bSbN_pd rfl) rfl rfl rfl (by decide) (by decide) (ce' := 0) (sl' := 0) rfl rfl (by decide) (by decide) ?_
  rintro _ h_5 σ_6 m_7 ⟨rfl, rfl⟩
  refine Road.Go.weaken (σ' := σ) m_7 (Nat.le_refl _) (Nat.le_refl _) ?_
  refine Road.istore 13 #[.val (.ref a), .val (.ref q), .val .null, .val (.ref b), .val (.int (Nat.toInt32 cs.length))] bStV_d13 rfl ?_
  refine Road.aloadN 15 bStV_d15 rfl ?_
  refine Road.callV (B' := bAbL) (a := q) 16 (argsL := []) (rest := []) "java/lang/StringBuilder" 0 bStV_d16 (wI hw 220 rfl) (wI hw 187 rfl) (fun vm hz => Road.notFace_sib (args := #[]) (mv (s := D.s.setVm vm) hz (wI hw 112 rfl)) rfl) (wI hw 189 rfl) (wI hw 188 rfl) (wI hw 79 rfl) (wI hw 190 rfl) (by decide) F (cAbL l Z a0 hw n0 hEW q h0 σ Fc cp Hc hcp) (lenOf bAbL_pd rfl) rfl rfl rfl (by decide) (by decide) (ce' := 0) (sl' := 0) rfl rfl (by decide) (by decide) ?_
  rintro _ h_9 σ_10 m_11 ⟨rfl, rfl⟩
  refine Road.Go.weaken (σ' := σ) m_11 (Nat.le_refl _) (Nat.le_refl _) ?_
  refine Road.if_eq 19 41 bStV_d19 rfl (fun q => absurd q (by decide)) (fun hc19 => ?_)
  refine Road.aloadN 22 bStV_d22 rfl ?_
  refine Road.iconst 23 (0 : Int32) bStV_d23 rfl ?_
  have nab : a ≠ b := by obtain ⟨c, Ar, -⟩ := Ab; exact ne_arr E (wI hw 3 rfl) Ar
  refine Road.putfield 24 bStV_d24 (wI hw 29 rfl) Via.refl Gc E (Or.inr ⟨(wI hw 6 rfl), rfl, rfl⟩) (wI hw 3 rfl) (ty := .byte) (by decide) rfl rfl sa ?_
  intro h_15 W_13 K_14
  replace Gc := Gc.same W_13
  replace Gv := Gv.other W_13 (Or.inr (slot_ne (Or.inr (wI hw 5 rfl)) (Or.inr (wI hw 6 rfl)) (by decide) (t := (.array .byte)) (by decide) (t' := .byte) (by decide)))
  replace E := E.keep K_14
  replace EB := EB.keep K_14
  replace Ab := Ab.keep K_14 (ninS (Ne.symm nab) nin0)
  refine Road.aloadN 27 bStV_d27 rfl ?_
  refine Road.aloadN 28 bStV_d28 rfl ?_
  refine Road.iconst 29 (0 : Int32) bStV_d29 rfl ?_
  refine Road.iload 30 bStV_d30 rfl ?_
  refine Road.callS (B' := bCrE) 32 (argsL := [(.ref b), (.int (0 : Int32)), (.int (Nat.toInt32 cs.length))]) (rest := [(.ref a)]) 1 bStV_d32 (wI hw 221 rfl) (wI hw 222 rfl) (wI hw 152 rfl) (wI hw 223 rfl) (by decide) (cCrE l Z a0 hw n0 hEW b _ cs.length h_15 σ Ab EB (List.length_map _) hcap) (lenOf bCrE_pd rfl) rfl rfl rfl (by decide) (by decide) (ce' := 1) (sl' := 48) rfl rfl (by decide) (by decide) ?_
  rintro _ h_16 σ_17 m_18 ⟨d, rfl, gd, K_19, sd, Ad⟩
  have ne_a_d : a ≠ d := Nat.ne_of_lt (Nat.lt_of_lt_of_le E.lt gd)
  have ne_b_d : b ≠ d := Nat.ne_of_lt (Nat.lt_of_lt_of_le EB.lt gd)
  replace E := E.keep K_19
  replace Gc := Gc.keep K_19 nin0
  replace Gv := Gv.keep K_19 nin0
  replace EB := EB.keep K_19
  replace Ab := Ab.keep K_19 nin0
  replace sa := m_18 _ sa
  refine Road.putfield 35 bStV_d35 (wI hw 28 rfl) Via.refl Gv E (Or.inr ⟨(wI hw 5 rfl), rfl, rfl⟩) (wI hw 3 rfl) (ty := (.array .byte)) (by decide) rfl rfl sa ?_
  intro h_23 W_21 K_22
  replace Gv := Gv.same W_21
  replace Gc := Gc.other W_21 (Or.inr (slot_ne (Or.inr (wI hw 6 rfl)) (Or.inr (wI hw 5 rfl)) (by decide) (t := .byte) (by decide) (t' := (.array .byte)) (by decide)))
  replace E := E.keep K_22
  replace EB := EB.keep K_22
  replace Ab := Ab.keep K_22 (ninS (Ne.symm nab) nin0)
  replace Ad := Ad.keep K_22 (ninS (Ne.symm ne_a_d) nin0)
  refine Road.goto 38 97 bStV_d38 rfl ?_
  exact Road.ret 97 bStV_d97 rfl (by decide) (by decide) (fun σ' m => ⟨rfl, (K_14.trans (Road.keep_more (ws := [a]) K_19) (by simp)).trans K_22 (by simp), d, ⟨E, Gc, Gv, Ad, hlt⟩, Nat.le_trans K_14.1 gd⟩)
def bEtS : Road.Bdy := (⟨"java/lang/String", "<init>", "(Ljava/lang/StringBuilder;)V"⟩, jdk_42_method_53_code, 2, none, { frames := 3, cells := 1, slots := 48, locals := 45 })
theorem bEtS_pd : parseMethodDescriptor "(Ljava/lang/StringBuilder;)V" = some ⟨[(.object "java/lang/StringBuilder")], none⟩ := by decide +kernel
theorem bEtS_pn : plainFor bEtS.y = true := plainFor_of_name (show plainName "java/lang/String" = true from by first | (simp [plainName, overriddenIn]; done) | decide +kernel)
theorem cEtS (l : Launch) (Z : State) (a0 : Array Value) (hw : ∀ d ∈ tables_1, d.before a0 Z = true) (n0 : Nat) (hEW : EW Z a0 consts_1) (a : Addr) (q b : Addr) (cs : List Int32) (N : Nat) (h0 : Heap) (σ : Addr → Prop) (E : Exa Z h0 a Road.SN) (Gc : Fld Z h0 a Road.SN "coder" "B" (.int 0)) (Gv : Fld Z h0 a Road.SN "value" "[B" .null) (S : Road.Sb Z h0 q b cs N) (EB : Exa Z h0 b "[B") (hn : cs.length = N) (hcap : cs.length ≤ 48) (naq : a ≠ q) (sa : σ a) (cp : Int32) (Hc : Sta Z Z.heap Road.SN "COMPACT_STRINGS" "Z" (.int cp)) (hcp : ¬ cp = 0) :
    Road.Con l Z consts_1 n0 true bEtS [] σ #[(.ref a), (.ref q)] h0 (fun v h2 s2 => v = none ∧ Keep h0 h2 [a] ∧ ∃ d, Road.Str Z h2 a d cs ∧ h0.size ≤ d) := by
  refine Road.Con.of bEtS_pn hEW #[.val (.ref a), .val (.ref q)] (fun m => Road.ent (Road.laid1 rfl (Road.laid1 rfl Road.laid0)) (k := 0) rfl rfl) ?_
  intro D hD
  refine Road.aloadN 0 bStS_d0 rfl ?_
  refine Road.aloadN 1 bStS_d1 rfl ?_
  refine Road.aconstNull 2 bStS_d2 ?_
  refine Road.callI (B' := bEtV) (a := a) 3 (argsL := [(.ref q), .null]) (rest := []) 0 bStS_d3 (wI hw 204 rfl) (wI hw 205 rfl) (wI hw 2 rfl) (wI hw 206 rfl) rfl rfl (by decide) (cEtV l Z a0 hw n0 hEW a q b cs N h0 σ E Gc Gv S EB hn hcap naq sa cp Hc hcp) (lenOf bEtV_pd rfl) rfl rfl rfl (by decide) (by decide) (ce' := 1) (sl' := 48) rfl rfl (by decide) (by decide) ?_
  rintro _ h_1 σ_2 m_3 ⟨rfl, K_4, d, T, gd⟩
  exact Road.ret 6 bStS_d6 rfl (by decide) (by decide) (fun σ' m => ⟨rfl, K_4, d, T, gd⟩)
def bEoS : Road.Bdy := (⟨"java/lang/StringBuilder", "toString", "()Ljava/lang/String;"⟩, jdk_67_method_42_code, 1, (some (.object "java/lang/String")), { frames := 4, cells := 2, slots := 52, locals := 59 })
theorem bEoS_pd : parseMethodDescriptor "()Ljava/lang/String;" = some ⟨[], (some (.object "java/lang/String"))⟩ := by decide +kernel
theorem bEoS_pn : plainFor bEoS.y = true := plainFor_of_name (show plainName "java/lang/StringBuilder" = true from by first | (simp [plainName, overriddenIn]; done) | decide +kernel)
theorem cEoS (l : Launch) (Z : State) (a0 : Array Value) (hw : ∀ d ∈ tables_1, d.before a0 Z = true) (n0 : Nat) (hEW : EW Z a0 consts_1) (q b : Addr) (cs : List Int32) (N : Nat) (h0 : Heap) (σ : Addr → Prop) (S : Road.Sb Z h0 q b cs N) (EB : Exa Z h0 b "[B") (hn : cs.length = N) (hcap : cs.length ≤ 48) (cp : Int32) (Hc : Sta Z Z.heap Road.SN "COMPACT_STRINGS" "Z" (.int cp)) (hcp : ¬ cp = 0) :
    Road.Con l Z consts_1 n0 true bEoS [] σ #[(.ref q)] h0 (fun v h2 s2 => ∃ a d, v = some (.ref a) ∧ h0.size ≤ a ∧ h0.size ≤ d ∧ Keep h0 h2 [] ∧ Road.Str Z h2 a d cs) := by
  refine Road.Con.of bEoS_pn hEW #[.val (.ref q)] (fun m => Road.ent (Road.laid1 rfl Road.laid0) (k := 0) rfl rfl) ?_
  intro D hD
  refine Road.new 0 "java/lang/String" bToS_d0 (wI hw 200 rfl) (wI hw 3 rfl) (wI hw 2 rfl) (ce' := 1) (sl' := 4) rfl rfl (by decide) (by decide) ?_
  intro a h_1 σ_2 g_3 K_4 lt_5 m_6 s_7 E D_8 M_9
  have ne_q_a : q ≠ a := Nat.ne_of_lt (Nat.lt_of_lt_of_le S.lt (Nat.le_of_eq g_3.symm))
  have ne_b_a : b ≠ a := Nat.ne_of_lt (Nat.lt_of_lt_of_le S.ltb (Nat.le_of_eq g_3.symm))
  replace S := S.keep K_4 nin0 nin0
  replace EB := EB.keep K_4
  have Gc := D_8 (Or.inr (wI hw 6 rfl)) (ty := .byte) (by decide)
  have Gv := D_8 (Or.inr (wI hw 5 rfl)) (ty := (.array .byte)) (by decide)
  refine Road.dup 3 bToS_d3 ?_
  refine Road.aloadN 4 bToS_d4 rfl ?_
  refine Road.callI (B' := bEtS) (a := a) 5 (argsL := [(.ref q)]) (rest := [(.ref a)]) 1 bToS_d5 (wI hw 201 rfl) (wI hw 202 rfl) (wI hw 2 rfl) (wI hw 203 rfl) rfl rfl (by decide) (cEtS l Z a0 hw n0 hEW a q b cs N h_1 σ_2 E Gc Gv S EB hn hcap (Ne.symm ne_q_a) s_7 cp Hc hcp) (lenOf bEtS_pd rfl) rfl rfl rfl (by decide) (by decide) (ce' := 2) (sl' := 52) rfl rfl (by decide) (by decide) ?_
  rintro _ h_10 σ_11 m_12 ⟨rfl, K_13, d, T, gd⟩
  replace s_7 := m_12 _ s_7
  exact Road.aret 8 bToS_d8 (t := (.object "java/lang/String")) rfl rfl rfl (by decide) (by decide) (fun σ' m => ⟨a, d, rfl, Nat.le_of_eq g_3.symm, Nat.le_trans K_4.1 gd, K_4.trans K_13 (by intro x hx; cases List.mem_singleton.mp hx; exact Or.inr (Nat.le_of_eq g_3.symm)), T⟩)
def bXoS : Road.Bdy := (⟨"java/lang/StringBuilder", "toString", "()Ljava/lang/String;"⟩, jdk_67_method_42_code, 1, (some (.object "java/lang/String")), { frames := 5, cells := 2, slots := 52, locals := 83 })
theorem bXoS_pd : parseMethodDescriptor "()Ljava/lang/String;" = some ⟨[], (some (.object "java/lang/String"))⟩ := by decide +kernel
theorem bXoS_pn : plainFor bXoS.y = true := plainFor_of_name (show plainName "java/lang/StringBuilder" = true from by first | (simp [plainName, overriddenIn]; done) | decide +kernel)
theorem cXoS (l : Launch) (Z : State) (a0 : Array Value) (hw : ∀ d ∈ tables_1, d.before a0 Z = true) (n0 : Nat) (hEW : EW Z a0 consts_1) (q b : Addr) (cs : List Int32) (N : Nat) (h0 : Heap) (σ : Addr → Prop) (S : Road.Sb Z h0 q b cs N) (EB : Exa Z h0 b "[B") (hcap : cs.length ≤ 48) (cp : Int32) (Hc : Sta Z Z.heap Road.SN "COMPACT_STRINGS" "Z" (.int cp)) (hcp : ¬ cp = 0) :
    Road.Con l Z consts_1 n0 true bXoS [] σ #[(.ref q)] h0 (fun v h2 s2 => ∃ a d, v = some (.ref a) ∧ h0.size ≤ a ∧ h0.size ≤ d ∧ Keep h0 h2 [] ∧ Road.Str Z h2 a d cs) := by
  have hle := S.le
  refine Road.Con.of bXoS_pn hEW #[.val (.ref q)] (fun m => Road.ent (Road.laid1 rfl Road.laid0) (k := 0) rfl rfl) ?_
  intro D hD
  refine Road.new 0 "java/lang/String" bToS_d0 (wI hw 200 rfl) (wI hw 3 rfl) (wI hw 2 rfl) (ce' := 1) (sl' := 4) rfl rfl (by decide) (by decide) ?_
  intro a h_1 σ_2 g_3 K_4 lt_5 m_6 s_7 E D_8 M_9
  have ne_q_a : q ≠ a := Nat.ne_of_lt (Nat.lt_of_lt_of_le S.lt (Nat.le_of_eq g_3.symm))
  have ne_b_a : b ≠ a := Nat.ne_of_lt (Nat.lt_of_lt_of_le S.ltb (Nat.le_of_eq g_3.symm))
  replace S := S.keep K_4 nin0 nin0
  replace EB := EB.keep K_4
  have Gc := D_8 (Or.inr (wI hw 6 rfl)) (ty := .byte) (by decide)
  have Gv := D_8 (Or.inr (wI hw 5 rfl)) (ty := (.array .byte)) (by decide)
  refine Road.dup 3 bToS_d3 ?_
  refine Road.aloadN 4 bToS_d4 rfl ?_
  by_cases hm : cs.length = N
  · skip
    refine Road.callI (B' := bEtS) (a := a) 5 (argsL := [(.ref q)]) (rest := [(.ref a)]) 1 bToS_d5 (wI hw 201 rfl) (wI hw 202 rfl) (wI hw 2 rfl) (wI hw 203 rfl) rfl rfl (by decide) (cEtS l Z a0 hw n0 hEW a q b cs N h_1 σ_2 E Gc Gv S EB hm hcap (Ne.symm ne_q_a) s_7 cp Hc hcp) (lenOf bEtS_pd rfl) rfl rfl rfl (by decide) (by decide) (ce' := 2) (sl' := 52) rfl rfl (by decide) (by decide) ?_
    rintro _ h_10 σ_11 m_12 ⟨rfl, K_13, d, T, gd⟩
    replace s_7 := m_12 _ s_7
    exact Road.aret 8 bToS_d8 (t := (.object "java/lang/String")) rfl rfl rfl (by decide) (by decide) (fun σ' m => ⟨a, d, rfl, Nat.le_of_eq g_3.symm, Nat.le_trans K_4.1 gd, K_4.trans K_13 (by intro x hx; cases List.mem_singleton.mp hx; exact Or.inr (Nat.le_of_eq g_3.symm)), T⟩)
  · skip
    refine Road.callI (B' := bStS) (a := a) 5 (argsL := [(.ref q)]) (rest := [(.ref a)]) 1 bToS_d5 (wI hw 201 rfl) (wI hw 202 rfl) (wI hw 2 rfl) (wI hw 203 rfl) rfl rfl (by decide) (cStS l Z a0 hw n0 hEW a q b cs N h_1 σ_2 E Gc Gv S (by omega) hcap (Ne.symm ne_q_a) s_7 cp Hc hcp) (lenOf bStS_pd rfl) rfl rfl rfl (by decide) (by decide) (ce' := 2) (sl' := 52) rfl rfl (by decide) (by decide) ?_
    rintro _ h_15 σ_16 m_17 ⟨rfl, K_18, d, T, gd⟩
    replace s_7 := m_17 _ s_7
    exact Road.aret 8 bToS_d8 (t := (.object "java/lang/String")) rfl rfl rfl (by decide) (by decide) (fun σ' m => ⟨a, d, rfl, Nat.le_of_eq g_3.symm, Nat.le_trans K_4.1 gd, K_4.trans K_18 (by intro x hx; cases List.mem_singleton.mp hx; exact Or.inr (Nat.le_of_eq g_3.symm)), T⟩)
def bOri : Road.Bdy := (⟨"com/example/gridtally/gridtally/engine/Origin", "<init>", "(Ljava/lang/String;I)V"⟩, prog_5_method_1_code, 3, none, { frames := 2, cells := 0, slots := 0, locals := 25 })
theorem bOri_d0 : decode bOri.bs 0 = .ok (.aload_n 0, 1) := by decide +kernel
theorem bOri_d1 : decode bOri.bs 1 = .ok (.invokespecial 1, 3) := by decide +kernel
theorem bOri_d4 : decode bOri.bs 4 = .ok (.aload_n 0, 1) := by decide +kernel
theorem bOri_d5 : decode bOri.bs 5 = .ok (.aload_n 1, 1) := by decide +kernel
theorem bOri_d6 : decode bOri.bs 6 = .ok (.putfield 7, 3) := by decide +kernel
theorem bOri_d9 : decode bOri.bs 9 = .ok (.aload_n 0, 1) := by decide +kernel
theorem bOri_d10 : decode bOri.bs 10 = .ok (.iload_n 2, 1) := by decide +kernel
theorem bOri_d11 : decode bOri.bs 11 = .ok (.putfield 13, 3) := by decide +kernel
theorem bOri_d14 : decode bOri.bs 14 = .ok (.return_, 1) := by decide +kernel
theorem bOri_pd : parseMethodDescriptor "(Ljava/lang/String;I)V" = some ⟨[(.object "java/lang/String"), .int], none⟩ := by decide +kernel
theorem bOri_pn : plainFor bOri.y = true := plainFor_of_name (show plainName "com/example/gridtally/gridtally/engine/Origin" = true from by first | (simp [plainName, overriddenIn]; done) | decide +kernel)
theorem cOri (l : Launch) (Z : State) (a0 : Array Value) (hw : ∀ d ∈ tables_1, d.before a0 Z = true) (n0 : Nat) (hEW : EW Z a0 consts_1) (a : Addr) (q0 : Value) (hq0 : q0.isRef = true) (q1 : Int32) (h0 : Heap) (σ : Addr → Prop) (E : Exa Z h0 a "com/example/gridtally/gridtally/engine/Origin") (F0 : Fld Z h0 a "com/example/gridtally/gridtally/engine/Origin" "file" "Ljava/lang/String;" .null) (F1 : Fld Z h0 a "com/example/gridtally/gridtally/engine/Origin" "line" "I" (.int 0)) (sa : σ a) :
    Road.Con l Z consts_1 n0 true bOri [] σ #[(.ref a), q0, (.int q1)] h0 (fun v h2 s2 => v = none ∧ Keep h0 h2 [a] ∧ Fld Z h2 a "com/example/gridtally/gridtally/engine/Origin" "file" "Ljava/lang/String;" q0 ∧ Fld Z h2 a "com/example/gridtally/gridtally/engine/Origin" "line" "I" (.int q1)) := by
  refine Road.Con.of bOri_pn hEW #[.val (.ref a), .val q0, .val (.int q1)] (fun m => Road.ent (Road.laid1 rfl (Road.laid1 (XT.cat1 hq0) (Road.laid1 rfl Road.laid0))) (k := 0) rfl rfl) ?_
  intro D hD
  refine Road.aloadN 0 bOri_d0 rfl ?_
  refine Road.callI (B' := bRec) (a := a) 1 (argsL := []) (rest := []) 0 bOri_d1 (wI hw 54 rfl) (wI hw 55 rfl) (wI hw 57 rfl) (wI hw 58 rfl) rfl rfl (by decide) (cRec l Z a0 hw n0 hEW a h0 σ) (lenOf bRec_pd rfl) rfl rfl rfl (by decide) (by decide) (ce' := 0) (sl' := 0) rfl rfl (by decide) (by decide) ?_
  rintro _ h_1 σ_2 m_3 ⟨rfl, rfl⟩
  refine Road.Go.weaken (σ' := σ) m_3 (Nat.le_refl _) (Nat.le_refl _) ?_
  refine Road.aloadN 4 bOri_d4 rfl ?_
  refine Road.aloadN 5 bOri_d5 rfl (hv := hq0) ?_
  refine Road.putfield 6 bOri_d6 (wI hw 60 rfl) Via.refl F0 E (Or.inr ⟨(wI hw 61 rfl), rfl, rfl⟩) (wI hw 49 rfl) (ty := (.object "java/lang/String")) (by decide) (Road.narRef rfl hq0) (Road.fitRef rfl hq0) sa ?_
  intro h_7 W_5 K_6
  replace F0 := F0.same W_5
  replace F1 := F1.other W_5 (Or.inr (slot_ne (Or.inr (wI hw 63 rfl)) (Or.inr (wI hw 61 rfl)) (by decide) (t := .int) (by decide) (t' := (.object "java/lang/String")) (by decide)))
  replace E := E.keep K_6
  refine Road.aloadN 9 bOri_d9 rfl ?_
  refine Road.iloadN 10 bOri_d10 rfl ?_
  refine Road.putfield 11 bOri_d11 (wI hw 62 rfl) Via.refl F1 E (Or.inr ⟨(wI hw 63 rfl), rfl, rfl⟩) (wI hw 49 rfl) (ty := .int) (by decide) rfl rfl sa ?_
  intro h_10 W_8 K_9
  replace F1 := F1.same W_8
  replace F0 := F0.other W_8 (Or.inr (slot_ne (Or.inr (wI hw 61 rfl)) (Or.inr (wI hw 63 rfl)) (by decide) (t := (.object "java/lang/String")) (by decide) (t' := .int) (by decide)))
  replace E := E.keep K_9
  exact Road.ret 14 bOri_d14 rfl (by decide) (by decide) (fun σ' m => ⟨rfl, (K_6.trans K_9 (by simp)), F0, F1⟩)
theorem thrw (Z : State) (a0 : Array Value) (hw : ∀ d ∈ tables_1, d.before a0 Z = true) : ∀ d ∈ Road.thrW "com/example/gridtally/gridtally/engine/RefusedInputException", d.before a0 Z = true := fun d hd => hw d ((by decide +kernel : ∀ d ∈ Road.thrW "com/example/gridtally/gridtally/engine/RefusedInputException", d ∈ tables_1) d hd)
def bThr : Road.Bdy := (⟨"java/lang/Throwable", "<init>", "(Ljava/lang/String;)V"⟩, jdk_78_method_2_code, 2, none, { frames := 3, cells := 1, slots := 2752, locals := 42 })
theorem bThr_d0 : decode bThr.bs 0 = .ok (.aload_n 0, 1) := by decide +kernel
theorem bThr_d1 : decode bThr.bs 1 = .ok (.invokespecial 1, 3) := by decide +kernel
theorem bThr_d4 : decode bThr.bs 4 = .ok (.aload_n 0, 1) := by decide +kernel
theorem bThr_d5 : decode bThr.bs 5 = .ok (.aload_n 0, 1) := by decide +kernel
theorem bThr_d6 : decode bThr.bs 6 = .ok (.putfield 7, 3) := by decide +kernel
theorem bThr_d9 : decode bThr.bs 9 = .ok (.aload_n 0, 1) := by decide +kernel
theorem bThr_d10 : decode bThr.bs 10 = .ok (.getstatic 13, 3) := by decide +kernel
theorem bThr_d13 : decode bThr.bs 13 = .ok (.putfield 17, 3) := by decide +kernel
theorem bThr_d16 : decode bThr.bs 16 = .ok (.aload_n 0, 1) := by decide +kernel
theorem bThr_d17 : decode bThr.bs 17 = .ok (.getstatic 20, 3) := by decide +kernel
theorem bThr_d20 : decode bThr.bs 20 = .ok (.putfield 24, 3) := by decide +kernel
theorem bThr_d23 : decode bThr.bs 23 = .ok (.aload_n 0, 1) := by decide +kernel
theorem bThr_d24 : decode bThr.bs 24 = .ok (.invokevirtual 27, 3) := by decide +kernel
theorem bThr_d27 : decode bThr.bs 27 = .ok (.pop, 1) := by decide +kernel
theorem bThr_d28 : decode bThr.bs 28 = .ok (.aload_n 0, 1) := by decide +kernel
theorem bThr_d29 : decode bThr.bs 29 = .ok (.aload_n 1, 1) := by decide +kernel
theorem bThr_d30 : decode bThr.bs 30 = .ok (.putfield 31, 3) := by decide +kernel
theorem bThr_d33 : decode bThr.bs 33 = .ok (.return_, 1) := by decide +kernel
theorem bThr_pd : parseMethodDescriptor "(Ljava/lang/String;)V" = some ⟨[(.object "java/lang/String")], none⟩ := by decide +kernel
theorem bThr_pn : plainFor bThr.y = true := plainFor_of_name (show plainName "java/lang/Throwable" = true from by first | (simp [plainName, overriddenIn]; done) | decide +kernel)
theorem cThr (l : Launch) (Z : State) (a0 : Array Value) (hw : ∀ d ∈ tables_1, d.before a0 Z = true) (n0 : Nat) (hEW : EW Z a0 consts_1) (a : Addr) (q : Value) (hq : q.isRef = true) (h0 : Heap) (σ : Addr → Prop) (E : Exa Z h0 a "com/example/gridtally/gridtally/engine/RefusedInputException") (N : Unt h0 a) (Fcz : Fld Z h0 a "java/lang/Throwable" "cause" "Ljava/lang/Throwable;" .null) (Fst : Fld Z h0 a "java/lang/Throwable" "stackTrace" "[Ljava/lang/StackTraceElement;" .null) (Fsp : Fld Z h0 a "java/lang/Throwable" "suppressedExceptions" "Ljava/util/List;" .null) (Fb : Fld Z h0 a "java/lang/Throwable" "backtrace" "Ljava/lang/Object;" .null) (Fm : Fld Z h0 a "java/lang/Throwable" "detailMessage" "Ljava/lang/String;" .null) (sa : σ a) (hl : l.stackTraces = true) (us : Addr) (Su : Sta Z Z.heap "java/lang/Throwable" "UNASSIGNED_STACK" "[Ljava/lang/StackTraceElement;" (.ref us)) (sp : Value) (hsp : sp.isRef = true) (Sp : Sta Z Z.heap "java/lang/Throwable" "SUPPRESSED_SENTINEL" "Ljava/util/List;" sp) :
    Road.Con l Z consts_1 n0 true bThr [] σ #[(.ref a), q] h0 (fun v h2 _ => v = none ∧ Keep h0 h2 [a] ∧ Road.KeepF Z a0 "com/example/gridtally/gridtally/engine/RefusedInputException" a h0 h2 ∧ Fld Z h2 a "java/lang/Throwable" "detailMessage" "Ljava/lang/String;" q) := by
  refine Road.Con.of bThr_pn hEW #[.val (.ref a), .val q] (fun m => Road.ent (Road.laid1 rfl (Road.laid1 (XT.cat1 hq) Road.laid0)) (k := 0) rfl rfl) ?_
  intro D hD
  refine Road.Go.old ?_
  intro hO
  have hOD : Old Z n0 D.s.heap := hD ▸ hO
  have KF : Road.KeepF Z a0 "com/example/gridtally/gridtally/engine/RefusedInputException" a h0 h0 := Road.KeepF.refl
  refine Road.aloadN 0 bThr_d0 rfl ?_
  refine Road.initObj 1 bThr_d1 (wI hw 260 rfl) (wI hw 26 rfl) (wI hw 27 rfl) 0 rfl rfl (by decide) (by decide) ?_
  refine Road.aloadN 4 bThr_d4 rfl ?_
  refine Road.aloadN 5 bThr_d5 rfl ?_
  refine Road.putfield 6 bThr_d6 (wI hw 261 rfl) Via.refl Fcz E (Or.inl (wI hw 262 rfl)) (wI hw 237 rfl) (ty := (.object "java/lang/Throwable")) (by decide) rfl rfl sa ?_
  intro h_3 W_1 K_2
  replace Fcz := Fcz.same W_1
  replace Fst := Fst.other W_1 (Or.inr (slot_ne (Or.inl (wI hw 265 rfl)) (Or.inl (wI hw 262 rfl)) (by decide) (t := (.array (.object "java/lang/StackTraceElement"))) (by decide) (t' := (.object "java/lang/Throwable")) (by decide)))
  replace Fsp := Fsp.other W_1 (Or.inr (slot_ne (Or.inl (wI hw 268 rfl)) (Or.inl (wI hw 262 rfl)) (by decide) (t := (.object "java/util/List")) (by decide) (t' := (.object "java/lang/Throwable")) (by decide)))
  replace Fb := Fb.other W_1 (Or.inr (slot_ne (Or.inl (wI hw 293 rfl)) (Or.inl (wI hw 262 rfl)) (by decide) (t := (.object "java/lang/Object")) (by decide) (t' := (.object "java/lang/Throwable")) (by decide)))
  replace Fm := Fm.other W_1 (Or.inr (slot_ne (Or.inl (wI hw 292 rfl)) (Or.inl (wI hw 262 rfl)) (by decide) (t := (.object "java/lang/String")) (by decide) (t' := (.object "java/lang/Throwable")) (by decide)))
  replace E := E.keep K_2
  replace N := N.wr W_1
  replace KF := KF.wr W_1 (Or.inl (wI hw 262 rfl)) (by decide) (ty := (.object "java/lang/Throwable")) (by decide)
  refine Road.aloadN 9 bThr_d9 rfl ?_
  refine Road.getstatic 10 bThr_d10 (wI hw 263 rfl) Via.refl Su ?_
  refine Road.putfield 13 bThr_d13 (wI hw 264 rfl) Via.refl Fst E (Or.inl (wI hw 265 rfl)) (wI hw 237 rfl) (ty := (.array (.object "java/lang/StackTraceElement"))) (by decide) rfl rfl sa ?_
  intro h_6 W_4 K_5
  replace Fst := Fst.same W_4
  replace Fcz := Fcz.other W_4 (Or.inr (slot_ne (Or.inl (wI hw 262 rfl)) (Or.inl (wI hw 265 rfl)) (by decide) (t := (.object "java/lang/Throwable")) (by decide) (t' := (.array (.object "java/lang/StackTraceElement"))) (by decide)))
  replace Fsp := Fsp.other W_4 (Or.inr (slot_ne (Or.inl (wI hw 268 rfl)) (Or.inl (wI hw 265 rfl)) (by decide) (t := (.object "java/util/List")) (by decide) (t' := (.array (.object "java/lang/StackTraceElement"))) (by decide)))
  replace Fb := Fb.other W_4 (Or.inr (slot_ne (Or.inl (wI hw 293 rfl)) (Or.inl (wI hw 265 rfl)) (by decide) (t := (.object "java/lang/Object")) (by decide) (t' := (.array (.object "java/lang/StackTraceElement"))) (by decide)))
  replace Fm := Fm.other W_4 (Or.inr (slot_ne (Or.inl (wI hw 292 rfl)) (Or.inl (wI hw 265 rfl)) (by decide) (t := (.object "java/lang/String")) (by decide) (t' := (.array (.object "java/lang/StackTraceElement"))) (by decide)))
  replace E := E.keep K_5
  replace N := N.wr W_4
  replace KF := KF.wr W_4 (Or.inl (wI hw 265 rfl)) (by decide) (ty := (.array (.object "java/lang/StackTraceElement"))) (by decide)
  refine Road.aloadN 16 bThr_d16 rfl ?_
  refine Road.getstatic 17 bThr_d17 (wI hw 266 rfl) Via.refl Sp ?_
  refine Road.putfield 20 bThr_d20 (wI hw 267 rfl) Via.refl Fsp E (Or.inl (wI hw 268 rfl)) (wI hw 237 rfl) (ty := (.object "java/util/List")) (by decide) (narrow_refV _ ⟨sp, hsp⟩) (fits_refV_object _ ⟨sp, hsp⟩) sa ?_
  intro h_9 W_7 K_8
  replace Fsp := Fsp.same W_7
  replace Fcz := Fcz.other W_7 (Or.inr (slot_ne (Or.inl (wI hw 262 rfl)) (Or.inl (wI hw 268 rfl)) (by decide) (t := (.object "java/lang/Throwable")) (by decide) (t' := (.object "java/util/List")) (by decide)))
  replace Fst := Fst.other W_7 (Or.inr (slot_ne (Or.inl (wI hw 265 rfl)) (Or.inl (wI hw 268 rfl)) (by decide) (t := (.array (.object "java/lang/StackTraceElement"))) (by decide) (t' := (.object "java/util/List")) (by decide)))
  replace Fb := Fb.other W_7 (Or.inr (slot_ne (Or.inl (wI hw 293 rfl)) (Or.inl (wI hw 268 rfl)) (by decide) (t := (.object "java/lang/Object")) (by decide) (t' := (.object "java/util/List")) (by decide)))
  replace Fm := Fm.other W_7 (Or.inr (slot_ne (Or.inl (wI hw 292 rfl)) (Or.inl (wI hw 268 rfl)) (by decide) (t := (.object "java/lang/String")) (by decide) (t' := (.object "java/util/List")) (by decide)))
  replace E := E.keep K_8
  replace N := N.wr W_7
  replace KF := KF.wr W_7 (Or.inl (wI hw 268 rfl)) (by decide) (ty := (.object "java/util/List")) (by decide)
  refine Road.aloadN 23 bThr_d23 rfl ?_
  refine Road.fillIn 24 "com/example/gridtally/gridtally/engine/RefusedInputException" 0 bThr_d24 rfl (thrw Z a0 hw) (wI hw 237 rfl) hl rfl hOD E N Fb Fst Su sa rfl rfl (by decide) (by decide) (ce' := 1) (sl' := 2752) rfl rfl (by decide) (by decide) ?_
  intro h_10 K_11 G_12
  replace KF := KF.fill G_12
  replace Fm := G_12 Fm (Or.inl (wI hw 292 rfl)) (ty := (.object "java/lang/String")) (by decide) (by decide) (by decide) (by decide)
  replace E := E.keep K_11
  refine Road.pop 27 bThr_d27 ?_
  refine Road.aloadN 28 bThr_d28 rfl ?_
  refine Road.aloadN 29 bThr_d29 rfl (hv := hq) ?_
  refine Road.putfield 30 bThr_d30 (wI hw 296 rfl) Via.refl Fm E (Or.inl (wI hw 292 rfl)) (wI hw 237 rfl) (ty := (.object "java/lang/String")) (by decide) (narrow_refV _ ⟨q, hq⟩) (fits_refV_object _ ⟨q, hq⟩) sa ?_
  intro h_15 W_13 K_14
  replace Fm := Fm.same W_13
  replace E := E.keep K_14
  replace KF := KF.wr W_13 (Or.inl (wI hw 292 rfl)) (by decide) (ty := (.object "java/lang/String")) (by decide)
  exact Road.ret 33 bThr_d33 rfl (by decide) (by decide) (fun σ' m => ⟨rfl, ((((K_2.trans K_5 (by simp)).trans K_8 (by simp)).trans K_11 (by simp)).trans K_14 (by simp)), KF, Fm⟩)
def bExc : Road.Bdy := (⟨"java/lang/Exception", "<init>", "(Ljava/lang/String;)V"⟩, jdk_59_method_2_code, 2, none, { frames := 4, cells := 1, slots := 2752, locals := 55 })
theorem bExc_d0 : decode bExc.bs 0 = .ok (.aload_n 0, 1) := by decide +kernel
theorem bExc_d1 : decode bExc.bs 1 = .ok (.aload_n 1, 1) := by decide +kernel
theorem bExc_d2 : decode bExc.bs 2 = .ok (.invokespecial 7, 3) := by decide +kernel
theorem bExc_d5 : decode bExc.bs 5 = .ok (.return_, 1) := by decide +kernel
theorem bExc_pd : parseMethodDescriptor "(Ljava/lang/String;)V" = some ⟨[(.object "java/lang/String")], none⟩ := by decide +kernel
theorem bExc_pn : plainFor bExc.y = true := plainFor_of_name (show plainName "java/lang/Exception" = true from by first | (simp [plainName, overriddenIn]; done) | decide +kernel)
theorem cExc (l : Launch) (Z : State) (a0 : Array Value) (hw : ∀ d ∈ tables_1, d.before a0 Z = true) (n0 : Nat) (hEW : EW Z a0 consts_1) (a : Addr) (q : Value) (hq : q.isRef = true) (h0 : Heap) (σ : Addr → Prop) (E : Exa Z h0 a "com/example/gridtally/gridtally/engine/RefusedInputException") (N : Unt h0 a) (Fcz : Fld Z h0 a "java/lang/Throwable" "cause" "Ljava/lang/Throwable;" .null) (Fst : Fld Z h0 a "java/lang/Throwable" "stackTrace" "[Ljava/lang/StackTraceElement;" .null) (Fsp : Fld Z h0 a "java/lang/Throwable" "suppressedExceptions" "Ljava/util/List;" .null) (Fb : Fld Z h0 a "java/lang/Throwable" "backtrace" "Ljava/lang/Object;" .null) (Fm : Fld Z h0 a "java/lang/Throwable" "detailMessage" "Ljava/lang/String;" .null) (sa : σ a) (hl : l.stackTraces = true) (us : Addr) (Su : Sta Z Z.heap "java/lang/Throwable" "UNASSIGNED_STACK" "[Ljava/lang/StackTraceElement;" (.ref us)) (sp : Value) (hsp : sp.isRef = true) (Sp : Sta Z Z.heap "java/lang/Throwable" "SUPPRESSED_SENTINEL" "Ljava/util/List;" sp) :
    Road.Con l Z consts_1 n0 true bExc [] σ #[(.ref a), q] h0 (fun v h2 _ => v = none ∧ Keep h0 h2 [a] ∧ Road.KeepF Z a0 "com/example/gridtally/gridtally/engine/RefusedInputException" a h0 h2 ∧ Fld Z h2 a "java/lang/Throwable" "detailMessage" "Ljava/lang/String;" q) := by
  refine Road.Con.of bExc_pn hEW #[.val (.ref a), .val q] (fun m => Road.ent (Road.laid1 rfl (Road.laid1 (XT.cat1 hq) Road.laid0)) (k := 0) rfl rfl) ?_
  intro D hD
  refine Road.aloadN 0 bExc_d0 rfl ?_
  refine Road.aloadN 1 bExc_d1 rfl (hv := hq) ?_
  refine Road.callI (B' := bThr) (a := a) 2 (argsL := [q]) (rest := []) 0 bExc_d2 (wI hw 254 rfl) (wI hw 255 rfl) (wI hw 258 rfl) (wI hw 259 rfl) rfl rfl (by decide) (cThr l Z a0 hw n0 hEW a q hq h0 σ E N Fcz Fst Fsp Fb Fm sa hl us Su sp hsp Sp) (lenOf bThr_pd rfl) rfl rfl rfl (by decide) (by decide) (ce' := 1) (sl' := 2752) rfl rfl (by decide) (by decide) ?_
  rintro _ h_1 σ_2 m_3 ⟨rfl, K_4, KF, Fm⟩
  exact Road.ret 5 bExc_d5 rfl (by decide) (by decide) (fun σ' m => ⟨rfl, K_4, KF, Fm⟩)
def bRfI : Road.Bdy := (⟨"com/example/gridtally/gridtally/engine/RefusedInputException", "<init>", "(Ljava/lang/String;ILjava/lang/String;)V"⟩, prog_8_method_2_code, 4, none, { frames := 6, cells := 13, slots := 3036, locals := 96 })
theorem bRfI_d0 : decode bRfI.bs 0 = .ok (.aload_n 0, 1) := by decide +kernel
theorem bRfI_d1 : decode bRfI.bs 1 = .ok (.new 1, 3) := by decide +kernel
theorem bRfI_d4 : decode bRfI.bs 4 = .ok (.dup, 1) := by decide +kernel
theorem bRfI_d5 : decode bRfI.bs 5 = .ok (.invokespecial 3, 3) := by decide +kernel
theorem bRfI_d8 : decode bRfI.bs 8 = .ok (.aload_n 1, 1) := by decide +kernel
theorem bRfI_d9 : decode bRfI.bs 9 = .ok (.invokevirtual 7, 3) := by decide +kernel
theorem bRfI_d12 : decode bRfI.bs 12 = .ok (.ldc 22, 2) := by decide +kernel
theorem bRfI_d14 : decode bRfI.bs 14 = .ok (.invokevirtual 7, 3) := by decide +kernel
theorem bRfI_d17 : decode bRfI.bs 17 = .ok (.iload_n 2, 1) := by decide +kernel
theorem bRfI_d18 : decode bRfI.bs 18 = .ok (.invokevirtual 24, 3) := by decide +kernel
theorem bRfI_d21 : decode bRfI.bs 21 = .ok (.ldc 11, 2) := by decide +kernel
theorem bRfI_d23 : decode bRfI.bs 23 = .ok (.invokevirtual 7, 3) := by decide +kernel
theorem bRfI_d26 : decode bRfI.bs 26 = .ok (.aload_n 3, 1) := by decide +kernel
theorem bRfI_d27 : decode bRfI.bs 27 = .ok (.invokevirtual 7, 3) := by decide +kernel
theorem bRfI_d30 : decode bRfI.bs 30 = .ok (.invokevirtual 13, 3) := by decide +kernel
theorem bRfI_d33 : decode bRfI.bs 33 = .ok (.invokespecial 17, 3) := by decide +kernel
theorem bRfI_d36 : decode bRfI.bs 36 = .ok (.return_, 1) := by decide +kernel
theorem bRfI_pd : parseMethodDescriptor "(Ljava/lang/String;ILjava/lang/String;)V" = some ⟨[(.object "java/lang/String"), .int, (.object "java/lang/String")], none⟩ := by decide +kernel
theorem bRfI_pn : plainFor bRfI.y = true := plainFor_of_name (show plainName "com/example/gridtally/gridtally/engine/RefusedInputException" = true from by first | (simp [plainName, overriddenIn]; done) | decide +kernel)
theorem cRfI (l : Launch) (Z : State) (a0 : Array Value) (hw : ∀ d ∈ tables_1, d.before a0 Z = true) (n0 : Nat) (hEW : EW Z a0 consts_1) (a s sd r rd : Addr) (cs rs : List Int32) (x : Int32) (h0 : Heap) (σ : Addr → Prop) (T : Road.Str Z h0 s sd cs) (U : Road.Str Z h0 r rd rs) (hcs : cs.length ≤ 1) (hrs : rs.length ≤ 33) (E : Exa Z h0 a "com/example/gridtally/gridtally/engine/RefusedInputException") (N : Unt h0 a) (Fcz : Fld Z h0 a "java/lang/Throwable" "cause" "Ljava/lang/Throwable;" .null) (Fst : Fld Z h0 a "java/lang/Throwable" "stackTrace" "[Ljava/lang/StackTraceElement;" .null) (Fsp : Fld Z h0 a "java/lang/Throwable" "suppressedExceptions" "Ljava/util/List;" .null) (Fb : Fld Z h0 a "java/lang/Throwable" "backtrace" "Ljava/lang/Object;" .null) (Fm : Fld Z h0 a "java/lang/Throwable" "detailMessage" "Ljava/lang/String;" .null) (sa : σ a) (hl : l.stackTraces = true) (us : Addr) (Su : Sta Z Z.heap "java/lang/Throwable" "UNASSIGNED_STACK" "[Ljava/lang/StackTraceElement;" (.ref us)) (sp : Value) (hsp : sp.isRef = true) (Sp : Sta Z Z.heap "java/lang/Throwable" "SUPPRESSED_SENTINEL" "Ljava/util/List;" sp) (cp : Int32) (Hc : Sta Z Z.heap Road.SN "COMPACT_STRINGS" "Z" (.int cp)) (hcp : ¬ cp = 0) (o1 o2 : Addr) (HO : Sta Z Z.heap "java/lang/Integer" "DigitOnes" "[B" (.ref o1)) (AO : Road.Ary Z Z.heap o1 .byte Road.OnesL) (HT : Sta Z Z.heap "java/lang/Integer" "DigitTens" "[B" (.ref o2)) (AT : Road.Ary Z Z.heap o2 .byte Road.TensL) :
    Road.Con l Z consts_1 n0 true bRfI [] σ #[(.ref a), (.ref s), (.int x), (.ref r)] h0 (fun v h2 _ => v = none ∧ Keep h0 h2 [a] ∧ ∃ m d, Fld Z h2 a "java/lang/Throwable" "detailMessage" "Ljava/lang/String;" (.ref m) ∧ Road.Str Z h2 m d (cs ++ [58] ++ Road.dec x ++ [58, 32] ++ rs)) := by
  have wS : ∀ d ∈ Bundle.stringAtoms, d.before a0 Z = true := fun d hd => hw d ((by decide +kernel : ∀ d ∈ Bundle.stringAtoms, d ∈ tables_1) d hd)
  have hdl := Road.dec_le x
  refine Road.Con.of bRfI_pn hEW #[.val (.ref a), .val (.ref s), .val (.int x), .val (.ref r)] (fun m => Road.ent (Road.laid1 rfl (Road.laid1 rfl (Road.laid1 rfl (Road.laid1 rfl Road.laid0)))) (k := 0) rfl rfl) ?_
  intro D hD
  have KT := Keep.refl h0 ([] : List Addr)
  refine Road.aloadN 0 bRfI_d0 rfl ?_
  refine Road.new 1 "java/lang/StringBuilder" bRfI_d1 (wI hw 242 rfl) (wI hw 70 rfl) (wI hw 71 rfl) (ce' := 1) (sl' := 4) rfl rfl (by decide) (by decide) ?_
  intro q h_1 σ_2 g_3 K_4 lt_5 m_6 s_7 Eq D_8 M_9
  have gk_q := Nat.le_trans KT.1 (Nat.le_of_eq g_3.symm)
  have ne_s_q : s ≠ q := Nat.ne_of_lt (Nat.lt_of_lt_of_le T.lt (Nat.le_of_eq g_3.symm))
  have ne_sd_q : sd ≠ q := Nat.ne_of_lt (Nat.lt_of_lt_of_le T.ltb (Nat.le_of_eq g_3.symm))
  have ne_r_q : r ≠ q := Nat.ne_of_lt (Nat.lt_of_lt_of_le U.lt (Nat.le_of_eq g_3.symm))
  have ne_rd_q : rd ≠ q := Nat.ne_of_lt (Nat.lt_of_lt_of_le U.ltb (Nat.le_of_eq g_3.symm))
  have ne_a_q : a ≠ q := Nat.ne_of_lt (Nat.lt_of_lt_of_le E.lt (Nat.le_of_eq g_3.symm))
  replace KT := KT.trans K_4 (by simp)
  replace T := T.keep K_4 nin0 nin0
  replace U := U.keep K_4 nin0 nin0
  replace E := E.keep K_4
  replace sa := m_6 _ sa
  have Fqc := D_8 (Or.inl (wI hw 86 rfl)) (ty := .byte) (by decide)
  have Fqv := D_8 (Or.inl (wI hw 84 rfl)) (ty := (.array .byte)) (by decide)
  have Fqn := D_8 (Or.inl (wI hw 108 rfl)) (ty := .int) (by decide)
  refine Road.dup 4 bRfI_d4 ?_
  refine Road.callI (B' := bSbI) (a := q) 5 (argsL := []) (rest := [(.ref q), (.ref a)]) 2 bRfI_d5 (wI hw 243 rfl) (wI hw 73 rfl) (wI hw 71 rfl) (wI hw 74 rfl) rfl rfl (by decide) (cSbI l Z a0 hw n0 hEW q h_1 σ_2 Eq Fqc Fqv Fqn s_7 cp Hc hcp) (lenOf bSbI_pd rfl) rfl rfl rfl (by decide) (by decide) (ce' := 2) (sl' := 20) rfl rfl (by decide) (by decide) ?_
  rintro _ h_10 σ_11 m_12 ⟨rfl, K_13, qb, qS, qg, qs, qE⟩
  have gk_qb := Nat.le_trans KT.1 qg
  have ne_s_qb : s ≠ qb := Nat.ne_of_lt (Nat.lt_of_lt_of_le T.lt qg)
  have ne_sd_qb : sd ≠ qb := Nat.ne_of_lt (Nat.lt_of_lt_of_le T.ltb qg)
  have ne_r_qb : r ≠ qb := Nat.ne_of_lt (Nat.lt_of_lt_of_le U.lt qg)
  have ne_rd_qb : rd ≠ qb := Nat.ne_of_lt (Nat.lt_of_lt_of_le U.ltb qg)
  have ne_a_qb : a ≠ qb := Nat.ne_of_lt (Nat.lt_of_lt_of_le E.lt qg)
  replace KT := KT.trans K_13 (by intro z hz; simp only [List.mem_cons, List.not_mem_nil, or_false] at hz; rcases hz with rfl <;> first | (exact Or.inr (by assumption)) | (simp; done))
  replace T := T.keep K_13 (ninS ne_s_q nin0) (ninS ne_sd_q nin0)
  replace U := U.keep K_13 (ninS ne_r_q nin0) (ninS ne_rd_q nin0)
  replace E := E.keep K_13
  replace sa := m_12 _ sa
  replace s_7 := m_12 _ s_7
  refine Road.aloadN 8 bRfI_d8 rfl ?_
  have lt_s_qb1 := T.lt
  have lt_sd_qb1 := T.ltb
  have lt_r_qb1 := U.lt
  have lt_rd_qb1 := U.ltb
  have lt_a_qb1 := E.lt
  have kt_qb1 := KT.1
  refine Road.callV (B' := bSpX) (a := q) 9 (argsL := [(.ref s)]) (rest := [(.ref a)]) "java/lang/StringBuilder" 1 bRfI_d9 (wI hw 244 rfl) (wI hw 88 rfl) (fun vm hz => Road.notFace_sib (args := #[]) (mv (s := D.s.setVm vm) hz (wI hw 90 rfl)) rfl) (wI hw 90 rfl) (wI hw 89 rfl) (wI hw 71 rfl) (wI hw 91 rfl) (by decide) qS.1 (cSpX l Z a0 hw n0 hEW q qb ([] : List Int32) 16 s sd cs h_10 σ_11 qS qE T (Or.inl (by simp only [List.length_append, List.length_cons, List.length_nil]; omega)) (Ne.symm (Ne.symm ne_s_q)) (Ne.symm (Ne.symm ne_sd_q)) qs s_7 cp Hc hcp) (lenOf bSpX_pd rfl) rfl rfl rfl (by decide) (by decide) (ce' := 3) (sl' := 68) rfl rfl (by decide) (by decide) ?_
  rintro _ h_16 σ_17 m_18 ⟨rfl, K_19, qb1, Nq1, qS1, qg1, hNq1, qs1, qE1⟩
  replace KT := KT.trans K_19 (by intro z hz; simp only [List.mem_cons, List.not_mem_nil, or_false] at hz; rcases hz with rfl | rfl <;> first | (exact Or.inr (by assumption)) | (simp; done))
  replace T := T.keep K_19 (ninS ne_s_q (ninS ne_s_qb nin0)) (ninS ne_sd_q (ninS ne_sd_qb nin0))
  replace U := U.keep K_19 (ninS ne_r_q (ninS ne_r_qb nin0)) (ninS ne_rd_q (ninS ne_rd_qb nin0))
  replace E := E.keep K_19
  replace sa := m_18 _ sa
  replace s_7 := m_18 _ s_7
  replace qs := m_18 _ qs
  have ne_s_qb1 : s ≠ qb1 := by rcases qg1 with gz | gz; rw [gz]; exact ne_s_qb; exact Nat.ne_of_lt (Nat.lt_of_lt_of_le lt_s_qb1 gz)
  have ne_sd_qb1 : sd ≠ qb1 := by rcases qg1 with gz | gz; rw [gz]; exact ne_sd_qb; exact Nat.ne_of_lt (Nat.lt_of_lt_of_le lt_sd_qb1 gz)
  have ne_r_qb1 : r ≠ qb1 := by rcases qg1 with gz | gz; rw [gz]; exact ne_r_qb; exact Nat.ne_of_lt (Nat.lt_of_lt_of_le lt_r_qb1 gz)
  have ne_rd_qb1 : rd ≠ qb1 := by rcases qg1 with gz | gz; rw [gz]; exact ne_rd_qb; exact Nat.ne_of_lt (Nat.lt_of_lt_of_le lt_rd_qb1 gz)
  have ne_a_qb1 : a ≠ qb1 := by rcases qg1 with gz | gz; rw [gz]; exact ne_a_qb; exact Nat.ne_of_lt (Nat.lt_of_lt_of_le lt_a_qb1 gz)
  have gk_qb1 : h0.size ≤ qb1 := by rcases qg1 with gz | gz; rw [gz]; exact gk_qb; exact Nat.le_trans kt_qb1 gz
  obtain rfl : Nq1 = 16 := by simp only [List.length_append, List.length_cons, List.length_nil] at hNq1; omega
  refine Road.ldcS 12 ":" [(58 : Int32)] 4 bRfI_d12 (wI hw 245 rfl) wS (List.mem_of_getElem? (i := 4) rfl) (by decide) (by decide +kernel) (by decide) (by decide) (by decide) (ce' := 5) (sl' := 76) rfl rfl (by decide) (by decide) ?_
  intro a1 b1 h_23 σ_24 K_25 m_26 S1 q_27
  replace KT := KT.trans K_25 (by simp)
  replace T := T.keep K_25 nin0 nin0
  replace U := U.keep K_25 nin0 nin0
  replace E := E.keep K_25
  replace qS1 := qS1.keep K_25 nin0 nin0
  replace qE1 := qE1.keep K_25
  replace sa := m_26 _ sa
  replace s_7 := m_26 _ s_7
  replace qs1 := m_26 _ qs1
  have ne_a_a1 : a ≠ a1 := (q_27 a sa).1
  have ne_a_b1 : a ≠ b1 := (q_27 a sa).2
  have ne_q_a1 : q ≠ a1 := (q_27 q s_7).1
  have ne_q_b1 : q ≠ b1 := (q_27 q s_7).2
  have ne_qb1_a1 : qb1 ≠ a1 := (q_27 qb1 qs1).1
  have ne_qb1_b1 : qb1 ≠ b1 := (q_27 qb1 qs1).2
  have lt_s_qb2 := T.lt
  have lt_sd_qb2 := T.ltb
  have lt_r_qb2 := U.lt
  have lt_rd_qb2 := U.ltb
  have lt_a_qb2 := E.lt
  have lt_a1_qb2 := S1.lt
  have lt_b1_qb2 := S1.ltb
  have kt_qb2 := KT.1
  refine Road.callV (B' := bSpX) (a := q) 14 (argsL := [(.ref a1)]) (rest := [(.ref a)]) "java/lang/StringBuilder" 1 bRfI_d14 (wI hw 244 rfl) (wI hw 88 rfl) (fun vm hz => Road.notFace_sib (args := #[]) (mv (s := D.s.setVm vm) hz (wI hw 90 rfl)) rfl) (wI hw 90 rfl) (wI hw 89 rfl) (wI hw 71 rfl) (wI hw 91 rfl) (by decide) qS1.1 (cSpX l Z a0 hw n0 hEW q qb1 (([] : List Int32) ++ cs) 16 a1 b1 [58] h_23 σ_24 qS1 qE1 S1 (Or.inl (by simp only [List.length_append, List.length_cons, List.length_nil]; omega)) (Ne.symm ne_q_a1) (Ne.symm ne_q_b1) qs1 s_7 cp Hc hcp) (lenOf bSpX_pd rfl) rfl rfl rfl (by decide) (by decide) (ce' := 6) (sl' := 124) rfl rfl (by decide) (by decide) ?_
  rintro _ h_29 σ_30 m_31 ⟨rfl, K_32, qb2, Nq2, qS2, qg2, hNq2, qs2, qE2⟩
  replace KT := KT.trans K_32 (by intro z hz; simp only [List.mem_cons, List.not_mem_nil, or_false] at hz; rcases hz with rfl | rfl <;> first | (exact Or.inr (by assumption)) | (simp; done))
  replace T := T.keep K_32 (ninS ne_s_q (ninS ne_s_qb1 nin0)) (ninS ne_sd_q (ninS ne_sd_qb1 nin0))
  replace U := U.keep K_32 (ninS ne_r_q (ninS ne_r_qb1 nin0)) (ninS ne_rd_q (ninS ne_rd_qb1 nin0))
  replace E := E.keep K_32
  replace S1 := S1.keep K_32 (ninS (Ne.symm ne_q_a1) (ninS (Ne.symm ne_qb1_a1) nin0)) (ninS (Ne.symm ne_q_b1) (ninS (Ne.symm ne_qb1_b1) nin0))
  replace sa := m_31 _ sa
  replace s_7 := m_31 _ s_7
  replace qs1 := m_31 _ qs1
  have ne_s_qb2 : s ≠ qb2 := by rcases qg2 with gz | gz; rw [gz]; exact ne_s_qb1; exact Nat.ne_of_lt (Nat.lt_of_lt_of_le lt_s_qb2 gz)
  have ne_sd_qb2 : sd ≠ qb2 := by rcases qg2 with gz | gz; rw [gz]; exact ne_sd_qb1; exact Nat.ne_of_lt (Nat.lt_of_lt_of_le lt_sd_qb2 gz)
  have ne_r_qb2 : r ≠ qb2 := by rcases qg2 with gz | gz; rw [gz]; exact ne_r_qb1; exact Nat.ne_of_lt (Nat.lt_of_lt_of_le lt_r_qb2 gz)
  have ne_rd_qb2 : rd ≠ qb2 := by rcases qg2 with gz | gz; rw [gz]; exact ne_rd_qb1; exact Nat.ne_of_lt (Nat.lt_of_lt_of_le lt_rd_qb2 gz)
  have ne_a_qb2 : a ≠ qb2 := by rcases qg2 with gz | gz; rw [gz]; exact ne_a_qb1; exact Nat.ne_of_lt (Nat.lt_of_lt_of_le lt_a_qb2 gz)
  have ne_a1_qb2 : a1 ≠ qb2 := by rcases qg2 with gz | gz; rw [gz]; exact (Ne.symm ne_qb1_a1); exact Nat.ne_of_lt (Nat.lt_of_lt_of_le lt_a1_qb2 gz)
  have ne_b1_qb2 : b1 ≠ qb2 := by rcases qg2 with gz | gz; rw [gz]; exact (Ne.symm ne_qb1_b1); exact Nat.ne_of_lt (Nat.lt_of_lt_of_le lt_b1_qb2 gz)
  have gk_qb2 : h0.size ≤ qb2 := by rcases qg2 with gz | gz; rw [gz]; exact gk_qb1; exact Nat.le_trans kt_qb2 gz
  obtain rfl : Nq2 = 16 := by simp only [List.length_append, List.length_cons, List.length_nil] at hNq2; omega
  refine Road.iloadN 17 bRfI_d17 rfl ?_
  refine Road.callV (B' := bSi0) (a := q) 18 (argsL := [(.int x)]) (rest := [(.ref a)]) "java/lang/StringBuilder" 1 bRfI_d18 (wI hw 246 rfl) (wI hw 174 rfl) (fun vm hz => Road.notFace_sib (args := #[]) (mv (s := D.s.setVm vm) hz (wI hw 90 rfl)) rfl) (wI hw 176 rfl) (wI hw 175 rfl) (wI hw 71 rfl) (wI hw 177 rfl) (by decide) qS2.1 (cSi0 l Z a0 hw n0 hEW q qb2 ((([] : List Int32) ++ cs) ++ [58]) 16 x h_29 σ_30 qS2 (by simp only [List.length_append, List.length_cons, List.length_nil]; omega) qs2 s_7 cp Hc hcp o1 o2 HO AO HT AT) (lenOf bSi0_pd rfl) rfl rfl rfl (by decide) (by decide) (ce' := 6) (sl' := 124) rfl rfl (by decide) (by decide) ?_
  rintro _ h_36 σ_37 m_38 ⟨rfl, K_39, qS2⟩
  replace KT := KT.trans K_39 (by intro z hz; simp only [List.mem_cons, List.not_mem_nil, or_false] at hz; rcases hz with rfl | rfl <;> first | (exact Or.inr (by assumption)) | (simp; done))
  replace T := T.keep K_39 (ninS ne_s_q (ninS ne_s_qb2 nin0)) (ninS ne_sd_q (ninS ne_sd_qb2 nin0))
  replace U := U.keep K_39 (ninS ne_r_q (ninS ne_r_qb2 nin0)) (ninS ne_rd_q (ninS ne_rd_qb2 nin0))
  replace E := E.keep K_39
  replace S1 := S1.keep K_39 (ninS (Ne.symm ne_q_a1) (ninS ne_a1_qb2 nin0)) (ninS (Ne.symm ne_q_b1) (ninS ne_b1_qb2 nin0))
  replace qE2 := qE2.keep K_39
  replace sa := m_38 _ sa
  replace s_7 := m_38 _ s_7
  replace qs2 := m_38 _ qs2
  refine Road.ldcS 21 ": " [(58 : Int32), (32 : Int32)] 8 bRfI_d21 (wI hw 247 rfl) wS (List.mem_of_getElem? (i := 3) rfl) (by decide) (by decide +kernel) (by decide) (by decide) (by decide) (ce' := 8) (sl' := 136) rfl rfl (by decide) (by decide) ?_
  intro a2 b2 h_43 σ_44 K_45 m_46 S2 q_47
  replace KT := KT.trans K_45 (by simp)
  replace T := T.keep K_45 nin0 nin0
  replace U := U.keep K_45 nin0 nin0
  replace E := E.keep K_45
  replace S1 := S1.keep K_45 nin0 nin0
  replace qE2 := qE2.keep K_45
  replace qS2 := qS2.keep K_45 nin0 nin0
  replace sa := m_46 _ sa
  replace s_7 := m_46 _ s_7
  replace qs2 := m_46 _ qs2
  have ne_a_a2 : a ≠ a2 := (q_47 a sa).1
  have ne_a_b2 : a ≠ b2 := (q_47 a sa).2
  have ne_q_a2 : q ≠ a2 := (q_47 q s_7).1
  have ne_q_b2 : q ≠ b2 := (q_47 q s_7).2
  have ne_qb2_a2 : qb2 ≠ a2 := (q_47 qb2 qs2).1
  have ne_qb2_b2 : qb2 ≠ b2 := (q_47 qb2 qs2).2
  have lt_s_qb3 := T.lt
  have lt_sd_qb3 := T.ltb
  have lt_r_qb3 := U.lt
  have lt_rd_qb3 := U.ltb
  have lt_a_qb3 := E.lt
  have lt_a1_qb3 := S1.lt
  have lt_b1_qb3 := S1.ltb
  have lt_a2_qb3 := S2.lt
  have lt_b2_qb3 := S2.ltb
  have kt_qb3 := KT.1
  refine Road.callV (B' := bSpX) (a := q) 23 (argsL := [(.ref a2)]) (rest := [(.ref a)]) "java/lang/StringBuilder" 1 bRfI_d23 (wI hw 244 rfl) (wI hw 88 rfl) (fun vm hz => Road.notFace_sib (args := #[]) (mv (s := D.s.setVm vm) hz (wI hw 90 rfl)) rfl) (wI hw 90 rfl) (wI hw 89 rfl) (wI hw 71 rfl) (wI hw 91 rfl) (by decide) qS2.1 (cSpX l Z a0 hw n0 hEW q qb2 (((([] : List Int32) ++ cs) ++ [58]) ++ Road.dec x) 16 a2 b2 [58, 32] h_43 σ_44 qS2 qE2 S2 (Or.inl (by simp only [List.length_append, List.length_cons, List.length_nil]; omega)) (Ne.symm ne_q_a2) (Ne.symm ne_q_b2) qs2 s_7 cp Hc hcp) (lenOf bSpX_pd rfl) rfl rfl rfl (by decide) (by decide) (ce' := 9) (sl' := 184) rfl rfl (by decide) (by decide) ?_
  rintro _ h_49 σ_50 m_51 ⟨rfl, K_52, qb3, Nq3, qS3, qg3, hNq3, qs3, qE3⟩
  replace KT := KT.trans K_52 (by intro z hz; simp only [List.mem_cons, List.not_mem_nil, or_false] at hz; rcases hz with rfl | rfl <;> first | (exact Or.inr (by assumption)) | (simp; done))
  replace T := T.keep K_52 (ninS ne_s_q (ninS ne_s_qb2 nin0)) (ninS ne_sd_q (ninS ne_sd_qb2 nin0))
  replace U := U.keep K_52 (ninS ne_r_q (ninS ne_r_qb2 nin0)) (ninS ne_rd_q (ninS ne_rd_qb2 nin0))
  replace E := E.keep K_52
  replace S1 := S1.keep K_52 (ninS (Ne.symm ne_q_a1) (ninS ne_a1_qb2 nin0)) (ninS (Ne.symm ne_q_b1) (ninS ne_b1_qb2 nin0))
  replace S2 := S2.keep K_52 (ninS (Ne.symm ne_q_a2) (ninS (Ne.symm ne_qb2_a2) nin0)) (ninS (Ne.symm ne_q_b2) (ninS (Ne.symm ne_qb2_b2) nin0))
  replace sa := m_51 _ sa
  replace s_7 := m_51 _ s_7
  replace qs2 := m_51 _ qs2
  have ne_s_qb3 : s ≠ qb3 := by rcases qg3 with gz | gz; rw [gz]; exact ne_s_qb2; exact Nat.ne_of_lt (Nat.lt_of_lt_of_le lt_s_qb3 gz)
  have ne_sd_qb3 : sd ≠ qb3 := by rcases qg3 with gz | gz; rw [gz]; exact ne_sd_qb2; exact Nat.ne_of_lt (Nat.lt_of_lt_of_le lt_sd_qb3 gz)
  have ne_r_qb3 : r ≠ qb3 := by rcases qg3 with gz | gz; rw [gz]; exact ne_r_qb2; exact Nat.ne_of_lt (Nat.lt_of_lt_of_le lt_r_qb3 gz)
  have ne_rd_qb3 : rd ≠ qb3 := by rcases qg3 with gz | gz; rw [gz]; exact ne_rd_qb2; exact Nat.ne_of_lt (Nat.lt_of_lt_of_le lt_rd_qb3 gz)
  have ne_a_qb3 : a ≠ qb3 := by rcases qg3 with gz | gz; rw [gz]; exact ne_a_qb2; exact Nat.ne_of_lt (Nat.lt_of_lt_of_le lt_a_qb3 gz)
  have ne_a1_qb3 : a1 ≠ qb3 := by rcases qg3 with gz | gz; rw [gz]; exact ne_a1_qb2; exact Nat.ne_of_lt (Nat.lt_of_lt_of_le lt_a1_qb3 gz)
  have ne_b1_qb3 : b1 ≠ qb3 := by rcases qg3 with gz | gz; rw [gz]; exact ne_b1_qb2; exact Nat.ne_of_lt (Nat.lt_of_lt_of_le lt_b1_qb3 gz)
  have ne_a2_qb3 : a2 ≠ qb3 := by rcases qg3 with gz | gz; rw [gz]; exact (Ne.symm ne_qb2_a2); exact Nat.ne_of_lt (Nat.lt_of_lt_of_le lt_a2_qb3 gz)
  have ne_b2_qb3 : b2 ≠ qb3 := by rcases qg3 with gz | gz; rw [gz]; exact (Ne.symm ne_qb2_b2); exact Nat.ne_of_lt (Nat.lt_of_lt_of_le lt_b2_qb3 gz)
  have gk_qb3 : h0.size ≤ qb3 := by rcases qg3 with gz | gz; rw [gz]; exact gk_qb2; exact Nat.le_trans kt_qb3 gz
  obtain rfl : Nq3 = 16 := by simp only [List.length_append, List.length_cons, List.length_nil] at hNq3; omega
  refine Road.aloadN 26 bRfI_d26 rfl ?_
  have lt_s_qb4 := T.lt
  have lt_sd_qb4 := T.ltb
  have lt_r_qb4 := U.lt
  have lt_rd_qb4 := U.ltb
  have lt_a_qb4 := E.lt
  have lt_a1_qb4 := S1.lt
  have lt_b1_qb4 := S1.ltb
  have lt_a2_qb4 := S2.lt
  have lt_b2_qb4 := S2.ltb
  have kt_qb4 := KT.1
  refine Road.callV (B' := bSpX) (a := q) 27 (argsL := [(.ref r)]) (rest := [(.ref a)]) "java/lang/StringBuilder" 1 bRfI_d27 (wI hw 244 rfl) (wI hw 88 rfl) (fun vm hz => Road.notFace_sib (args := #[]) (mv (s := D.s.setVm vm) hz (wI hw 90 rfl)) rfl) (wI hw 90 rfl) (wI hw 89 rfl) (wI hw 71 rfl) (wI hw 91 rfl) (by decide) qS3.1 (cSpX l Z a0 hw n0 hEW q qb3 ((((([] : List Int32) ++ cs) ++ [58]) ++ Road.dec x) ++ [58, 32]) 16 r rd rs h_49 σ_50 qS3 qE3 U (Or.inr (by simp only [List.length_append, List.length_cons, List.length_nil]; omega)) (Ne.symm (Ne.symm ne_r_q)) (Ne.symm (Ne.symm ne_rd_q)) qs3 s_7 cp Hc hcp) (lenOf bSpX_pd rfl) rfl rfl rfl (by decide) (by decide) (ce' := 10) (sl' := 232) rfl rfl (by decide) (by decide) ?_
  rintro _ h_56 σ_57 m_58 ⟨rfl, K_59, qb4, Nq4, qS4, qg4, hNq4, qs4, qE4⟩
  replace KT := KT.trans K_59 (by intro z hz; simp only [List.mem_cons, List.not_mem_nil, or_false] at hz; rcases hz with rfl | rfl <;> first | (exact Or.inr (by assumption)) | (simp; done))
  replace T := T.keep K_59 (ninS ne_s_q (ninS ne_s_qb3 nin0)) (ninS ne_sd_q (ninS ne_sd_qb3 nin0))
  replace U := U.keep K_59 (ninS ne_r_q (ninS ne_r_qb3 nin0)) (ninS ne_rd_q (ninS ne_rd_qb3 nin0))
  replace E := E.keep K_59
  replace S1 := S1.keep K_59 (ninS (Ne.symm ne_q_a1) (ninS ne_a1_qb3 nin0)) (ninS (Ne.symm ne_q_b1) (ninS ne_b1_qb3 nin0))
  replace S2 := S2.keep K_59 (ninS (Ne.symm ne_q_a2) (ninS ne_a2_qb3 nin0)) (ninS (Ne.symm ne_q_b2) (ninS ne_b2_qb3 nin0))
  replace sa := m_58 _ sa
  replace s_7 := m_58 _ s_7
  replace qs3 := m_58 _ qs3
  have ne_s_qb4 : s ≠ qb4 := by rcases qg4 with gz | gz; rw [gz]; exact ne_s_qb3; exact Nat.ne_of_lt (Nat.lt_of_lt_of_le lt_s_qb4 gz)
  have ne_sd_qb4 : sd ≠ qb4 := by rcases qg4 with gz | gz; rw [gz]; exact ne_sd_qb3; exact Nat.ne_of_lt (Nat.lt_of_lt_of_le lt_sd_qb4 gz)
  have ne_r_qb4 : r ≠ qb4 := by rcases qg4 with gz | gz; rw [gz]; exact ne_r_qb3; exact Nat.ne_of_lt (Nat.lt_of_lt_of_le lt_r_qb4 gz)
  have ne_rd_qb4 : rd ≠ qb4 := by rcases qg4 with gz | gz; rw [gz]; exact ne_rd_qb3; exact Nat.ne_of_lt (Nat.lt_of_lt_of_le lt_rd_qb4 gz)
  have ne_a_qb4 : a ≠ qb4 := by rcases qg4 with gz | gz; rw [gz]; exact ne_a_qb3; exact Nat.ne_of_lt (Nat.lt_of_lt_of_le lt_a_qb4 gz)
  have ne_a1_qb4 : a1 ≠ qb4 := by rcases qg4 with gz | gz; rw [gz]; exact ne_a1_qb3; exact Nat.ne_of_lt (Nat.lt_of_lt_of_le lt_a1_qb4 gz)
  have ne_b1_qb4 : b1 ≠ qb4 := by rcases qg4 with gz | gz; rw [gz]; exact ne_b1_qb3; exact Nat.ne_of_lt (Nat.lt_of_lt_of_le lt_b1_qb4 gz)
  have ne_a2_qb4 : a2 ≠ qb4 := by rcases qg4 with gz | gz; rw [gz]; exact ne_a2_qb3; exact Nat.ne_of_lt (Nat.lt_of_lt_of_le lt_a2_qb4 gz)
  have ne_b2_qb4 : b2 ≠ qb4 := by rcases qg4 with gz | gz; rw [gz]; exact ne_b2_qb3; exact Nat.ne_of_lt (Nat.lt_of_lt_of_le lt_b2_qb4 gz)
  have gk_qb4 : h0.size ≤ qb4 := by rcases qg4 with gz | gz; rw [gz]; exact gk_qb3; exact Nat.le_trans kt_qb4 gz
  refine Road.callV (B' := bXoS) (a := q) 30 (argsL := []) (rest := [(.ref a)]) "java/lang/StringBuilder" 1 bRfI_d30 (wI hw 248 rfl) (wI hw 196 rfl) (fun vm hz => Road.notFace_sib (args := #[]) (mv (s := D.s.setVm vm) hz (wI hw 90 rfl)) rfl) (wI hw 198 rfl) (wI hw 197 rfl) (wI hw 71 rfl) (wI hw 199 rfl) (by decide) qS4.1 (cXoS l Z a0 hw n0 hEW q qb4 (((((([] : List Int32) ++ cs) ++ [58]) ++ Road.dec x) ++ [58, 32]) ++ rs) Nq4 h_56 σ_57 qS4 qE4 (by simp only [List.length_append, List.length_cons, List.length_nil]; omega) cp Hc hcp) (lenOf bXoS_pd rfl) rfl rfl rfl (by decide) (by decide) (ce' := 12) (sl' := 284) rfl rfl (by decide) (by decide) ?_
  rintro _ h_63 σ_64 m_65 ⟨m, d, rfl, gm, gd, K_66, M⟩
  have gk_m := Nat.le_trans KT.1 gm
  have ne_a_m : a ≠ m := Nat.ne_of_lt (Nat.lt_of_lt_of_le E.lt gm)
  have gk_d := Nat.le_trans KT.1 gd
  have ne_a_d : a ≠ d := Nat.ne_of_lt (Nat.lt_of_lt_of_le E.lt gd)
  replace KT := KT.trans K_66 (by simp)
  replace E := E.keep K_66
  replace sa := m_65 _ sa
  replace s_7 := m_65 _ s_7
  replace qs4 := m_65 _ qs4
  refine Road.callI (B' := bExc) (a := a) 33 (argsL := [(.ref m)]) (rest := []) 0 bRfI_d33 (wI hw 249 rfl) (wI hw 250 rfl) (wI hw 252 rfl) (wI hw 253 rfl) rfl rfl (by decide) (cExc l Z a0 hw n0 hEW a (.ref m) rfl h_63 σ_64 E (N.keep KT nin0) (Fcz.keep KT nin0) (Fst.keep KT nin0) (Fsp.keep KT nin0) (Fb.keep KT nin0) (Fm.keep KT nin0) sa hl us Su sp hsp Sp) (lenOf bExc_pd rfl) rfl rfl rfl (by decide) (by decide) (ce' := 13) (sl' := 3036) rfl rfl (by decide) (by decide) ?_
  rintro _ h_70 σ_71 m_72 ⟨rfl, K_73, KF, Fm⟩
  replace M := M.keep K_73 (ninS (Ne.symm ne_a_m) nin0) (ninS (Ne.symm ne_a_d) nin0)
  replace sa := m_72 _ sa
  replace s_7 := m_72 _ s_7
  replace qs4 := m_72 _ qs4
  exact Road.ret 36 bRfI_d36 rfl (by decide) (by decide) (fun σ' m' => ⟨rfl, (Road.keep_more KT).trans K_73 (by simp), m, d, Fm, M⟩)
def bRfs : Road.Bdy := (⟨"com/example/gridtally/gridtally/engine/Origin", "refuse", "(Ljava/lang/String;)Lcom/example/gridtally/gridtally/engine/RefusedInputException;"⟩, prog_5_method_2_code, 2, (some (.object "com/example/gridtally/gridtally/engine/RefusedInputException")), { frames := 7, cells := 14, slots := 3042, locals := 113 })
theorem bRfs_d0 : decode bRfs.bs 0 = .ok (.new 17, 3) := by decide +kernel
theorem bRfs_d3 : decode bRfs.bs 3 = .ok (.dup, 1) := by decide +kernel
theorem bRfs_d4 : decode bRfs.bs 4 = .ok (.aload_n 0, 1) := by decide +kernel
theorem bRfs_d5 : decode bRfs.bs 5 = .ok (.getfield 7, 3) := by decide +kernel
theorem bRfs_d8 : decode bRfs.bs 8 = .ok (.aload_n 0, 1) := by decide +kernel
theorem bRfs_d9 : decode bRfs.bs 9 = .ok (.getfield 13, 3) := by decide +kernel
theorem bRfs_d12 : decode bRfs.bs 12 = .ok (.aload_n 1, 1) := by decide +kernel
theorem bRfs_d13 : decode bRfs.bs 13 = .ok (.invokespecial 19, 3) := by decide +kernel
theorem bRfs_d16 : decode bRfs.bs 16 = .ok (.areturn, 1) := by decide +kernel
theorem bRfs_pd : parseMethodDescriptor "(Ljava/lang/String;)Lcom/example/gridtally/gridtally/engine/RefusedInputException;" = some ⟨[(.object "java/lang/String")], (some (.object "com/example/gridtally/gridtally/engine/RefusedInputException"))⟩ := by decide +kernel
theorem bRfs_pn : plainFor bRfs.y = true := plainFor_of_name (show plainName "com/example/gridtally/gridtally/engine/Origin" = true from by first | (simp [plainName, overriddenIn]; done) | decide +kernel)
theorem cRfs (l : Launch) (Z : State) (a0 : Array Value) (hw : ∀ d ∈ tables_1, d.before a0 Z = true) (n0 : Nat) (hEW : EW Z a0 consts_1) (o s sd r rd : Addr) (cs rs : List Int32) (x : Int32) (h0 : Heap) (σ : Addr → Prop) (F1 : Fld Z h0 o "com/example/gridtally/gridtally/engine/Origin" "file" "Ljava/lang/String;" (.ref s)) (F2 : Fld Z h0 o "com/example/gridtally/gridtally/engine/Origin" "line" "I" (.int x)) (T : Road.Str Z h0 s sd cs) (U : Road.Str Z h0 r rd rs) (hcs : cs.length ≤ 1) (hrs : rs.length ≤ 33) (hl : l.stackTraces = true) (us : Addr) (Su : Sta Z Z.heap "java/lang/Throwable" "UNASSIGNED_STACK" "[Ljava/lang/StackTraceElement;" (.ref us)) (sp : Value) (hsp : sp.isRef = true) (Sp : Sta Z Z.heap "java/lang/Throwable" "SUPPRESSED_SENTINEL" "Ljava/util/List;" sp) (cp : Int32) (Hc : Sta Z Z.heap Road.SN "COMPACT_STRINGS" "Z" (.int cp)) (hcp : ¬ cp = 0) (o1 o2 : Addr) (HO : Sta Z Z.heap "java/lang/Integer" "DigitOnes" "[B" (.ref o1)) (AO : Road.Ary Z Z.heap o1 .byte Road.OnesL) (HT : Sta Z Z.heap "java/lang/Integer" "DigitTens" "[B" (.ref o2)) (AT : Road.Ary Z Z.heap o2 .byte Road.TensL) :
    Road.Con l Z consts_1 n0 true bRfs [] σ #[(.ref o), (.ref r)] h0 (fun v h2 _ => ∃ a m d, v = some (.ref a) ∧ Exa Z h2 a "com/example/gridtally/gridtally/engine/RefusedInputException" ∧ Keep h0 h2 [] ∧ Fld Z h2 a "java/lang/Throwable" "detailMessage" "Ljava/lang/String;" (.ref m) ∧ Road.Str Z h2 m d (cs ++ [58] ++ Road.dec x ++ [58, 32] ++ rs)) := by
  refine Road.Con.of bRfs_pn hEW #[.val (.ref o), .val (.ref r)] (fun m => Road.ent (Road.laid1 rfl (Road.laid1 rfl Road.laid0)) (k := 0) rfl rfl) ?_
  intro D hD
  have KT := Keep.refl h0 ([] : List Addr)
  refine Road.new 0 "com/example/gridtally/gridtally/engine/RefusedInputException" bRfs_d0 (wI hw 236 rfl) (wI hw 237 rfl) (wI hw 238 rfl) (ce' := 1) (sl' := 6) rfl rfl (by decide) (by decide) ?_
  intro a h_1 σ_2 g_3 K_4 lt_5 m_6 s_7 E D_8 M_9
  have gk_a := Nat.le_trans KT.1 (Nat.le_of_eq g_3.symm)
  have ne_o_a : o ≠ a := Nat.ne_of_lt (Nat.lt_of_lt_of_le F1.lt (Nat.le_of_eq g_3.symm))
  have ne_s_a : s ≠ a := Nat.ne_of_lt (Nat.lt_of_lt_of_le T.lt (Nat.le_of_eq g_3.symm))
  have ne_sd_a : sd ≠ a := Nat.ne_of_lt (Nat.lt_of_lt_of_le T.ltb (Nat.le_of_eq g_3.symm))
  have ne_r_a : r ≠ a := Nat.ne_of_lt (Nat.lt_of_lt_of_le U.lt (Nat.le_of_eq g_3.symm))
  have ne_rd_a : rd ≠ a := Nat.ne_of_lt (Nat.lt_of_lt_of_le U.ltb (Nat.le_of_eq g_3.symm))
  replace KT := KT.trans K_4 (by simp)
  replace F1 := F1.keep K_4 nin0
  replace F2 := F2.keep K_4 nin0
  replace T := T.keep K_4 nin0 nin0
  replace U := U.keep K_4 nin0 nin0
  have Fcz := D_8 (Or.inl (wI hw 262 rfl)) (ty := (.object "java/lang/Throwable")) (by decide)
  have Fst := D_8 (Or.inl (wI hw 265 rfl)) (ty := (.array (.object "java/lang/StackTraceElement"))) (by decide)
  have Fsp := D_8 (Or.inl (wI hw 268 rfl)) (ty := (.object "java/util/List")) (by decide)
  have Fb := D_8 (Or.inl (wI hw 293 rfl)) (ty := (.object "java/lang/Object")) (by decide)
  have Fm := D_8 (Or.inl (wI hw 292 rfl)) (ty := (.object "java/lang/String")) (by decide)
  refine Road.dup 3 bRfs_d3 ?_
  refine Road.aloadN 4 bRfs_d4 rfl ?_
  refine Road.getfield 5 bRfs_d5 (wI hw 60 rfl) Via.refl F1 ?_
  refine Road.aloadN 8 bRfs_d8 rfl ?_
  refine Road.getfield 9 bRfs_d9 (wI hw 62 rfl) Via.refl F2 ?_
  refine Road.aloadN 12 bRfs_d12 rfl ?_
  refine Road.callI (B' := bRfI) (a := a) 13 (argsL := [(.ref s), (.int x), (.ref r)]) (rest := [(.ref a)]) 1 bRfs_d13 (wI hw 239 rfl) (wI hw 240 rfl) (wI hw 238 rfl) (wI hw 241 rfl) rfl rfl (by decide) (cRfI l Z a0 hw n0 hEW a s sd r rd cs rs x h_1 σ_2 T U hcs hrs E M_9 Fcz Fst Fsp Fb Fm s_7 hl us Su sp hsp Sp cp Hc hcp o1 o2 HO AO HT AT) (lenOf bRfI_pd rfl) rfl rfl rfl (by decide) (by decide) (ce' := 14) (sl' := 3042) rfl rfl (by decide) (by decide) ?_
  rintro _ h_10 σ_11 m_12 ⟨rfl, K_13, m, d, Fm, T2⟩
  replace KT := KT.trans K_13 (by intro z hz; simp only [List.mem_cons, List.not_mem_nil, or_false] at hz; rcases hz with rfl <;> first | (exact Or.inr (by assumption)) | (simp; done))
  replace E := E.keep K_13
  replace s_7 := m_12 _ s_7
  exact Road.aret 16 bRfs_d16 (t := (.object "com/example/gridtally/gridtally/engine/RefusedInputException")) rfl rfl rfl (by decide) (by decide) (fun σ' m' => ⟨a, m, d, rfl, E, KT, Fm, T2⟩)
def bgM : Road.Bdy := (⟨"java/lang/Throwable", "getMessage", "()Ljava/lang/String;"⟩, jdk_78_method_6_code, 1, (some (.object "java/lang/String")), { frames := 0, cells := 0, slots := 0, locals := 0 })
theorem bgM_d0 : decode bgM.bs 0 = .ok (.aload_n 0, 1) := by decide +kernel
theorem bgM_d1 : decode bgM.bs 1 = .ok (.getfield 31, 3) := by decide +kernel
theorem bgM_d4 : decode bgM.bs 4 = .ok (.areturn, 1) := by decide +kernel
theorem bgM_pd : parseMethodDescriptor "()Ljava/lang/String;" = some ⟨[], (some (.object "java/lang/String"))⟩ := by decide +kernel
theorem bgM_pn : plainFor bgM.y = true := plainFor_of_name (show plainName "java/lang/Throwable" = true from by first | (simp [plainName, overriddenIn]; done) | decide +kernel)
theorem cgM (l : Launch) (Z : State) (a0 : Array Value) (hw : ∀ d ∈ tables_1, d.before a0 Z = true) (n0 : Nat) (hEW : EW Z a0 consts_1) (a : Addr) (v : Value) (h0 : Heap) (σ : Addr → Prop) (hv : v.isRef = true) (F : Fld Z h0 a "java/lang/Throwable" "detailMessage" "Ljava/lang/String;" v) :
    Road.Con l Z consts_1 n0 true bgM [] σ #[(.ref a)] h0 (fun r h2 _ => r = some v ∧ h0 = h2) := by
  refine Road.Con.of bgM_pn hEW #[.val (.ref a)] (fun m => Road.ent (Road.laid1 rfl Road.laid0) (k := 0) rfl rfl) ?_
  intro D hD
  refine Road.aloadN 0 bgM_d0 rfl ?_
  refine Road.getfield 1 bgM_d1 (wI hw 296 rfl) Via.refl F ?_
  exact Road.aret 4 bgM_d4 (t := (.object "java/lang/String")) rfl rfl hv (by decide) (by decide) (fun σ' m => ⟨rfl, rfl⟩)
def bOts : Road.Bdy := (⟨"com/example/gridtally/gridtally/engine/Origin", "toString", "()Ljava/lang/String;"⟩, prog_5_method_4_code, 1, (some (.object "java/lang/String")), { frames := 6, cells := 8, slots := 176, locals := 95 })
theorem bOts_d0 : decode bOts.bs 0 = .ok (.new 22, 3) := by decide +kernel
theorem bOts_d3 : decode bOts.bs 3 = .ok (.dup, 1) := by decide +kernel
theorem bOts_d4 : decode bOts.bs 4 = .ok (.invokespecial 24, 3) := by decide +kernel
theorem bOts_d7 : decode bOts.bs 7 = .ok (.aload_n 0, 1) := by decide +kernel
theorem bOts_d8 : decode bOts.bs 8 = .ok (.getfield 7, 3) := by decide +kernel
theorem bOts_d11 : decode bOts.bs 11 = .ok (.invokevirtual 25, 3) := by decide +kernel
theorem bOts_d14 : decode bOts.bs 14 = .ok (.ldc 42, 2) := by decide +kernel
theorem bOts_d16 : decode bOts.bs 16 = .ok (.invokevirtual 25, 3) := by decide +kernel
theorem bOts_d19 : decode bOts.bs 19 = .ok (.aload_n 0, 1) := by decide +kernel
theorem bOts_d20 : decode bOts.bs 20 = .ok (.getfield 13, 3) := by decide +kernel
theorem bOts_d23 : decode bOts.bs 23 = .ok (.invokevirtual 44, 3) := by decide +kernel
theorem bOts_d26 : decode bOts.bs 26 = .ok (.invokevirtual 34, 3) := by decide +kernel
theorem bOts_d29 : decode bOts.bs 29 = .ok (.areturn, 1) := by decide +kernel
theorem bOts_pd : parseMethodDescriptor "()Ljava/lang/String;" = some ⟨[], (some (.object "java/lang/String"))⟩ := by decide +kernel
theorem bOts_pn : plainFor bOts.y = true := plainFor_of_name (show plainName "com/example/gridtally/gridtally/engine/Origin" = true from by first | (simp [plainName, overriddenIn]; done) | decide +kernel)
theorem cOts (l : Launch) (Z : State) (a0 : Array Value) (hw : ∀ d ∈ tables_1, d.before a0 Z = true) (n0 : Nat) (hEW : EW Z a0 consts_1) (o f fd : Addr) (fs : List Int32) (x : Int32) (h0 : Heap) (σ : Addr → Prop) (Eo : Exa Z h0 o "com/example/gridtally/gridtally/engine/Origin") (F1 : Fld Z h0 o "com/example/gridtally/gridtally/engine/Origin" "file" "Ljava/lang/String;" (.ref f)) (F2 : Fld Z h0 o "com/example/gridtally/gridtally/engine/Origin" "line" "I" (.int x)) (T : Road.Str Z h0 f fd fs) (hfs : fs.length ≤ 1) (cp : Int32) (Hc : Sta Z Z.heap Road.SN "COMPACT_STRINGS" "Z" (.int cp)) (hcp : ¬ cp = 0) (o1 o2 : Addr) (HO : Sta Z Z.heap "java/lang/Integer" "DigitOnes" "[B" (.ref o1)) (AO : Road.Ary Z Z.heap o1 .byte Road.OnesL) (HT : Sta Z Z.heap "java/lang/Integer" "DigitTens" "[B" (.ref o2)) (AT : Road.Ary Z Z.heap o2 .byte Road.TensL) :
    Road.Con l Z consts_1 n0 true bOts [] σ #[(.ref o)] h0 (fun v h2 s2 => ∃ a d, v = some (.ref a) ∧ h0.size ≤ a ∧ h0.size ≤ d ∧ Keep h0 h2 [] ∧ Road.Str Z h2 a d (fs ++ [58] ++ Road.dec x)) := by
  have wS : ∀ d ∈ Bundle.stringAtoms, d.before a0 Z = true := fun d hd => hw d ((by decide +kernel : ∀ d ∈ Bundle.stringAtoms, d ∈ tables_1) d hd)
  have hdl := Road.dec_le x
  refine Road.Con.of bOts_pn hEW #[.val (.ref o)] (fun m => Road.ent (Road.laid1 rfl Road.laid0) (k := 0) rfl rfl) ?_
  intro D hD
  have KT := Keep.refl h0 ([] : List Addr)
  refine Road.new 0 "java/lang/StringBuilder" bOts_d0 (wI hw 69 rfl) (wI hw 70 rfl) (wI hw 71 rfl) (ce' := 1) (sl' := 4) rfl rfl (by decide) (by decide) ?_
  intro q h_1 σ_2 g_3 K_4 lt_5 m_6 s_7 Eq D_8 M_9
  have gk_q := Nat.le_trans KT.1 (Nat.le_of_eq g_3.symm)
  have ne_o_q : o ≠ q := Nat.ne_of_lt (Nat.lt_of_lt_of_le F1.lt (Nat.le_of_eq g_3.symm))
  have ne_f_q : f ≠ q := Nat.ne_of_lt (Nat.lt_of_lt_of_le T.lt (Nat.le_of_eq g_3.symm))
  have ne_fd_q : fd ≠ q := Nat.ne_of_lt (Nat.lt_of_lt_of_le T.ltb (Nat.le_of_eq g_3.symm))
  replace KT := KT.trans K_4 (by simp)
  replace F1 := F1.keep K_4 nin0
  replace F2 := F2.keep K_4 nin0
  replace T := T.keep K_4 nin0 nin0
  have Fqc := D_8 (Or.inl (wI hw 86 rfl)) (ty := .byte) (by decide)
  have Fqv := D_8 (Or.inl (wI hw 84 rfl)) (ty := (.array .byte)) (by decide)
  have Fqn := D_8 (Or.inl (wI hw 108 rfl)) (ty := .int) (by decide)
  refine Road.dup 3 bOts_d3 ?_
  refine Road.callI (B' := bSbI) (a := q) 4 (argsL := []) (rest := [(.ref q)]) 1 bOts_d4 (wI hw 72 rfl) (wI hw 73 rfl) (wI hw 71 rfl) (wI hw 74 rfl) rfl rfl (by decide) (cSbI l Z a0 hw n0 hEW q h_1 σ_2 Eq Fqc Fqv Fqn s_7 cp Hc hcp) (lenOf bSbI_pd rfl) rfl rfl rfl (by decide) (by decide) (ce' := 2) (sl' := 20) rfl rfl (by decide) (by decide) ?_
  rintro _ h_10 σ_11 m_12 ⟨rfl, K_13, qb, qS, qg, qs, qE⟩
  have gk_qb := Nat.le_trans KT.1 qg
  have ne_o_qb : o ≠ qb := Nat.ne_of_lt (Nat.lt_of_lt_of_le F1.lt qg)
  have ne_f_qb : f ≠ qb := Nat.ne_of_lt (Nat.lt_of_lt_of_le T.lt qg)
  have ne_fd_qb : fd ≠ qb := Nat.ne_of_lt (Nat.lt_of_lt_of_le T.ltb qg)
  replace KT := KT.trans K_13 (by intro z hz; simp only [List.mem_cons, List.not_mem_nil, or_false] at hz; rcases hz with rfl <;> first | (exact Or.inr (by assumption)) | (simp; done))
  replace F1 := F1.keep K_13 (ninS ne_o_q nin0)
  replace F2 := F2.keep K_13 (ninS ne_o_q nin0)
  replace T := T.keep K_13 (ninS ne_f_q nin0) (ninS ne_fd_q nin0)
  replace s_7 := m_12 _ s_7
  refine Road.aloadN 7 bOts_d7 rfl ?_
  refine Road.getfield 8 bOts_d8 (wI hw 60 rfl) Via.refl F1 ?_
  have lt_o_qb1 := F1.lt
  have lt_f_qb1 := T.lt
  have lt_fd_qb1 := T.ltb
  have kt_qb1 := KT.1
  refine Road.callV (B' := bSpX) (a := q) 11 (argsL := [(.ref f)]) (rest := []) "java/lang/StringBuilder" 0 bOts_d11 (wI hw 87 rfl) (wI hw 88 rfl) (fun vm hz => Road.notFace_sib (args := #[]) (mv (s := D.s.setVm vm) hz (wI hw 90 rfl)) rfl) (wI hw 90 rfl) (wI hw 89 rfl) (wI hw 71 rfl) (wI hw 91 rfl) (by decide) qS.1 (cSpX l Z a0 hw n0 hEW q qb ([] : List Int32) 16 f fd fs h_10 σ_11 qS qE T (Or.inl (by simp only [List.length_append, List.length_cons, List.length_nil]; omega)) (Ne.symm (Ne.symm ne_f_q)) (Ne.symm (Ne.symm ne_fd_q)) qs s_7 cp Hc hcp) (lenOf bSpX_pd rfl) rfl rfl rfl (by decide) (by decide) (ce' := 3) (sl' := 68) rfl rfl (by decide) (by decide) ?_
  rintro _ h_15 σ_16 m_17 ⟨rfl, K_18, qb1, Nq1, qS1, qg1, hNq1, qs1, qE1⟩
  replace KT := KT.trans K_18 (by intro z hz; simp only [List.mem_cons, List.not_mem_nil, or_false] at hz; rcases hz with rfl | rfl <;> first | (exact Or.inr (by assumption)) | (simp; done))
  replace F1 := F1.keep K_18 (ninS ne_o_q (ninS ne_o_qb nin0))
  replace F2 := F2.keep K_18 (ninS ne_o_q (ninS ne_o_qb nin0))
  replace T := T.keep K_18 (ninS ne_f_q (ninS ne_f_qb nin0)) (ninS ne_fd_q (ninS ne_fd_qb nin0))
  replace s_7 := m_17 _ s_7
  replace qs := m_17 _ qs
  have ne_o_qb1 : o ≠ qb1 := by rcases qg1 with gz | gz; rw [gz]; exact ne_o_qb; exact Nat.ne_of_lt (Nat.lt_of_lt_of_le lt_o_qb1 gz)
  have ne_f_qb1 : f ≠ qb1 := by rcases qg1 with gz | gz; rw [gz]; exact ne_f_qb; exact Nat.ne_of_lt (Nat.lt_of_lt_of_le lt_f_qb1 gz)
  have ne_fd_qb1 : fd ≠ qb1 := by rcases qg1 with gz | gz; rw [gz]; exact ne_fd_qb; exact Nat.ne_of_lt (Nat.lt_of_lt_of_le lt_fd_qb1 gz)
  have gk_qb1 : h0.size ≤ qb1 := by rcases qg1 with gz | gz; rw [gz]; exact gk_qb; exact Nat.le_trans kt_qb1 gz
  obtain rfl : Nq1 = 16 := by simp only [List.length_append, List.length_cons, List.length_nil] at hNq1; omega
  refine Road.ldcS 14 ":" [(58 : Int32)] 4 bOts_d14 (wI hw 172 rfl) wS (List.mem_of_getElem? (i := 1) rfl) (by decide) (by decide +kernel) (by decide) (by decide) (by decide) (ce' := 5) (sl' := 76) rfl rfl (by decide) (by decide) ?_
  intro a1 b1 h_21 σ_22 K_23 m_24 S1 q_25
  replace KT := KT.trans K_23 (by simp)
  replace F1 := F1.keep K_23 nin0
  replace F2 := F2.keep K_23 nin0
  replace T := T.keep K_23 nin0 nin0
  replace qS1 := qS1.keep K_23 nin0 nin0
  replace qE1 := qE1.keep K_23
  replace s_7 := m_24 _ s_7
  replace qs1 := m_24 _ qs1
  have ne_q_a1 : q ≠ a1 := (q_25 q s_7).1
  have ne_q_b1 : q ≠ b1 := (q_25 q s_7).2
  have ne_qb1_a1 : qb1 ≠ a1 := (q_25 qb1 qs1).1
  have ne_qb1_b1 : qb1 ≠ b1 := (q_25 qb1 qs1).2
  have lt_o_qb2 := F1.lt
  have lt_f_qb2 := T.lt
  have lt_fd_qb2 := T.ltb
  have lt_a1_qb2 := S1.lt
  have lt_b1_qb2 := S1.ltb
  have kt_qb2 := KT.1
  refine Road.callV (B' := bSpX) (a := q) 16 (argsL := [(.ref a1)]) (rest := []) "java/lang/StringBuilder" 0 bOts_d16 (wI hw 87 rfl) (wI hw 88 rfl) (fun vm hz => Road.notFace_sib (args := #[]) (mv (s := D.s.setVm vm) hz (wI hw 90 rfl)) rfl) (wI hw 90 rfl) (wI hw 89 rfl) (wI hw 71 rfl) (wI hw 91 rfl) (by decide) qS1.1 (cSpX l Z a0 hw n0 hEW q qb1 (([] : List Int32) ++ fs) 16 a1 b1 [58] h_21 σ_22 qS1 qE1 S1 (Or.inl (by simp only [List.length_append, List.length_cons, List.length_nil]; omega)) (Ne.symm ne_q_a1) (Ne.symm ne_q_b1) qs1 s_7 cp Hc hcp) (lenOf bSpX_pd rfl) rfl rfl rfl (by decide) (by decide) (ce' := 6) (sl' := 124) rfl rfl (by decide) (by decide) ?_
  rintro _ h_27 σ_28 m_29 ⟨rfl, K_30, qb2, Nq2, qS2, qg2, hNq2, qs2, qE2⟩
  replace KT := KT.trans K_30 (by intro z hz; simp only [List.mem_cons, List.not_mem_nil, or_false] at hz; rcases hz with rfl | rfl <;> first | (exact Or.inr (by assumption)) | (simp; done))
  replace F1 := F1.keep K_30 (ninS ne_o_q (ninS ne_o_qb1 nin0))
  replace F2 := F2.keep K_30 (ninS ne_o_q (ninS ne_o_qb1 nin0))
  replace T := T.keep K_30 (ninS ne_f_q (ninS ne_f_qb1 nin0)) (ninS ne_fd_q (ninS ne_fd_qb1 nin0))
  replace S1 := S1.keep K_30 (ninS (Ne.symm ne_q_a1) (ninS (Ne.symm ne_qb1_a1) nin0)) (ninS (Ne.symm ne_q_b1) (ninS (Ne.symm ne_qb1_b1) nin0))
  replace s_7 := m_29 _ s_7
  replace qs1 := m_29 _ qs1
  have ne_o_qb2 : o ≠ qb2 := by rcases qg2 with gz | gz; rw [gz]; exact ne_o_qb1; exact Nat.ne_of_lt (Nat.lt_of_lt_of_le lt_o_qb2 gz)
  have ne_f_qb2 : f ≠ qb2 := by rcases qg2 with gz | gz; rw [gz]; exact ne_f_qb1; exact Nat.ne_of_lt (Nat.lt_of_lt_of_le lt_f_qb2 gz)
  have ne_fd_qb2 : fd ≠ qb2 := by rcases qg2 with gz | gz; rw [gz]; exact ne_fd_qb1; exact Nat.ne_of_lt (Nat.lt_of_lt_of_le lt_fd_qb2 gz)
  have ne_a1_qb2 : a1 ≠ qb2 := by rcases qg2 with gz | gz; rw [gz]; exact (Ne.symm ne_qb1_a1); exact Nat.ne_of_lt (Nat.lt_of_lt_of_le lt_a1_qb2 gz)
  have ne_b1_qb2 : b1 ≠ qb2 := by rcases qg2 with gz | gz; rw [gz]; exact (Ne.symm ne_qb1_b1); exact Nat.ne_of_lt (Nat.lt_of_lt_of_le lt_b1_qb2 gz)
  have gk_qb2 : h0.size ≤ qb2 := by rcases qg2 with gz | gz; rw [gz]; exact gk_qb1; exact Nat.le_trans kt_qb2 gz
  obtain rfl : Nq2 = 16 := by simp only [List.length_append, List.length_cons, List.length_nil] at hNq2; omega
  refine Road.aloadN 19 bOts_d19 rfl ?_
  refine Road.getfield 20 bOts_d20 (wI hw 62 rfl) Via.refl F2 ?_
  refine Road.callV (B' := bSi0) (a := q) 23 (argsL := [(.int x)]) (rest := []) "java/lang/StringBuilder" 0 bOts_d23 (wI hw 173 rfl) (wI hw 174 rfl) (fun vm hz => Road.notFace_sib (args := #[]) (mv (s := D.s.setVm vm) hz (wI hw 90 rfl)) rfl) (wI hw 176 rfl) (wI hw 175 rfl) (wI hw 71 rfl) (wI hw 177 rfl) (by decide) qS2.1 (cSi0 l Z a0 hw n0 hEW q qb2 ((([] : List Int32) ++ fs) ++ [58]) 16 x h_27 σ_28 qS2 (by simp only [List.length_append, List.length_cons, List.length_nil]; omega) qs2 s_7 cp Hc hcp o1 o2 HO AO HT AT) (lenOf bSi0_pd rfl) rfl rfl rfl (by decide) (by decide) (ce' := 6) (sl' := 124) rfl rfl (by decide) (by decide) ?_
  rintro _ h_33 σ_34 m_35 ⟨rfl, K_36, qS2⟩
  replace KT := KT.trans K_36 (by intro z hz; simp only [List.mem_cons, List.not_mem_nil, or_false] at hz; rcases hz with rfl | rfl <;> first | (exact Or.inr (by assumption)) | (simp; done))
  replace F1 := F1.keep K_36 (ninS ne_o_q (ninS ne_o_qb2 nin0))
  replace F2 := F2.keep K_36 (ninS ne_o_q (ninS ne_o_qb2 nin0))
  replace T := T.keep K_36 (ninS ne_f_q (ninS ne_f_qb2 nin0)) (ninS ne_fd_q (ninS ne_fd_qb2 nin0))
  replace S1 := S1.keep K_36 (ninS (Ne.symm ne_q_a1) (ninS ne_a1_qb2 nin0)) (ninS (Ne.symm ne_q_b1) (ninS ne_b1_qb2 nin0))
  replace qE2 := qE2.keep K_36
  replace s_7 := m_35 _ s_7
  replace qs2 := m_35 _ qs2
  have ksz := KT.1
  refine Road.callV (B' := bXoS) (a := q) 26 (argsL := []) (rest := []) "java/lang/StringBuilder" 0 bOts_d26 (wI hw 195 rfl) (wI hw 196 rfl) (fun vm hz => Road.notFace_sib (args := #[]) (mv (s := D.s.setVm vm) hz (wI hw 90 rfl)) rfl) (wI hw 198 rfl) (wI hw 197 rfl) (wI hw 71 rfl) (wI hw 199 rfl) (by decide) qS2.1 (cXoS l Z a0 hw n0 hEW q qb2 (((([] : List Int32) ++ fs) ++ [58]) ++ Road.dec x) 16 h_33 σ_34 qS2 qE2 (by simp only [List.length_append, List.length_cons, List.length_nil]; omega) cp Hc hcp) (lenOf bXoS_pd rfl) rfl rfl rfl (by decide) (by decide) (ce' := 8) (sl' := 176) rfl rfl (by decide) (by decide) ?_
  rintro _ h_39 σ_40 m_41 ⟨a, d, rfl, ga, gd, K_42, M⟩
  have gk_a := Nat.le_trans KT.1 ga
  have gk_d := Nat.le_trans KT.1 gd
  replace KT := KT.trans K_42 (by simp)
  replace s_7 := m_41 _ s_7
  replace qs2 := m_41 _ qs2
  exact Road.aret 29 bOts_d29 (t := (.object "java/lang/String")) rfl rfl rfl (by decide) (by decide) (fun σ' m => ⟨a, d, rfl, Nat.le_trans ksz ga, Nat.le_trans ksz gd, KT, M⟩)
def bVob : Road.Bdy := (⟨"java/lang/String", "valueOf", "(Ljava/lang/Object;)Ljava/lang/String;"⟩, jdk_42_method_133_code, 1, (some (.object "java/lang/String")), { frames := 7, cells := 8, slots := 176, locals := 107 })
theorem bVob_d0 : decode bVob.bs 0 = .ok (.aload_n 0, 1) := by decide +kernel
theorem bVob_d1 : decode bVob.bs 1 = .ok (.ifnonnull 9, 3) := by decide +kernel
theorem bVob_d4 : decode bVob.bs 4 = .ok (.ldc_w 1005, 3) := by decide +kernel
theorem bVob_d7 : decode bVob.bs 7 = .ok (.goto 7, 3) := by decide +kernel
theorem bVob_d10 : decode bVob.bs 10 = .ok (.aload_n 0, 1) := by decide +kernel
theorem bVob_d11 : decode bVob.bs 11 = .ok (.invokevirtual 1007, 3) := by decide +kernel
theorem bVob_d14 : decode bVob.bs 14 = .ok (.areturn, 1) := by decide +kernel
theorem bVob_pd : parseMethodDescriptor "(Ljava/lang/Object;)Ljava/lang/String;" = some ⟨[(.object "java/lang/Object")], (some (.object "java/lang/String"))⟩ := by decide +kernel
theorem bVob_pn : plainFor bVob.y = true := plainFor_of_name (show plainName "java/lang/String" = true from by first | (simp [plainName, overriddenIn]; done) | decide +kernel)
theorem cVob (l : Launch) (Z : State) (a0 : Array Value) (hw : ∀ d ∈ tables_1, d.before a0 Z = true) (n0 : Nat) (hEW : EW Z a0 consts_1) (o f fd : Addr) (fs : List Int32) (x : Int32) (h0 : Heap) (σ : Addr → Prop) (Eo : Exa Z h0 o "com/example/gridtally/gridtally/engine/Origin") (F1 : Fld Z h0 o "com/example/gridtally/gridtally/engine/Origin" "file" "Ljava/lang/String;" (.ref f)) (F2 : Fld Z h0 o "com/example/gridtally/gridtally/engine/Origin" "line" "I" (.int x)) (T : Road.Str Z h0 f fd fs) (hfs : fs.length ≤ 1) (cp : Int32) (Hc : Sta Z Z.heap Road.SN "COMPACT_STRINGS" "Z" (.int cp)) (hcp : ¬ cp = 0) (o1 o2 : Addr) (HO : Sta Z Z.heap "java/lang/Integer" "DigitOnes" "[B" (.ref o1)) (AO : Road.Ary Z Z.heap o1 .byte Road.OnesL) (HT : Sta Z Z.heap "java/lang/Integer" "DigitTens" "[B" (.ref o2)) (AT : Road.Ary Z Z.heap o2 .byte Road.TensL) :
    Road.Con l Z consts_1 n0 true bVob [] σ #[(.ref o)] h0 (fun v h2 s2 => ∃ a d, v = some (.ref a) ∧ h0.size ≤ a ∧ h0.size ≤ d ∧ Keep h0 h2 [] ∧ Road.Str Z h2 a d (fs ++ [58] ++ Road.dec x)) := by
  refine Road.Con.of bVob_pn hEW #[.val (.ref o)] (fun m => Road.ent (Road.laid1 rfl Road.laid0) (k := 0) rfl rfl) ?_
  intro D hD
  refine Road.aloadN 0 bVob_d0 rfl ?_
  refine Road.ifnonnull 1 10 rfl bVob_d1 rfl (fun hc1 => ?_) (fun q => absurd q (by simp))
  refine Road.aloadN 10 bVob_d10 rfl ?_
  refine Road.callV (B' := bOts) (a := o) 11 (argsL := []) (rest := []) "com/example/gridtally/gridtally/engine/Origin" 0 bVob_d11 (wI hw 166 rfl) (wI hw 167 rfl) (fun vm hz => Road.notFace_sib (args := #[]) (mv (s := D.s.setVm vm) hz (wI hw 341 rfl)) rfl) (wI hw 169 rfl) (wI hw 170 rfl) (wI hw 50 rfl) (wI hw 171 rfl) (by decide) Eo (cOts l Z a0 hw n0 hEW o f fd fs x h0 σ Eo F1 F2 T hfs cp Hc hcp o1 o2 HO AO HT AT) (lenOf bOts_pd rfl) rfl rfl rfl (by decide) (by decide) (ce' := 8) (sl' := 176) rfl rfl (by decide) (by decide) ?_
  rintro _ h_1 σ_2 m_3 ⟨a, d, rfl, ga, gd, K_4, M⟩
  exact Road.aret 14 bVob_d14 (t := (.object "java/lang/String")) rfl rfl rfl (by decide) (by decide) (fun σ' m => ⟨a, d, rfl, ga, gd, K_4, M⟩)
def bSbO : Road.Bdy := (⟨"java/lang/StringBuilder", "append", "(Ljava/lang/Object;)Ljava/lang/StringBuilder;"⟩, jdk_67_method_6_code, 2, (some (.object "java/lang/StringBuilder")), { frames := 8, cells := 9, slots := 224, locals := 120 })
theorem bSbO_d0 : decode bSbO.bs 0 = .ok (.aload_n 0, 1) := by decide +kernel
theorem bSbO_d1 : decode bSbO.bs 1 = .ok (.aload_n 1, 1) := by decide +kernel
theorem bSbO_d2 : decode bSbO.bs 2 = .ok (.invokestatic 17, 3) := by decide +kernel
theorem bSbO_d5 : decode bSbO.bs 5 = .ok (.invokevirtual 23, 3) := by decide +kernel
theorem bSbO_d8 : decode bSbO.bs 8 = .ok (.areturn, 1) := by decide +kernel
theorem bSbO_pd : parseMethodDescriptor "(Ljava/lang/Object;)Ljava/lang/StringBuilder;" = some ⟨[(.object "java/lang/Object")], (some (.object "java/lang/StringBuilder"))⟩ := by decide +kernel
theorem bSbO_pn : plainFor bSbO.y = true := plainFor_of_name (show plainName "java/lang/StringBuilder" = true from by first | (simp [plainName, overriddenIn]; done) | decide +kernel)
theorem cSbO (l : Launch) (Z : State) (a0 : Array Value) (hw : ∀ d ∈ tables_1, d.before a0 Z = true) (n0 : Nat) (hEW : EW Z a0 consts_1) (q b : Addr) (cs : List Int32) (N : Nat) (o f fd : Addr) (fs : List Int32) (x : Int32) (h0 : Heap) (σ : Addr → Prop) (S : Road.Sb Z h0 q b cs N) (EB : Exa Z h0 b "[B") (hcap : cs.length + (fs ++ [58] ++ Road.dec x).length ≤ N ∨ max (cs.length + (fs ++ [58] ++ Road.dec x).length) (2 * N + 2) ≤ 48) (sb_ : σ b) (sq : σ q) (Eo : Exa Z h0 o "com/example/gridtally/gridtally/engine/Origin") (F1 : Fld Z h0 o "com/example/gridtally/gridtally/engine/Origin" "file" "Ljava/lang/String;" (.ref f)) (F2 : Fld Z h0 o "com/example/gridtally/gridtally/engine/Origin" "line" "I" (.int x)) (T : Road.Str Z h0 f fd fs) (hfs : fs.length ≤ 1) (cp : Int32) (Hc : Sta Z Z.heap Road.SN "COMPACT_STRINGS" "Z" (.int cp)) (hcp : ¬ cp = 0) (o1 o2 : Addr) (HO : Sta Z Z.heap "java/lang/Integer" "DigitOnes" "[B" (.ref o1)) (AO : Road.Ary Z Z.heap o1 .byte Road.OnesL) (HT : Sta Z Z.heap "java/lang/Integer" "DigitTens" "[B" (.ref o2)) (AT : Road.Ary Z Z.heap o2 .byte Road.TensL) :
    Road.Con l Z consts_1 n0 true bSbO [] σ #[(.ref q), (.ref o)] h0 (fun v h2 s2 => v = some (.ref q) ∧ Keep h0 h2 [q, b] ∧ ∃ d N', Road.Sb Z h2 q d (cs ++ (fs ++ [58] ++ Road.dec x)) N' ∧ (d = b ∨ h0.size ≤ d) ∧ s2 d ∧ Exa Z h2 d "[B") := by
  have hqs := S.lt
  refine Road.Con.of bSbO_pn hEW #[.val (.ref q), .val (.ref o)] (fun m => Road.ent (Road.laid1 rfl (Road.laid1 rfl Road.laid0)) (k := 0) rfl rfl) ?_
  intro D hD
  refine Road.aloadN 0 bSbO_d0 rfl ?_
  refine Road.aloadN 1 bSbO_d1 rfl ?_
  refine Road.callS (B' := bVob) 2 (argsL := [(.ref o)]) (rest := [(.ref q)]) 1 bSbO_d2 (wI hw 163 rfl) (wI hw 164 rfl) (wI hw 2 rfl) (wI hw 165 rfl) (by decide) (cVob l Z a0 hw n0 hEW o f fd fs x h0 σ Eo F1 F2 T hfs cp Hc hcp o1 o2 HO AO HT AT) (lenOf bVob_pd rfl) rfl rfl rfl (by decide) (by decide) (ce' := 8) (sl' := 176) rfl rfl (by decide) (by decide) ?_
  rintro _ h_1 σ_2 m_3 ⟨a, e, rfl, ga, ge, K_4, M⟩
  have ne_q_a : q ≠ a := Nat.ne_of_lt (Nat.lt_of_lt_of_le S.lt ga)
  have ne_b_a : b ≠ a := Nat.ne_of_lt (Nat.lt_of_lt_of_le S.ltb ga)
  have ne_q_e : q ≠ e := Nat.ne_of_lt (Nat.lt_of_lt_of_le S.lt ge)
  have ne_b_e : b ≠ e := Nat.ne_of_lt (Nat.lt_of_lt_of_le S.ltb ge)
  replace S := S.keep K_4 nin0 nin0
  replace EB := EB.keep K_4
  replace sb_ := m_3 _ sb_
  replace sq := m_3 _ sq
  refine Road.callV (B' := bSpX) (a := q) 5 (argsL := [(.ref a)]) (rest := []) "java/lang/StringBuilder" 0 bSbO_d5 (wI hw 230 rfl) (wI hw 88 rfl) (fun vm hz => Road.notFace_sib (args := #[]) (mv (s := D.s.setVm vm) hz (wI hw 90 rfl)) rfl) (wI hw 90 rfl) (wI hw 89 rfl) (wI hw 71 rfl) (wI hw 91 rfl) (by decide) S.1 (cSpX l Z a0 hw n0 hEW q b cs N a e (fs ++ [58] ++ Road.dec x) h_1 σ_2 S EB M hcap (Ne.symm ne_q_a) (Ne.symm ne_q_e) sb_ sq cp Hc hcp) (lenOf bSpX_pd rfl) rfl rfl rfl (by decide) (by decide) (ce' := 9) (sl' := 224) rfl rfl (by decide) (by decide) ?_
  rintro _ h_7 σ_8 m_9 ⟨rfl, K_10, d, N', S2, gd, -, sd, ED⟩
  replace sb_ := m_9 _ sb_
  replace sq := m_9 _ sq
  exact Road.aret 8 bSbO_d8 (t := (.object "java/lang/StringBuilder")) rfl rfl rfl (by decide) (by decide) (fun σ' m => ⟨rfl, (Road.keep_more K_4).trans K_10 (by simp), d, N', S2, gd.imp id (fun z => Nat.le_trans K_4.1 z), m _ sd, ED⟩)
def bRf2 : Road.Bdy := (⟨"com/example/gridtally/gridtally/engine/Origin", "refuseSecond", "(Ljava/lang/String;Lcom/example/gridtally/gridtally/engine/Origin;)Lcom/example/gridtally/gridtally/engine/RefusedInputException;"⟩, prog_5_method_3_code, 3, (some (.object "com/example/gridtally/gridtally/engine/RefusedInputException")), { frames := 9, cells := 31, slots := 3510, locals := 134 })
theorem bRf2_d0 : decode bRf2.bs 0 = .ok (.aload_n 0, 1) := by decide +kernel
theorem bRf2_d1 : decode bRf2.bs 1 = .ok (.new 22, 3) := by decide +kernel
theorem bRf2_d4 : decode bRf2.bs 4 = .ok (.dup, 1) := by decide +kernel
theorem bRf2_d5 : decode bRf2.bs 5 = .ok (.invokespecial 24, 3) := by decide +kernel
theorem bRf2_d8 : decode bRf2.bs 8 = .ok (.aload_n 1, 1) := by decide +kernel
theorem bRf2_d9 : decode bRf2.bs 9 = .ok (.invokevirtual 25, 3) := by decide +kernel
theorem bRf2_d12 : decode bRf2.bs 12 = .ok (.ldc 29, 2) := by decide +kernel
theorem bRf2_d14 : decode bRf2.bs 14 = .ok (.invokevirtual 25, 3) := by decide +kernel
theorem bRf2_d17 : decode bRf2.bs 17 = .ok (.aload_n 2, 1) := by decide +kernel
theorem bRf2_d18 : decode bRf2.bs 18 = .ok (.invokevirtual 31, 3) := by decide +kernel
theorem bRf2_d21 : decode bRf2.bs 21 = .ok (.invokevirtual 34, 3) := by decide +kernel
theorem bRf2_d24 : decode bRf2.bs 24 = .ok (.invokevirtual 38, 3) := by decide +kernel
theorem bRf2_d27 : decode bRf2.bs 27 = .ok (.areturn, 1) := by decide +kernel
theorem bRf2_pd : parseMethodDescriptor "(Ljava/lang/String;Lcom/example/gridtally/gridtally/engine/Origin;)Lcom/example/gridtally/gridtally/engine/RefusedInputException;" = some ⟨[(.object "java/lang/String"), (.object "com/example/gridtally/gridtally/engine/Origin")], (some (.object "com/example/gridtally/gridtally/engine/RefusedInputException"))⟩ := by decide +kernel
theorem bRf2_pn : plainFor bRf2.y = true := plainFor_of_name (show plainName "com/example/gridtally/gridtally/engine/Origin" = true from by first | (simp [plainName, overriddenIn]; done) | decide +kernel)
theorem cRf2 (l : Launch) (Z : State) (a0 : Array Value) (hw : ∀ d ∈ tables_1, d.before a0 Z = true) (n0 : Nat) (hEW : EW Z a0 consts_1) (og s sd r rd : Addr) (cs ws : List Int32) (y : Int32) (o f fd : Addr) (fs : List Int32) (x : Int32) (h0 : Heap) (σ : Addr → Prop) (E1 : Exa Z h0 og "com/example/gridtally/gridtally/engine/Origin") (G1 : Fld Z h0 og "com/example/gridtally/gridtally/engine/Origin" "file" "Ljava/lang/String;" (.ref s)) (G2 : Fld Z h0 og "com/example/gridtally/gridtally/engine/Origin" "line" "I" (.int y)) (T1 : Road.Str Z h0 s sd cs) (U : Road.Str Z h0 r rd ws) (hcs : cs.length ≤ 1) (hws : ws.length ≤ 2) (hl : l.stackTraces = true) (us : Addr) (Su : Sta Z Z.heap "java/lang/Throwable" "UNASSIGNED_STACK" "[Ljava/lang/StackTraceElement;" (.ref us)) (sp : Value) (hsp : sp.isRef = true) (Sp : Sta Z Z.heap "java/lang/Throwable" "SUPPRESSED_SENTINEL" "Ljava/util/List;" sp) (Eo : Exa Z h0 o "com/example/gridtally/gridtally/engine/Origin") (F1 : Fld Z h0 o "com/example/gridtally/gridtally/engine/Origin" "file" "Ljava/lang/String;" (.ref f)) (F2 : Fld Z h0 o "com/example/gridtally/gridtally/engine/Origin" "line" "I" (.int x)) (T : Road.Str Z h0 f fd fs) (hfs : fs.length ≤ 1) (cp : Int32) (Hc : Sta Z Z.heap Road.SN "COMPACT_STRINGS" "Z" (.int cp)) (hcp : ¬ cp = 0) (o1 o2 : Addr) (HO : Sta Z Z.heap "java/lang/Integer" "DigitOnes" "[B" (.ref o1)) (AO : Road.Ary Z Z.heap o1 .byte Road.OnesL) (HT : Sta Z Z.heap "java/lang/Integer" "DigitTens" "[B" (.ref o2)) (AT : Road.Ary Z Z.heap o2 .byte Road.TensL) :
    Road.Con l Z consts_1 n0 true bRf2 [] σ #[(.ref og), (.ref r), (.ref o)] h0 (fun v h2 _ => ∃ a m d, v = some (.ref a) ∧ Exa Z h2 a "com/example/gridtally/gridtally/engine/RefusedInputException" ∧ Keep h0 h2 [] ∧ Fld Z h2 a "java/lang/Throwable" "detailMessage" "Ljava/lang/String;" (.ref m) ∧ Road.Str Z h2 m d (cs ++ [58] ++ Road.dec y ++ [58, 32] ++ (([] : List Int32) ++ ws ++ ([59, 32, 116, 104, 101, 32, 102, 105, 114, 115, 116, 32, 105, 115, 32, 97, 116, 32] : List Int32) ++ (fs ++ [58] ++ Road.dec x)))) := by
  have wS : ∀ d ∈ Bundle.stringAtoms, d.before a0 Z = true := fun d hd => hw d ((by decide +kernel : ∀ d ∈ Bundle.stringAtoms, d ∈ tables_1) d hd)
  have hdl := Road.dec_le x
  refine Road.Con.of bRf2_pn hEW #[.val (.ref og), .val (.ref r), .val (.ref o)] (fun m => Road.ent (Road.laid1 rfl (Road.laid1 rfl (Road.laid1 rfl Road.laid0))) (k := 0) rfl rfl) ?_
  intro D hD
  have KT := Keep.refl h0 ([] : List Addr)
  refine Road.aloadN 0 bRf2_d0 rfl ?_
  refine Road.new 1 "java/lang/StringBuilder" bRf2_d1 (wI hw 69 rfl) (wI hw 70 rfl) (wI hw 71 rfl) (ce' := 1) (sl' := 4) rfl rfl (by decide) (by decide) ?_
  intro q h_1 σ_2 g_3 K_4 lt_5 m_6 s_7 Eq D_8 M_9
  have gk_q := Nat.le_trans KT.1 (Nat.le_of_eq g_3.symm)
  have ne_og_q : og ≠ q := Nat.ne_of_lt (Nat.lt_of_lt_of_le E1.lt (Nat.le_of_eq g_3.symm))
  have ne_s_q : s ≠ q := Nat.ne_of_lt (Nat.lt_of_lt_of_le T1.lt (Nat.le_of_eq g_3.symm))
  have ne_sd_q : sd ≠ q := Nat.ne_of_lt (Nat.lt_of_lt_of_le T1.ltb (Nat.le_of_eq g_3.symm))
  have ne_r_q : r ≠ q := Nat.ne_of_lt (Nat.lt_of_lt_of_le U.lt (Nat.le_of_eq g_3.symm))
  have ne_rd_q : rd ≠ q := Nat.ne_of_lt (Nat.lt_of_lt_of_le U.ltb (Nat.le_of_eq g_3.symm))
  have ne_o_q : o ≠ q := Nat.ne_of_lt (Nat.lt_of_lt_of_le Eo.lt (Nat.le_of_eq g_3.symm))
  have ne_f_q : f ≠ q := Nat.ne_of_lt (Nat.lt_of_lt_of_le T.lt (Nat.le_of_eq g_3.symm))
  have ne_fd_q : fd ≠ q := Nat.ne_of_lt (Nat.lt_of_lt_of_le T.ltb (Nat.le_of_eq g_3.symm))
  replace KT := KT.trans K_4 (by simp)
  replace E1 := E1.keep K_4
  replace G1 := G1.keep K_4 nin0
  replace G2 := G2.keep K_4 nin0
  replace T1 := T1.keep K_4 nin0 nin0
  replace U := U.keep K_4 nin0 nin0
  replace Eo := Eo.keep K_4
  replace F1 := F1.keep K_4 nin0
  replace F2 := F2.keep K_4 nin0
  replace T := T.keep K_4 nin0 nin0
  have Fqc := D_8 (Or.inl (wI hw 86 rfl)) (ty := .byte) (by decide)
  have Fqv := D_8 (Or.inl (wI hw 84 rfl)) (ty := (.array .byte)) (by decide)
  have Fqn := D_8 (Or.inl (wI hw 108 rfl)) (ty := .int) (by decide)
  refine Road.dup 4 bRf2_d4 ?_
  refine Road.callI (B' := bSbI) (a := q) 5 (argsL := []) (rest := [(.ref q), (.ref og)]) 2 bRf2_d5 (wI hw 72 rfl) (wI hw 73 rfl) (wI hw 71 rfl) (wI hw 74 rfl) rfl rfl (by decide) (cSbI l Z a0 hw n0 hEW q h_1 σ_2 Eq Fqc Fqv Fqn s_7 cp Hc hcp) (lenOf bSbI_pd rfl) rfl rfl rfl (by decide) (by decide) (ce' := 2) (sl' := 20) rfl rfl (by decide) (by decide) ?_
  rintro _ h_10 σ_11 m_12 ⟨rfl, K_13, qb, qS, qg, qs, qE⟩
  have gk_qb := Nat.le_trans KT.1 qg
  have ne_og_qb : og ≠ qb := Nat.ne_of_lt (Nat.lt_of_lt_of_le E1.lt qg)
  have ne_s_qb : s ≠ qb := Nat.ne_of_lt (Nat.lt_of_lt_of_le T1.lt qg)
  have ne_sd_qb : sd ≠ qb := Nat.ne_of_lt (Nat.lt_of_lt_of_le T1.ltb qg)
  have ne_r_qb : r ≠ qb := Nat.ne_of_lt (Nat.lt_of_lt_of_le U.lt qg)
  have ne_rd_qb : rd ≠ qb := Nat.ne_of_lt (Nat.lt_of_lt_of_le U.ltb qg)
  have ne_o_qb : o ≠ qb := Nat.ne_of_lt (Nat.lt_of_lt_of_le Eo.lt qg)
  have ne_f_qb : f ≠ qb := Nat.ne_of_lt (Nat.lt_of_lt_of_le T.lt qg)
  have ne_fd_qb : fd ≠ qb := Nat.ne_of_lt (Nat.lt_of_lt_of_le T.ltb qg)
  replace KT := KT.trans K_13 (by intro z hz; simp only [List.mem_cons, List.not_mem_nil, or_false] at hz; rcases hz with rfl <;> first | (exact Or.inr (by assumption)) | (simp; done))
  replace E1 := E1.keep K_13
  replace G1 := G1.keep K_13 (ninS ne_og_q nin0)
  replace G2 := G2.keep K_13 (ninS ne_og_q nin0)
  replace T1 := T1.keep K_13 (ninS ne_s_q nin0) (ninS ne_sd_q nin0)
  replace U := U.keep K_13 (ninS ne_r_q nin0) (ninS ne_rd_q nin0)
  replace Eo := Eo.keep K_13
  replace F1 := F1.keep K_13 (ninS ne_o_q nin0)
  replace F2 := F2.keep K_13 (ninS ne_o_q nin0)
  replace T := T.keep K_13 (ninS ne_f_q nin0) (ninS ne_fd_q nin0)
  replace s_7 := m_12 _ s_7
  refine Road.aloadN 8 bRf2_d8 rfl ?_
  have lt_og_qb1 := E1.lt
  have lt_s_qb1 := T1.lt
  have lt_sd_qb1 := T1.ltb
  have lt_r_qb1 := U.lt
  have lt_rd_qb1 := U.ltb
  have lt_o_qb1 := Eo.lt
  have lt_f_qb1 := T.lt
  have lt_fd_qb1 := T.ltb
  have kt_qb1 := KT.1
  refine Road.callV (B' := bSpX) (a := q) 9 (argsL := [(.ref r)]) (rest := [(.ref og)]) "java/lang/StringBuilder" 1 bRf2_d9 (wI hw 87 rfl) (wI hw 88 rfl) (fun vm hz => Road.notFace_sib (args := #[]) (mv (s := D.s.setVm vm) hz (wI hw 90 rfl)) rfl) (wI hw 90 rfl) (wI hw 89 rfl) (wI hw 71 rfl) (wI hw 91 rfl) (by decide) qS.1 (cSpX l Z a0 hw n0 hEW q qb ([] : List Int32) 16 r rd ws h_10 σ_11 qS qE U (Or.inl (by simp only [List.length_append, List.length_cons, List.length_nil]; omega)) (Ne.symm (Ne.symm ne_r_q)) (Ne.symm (Ne.symm ne_rd_q)) qs s_7 cp Hc hcp) (lenOf bSpX_pd rfl) rfl rfl rfl (by decide) (by decide) (ce' := 3) (sl' := 68) rfl rfl (by decide) (by decide) ?_
  rintro _ h_15 σ_16 m_17 ⟨rfl, K_18, qb1, Nq1, qS1, qg1, hNq1, qs1, qE1⟩
  replace KT := KT.trans K_18 (by intro z hz; simp only [List.mem_cons, List.not_mem_nil, or_false] at hz; rcases hz with rfl | rfl <;> first | (exact Or.inr (by assumption)) | (simp; done))
  replace E1 := E1.keep K_18
  replace G1 := G1.keep K_18 (ninS ne_og_q (ninS ne_og_qb nin0))
  replace G2 := G2.keep K_18 (ninS ne_og_q (ninS ne_og_qb nin0))
  replace T1 := T1.keep K_18 (ninS ne_s_q (ninS ne_s_qb nin0)) (ninS ne_sd_q (ninS ne_sd_qb nin0))
  replace U := U.keep K_18 (ninS ne_r_q (ninS ne_r_qb nin0)) (ninS ne_rd_q (ninS ne_rd_qb nin0))
  replace Eo := Eo.keep K_18
  replace F1 := F1.keep K_18 (ninS ne_o_q (ninS ne_o_qb nin0))
  replace F2 := F2.keep K_18 (ninS ne_o_q (ninS ne_o_qb nin0))
  replace T := T.keep K_18 (ninS ne_f_q (ninS ne_f_qb nin0)) (ninS ne_fd_q (ninS ne_fd_qb nin0))
  replace s_7 := m_17 _ s_7
  replace qs := m_17 _ qs
  have ne_og_qb1 : og ≠ qb1 := by rcases qg1 with gz | gz; rw [gz]; exact ne_og_qb; exact Nat.ne_of_lt (Nat.lt_of_lt_of_le lt_og_qb1 gz)
  have ne_s_qb1 : s ≠ qb1 := by rcases qg1 with gz | gz; rw [gz]; exact ne_s_qb; exact Nat.ne_of_lt (Nat.lt_of_lt_of_le lt_s_qb1 gz)
  have ne_sd_qb1 : sd ≠ qb1 := by rcases qg1 with gz | gz; rw [gz]; exact ne_sd_qb; exact Nat.ne_of_lt (Nat.lt_of_lt_of_le lt_sd_qb1 gz)
  have ne_r_qb1 : r ≠ qb1 := by rcases qg1 with gz | gz; rw [gz]; exact ne_r_qb; exact Nat.ne_of_lt (Nat.lt_of_lt_of_le lt_r_qb1 gz)
  have ne_rd_qb1 : rd ≠ qb1 := by rcases qg1 with gz | gz; rw [gz]; exact ne_rd_qb; exact Nat.ne_of_lt (Nat.lt_of_lt_of_le lt_rd_qb1 gz)
  have ne_o_qb1 : o ≠ qb1 := by rcases qg1 with gz | gz; rw [gz]; exact ne_o_qb; exact Nat.ne_of_lt (Nat.lt_of_lt_of_le lt_o_qb1 gz)
  have ne_f_qb1 : f ≠ qb1 := by rcases qg1 with gz | gz; rw [gz]; exact ne_f_qb; exact Nat.ne_of_lt (Nat.lt_of_lt_of_le lt_f_qb1 gz)
  have ne_fd_qb1 : fd ≠ qb1 := by rcases qg1 with gz | gz; rw [gz]; exact ne_fd_qb; exact Nat.ne_of_lt (Nat.lt_of_lt_of_le lt_fd_qb1 gz)
  have gk_qb1 : h0.size ≤ qb1 := by rcases qg1 with gz | gz; rw [gz]; exact gk_qb; exact Nat.le_trans kt_qb1 gz
  obtain rfl : Nq1 = 16 := by simp only [List.length_append, List.length_cons, List.length_nil] at hNq1; omega
  refine Road.ldcS 12 "; the first is at " [(59 : Int32), (32 : Int32), (116 : Int32), (104 : Int32), (101 : Int32), (32 : Int32), (102 : Int32), (105 : Int32), (114 : Int32), (115 : Int32), (116 : Int32), (32 : Int32), (105 : Int32), (115 : Int32), (32 : Int32), (97 : Int32), (116 : Int32), (32 : Int32)] 72 bRf2_d12 (wI hw 134 rfl) wS (List.mem_of_getElem? (i := 0) rfl) (by decide) (by decide +kernel) (by decide) (by decide) (by decide) (ce' := 5) (sl' := 144) rfl rfl (by decide) (by decide) ?_
  intro a1 b1 h_21 σ_22 K_23 m_24 S1 q_25
  replace KT := KT.trans K_23 (by simp)
  replace E1 := E1.keep K_23
  replace G1 := G1.keep K_23 nin0
  replace G2 := G2.keep K_23 nin0
  replace T1 := T1.keep K_23 nin0 nin0
  replace U := U.keep K_23 nin0 nin0
  replace Eo := Eo.keep K_23
  replace F1 := F1.keep K_23 nin0
  replace F2 := F2.keep K_23 nin0
  replace T := T.keep K_23 nin0 nin0
  replace qS1 := qS1.keep K_23 nin0 nin0
  replace qE1 := qE1.keep K_23
  replace s_7 := m_24 _ s_7
  replace qs1 := m_24 _ qs1
  have ne_q_a1 : q ≠ a1 := (q_25 q s_7).1
  have ne_q_b1 : q ≠ b1 := (q_25 q s_7).2
  have ne_qb1_a1 : qb1 ≠ a1 := (q_25 qb1 qs1).1
  have ne_qb1_b1 : qb1 ≠ b1 := (q_25 qb1 qs1).2
  have lt_og_qb2 := E1.lt
  have lt_s_qb2 := T1.lt
  have lt_sd_qb2 := T1.ltb
  have lt_r_qb2 := U.lt
  have lt_rd_qb2 := U.ltb
  have lt_o_qb2 := Eo.lt
  have lt_f_qb2 := T.lt
  have lt_fd_qb2 := T.ltb
  have lt_a1_qb2 := S1.lt
  have lt_b1_qb2 := S1.ltb
  have kt_qb2 := KT.1
  refine Road.callV (B' := bSpX) (a := q) 14 (argsL := [(.ref a1)]) (rest := [(.ref og)]) "java/lang/StringBuilder" 1 bRf2_d14 (wI hw 87 rfl) (wI hw 88 rfl) (fun vm hz => Road.notFace_sib (args := #[]) (mv (s := D.s.setVm vm) hz (wI hw 90 rfl)) rfl) (wI hw 90 rfl) (wI hw 89 rfl) (wI hw 71 rfl) (wI hw 91 rfl) (by decide) qS1.1 (cSpX l Z a0 hw n0 hEW q qb1 (([] : List Int32) ++ ws) 16 a1 b1 ([59, 32, 116, 104, 101, 32, 102, 105, 114, 115, 116, 32, 105, 115, 32, 97, 116, 32] : List Int32) h_21 σ_22 qS1 qE1 S1 (Or.inr (by simp only [List.length_append, List.length_cons, List.length_nil]; omega)) (Ne.symm ne_q_a1) (Ne.symm ne_q_b1) qs1 s_7 cp Hc hcp) (lenOf bSpX_pd rfl) rfl rfl rfl (by decide) (by decide) (ce' := 6) (sl' := 192) rfl rfl (by decide) (by decide) ?_
  rintro _ h_27 σ_28 m_29 ⟨rfl, K_30, qb2, Nq2, qS2, qg2, hNq2, qs2, qE2⟩
  replace KT := KT.trans K_30 (by intro z hz; simp only [List.mem_cons, List.not_mem_nil, or_false] at hz; rcases hz with rfl | rfl <;> first | (exact Or.inr (by assumption)) | (simp; done))
  replace E1 := E1.keep K_30
  replace G1 := G1.keep K_30 (ninS ne_og_q (ninS ne_og_qb1 nin0))
  replace G2 := G2.keep K_30 (ninS ne_og_q (ninS ne_og_qb1 nin0))
  replace T1 := T1.keep K_30 (ninS ne_s_q (ninS ne_s_qb1 nin0)) (ninS ne_sd_q (ninS ne_sd_qb1 nin0))
  replace U := U.keep K_30 (ninS ne_r_q (ninS ne_r_qb1 nin0)) (ninS ne_rd_q (ninS ne_rd_qb1 nin0))
  replace Eo := Eo.keep K_30
  replace F1 := F1.keep K_30 (ninS ne_o_q (ninS ne_o_qb1 nin0))
  replace F2 := F2.keep K_30 (ninS ne_o_q (ninS ne_o_qb1 nin0))
  replace T := T.keep K_30 (ninS ne_f_q (ninS ne_f_qb1 nin0)) (ninS ne_fd_q (ninS ne_fd_qb1 nin0))
  replace S1 := S1.keep K_30 (ninS (Ne.symm ne_q_a1) (ninS (Ne.symm ne_qb1_a1) nin0)) (ninS (Ne.symm ne_q_b1) (ninS (Ne.symm ne_qb1_b1) nin0))
  replace s_7 := m_29 _ s_7
  replace qs1 := m_29 _ qs1
  have ne_og_qb2 : og ≠ qb2 := by rcases qg2 with gz | gz; rw [gz]; exact ne_og_qb1; exact Nat.ne_of_lt (Nat.lt_of_lt_of_le lt_og_qb2 gz)
  have ne_s_qb2 : s ≠ qb2 := by rcases qg2 with gz | gz; rw [gz]; exact ne_s_qb1; exact Nat.ne_of_lt (Nat.lt_of_lt_of_le lt_s_qb2 gz)
  have ne_sd_qb2 : sd ≠ qb2 := by rcases qg2 with gz | gz; rw [gz]; exact ne_sd_qb1; exact Nat.ne_of_lt (Nat.lt_of_lt_of_le lt_sd_qb2 gz)
  have ne_r_qb2 : r ≠ qb2 := by rcases qg2 with gz | gz; rw [gz]; exact ne_r_qb1; exact Nat.ne_of_lt (Nat.lt_of_lt_of_le lt_r_qb2 gz)
  have ne_rd_qb2 : rd ≠ qb2 := by rcases qg2 with gz | gz; rw [gz]; exact ne_rd_qb1; exact Nat.ne_of_lt (Nat.lt_of_lt_of_le lt_rd_qb2 gz)
  have ne_o_qb2 : o ≠ qb2 := by rcases qg2 with gz | gz; rw [gz]; exact ne_o_qb1; exact Nat.ne_of_lt (Nat.lt_of_lt_of_le lt_o_qb2 gz)
  have ne_f_qb2 : f ≠ qb2 := by rcases qg2 with gz | gz; rw [gz]; exact ne_f_qb1; exact Nat.ne_of_lt (Nat.lt_of_lt_of_le lt_f_qb2 gz)
  have ne_fd_qb2 : fd ≠ qb2 := by rcases qg2 with gz | gz; rw [gz]; exact ne_fd_qb1; exact Nat.ne_of_lt (Nat.lt_of_lt_of_le lt_fd_qb2 gz)
  have ne_a1_qb2 : a1 ≠ qb2 := by rcases qg2 with gz | gz; rw [gz]; exact (Ne.symm ne_qb1_a1); exact Nat.ne_of_lt (Nat.lt_of_lt_of_le lt_a1_qb2 gz)
  have ne_b1_qb2 : b1 ≠ qb2 := by rcases qg2 with gz | gz; rw [gz]; exact (Ne.symm ne_qb1_b1); exact Nat.ne_of_lt (Nat.lt_of_lt_of_le lt_b1_qb2 gz)
  have gk_qb2 : h0.size ≤ qb2 := by rcases qg2 with gz | gz; rw [gz]; exact gk_qb1; exact Nat.le_trans kt_qb2 gz
  obtain rfl : Nq2 = 34 := by simp only [List.length_append, List.length_cons, List.length_nil] at hNq2; omega
  refine Road.aloadN 17 bRf2_d17 rfl ?_
  have lt_og_z := E1.lt
  have lt_s_z := T1.lt
  have lt_sd_z := T1.ltb
  have lt_r_z := U.lt
  have lt_rd_z := U.ltb
  have lt_o_z := Eo.lt
  have lt_f_z := T.lt
  have lt_fd_z := T.ltb
  have lt_a1_z := S1.lt
  have lt_b1_z := S1.ltb
  have kt_z := KT.1
  refine Road.callV (B' := bSbO) (a := q) 18 (argsL := [(.ref o)]) (rest := [(.ref og)]) "java/lang/StringBuilder" 1 bRf2_d18 (wI hw 158 rfl) (wI hw 159 rfl) (fun vm hz => Road.notFace_sib (args := #[]) (mv (s := D.s.setVm vm) hz (wI hw 90 rfl)) rfl) (wI hw 161 rfl) (wI hw 160 rfl) (wI hw 71 rfl) (wI hw 162 rfl) (by decide) qS2.1 (cSbO l Z a0 hw n0 hEW q qb2 ((([] : List Int32) ++ ws) ++ ([59, 32, 116, 104, 101, 32, 102, 105, 114, 115, 116, 32, 105, 115, 32, 97, 116, 32] : List Int32)) 34 o f fd fs x h_27 σ_28 qS2 qE2 (Or.inl (by simp only [List.length_append, List.length_cons, List.length_nil]; omega)) qs2 s_7 Eo F1 F2 T hfs cp Hc hcp o1 o2 HO AO HT AT) (lenOf bSbO_pd rfl) rfl rfl rfl (by decide) (by decide) (ce' := 15) (sl' := 416) rfl rfl (by decide) (by decide) ?_
  rintro _ h_33 σ_34 m_35 ⟨rfl, K_36, zb, Nz, Sz, gz, sz, Ez⟩
  replace KT := KT.trans K_36 (by intro z hz; simp only [List.mem_cons, List.not_mem_nil, or_false] at hz; rcases hz with rfl | rfl <;> first | (exact Or.inr (by assumption)) | (simp; done))
  replace E1 := E1.keep K_36
  replace G1 := G1.keep K_36 (ninS ne_og_q (ninS ne_og_qb2 nin0))
  replace G2 := G2.keep K_36 (ninS ne_og_q (ninS ne_og_qb2 nin0))
  replace T1 := T1.keep K_36 (ninS ne_s_q (ninS ne_s_qb2 nin0)) (ninS ne_sd_q (ninS ne_sd_qb2 nin0))
  replace U := U.keep K_36 (ninS ne_r_q (ninS ne_r_qb2 nin0)) (ninS ne_rd_q (ninS ne_rd_qb2 nin0))
  replace Eo := Eo.keep K_36
  replace F1 := F1.keep K_36 (ninS ne_o_q (ninS ne_o_qb2 nin0))
  replace F2 := F2.keep K_36 (ninS ne_o_q (ninS ne_o_qb2 nin0))
  replace T := T.keep K_36 (ninS ne_f_q (ninS ne_f_qb2 nin0)) (ninS ne_fd_q (ninS ne_fd_qb2 nin0))
  replace S1 := S1.keep K_36 (ninS (Ne.symm ne_q_a1) (ninS ne_a1_qb2 nin0)) (ninS (Ne.symm ne_q_b1) (ninS ne_b1_qb2 nin0))
  replace s_7 := m_35 _ s_7
  replace qs2 := m_35 _ qs2
  have gk_zb : h0.size ≤ zb := by rcases gz with g | g; rw [g]; exact gk_qb2; exact Nat.le_trans kt_z g
  refine Road.callV (B' := bXoS) (a := q) 21 (argsL := []) (rest := [(.ref og)]) "java/lang/StringBuilder" 1 bRf2_d21 (wI hw 195 rfl) (wI hw 196 rfl) (fun vm hz => Road.notFace_sib (args := #[]) (mv (s := D.s.setVm vm) hz (wI hw 90 rfl)) rfl) (wI hw 198 rfl) (wI hw 197 rfl) (wI hw 71 rfl) (wI hw 199 rfl) (by decide) Sz.1 (cXoS l Z a0 hw n0 hEW q zb (([] : List Int32) ++ ws ++ ([59, 32, 116, 104, 101, 32, 102, 105, 114, 115, 116, 32, 105, 115, 32, 97, 116, 32] : List Int32) ++ (fs ++ [58] ++ Road.dec x)) Nz h_33 σ_34 Sz Ez (by simp only [List.length_append, List.length_cons, List.length_nil]; omega) cp Hc hcp) (lenOf bXoS_pd rfl) rfl rfl rfl (by decide) (by decide) (ce' := 17) (sl' := 468) rfl rfl (by decide) (by decide) ?_
  rintro _ h_39 σ_40 m_41 ⟨t, td, rfl, gt, gtd, K_42, M⟩
  have gk_t := Nat.le_trans KT.1 gt
  have ne_og_t : og ≠ t := Nat.ne_of_lt (Nat.lt_of_lt_of_le E1.lt gt)
  have ne_s_t : s ≠ t := Nat.ne_of_lt (Nat.lt_of_lt_of_le T1.lt gt)
  have ne_sd_t : sd ≠ t := Nat.ne_of_lt (Nat.lt_of_lt_of_le T1.ltb gt)
  have gk_td := Nat.le_trans KT.1 gtd
  have ne_og_td : og ≠ td := Nat.ne_of_lt (Nat.lt_of_lt_of_le E1.lt gtd)
  have ne_s_td : s ≠ td := Nat.ne_of_lt (Nat.lt_of_lt_of_le T1.lt gtd)
  have ne_sd_td : sd ≠ td := Nat.ne_of_lt (Nat.lt_of_lt_of_le T1.ltb gtd)
  replace KT := KT.trans K_42 (by simp)
  replace E1 := E1.keep K_42
  replace G1 := G1.keep K_42 nin0
  replace G2 := G2.keep K_42 nin0
  replace T1 := T1.keep K_42 nin0 nin0
  replace s_7 := m_41 _ s_7
  replace qs2 := m_41 _ qs2
  refine Road.callV (B' := bRfs) (a := og) 24 (argsL := [(.ref t)]) (rest := []) "com/example/gridtally/gridtally/engine/Origin" 0 bRf2_d24 (wI hw 231 rfl) (wI hw 232 rfl) (fun vm hz => Road.notFace_sib (args := #[]) (mv (s := D.s.setVm vm) hz (wI hw 67 rfl)) rfl) (wI hw 234 rfl) (wI hw 233 rfl) (wI hw 50 rfl) (wI hw 235 rfl) (by decide) E1 (cRfs l Z a0 hw n0 hEW og s sd t td cs (([] : List Int32) ++ ws ++ ([59, 32, 116, 104, 101, 32, 102, 105, 114, 115, 116, 32, 105, 115, 32, 97, 116, 32] : List Int32) ++ (fs ++ [58] ++ Road.dec x)) y h_39 σ_40 G1 G2 T1 M hcs (by simp only [List.length_append, List.length_cons, List.length_nil]; omega) hl us Su sp hsp Sp cp Hc hcp o1 o2 HO AO HT AT) (lenOf bRfs_pd rfl) rfl rfl rfl (by decide) (by decide) (ce' := 31) (sl' := 3510) rfl rfl (by decide) (by decide) ?_
  rintro _ h_45 σ_46 m_47 ⟨a, m, d, rfl, Ea, K_48, Fm, M2⟩
  replace KT := KT.trans K_48 (by simp)
  replace s_7 := m_47 _ s_7
  replace qs2 := m_47 _ qs2
  exact Road.aret 27 bRf2_d27 (t := (.object "com/example/gridtally/gridtally/engine/RefusedInputException")) rfl rfl rfl (by decide) (by decide) (fun σ' m' => ⟨a, m, d, rfl, Ea, KT, Fm, M2⟩)
def bDgs : Road.Bdy := (⟨"com/example/gridtally/gridtally/engine/OriginRefuseSecondPinLaw", "digits", "(J)I"⟩, method_3_code, 2, (some .int), { frames := 0, cells := 0, slots := 0, locals := 0 })
theorem bDgs_d0 : decode bDgs.bs 0 = .ok (.lload_n 0, 1) := by decide +kernel
theorem bDgs_d1 : decode bDgs.bs 1 = .ok (.ldc2_w 52, 3) := by decide +kernel
theorem bDgs_d4 : decode bDgs.bs 4 = .ok (.lcmp, 1) := by decide +kernel
theorem bDgs_d5 : decode bDgs.bs 5 = .ok (.ifCond .ge 5, 3) := by decide +kernel
theorem bDgs_d8 : decode bDgs.bs 8 = .ok (.iconst 1, 1) := by decide +kernel
theorem bDgs_d9 : decode bDgs.bs 9 = .ok (.ireturn, 1) := by decide +kernel
theorem bDgs_d10 : decode bDgs.bs 10 = .ok (.lload_n 0, 1) := by decide +kernel
theorem bDgs_d11 : decode bDgs.bs 11 = .ok (.ldc2_w 54, 3) := by decide +kernel
theorem bDgs_d14 : decode bDgs.bs 14 = .ok (.lcmp, 1) := by decide +kernel
theorem bDgs_d15 : decode bDgs.bs 15 = .ok (.ifCond .ge 5, 3) := by decide +kernel
theorem bDgs_d18 : decode bDgs.bs 18 = .ok (.iconst 2, 1) := by decide +kernel
theorem bDgs_d19 : decode bDgs.bs 19 = .ok (.ireturn, 1) := by decide +kernel
theorem bDgs_d20 : decode bDgs.bs 20 = .ok (.lload_n 0, 1) := by decide +kernel
theorem bDgs_d21 : decode bDgs.bs 21 = .ok (.ldc2_w 56, 3) := by decide +kernel
theorem bDgs_d24 : decode bDgs.bs 24 = .ok (.lcmp, 1) := by decide +kernel
theorem bDgs_d25 : decode bDgs.bs 25 = .ok (.ifCond .ge 5, 3) := by decide +kernel
theorem bDgs_d28 : decode bDgs.bs 28 = .ok (.iconst 3, 1) := by decide +kernel
theorem bDgs_d29 : decode bDgs.bs 29 = .ok (.ireturn, 1) := by decide +kernel
theorem bDgs_d30 : decode bDgs.bs 30 = .ok (.lload_n 0, 1) := by decide +kernel
theorem bDgs_d31 : decode bDgs.bs 31 = .ok (.ldc2_w 58, 3) := by decide +kernel
theorem bDgs_d34 : decode bDgs.bs 34 = .ok (.lcmp, 1) := by decide +kernel
theorem bDgs_d35 : decode bDgs.bs 35 = .ok (.ifCond .ge 5, 3) := by decide +kernel
theorem bDgs_d38 : decode bDgs.bs 38 = .ok (.iconst 4, 1) := by decide +kernel
theorem bDgs_d39 : decode bDgs.bs 39 = .ok (.ireturn, 1) := by decide +kernel
theorem bDgs_d40 : decode bDgs.bs 40 = .ok (.lload_n 0, 1) := by decide +kernel
theorem bDgs_d41 : decode bDgs.bs 41 = .ok (.ldc2_w 60, 3) := by decide +kernel
theorem bDgs_d44 : decode bDgs.bs 44 = .ok (.lcmp, 1) := by decide +kernel
theorem bDgs_d45 : decode bDgs.bs 45 = .ok (.ifCond .ge 5, 3) := by decide +kernel
theorem bDgs_d48 : decode bDgs.bs 48 = .ok (.iconst 5, 1) := by decide +kernel
theorem bDgs_d49 : decode bDgs.bs 49 = .ok (.ireturn, 1) := by decide +kernel
theorem bDgs_d50 : decode bDgs.bs 50 = .ok (.lload_n 0, 1) := by decide +kernel
theorem bDgs_d51 : decode bDgs.bs 51 = .ok (.ldc2_w 62, 3) := by decide +kernel
theorem bDgs_d54 : decode bDgs.bs 54 = .ok (.lcmp, 1) := by decide +kernel
theorem bDgs_d55 : decode bDgs.bs 55 = .ok (.ifCond .ge 6, 3) := by decide +kernel
theorem bDgs_d58 : decode bDgs.bs 58 = .ok (.bipush 6, 2) := by decide +kernel
theorem bDgs_d60 : decode bDgs.bs 60 = .ok (.ireturn, 1) := by decide +kernel
theorem bDgs_d61 : decode bDgs.bs 61 = .ok (.lload_n 0, 1) := by decide +kernel
theorem bDgs_d62 : decode bDgs.bs 62 = .ok (.ldc2_w 64, 3) := by decide +kernel
theorem bDgs_d65 : decode bDgs.bs 65 = .ok (.lcmp, 1) := by decide +kernel
theorem bDgs_d66 : decode bDgs.bs 66 = .ok (.ifCond .ge 6, 3) := by decide +kernel
theorem bDgs_d69 : decode bDgs.bs 69 = .ok (.bipush 7, 2) := by decide +kernel
theorem bDgs_d71 : decode bDgs.bs 71 = .ok (.ireturn, 1) := by decide +kernel
theorem bDgs_d72 : decode bDgs.bs 72 = .ok (.lload_n 0, 1) := by decide +kernel
theorem bDgs_d73 : decode bDgs.bs 73 = .ok (.ldc2_w 66, 3) := by decide +kernel
theorem bDgs_d76 : decode bDgs.bs 76 = .ok (.lcmp, 1) := by decide +kernel
theorem bDgs_d77 : decode bDgs.bs 77 = .ok (.ifCond .ge 6, 3) := by decide +kernel
theorem bDgs_d80 : decode bDgs.bs 80 = .ok (.bipush 8, 2) := by decide +kernel
theorem bDgs_d82 : decode bDgs.bs 82 = .ok (.ireturn, 1) := by decide +kernel
theorem bDgs_d83 : decode bDgs.bs 83 = .ok (.lload_n 0, 1) := by decide +kernel
theorem bDgs_d84 : decode bDgs.bs 84 = .ok (.ldc2_w 68, 3) := by decide +kernel
theorem bDgs_d87 : decode bDgs.bs 87 = .ok (.lcmp, 1) := by decide +kernel
theorem bDgs_d88 : decode bDgs.bs 88 = .ok (.ifCond .ge 6, 3) := by decide +kernel
theorem bDgs_d91 : decode bDgs.bs 91 = .ok (.bipush 9, 2) := by decide +kernel
theorem bDgs_d93 : decode bDgs.bs 93 = .ok (.ireturn, 1) := by decide +kernel
theorem bDgs_d94 : decode bDgs.bs 94 = .ok (.bipush 10, 2) := by decide +kernel
theorem bDgs_d96 : decode bDgs.bs 96 = .ok (.ireturn, 1) := by decide +kernel
theorem bDgs_pd : parseMethodDescriptor "(J)I" = some ⟨[.long], (some .int)⟩ := by decide +kernel
theorem bDgs_pn : plainFor bDgs.y = true := plainFor_of_name (show plainName "com/example/gridtally/gridtally/engine/OriginRefuseSecondPinLaw" = true from by first | (simp [plainName, overriddenIn]; done) | decide +kernel)
theorem cDgs (l : Launch) (Z : State) (a0 : Array Value) (hw : ∀ d ∈ tables_1, d.before a0 Z = true) (n0 : Nat) (hEW : EW Z a0 consts_1) (v : Int64) (m : Nat) (h0 : Heap) (σ : Addr → Prop) (hv : v.toInt = (m : Int)) (hm : m ≤ 2147483648) :
    Road.Con l Z consts_1 n0 true bDgs [] σ #[(.long v)] h0 (fun r h2 _ => r = some (.int (Nat.toInt32 (Road.decN m).length)) ∧ h0 = h2) := by
  refine Road.Con.of bDgs_pn hEW #[.val (.long v), .second] (fun m => Road.ent (Road.laid2 rfl Road.laid0) (k := 0) rfl rfl) ?_
  intro D hD
  have hcs : m < 10 ∨ (10 ≤ m ∧ m < 100) ∨ (100 ≤ m ∧ m < 1000) ∨ (1000 ≤ m ∧ m < 10000) ∨ (10000 ≤ m ∧ m < 100000) ∨ (100000 ≤ m ∧ m < 1000000) ∨ (1000000 ≤ m ∧ m < 10000000) ∨ (10000000 ≤ m ∧ m < 100000000) ∨ (100000000 ≤ m ∧ m < 1000000000) ∨ 1000000000 ≤ m := by omega
  rcases hcs with hq | hq | hq | hq | hq | hq | hq | hq | hq | hq
  · skip
    have hlen := Road.decN_len 0 m (by omega) (Or.inl rfl)
    refine Road.lloadN 0 bDgs_d0 rfl ?_
    refine Road.ldc2J 1 bDgs_d1 (wI hw 37 rfl) ?_
    refine Road.lcmp 4 bDgs_d4 ?_
    refine Road.ifl_ge 5 10 bDgs_d5 rfl (fun q => absurd q (by rw [Decidable.not_not, Int64.lt_iff_toInt_lt, hv, show (10 : Int64).toInt = 10 from rfl]; omega)) (fun hc5 => ?_)
    refine Road.iconst 8 (1 : Int32) bDgs_d8 rfl ?_
    exact Road.iretI 9 bDgs_d9 rfl (by decide) (by decide) (fun σ' m => ⟨by rw [hlen]; rfl, rfl⟩)
  · skip
    have hlen := Road.decN_len 1 m (by omega) (Or.inr (by omega))
    refine Road.lloadN 0 bDgs_d0 rfl ?_
    refine Road.ldc2J 1 bDgs_d1 (wI hw 37 rfl) ?_
    refine Road.lcmp 4 bDgs_d4 ?_
    refine Road.ifl_ge 5 10 bDgs_d5 rfl (fun hc5 => ?_) (fun q => absurd q (by rw [Int64.lt_iff_toInt_lt, hv, show (10 : Int64).toInt = 10 from rfl]; omega))
    refine Road.lloadN 10 bDgs_d10 rfl ?_
    refine Road.ldc2J 11 bDgs_d11 (wI hw 328 rfl) ?_
    refine Road.lcmp 14 bDgs_d14 ?_
    refine Road.ifl_ge 15 20 bDgs_d15 rfl (fun q => absurd q (by rw [Decidable.not_not, Int64.lt_iff_toInt_lt, hv, show (100 : Int64).toInt = 100 from rfl]; omega)) (fun hc15 => ?_)
    refine Road.iconst 18 (2 : Int32) bDgs_d18 rfl ?_
    exact Road.iretI 19 bDgs_d19 rfl (by decide) (by decide) (fun σ' m => ⟨by rw [hlen]; rfl, rfl⟩)
  · skip
    have hlen := Road.decN_len 2 m (by omega) (Or.inr (by omega))
    refine Road.lloadN 0 bDgs_d0 rfl ?_
    refine Road.ldc2J 1 bDgs_d1 (wI hw 37 rfl) ?_
    refine Road.lcmp 4 bDgs_d4 ?_
    refine Road.ifl_ge 5 10 bDgs_d5 rfl (fun hc5 => ?_) (fun q => absurd q (by rw [Int64.lt_iff_toInt_lt, hv, show (10 : Int64).toInt = 10 from rfl]; omega))
    refine Road.lloadN 10 bDgs_d10 rfl ?_
    refine Road.ldc2J 11 bDgs_d11 (wI hw 328 rfl) ?_
    refine Road.lcmp 14 bDgs_d14 ?_
    refine Road.ifl_ge 15 20 bDgs_d15 rfl (fun hc15 => ?_) (fun q => absurd q (by rw [Int64.lt_iff_toInt_lt, hv, show (100 : Int64).toInt = 100 from rfl]; omega))
    refine Road.lloadN 20 bDgs_d20 rfl ?_
    refine Road.ldc2J 21 bDgs_d21 (wI hw 329 rfl) ?_
    refine Road.lcmp 24 bDgs_d24 ?_
    refine Road.ifl_ge 25 30 bDgs_d25 rfl (fun q => absurd q (by rw [Decidable.not_not, Int64.lt_iff_toInt_lt, hv, show (1000 : Int64).toInt = 1000 from rfl]; omega)) (fun hc25 => ?_)
    refine Road.iconst 28 (3 : Int32) bDgs_d28 rfl ?_
    exact Road.iretI 29 bDgs_d29 rfl (by decide) (by decide) (fun σ' m => ⟨by rw [hlen]; rfl, rfl⟩)
  · skip
    have hlen := Road.decN_len 3 m (by omega) (Or.inr (by omega))
    refine Road.lloadN 0 bDgs_d0 rfl ?_
    refine Road.ldc2J 1 bDgs_d1 (wI hw 37 rfl) ?_
    refine Road.lcmp 4 bDgs_d4 ?_
    refine Road.ifl_ge 5 10 bDgs_d5 rfl (fun hc5 => ?_) (fun q => absurd q (by rw [Int64.lt_iff_toInt_lt, hv, show (10 : Int64).toInt = 10 from rfl]; omega))
    refine Road.lloadN 10 bDgs_d10 rfl ?_
    refine Road.ldc2J 11 bDgs_d11 (wI hw 328 rfl) ?_
    refine Road.lcmp 14 bDgs_d14 ?_
    refine Road.ifl_ge 15 20 bDgs_d15 rfl (fun hc15 => ?_) (fun q => absurd q (by rw [Int64.lt_iff_toInt_lt, hv, show (100 : Int64).toInt = 100 from rfl]; omega))
    refine Road.lloadN 20 bDgs_d20 rfl ?_
    refine Road.ldc2J 21 bDgs_d21 (wI hw 329 rfl) ?_
    refine Road.lcmp 24 bDgs_d24 ?_
    refine Road.ifl_ge 25 30 bDgs_d25 rfl (fun hc25 => ?_) (fun q => absurd q (by rw [Int64.lt_iff_toInt_lt, hv, show (1000 : Int64).toInt = 1000 from rfl]; omega))
    refine Road.lloadN 30 bDgs_d30 rfl ?_
    refine Road.ldc2J 31 bDgs_d31 (wI hw 331 rfl) ?_
    refine Road.lcmp 34 bDgs_d34 ?_
    refine Road.ifl_ge 35 40 bDgs_d35 rfl (fun q => absurd q (by rw [Decidable.not_not, Int64.lt_iff_toInt_lt, hv, show (10000 : Int64).toInt = 10000 from rfl]; omega)) (fun hc35 => ?_)
    refine Road.iconst 38 (4 : Int32) bDgs_d38 rfl ?_
    exact Road.iretI 39 bDgs_d39 rfl (by decide) (by decide) (fun σ' m => ⟨by rw [hlen]; rfl, rfl⟩)
  · skip
    have hlen := Road.decN_len 4 m (by omega) (Or.inr (by omega))
    refine Road.lloadN 0 bDgs_d0 rfl ?_
    refine Road.ldc2J 1 bDgs_d1 (wI hw 37 rfl) ?_
    refine Road.lcmp 4 bDgs_d4 ?_
    refine Road.ifl_ge 5 10 bDgs_d5 rfl (fun hc5 => ?_) (fun q => absurd q (by rw [Int64.lt_iff_toInt_lt, hv, show (10 : Int64).toInt = 10 from rfl]; omega))
    refine Road.lloadN 10 bDgs_d10 rfl ?_
    refine Road.ldc2J 11 bDgs_d11 (wI hw 328 rfl) ?_
    refine Road.lcmp 14 bDgs_d14 ?_
    refine Road.ifl_ge 15 20 bDgs_d15 rfl (fun hc15 => ?_) (fun q => absurd q (by rw [Int64.lt_iff_toInt_lt, hv, show (100 : Int64).toInt = 100 from rfl]; omega))
    refine Road.lloadN 20 bDgs_d20 rfl ?_
    refine Road.ldc2J 21 bDgs_d21 (wI hw 329 rfl) ?_
    refine Road.lcmp 24 bDgs_d24 ?_
    refine Road.ifl_ge 25 30 bDgs_d25 rfl (fun hc25 => ?_) (fun q => absurd q (by rw [Int64.lt_iff_toInt_lt, hv, show (1000 : Int64).toInt = 1000 from rfl]; omega))
    refine Road.lloadN 30 bDgs_d30 rfl ?_
    refine Road.ldc2J 31 bDgs_d31 (wI hw 331 rfl) ?_
    refine Road.lcmp 34 bDgs_d34 ?_
    refine Road.ifl_ge 35 40 bDgs_d35 rfl (fun hc35 => ?_) (fun q => absurd q (by rw [Int64.lt_iff_toInt_lt, hv, show (10000 : Int64).toInt = 10000 from rfl]; omega))
    refine Road.lloadN 40 bDgs_d40 rfl ?_
    refine Road.ldc2J 41 bDgs_d41 (wI hw 332 rfl) ?_
    refine Road.lcmp 44 bDgs_d44 ?_
    refine Road.ifl_ge 45 50 bDgs_d45 rfl (fun q => absurd q (by rw [Decidable.not_not, Int64.lt_iff_toInt_lt, hv, show (100000 : Int64).toInt = 100000 from rfl]; omega)) (fun hc45 => ?_)
    refine Road.iconst 48 (5 : Int32) bDgs_d48 rfl ?_
    exact Road.iretI 49 bDgs_d49 rfl (by decide) (by decide) (fun σ' m => ⟨by rw [hlen]; rfl, rfl⟩)
  · skip
    have hlen := Road.decN_len 5 m (by omega) (Or.inr (by omega))
    refine Road.lloadN 0 bDgs_d0 rfl ?_
    refine Road.ldc2J 1 bDgs_d1 (wI hw 37 rfl) ?_
    refine Road.lcmp 4 bDgs_d4 ?_
    refine Road.ifl_ge 5 10 bDgs_d5 rfl (fun hc5 => ?_) (fun q => absurd q (by rw [Int64.lt_iff_toInt_lt, hv, show (10 : Int64).toInt = 10 from rfl]; omega))
    refine Road.lloadN 10 bDgs_d10 rfl ?_
    refine Road.ldc2J 11 bDgs_d11 (wI hw 328 rfl) ?_
    refine Road.lcmp 14 bDgs_d14 ?_
    refine Road.ifl_ge 15 20 bDgs_d15 rfl (fun hc15 => ?_) (fun q => absurd q (by rw [Int64.lt_iff_toInt_lt, hv, show (100 : Int64).toInt = 100 from rfl]; omega))
    refine Road.lloadN 20 bDgs_d20 rfl ?_
    refine Road.ldc2J 21 bDgs_d21 (wI hw 329 rfl) ?_
    refine Road.lcmp 24 bDgs_d24 ?_
    refine Road.ifl_ge 25 30 bDgs_d25 rfl (fun hc25 => ?_) (fun q => absurd q (by rw [Int64.lt_iff_toInt_lt, hv, show (1000 : Int64).toInt = 1000 from rfl]; omega))
    refine Road.lloadN 30 bDgs_d30 rfl ?_
    refine Road.ldc2J 31 bDgs_d31 (wI hw 331 rfl) ?_
    refine Road.lcmp 34 bDgs_d34 ?_
    refine Road.ifl_ge 35 40 bDgs_d35 rfl (fun hc35 => ?_) (fun q => absurd q (by rw [Int64.lt_iff_toInt_lt, hv, show (10000 : Int64).toInt = 10000 from rfl]; omega))
    refine Road.lloadN 40 bDgs_d40 rfl ?_
    refine Road.ldc2J 41 bDgs_d41 (wI hw 332 rfl) ?_
    refine Road.lcmp 44 bDgs_d44 ?_
    refine Road.ifl_ge 45 50 bDgs_d45 rfl (fun hc45 => ?_) (fun q => absurd q (by rw [Int64.lt_iff_toInt_lt, hv, show (100000 : Int64).toInt = 100000 from rfl]; omega))
    refine Road.lloadN 50 bDgs_d50 rfl ?_
    refine Road.ldc2J 51 bDgs_d51 (wI hw 333 rfl) ?_
    refine Road.lcmp 54 bDgs_d54 ?_
    refine Road.ifl_ge 55 61 bDgs_d55 rfl (fun q => absurd q (by rw [Decidable.not_not, Int64.lt_iff_toInt_lt, hv, show (1000000 : Int64).toInt = 1000000 from rfl]; omega)) (fun hc55 => ?_)
    refine Road.bipush 58 (6 : Int32) bDgs_d58 rfl ?_
    exact Road.iretI 60 bDgs_d60 rfl (by decide) (by decide) (fun σ' m => ⟨by rw [hlen]; rfl, rfl⟩)
  · skip
    have hlen := Road.decN_len 6 m (by omega) (Or.inr (by omega))
    refine Road.lloadN 0 bDgs_d0 rfl ?_
    refine Road.ldc2J 1 bDgs_d1 (wI hw 37 rfl) ?_
    refine Road.lcmp 4 bDgs_d4 ?_
    refine Road.ifl_ge 5 10 bDgs_d5 rfl (fun hc5 => ?_) (fun q => absurd q (by rw [Int64.lt_iff_toInt_lt, hv, show (10 : Int64).toInt = 10 from rfl]; omega))
    refine Road.lloadN 10 bDgs_d10 rfl ?_
    refine Road.ldc2J 11 bDgs_d11 (wI hw 328 rfl) ?_
    refine Road.lcmp 14 bDgs_d14 ?_
    refine Road.ifl_ge 15 20 bDgs_d15 rfl (fun hc15 => ?_) (fun q => absurd q (by rw [Int64.lt_iff_toInt_lt, hv, show (100 : Int64).toInt = 100 from rfl]; omega))
    refine Road.lloadN 20 bDgs_d20 rfl ?_
    refine Road.ldc2J 21 bDgs_d21 (wI hw 329 rfl) ?_
    refine Road.lcmp 24 bDgs_d24 ?_
    refine Road.ifl_ge 25 30 bDgs_d25 rfl (fun hc25 => ?_) (fun q => absurd q (by rw [Int64.lt_iff_toInt_lt, hv, show (1000 : Int64).toInt = 1000 from rfl]; omega))
    refine Road.lloadN 30 bDgs_d30 rfl ?_
    refine Road.ldc2J 31 bDgs_d31 (wI hw 331 rfl) ?_
    refine Road.lcmp 34 bDgs_d34 ?_
    refine Road.ifl_ge 35 40 bDgs_d35 rfl (fun hc35 => ?_) (fun q => absurd q (by rw [Int64.lt_iff_toInt_lt, hv, show (10000 : Int64).toInt = 10000 from rfl]; omega))
    refine Road.lloadN 40 bDgs_d40 rfl ?_
    refine Road.ldc2J 41 bDgs_d41 (wI hw 332 rfl) ?_
    refine Road.lcmp 44 bDgs_d44 ?_
    refine Road.ifl_ge 45 50 bDgs_d45 rfl (fun hc45 => ?_) (fun q => absurd q (by rw [Int64.lt_iff_toInt_lt, hv, show (100000 : Int64).toInt = 100000 from rfl]; omega))
    refine Road.lloadN 50 bDgs_d50 rfl ?_
    refine Road.ldc2J 51 bDgs_d51 (wI hw 333 rfl) ?_
    refine Road.lcmp 54 bDgs_d54 ?_
    refine Road.ifl_ge 55 61 bDgs_d55 rfl (fun hc55 => ?_) (fun q => absurd q (by rw [Int64.lt_iff_toInt_lt, hv, show (1000000 : Int64).toInt = 1000000 from rfl]; omega))
    refine Road.lloadN 61 bDgs_d61 rfl ?_
    refine Road.ldc2J 62 bDgs_d62 (wI hw 334 rfl) ?_
    refine Road.lcmp 65 bDgs_d65 ?_
    refine Road.ifl_ge 66 72 bDgs_d66 rfl (fun q => absurd q (by rw [Decidable.not_not, Int64.lt_iff_toInt_lt, hv, show (10000000 : Int64).toInt = 10000000 from rfl]; omega)) (fun hc66 => ?_)
    refine Road.bipush 69 (7 : Int32) bDgs_d69 rfl ?_
    exact Road.iretI 71 bDgs_d71 rfl (by decide) (by decide) (fun σ' m => ⟨by rw [hlen]; rfl, rfl⟩)
  · skip
    have hlen := Road.decN_len 7 m (by omega) (Or.inr (by omega))
    refine Road.lloadN 0 bDgs_d0 rfl ?_
    refine Road.ldc2J 1 bDgs_d1 (wI hw 37 rfl) ?_
    refine Road.lcmp 4 bDgs_d4 ?_
    refine Road.ifl_ge 5 10 bDgs_d5 rfl (fun hc5 => ?_) (fun q => absurd q (by rw [Int64.lt_iff_toInt_lt, hv, show (10 : Int64).toInt = 10 from rfl]; omega))
    refine Road.lloadN 10 bDgs_d10 rfl ?_
    refine Road.ldc2J 11 bDgs_d11 (wI hw 328 rfl) ?_
    refine Road.lcmp 14 bDgs_d14 ?_
    refine Road.ifl_ge 15 20 bDgs_d15 rfl (fun hc15 => ?_) (fun q => absurd q (by rw [Int64.lt_iff_toInt_lt, hv, show (100 : Int64).toInt = 100 from rfl]; omega))
    refine Road.lloadN 20 bDgs_d20 rfl ?_
    refine Road.ldc2J 21 bDgs_d21 (wI hw 329 rfl) ?_
    refine Road.lcmp 24 bDgs_d24 ?_
    refine Road.ifl_ge 25 30 bDgs_d25 rfl (fun hc25 => ?_) (fun q => absurd q (by rw [Int64.lt_iff_toInt_lt, hv, show (1000 : Int64).toInt = 1000 from rfl]; omega))
    refine Road.lloadN 30 bDgs_d30 rfl ?_
    refine Road.ldc2J 31 bDgs_d31 (wI hw 331 rfl) ?_
    refine Road.lcmp 34 bDgs_d34 ?_
    refine Road.ifl_ge 35 40 bDgs_d35 rfl (fun hc35 => ?_) (fun q => absurd q (by rw [Int64.lt_iff_toInt_lt, hv, show (10000 : Int64).toInt = 10000 from rfl]; omega))
    refine Road.lloadN 40 bDgs_d40 rfl ?_
    refine Road.ldc2J 41 bDgs_d41 (wI hw 332 rfl) ?_
    refine Road.lcmp 44 bDgs_d44 ?_
    refine Road.ifl_ge 45 50 bDgs_d45 rfl (fun hc45 => ?_) (fun q => absurd q (by rw [Int64.lt_iff_toInt_lt, hv, show (100000 : Int64).toInt = 100000 from rfl]; omega))
    refine Road.lloadN 50 bDgs_d50 rfl ?_
    refine Road.ldc2J 51 bDgs_d51 (wI hw 333 rfl) ?_
    refine Road.lcmp 54 bDgs_d54 ?_
    refine Road.ifl_ge 55 61 bDgs_d55 rfl (fun hc55 => ?_) (fun q => absurd q (by rw [Int64.lt_iff_toInt_lt, hv, show (1000000 : Int64).toInt = 1000000 from rfl]; omega))
    refine Road.lloadN 61 bDgs_d61 rfl ?_
    refine Road.ldc2J 62 bDgs_d62 (wI hw 334 rfl) ?_
    refine Road.lcmp 65 bDgs_d65 ?_
    refine Road.ifl_ge 66 72 bDgs_d66 rfl (fun hc66 => ?_) (fun q => absurd q (by rw [Int64.lt_iff_toInt_lt, hv, show (10000000 : Int64).toInt = 10000000 from rfl]; omega))
    refine Road.lloadN 72 bDgs_d72 rfl ?_
    refine Road.ldc2J 73 bDgs_d73 (wI hw 335 rfl) ?_
    refine Road.lcmp 76 bDgs_d76 ?_
    refine Road.ifl_ge 77 83 bDgs_d77 rfl (fun q => absurd q (by rw [Decidable.not_not, Int64.lt_iff_toInt_lt, hv, show (100000000 : Int64).toInt = 100000000 from rfl]; omega)) (fun hc77 => ?_)
    refine Road.bipush 80 (8 : Int32) bDgs_d80 rfl ?_
    exact Road.iretI 82 bDgs_d82 rfl (by decide) (by decide) (fun σ' m => ⟨by rw [hlen]; rfl, rfl⟩)
  · skip
    have hlen := Road.decN_len 8 m (by omega) (Or.inr (by omega))
    refine Road.lloadN 0 bDgs_d0 rfl ?_
    refine Road.ldc2J 1 bDgs_d1 (wI hw 37 rfl) ?_
    refine Road.lcmp 4 bDgs_d4 ?_
    refine Road.ifl_ge 5 10 bDgs_d5 rfl (fun hc5 => ?_) (fun q => absurd q (by rw [Int64.lt_iff_toInt_lt, hv, show (10 : Int64).toInt = 10 from rfl]; omega))
    refine Road.lloadN 10 bDgs_d10 rfl ?_
    refine Road.ldc2J 11 bDgs_d11 (wI hw 328 rfl) ?_
    refine Road.lcmp 14 bDgs_d14 ?_
    refine Road.ifl_ge 15 20 bDgs_d15 rfl (fun hc15 => ?_) (fun q => absurd q (by rw [Int64.lt_iff_toInt_lt, hv, show (100 : Int64).toInt = 100 from rfl]; omega))
    refine Road.lloadN 20 bDgs_d20 rfl ?_
    refine Road.ldc2J 21 bDgs_d21 (wI hw 329 rfl) ?_
    refine Road.lcmp 24 bDgs_d24 ?_
    refine Road.ifl_ge 25 30 bDgs_d25 rfl (fun hc25 => ?_) (fun q => absurd q (by rw [Int64.lt_iff_toInt_lt, hv, show (1000 : Int64).toInt = 1000 from rfl]; omega))
    refine Road.lloadN 30 bDgs_d30 rfl ?_
    refine Road.ldc2J 31 bDgs_d31 (wI hw 331 rfl) ?_
    refine Road.lcmp 34 bDgs_d34 ?_
    refine Road.ifl_ge 35 40 bDgs_d35 rfl (fun hc35 => ?_) (fun q => absurd q (by rw [Int64.lt_iff_toInt_lt, hv, show (10000 : Int64).toInt = 10000 from rfl]; omega))
    refine Road.lloadN 40 bDgs_d40 rfl ?_
    refine Road.ldc2J 41 bDgs_d41 (wI hw 332 rfl) ?_
    refine Road.lcmp 44 bDgs_d44 ?_
    refine Road.ifl_ge 45 50 bDgs_d45 rfl (fun hc45 => ?_) (fun q => absurd q (by rw [Int64.lt_iff_toInt_lt, hv, show (100000 : Int64).toInt = 100000 from rfl]; omega))
    refine Road.lloadN 50 bDgs_d50 rfl ?_
    refine Road.ldc2J 51 bDgs_d51 (wI hw 333 rfl) ?_
    refine Road.lcmp 54 bDgs_d54 ?_
    refine Road.ifl_ge 55 61 bDgs_d55 rfl (fun hc55 => ?_) (fun q => absurd q (by rw [Int64.lt_iff_toInt_lt, hv, show (1000000 : Int64).toInt = 1000000 from rfl]; omega))
    refine Road.lloadN 61 bDgs_d61 rfl ?_
    refine Road.ldc2J 62 bDgs_d62 (wI hw 334 rfl) ?_
    refine Road.lcmp 65 bDgs_d65 ?_
    refine Road.ifl_ge 66 72 bDgs_d66 rfl (fun hc66 => ?_) (fun q => absurd q (by rw [Int64.lt_iff_toInt_lt, hv, show (10000000 : Int64).toInt = 10000000 from rfl]; omega))
    refine Road.lloadN 72 bDgs_d72 rfl ?_
    refine Road.ldc2J 73 bDgs_d73 (wI hw 335 rfl) ?_
    refine Road.lcmp 76 bDgs_d76 ?_
    refine Road.ifl_ge 77 83 bDgs_d77 rfl (fun hc77 => ?_) (fun q => absurd q (by rw [Int64.lt_iff_toInt_lt, hv, show (100000000 : Int64).toInt = 100000000 from rfl]; omega))
    refine Road.lloadN 83 bDgs_d83 rfl ?_
    refine Road.ldc2J 84 bDgs_d84 (wI hw 336 rfl) ?_
    refine Road.lcmp 87 bDgs_d87 ?_
    refine Road.ifl_ge 88 94 bDgs_d88 rfl (fun q => absurd q (by rw [Decidable.not_not, Int64.lt_iff_toInt_lt, hv, show (1000000000 : Int64).toInt = 1000000000 from rfl]; omega)) (fun hc88 => ?_)
    refine Road.bipush 91 (9 : Int32) bDgs_d91 rfl ?_
    exact Road.iretI 93 bDgs_d93 rfl (by decide) (by decide) (fun σ' m => ⟨by rw [hlen]; rfl, rfl⟩)
  · skip
    have hlen := Road.decN_len 9 m (by omega) (Or.inr (by omega))
    refine Road.lloadN 0 bDgs_d0 rfl ?_
    refine Road.ldc2J 1 bDgs_d1 (wI hw 37 rfl) ?_
    refine Road.lcmp 4 bDgs_d4 ?_
    refine Road.ifl_ge 5 10 bDgs_d5 rfl (fun hc5 => ?_) (fun q => absurd q (by rw [Int64.lt_iff_toInt_lt, hv, show (10 : Int64).toInt = 10 from rfl]; omega))
    refine Road.lloadN 10 bDgs_d10 rfl ?_
    refine Road.ldc2J 11 bDgs_d11 (wI hw 328 rfl) ?_
    refine Road.lcmp 14 bDgs_d14 ?_
    refine Road.ifl_ge 15 20 bDgs_d15 rfl (fun hc15 => ?_) (fun q => absurd q (by rw [Int64.lt_iff_toInt_lt, hv, show (100 : Int64).toInt = 100 from rfl]; omega))
    refine Road.lloadN 20 bDgs_d20 rfl ?_
    refine Road.ldc2J 21 bDgs_d21 (wI hw 329 rfl) ?_
    refine Road.lcmp 24 bDgs_d24 ?_
    refine Road.ifl_ge 25 30 bDgs_d25 rfl (fun hc25 => ?_) (fun q => absurd q (by rw [Int64.lt_iff_toInt_lt, hv, show (1000 : Int64).toInt = 1000 from rfl]; omega))
    refine Road.lloadN 30 bDgs_d30 rfl ?_
    refine Road.ldc2J 31 bDgs_d31 (wI hw 331 rfl) ?_
    refine Road.lcmp 34 bDgs_d34 ?_
    refine Road.ifl_ge 35 40 bDgs_d35 rfl (fun hc35 => ?_) (fun q => absurd q (by rw [Int64.lt_iff_toInt_lt, hv, show (10000 : Int64).toInt = 10000 from rfl]; omega))
    refine Road.lloadN 40 bDgs_d40 rfl ?_
    refine Road.ldc2J 41 bDgs_d41 (wI hw 332 rfl) ?_
    refine Road.lcmp 44 bDgs_d44 ?_
    refine Road.ifl_ge 45 50 bDgs_d45 rfl (fun hc45 => ?_) (fun q => absurd q (by rw [Int64.lt_iff_toInt_lt, hv, show (100000 : Int64).toInt = 100000 from rfl]; omega))
    refine Road.lloadN 50 bDgs_d50 rfl ?_
    refine Road.ldc2J 51 bDgs_d51 (wI hw 333 rfl) ?_
    refine Road.lcmp 54 bDgs_d54 ?_
    refine Road.ifl_ge 55 61 bDgs_d55 rfl (fun hc55 => ?_) (fun q => absurd q (by rw [Int64.lt_iff_toInt_lt, hv, show (1000000 : Int64).toInt = 1000000 from rfl]; omega))
    refine Road.lloadN 61 bDgs_d61 rfl ?_
    refine Road.ldc2J 62 bDgs_d62 (wI hw 334 rfl) ?_
    refine Road.lcmp 65 bDgs_d65 ?_
    refine Road.ifl_ge 66 72 bDgs_d66 rfl (fun hc66 => ?_) (fun q => absurd q (by rw [Int64.lt_iff_toInt_lt, hv, show (10000000 : Int64).toInt = 10000000 from rfl]; omega))
    refine Road.lloadN 72 bDgs_d72 rfl ?_
    refine Road.ldc2J 73 bDgs_d73 (wI hw 335 rfl) ?_
    refine Road.lcmp 76 bDgs_d76 ?_
    refine Road.ifl_ge 77 83 bDgs_d77 rfl (fun hc77 => ?_) (fun q => absurd q (by rw [Int64.lt_iff_toInt_lt, hv, show (100000000 : Int64).toInt = 100000000 from rfl]; omega))
    refine Road.lloadN 83 bDgs_d83 rfl ?_
    refine Road.ldc2J 84 bDgs_d84 (wI hw 336 rfl) ?_
    refine Road.lcmp 87 bDgs_d87 ?_
    refine Road.ifl_ge 88 94 bDgs_d88 rfl (fun hc88 => ?_) (fun q => absurd q (by rw [Int64.lt_iff_toInt_lt, hv, show (1000000000 : Int64).toInt = 1000000000 from rfl]; omega))
    refine Road.bipush 94 (10 : Int32) bDgs_d94 rfl ?_
    exact Road.iretI 96 bDgs_d96 rfl (by decide) (by decide) (fun σ' m => ⟨by rw [hlen]; rfl, rfl⟩)
def bDcl : Road.Bdy := (⟨"com/example/gridtally/gridtally/engine/OriginRefuseSecondPinLaw", "decLen", "(I)I"⟩, method_4_code, 4, (some .int), { frames := 1, cells := 0, slots := 0, locals := 14 })
theorem bDcl_d0 : decode bDcl.bs 0 = .ok (.iload_n 0, 1) := by decide +kernel
theorem bDcl_d1 : decode bDcl.bs 1 = .ok (.i2l, 1) := by decide +kernel
theorem bDcl_d2 : decode bDcl.bs 2 = .ok (.lstore_n 1, 1) := by decide +kernel
theorem bDcl_d3 : decode bDcl.bs 3 = .ok (.iconst 0, 1) := by decide +kernel
theorem bDcl_d4 : decode bDcl.bs 4 = .ok (.istore_n 3, 1) := by decide +kernel
theorem bDcl_d5 : decode bDcl.bs 5 = .ok (.lload_n 1, 1) := by decide +kernel
theorem bDcl_d6 : decode bDcl.bs 6 = .ok (.lconst 0, 1) := by decide +kernel
theorem bDcl_d7 : decode bDcl.bs 7 = .ok (.lcmp, 1) := by decide +kernel
theorem bDcl_d8 : decode bDcl.bs 8 = .ok (.ifCond .ge 8, 3) := by decide +kernel
theorem bDcl_d11 : decode bDcl.bs 11 = .ok (.iconst 1, 1) := by decide +kernel
theorem bDcl_d12 : decode bDcl.bs 12 = .ok (.istore_n 3, 1) := by decide +kernel
theorem bDcl_d13 : decode bDcl.bs 13 = .ok (.lload_n 1, 1) := by decide +kernel
theorem bDcl_d14 : decode bDcl.bs 14 = .ok (.lneg, 1) := by decide +kernel
theorem bDcl_d15 : decode bDcl.bs 15 = .ok (.lstore_n 1, 1) := by decide +kernel
theorem bDcl_d16 : decode bDcl.bs 16 = .ok (.iload_n 3, 1) := by decide +kernel
theorem bDcl_d17 : decode bDcl.bs 17 = .ok (.lload_n 1, 1) := by decide +kernel
theorem bDcl_d18 : decode bDcl.bs 18 = .ok (.invokestatic 70, 3) := by decide +kernel
theorem bDcl_d21 : decode bDcl.bs 21 = .ok (.iadd, 1) := by decide +kernel
theorem bDcl_d22 : decode bDcl.bs 22 = .ok (.ireturn, 1) := by decide +kernel
theorem bDcl_pd : parseMethodDescriptor "(I)I" = some ⟨[.int], (some .int)⟩ := by decide +kernel
theorem bDcl_pn : plainFor bDcl.y = true := plainFor_of_name (show plainName "com/example/gridtally/gridtally/engine/OriginRefuseSecondPinLaw" = true from by first | (simp [plainName, overriddenIn]; done) | decide +kernel)
theorem cDcl (l : Launch) (Z : State) (a0 : Array Value) (hw : ∀ d ∈ tables_1, d.before a0 Z = true) (n0 : Nat) (hEW : EW Z a0 consts_1) (x : Int32) (h0 : Heap) (σ : Addr → Prop)  :
    Road.Con l Z consts_1 n0 true bDcl [] σ #[(.int x)] h0 (fun v h2 _ => v = some (.int (Nat.toInt32 (Road.dec x).length)) ∧ h0 = h2) := by
  refine Road.Con.of bDcl_pn hEW #[.val (.int x), .unset, .unset, .unset] (fun m => Road.ent (Road.laid1 rfl Road.laid0) (k := 3) rfl rfl) ?_
  intro D hD
  have hmx := Road.nat_le x
  obtain ⟨m, hm⟩ : ∃ m, m = x.toInt.natAbs := ⟨_, rfl⟩
  rw [← hm] at hmx
  refine Road.iloadN 0 bDcl_d0 rfl ?_
  refine Road.i2l 1 bDcl_d1 ?_
  refine Road.lstoreN 2 #[.val (.int x), .val (.long (Int32.toInt64 x)), .second, .unset] bDcl_d2 rfl ?_
  refine Road.iconst 3 (0 : Int32) bDcl_d3 rfl ?_
  refine Road.istoreN 4 #[.val (.int x), .val (.long (Int32.toInt64 x)), .second, .val (.int (0 : Int32))] bDcl_d4 rfl ?_
  refine Road.lloadN 5 bDcl_d5 rfl ?_
  refine Road.lconst 6 (0 : Int64) bDcl_d6 rfl ?_
  refine Road.lcmp 7 bDcl_d7 ?_
  refine Road.ifl_ge 8 16 bDcl_d8 rfl (fun hc8 => ?_) (fun hc8 => ?_)
  · skip
    rw [Int64.lt_iff_toInt_lt, Road.i2l_int, show (0 : Int64).toInt = 0 from rfl] at hc8
    have hdx : Road.dec x = Road.decN m := by unfold Road.dec; rw [if_neg hc8, ← hm]
    refine Road.iloadN 16 bDcl_d16 rfl ?_
    refine Road.lloadN 17 bDcl_d17 rfl ?_
    refine Road.callS (B' := bDgs) 18 (argsL := [(.long (Int32.toInt64 x))]) (rest := [(.int (0 : Int32))]) 1 bDcl_d18 (wI hw 34 rfl) (wI hw 35 rfl) (wI hw 32 rfl) (wI hw 36 rfl) (by decide) (cDgs l Z a0 hw n0 hEW (Int32.toInt64 x) m h0 σ (by rw [Road.i2l_int]; omega) hmx) (lenOf bDgs_pd rfl) rfl rfl rfl (by decide) (by decide) (ce' := 0) (sl' := 0) rfl rfl (by decide) (by decide) ?_
    rintro _ h_1 σ_2 m_3 ⟨rfl, rfl⟩
    refine Road.Go.weaken (σ' := σ) m_3 (Nat.le_refl _) (Nat.le_refl _) ?_
    refine Road.iadd 21 bDcl_d21 ?_
    exact Road.iretI 22 bDcl_d22 rfl (by decide) (by decide) (fun σ' m => ⟨by rw [hdx, show (0 : Int32) = Nat.toInt32 0 from rfl, Road.add32n, Nat.add_comm]; rfl, rfl⟩)
  · skip
    rw [Int64.lt_iff_toInt_lt, Road.i2l_int, show (0 : Int64).toInt = 0 from rfl] at hc8
    have hdx : Road.dec x = 45 :: Road.decN m := by unfold Road.dec; rw [if_pos hc8, ← hm]
    refine Road.iconst 11 (1 : Int32) bDcl_d11 rfl ?_
    refine Road.istoreN 12 #[.val (.int x), .val (.long (Int32.toInt64 x)), .second, .val (.int (1 : Int32))] bDcl_d12 rfl ?_
    refine Road.lloadN 13 bDcl_d13 rfl ?_
    refine Road.lneg 14 bDcl_d14 ?_
    refine Road.lstoreN 15 #[.val (.int x), .val (.long (-(Int32.toInt64 x))), .second, .val (.int (1 : Int32))] bDcl_d15 rfl ?_
    refine Road.iloadN 16 bDcl_d16 rfl ?_
    refine Road.lloadN 17 bDcl_d17 rfl ?_
    refine Road.callS (B' := bDgs) 18 (argsL := [(.long (-(Int32.toInt64 x)))]) (rest := [(.int (1 : Int32))]) 1 bDcl_d18 (wI hw 34 rfl) (wI hw 35 rfl) (wI hw 32 rfl) (wI hw 36 rfl) (by decide) (cDgs l Z a0 hw n0 hEW (-(Int32.toInt64 x)) m h0 σ (Road.lneg_nat hmx (by rw [Road.i2l_int]; omega)) hmx) (lenOf bDgs_pd rfl) rfl rfl rfl (by decide) (by decide) (ce' := 0) (sl' := 0) rfl rfl (by decide) (by decide) ?_
    rintro _ h_5 σ_6 m_7 ⟨rfl, rfl⟩
    refine Road.Go.weaken (σ' := σ) m_7 (Nat.le_refl _) (Nat.le_refl _) ?_
    refine Road.iadd 21 bDcl_d21 ?_
    exact Road.iretI 22 bDcl_d22 rfl (by decide) (by decide) (fun σ' m => ⟨by rw [hdx, show (1 : Int32) = Nat.toInt32 1 from rfl, Road.add32n, Nat.add_comm]; rfl, rfl⟩)
def bDgt : Road.Bdy := (⟨"com/example/gridtally/gridtally/engine/OriginRefuseSecondPinLaw", "dig", "(J)C"⟩, method_5_code, 2, (some .char), { frames := 0, cells := 0, slots := 0, locals := 0 })
theorem bDgt_d0 : decode bDgt.bs 0 = .ok (.bipush 48, 2) := by decide +kernel
theorem bDgt_d2 : decode bDgt.bs 2 = .ok (.lload_n 0, 1) := by decide +kernel
theorem bDgt_d3 : decode bDgt.bs 3 = .ok (.ldc2_w 52, 3) := by decide +kernel
theorem bDgt_d6 : decode bDgt.bs 6 = .ok (.lrem, 1) := by decide +kernel
theorem bDgt_d7 : decode bDgt.bs 7 = .ok (.l2i, 1) := by decide +kernel
theorem bDgt_d8 : decode bDgt.bs 8 = .ok (.iadd, 1) := by decide +kernel
theorem bDgt_d9 : decode bDgt.bs 9 = .ok (.i2c, 1) := by decide +kernel
theorem bDgt_d10 : decode bDgt.bs 10 = .ok (.ireturn, 1) := by decide +kernel
theorem bDgt_pd : parseMethodDescriptor "(J)C" = some ⟨[.long], (some .char)⟩ := by decide +kernel
theorem bDgt_pn : plainFor bDgt.y = true := plainFor_of_name (show plainName "com/example/gridtally/gridtally/engine/OriginRefuseSecondPinLaw" = true from by first | (simp [plainName, overriddenIn]; done) | decide +kernel)
theorem cDgt (l : Launch) (Z : State) (a0 : Array Value) (hw : ∀ d ∈ tables_1, d.before a0 Z = true) (n0 : Nat) (hEW : EW Z a0 consts_1) (q : Int64) (k : Nat) (h0 : Heap) (σ : Addr → Prop) (hq : q.toInt = (k : Int)) (hk : k ≤ 2147483648) :
    Road.Con l Z consts_1 n0 true bDgt [] σ #[(.long q)] h0 (fun v h2 _ => v = some (.int (Road.dc (k % 10))) ∧ h0 = h2) := by
  refine Road.Con.of bDgt_pn hEW #[.val (.long q), .second] (fun m => Road.ent (Road.laid2 rfl Road.laid0) (k := 0) rfl rfl) ?_
  intro D hD
  refine Road.bipush 0 (48 : Int32) bDgt_d0 rfl ?_
  refine Road.lloadN 2 bDgt_d2 rfl ?_
  refine Road.ldc2J 3 bDgt_d3 (wI hw 37 rfl) ?_
  refine Road.lrem 6 bDgt_d6 (by decide) ?_
  refine Road.l2i 7 bDgt_d7 ?_
  refine Road.nameI ?_
  intro z_1 hz_1
  obtain rfl : z_1 = (Nat.toInt32 (k % 10)) := by rw [hz_1]; exact Road.l2i_nat (by omega) (Road.lrem_nat hk hq)
  refine Road.iadd 8 bDgt_d8 ?_
  refine Road.i2c 9 bDgt_d9 ?_
  exact Road.iret 10 (Road.dc (k % 10)) bDgt_d10 (t := .char) rfl (by simp) (Road.digit_char (Nat.mod_lt _ (by omega))) (by decide) (by decide) (fun σ' m => ⟨rfl, rfl⟩)
def bPti : Road.Bdy := (⟨"com/example/gridtally/gridtally/engine/OriginRefuseSecondPinLaw", "putInt", "([CII)I"⟩, method_6_code, 6, (some .int), { frames := 1, cells := 0, slots := 0, locals := 15 })
theorem bPti_d0 : decode bPti.bs 0 = .ok (.iload_n 2, 1) := by decide +kernel
theorem bPti_d1 : decode bPti.bs 1 = .ok (.i2l, 1) := by decide +kernel
theorem bPti_d2 : decode bPti.bs 2 = .ok (.lstore_n 3, 1) := by decide +kernel
theorem bPti_d3 : decode bPti.bs 3 = .ok (.lload_n 3, 1) := by decide +kernel
theorem bPti_d4 : decode bPti.bs 4 = .ok (.lconst 0, 1) := by decide +kernel
theorem bPti_d5 : decode bPti.bs 5 = .ok (.lcmp, 1) := by decide +kernel
theorem bPti_d6 : decode bPti.bs 6 = .ok (.ifCond .ge 14, 3) := by decide +kernel
theorem bPti_d9 : decode bPti.bs 9 = .ok (.aload_n 0, 1) := by decide +kernel
theorem bPti_d10 : decode bPti.bs 10 = .ok (.iload_n 1, 1) := by decide +kernel
theorem bPti_d11 : decode bPti.bs 11 = .ok (.iinc 1 1, 3) := by decide +kernel
theorem bPti_d14 : decode bPti.bs 14 = .ok (.bipush 45, 2) := by decide +kernel
theorem bPti_d16 : decode bPti.bs 16 = .ok (.castore, 1) := by decide +kernel
theorem bPti_d17 : decode bPti.bs 17 = .ok (.lload_n 3, 1) := by decide +kernel
theorem bPti_d18 : decode bPti.bs 18 = .ok (.lneg, 1) := by decide +kernel
theorem bPti_d19 : decode bPti.bs 19 = .ok (.lstore_n 3, 1) := by decide +kernel
theorem bPti_d20 : decode bPti.bs 20 = .ok (.lload_n 3, 1) := by decide +kernel
theorem bPti_d21 : decode bPti.bs 21 = .ok (.invokestatic 70, 3) := by decide +kernel
theorem bPti_d24 : decode bPti.bs 24 = .ok (.istore 5, 2) := by decide +kernel
theorem bPti_d26 : decode bPti.bs 26 = .ok (.iload 5, 2) := by decide +kernel
theorem bPti_d28 : decode bPti.bs 28 = .ok (.bipush 9, 2) := by decide +kernel
theorem bPti_d30 : decode bPti.bs 30 = .ok (.if_icmp .le 17, 3) := by decide +kernel
theorem bPti_d33 : decode bPti.bs 33 = .ok (.aload_n 0, 1) := by decide +kernel
theorem bPti_d34 : decode bPti.bs 34 = .ok (.iload_n 1, 1) := by decide +kernel
theorem bPti_d35 : decode bPti.bs 35 = .ok (.iinc 1 1, 3) := by decide +kernel
theorem bPti_d38 : decode bPti.bs 38 = .ok (.lload_n 3, 1) := by decide +kernel
theorem bPti_d39 : decode bPti.bs 39 = .ok (.ldc2_w 68, 3) := by decide +kernel
theorem bPti_d42 : decode bPti.bs 42 = .ok (.ldiv, 1) := by decide +kernel
theorem bPti_d43 : decode bPti.bs 43 = .ok (.invokestatic 74, 3) := by decide +kernel
theorem bPti_d46 : decode bPti.bs 46 = .ok (.castore, 1) := by decide +kernel
theorem bPti_d47 : decode bPti.bs 47 = .ok (.iload 5, 2) := by decide +kernel
theorem bPti_d49 : decode bPti.bs 49 = .ok (.bipush 8, 2) := by decide +kernel
theorem bPti_d51 : decode bPti.bs 51 = .ok (.if_icmp .le 17, 3) := by decide +kernel
theorem bPti_d54 : decode bPti.bs 54 = .ok (.aload_n 0, 1) := by decide +kernel
theorem bPti_d55 : decode bPti.bs 55 = .ok (.iload_n 1, 1) := by decide +kernel
theorem bPti_d56 : decode bPti.bs 56 = .ok (.iinc 1 1, 3) := by decide +kernel
theorem bPti_d59 : decode bPti.bs 59 = .ok (.lload_n 3, 1) := by decide +kernel
theorem bPti_d60 : decode bPti.bs 60 = .ok (.ldc2_w 66, 3) := by decide +kernel
theorem bPti_d63 : decode bPti.bs 63 = .ok (.ldiv, 1) := by decide +kernel
theorem bPti_d64 : decode bPti.bs 64 = .ok (.invokestatic 74, 3) := by decide +kernel
theorem bPti_d67 : decode bPti.bs 67 = .ok (.castore, 1) := by decide +kernel
theorem bPti_d68 : decode bPti.bs 68 = .ok (.iload 5, 2) := by decide +kernel
theorem bPti_d70 : decode bPti.bs 70 = .ok (.bipush 7, 2) := by decide +kernel
theorem bPti_d72 : decode bPti.bs 72 = .ok (.if_icmp .le 17, 3) := by decide +kernel
theorem bPti_d75 : decode bPti.bs 75 = .ok (.aload_n 0, 1) := by decide +kernel
theorem bPti_d76 : decode bPti.bs 76 = .ok (.iload_n 1, 1) := by decide +kernel
theorem bPti_d77 : decode bPti.bs 77 = .ok (.iinc 1 1, 3) := by decide +kernel
theorem bPti_d80 : decode bPti.bs 80 = .ok (.lload_n 3, 1) := by decide +kernel
theorem bPti_d81 : decode bPti.bs 81 = .ok (.ldc2_w 64, 3) := by decide +kernel
theorem bPti_d84 : decode bPti.bs 84 = .ok (.ldiv, 1) := by decide +kernel
theorem bPti_d85 : decode bPti.bs 85 = .ok (.invokestatic 74, 3) := by decide +kernel
theorem bPti_d88 : decode bPti.bs 88 = .ok (.castore, 1) := by decide +kernel
theorem bPti_d89 : decode bPti.bs 89 = .ok (.iload 5, 2) := by decide +kernel
theorem bPti_d91 : decode bPti.bs 91 = .ok (.bipush 6, 2) := by decide +kernel
theorem bPti_d93 : decode bPti.bs 93 = .ok (.if_icmp .le 17, 3) := by decide +kernel
theorem bPti_d96 : decode bPti.bs 96 = .ok (.aload_n 0, 1) := by decide +kernel
theorem bPti_d97 : decode bPti.bs 97 = .ok (.iload_n 1, 1) := by decide +kernel
theorem bPti_d98 : decode bPti.bs 98 = .ok (.iinc 1 1, 3) := by decide +kernel
theorem bPti_d101 : decode bPti.bs 101 = .ok (.lload_n 3, 1) := by decide +kernel
theorem bPti_d102 : decode bPti.bs 102 = .ok (.ldc2_w 62, 3) := by decide +kernel
theorem bPti_d105 : decode bPti.bs 105 = .ok (.ldiv, 1) := by decide +kernel
theorem bPti_d106 : decode bPti.bs 106 = .ok (.invokestatic 74, 3) := by decide +kernel
theorem bPti_d109 : decode bPti.bs 109 = .ok (.castore, 1) := by decide +kernel
theorem bPti_d110 : decode bPti.bs 110 = .ok (.iload 5, 2) := by decide +kernel
theorem bPti_d112 : decode bPti.bs 112 = .ok (.iconst 5, 1) := by decide +kernel
theorem bPti_d113 : decode bPti.bs 113 = .ok (.if_icmp .le 17, 3) := by decide +kernel
theorem bPti_d116 : decode bPti.bs 116 = .ok (.aload_n 0, 1) := by decide +kernel
theorem bPti_d117 : decode bPti.bs 117 = .ok (.iload_n 1, 1) := by decide +kernel
theorem bPti_d118 : decode bPti.bs 118 = .ok (.iinc 1 1, 3) := by decide +kernel
theorem bPti_d121 : decode bPti.bs 121 = .ok (.lload_n 3, 1) := by decide +kernel
theorem bPti_d122 : decode bPti.bs 122 = .ok (.ldc2_w 60, 3) := by decide +kernel
theorem bPti_d125 : decode bPti.bs 125 = .ok (.ldiv, 1) := by decide +kernel
theorem bPti_d126 : decode bPti.bs 126 = .ok (.invokestatic 74, 3) := by decide +kernel
theorem bPti_d129 : decode bPti.bs 129 = .ok (.castore, 1) := by decide +kernel
theorem bPti_d130 : decode bPti.bs 130 = .ok (.iload 5, 2) := by decide +kernel
theorem bPti_d132 : decode bPti.bs 132 = .ok (.iconst 4, 1) := by decide +kernel
theorem bPti_d133 : decode bPti.bs 133 = .ok (.if_icmp .le 17, 3) := by decide +kernel
theorem bPti_d136 : decode bPti.bs 136 = .ok (.aload_n 0, 1) := by decide +kernel
theorem bPti_d137 : decode bPti.bs 137 = .ok (.iload_n 1, 1) := by decide +kernel
theorem bPti_d138 : decode bPti.bs 138 = .ok (.iinc 1 1, 3) := by decide +kernel
theorem bPti_d141 : decode bPti.bs 141 = .ok (.lload_n 3, 1) := by decide +kernel
theorem bPti_d142 : decode bPti.bs 142 = .ok (.ldc2_w 58, 3) := by decide +kernel
theorem bPti_d145 : decode bPti.bs 145 = .ok (.ldiv, 1) := by decide +kernel
theorem bPti_d146 : decode bPti.bs 146 = .ok (.invokestatic 74, 3) := by decide +kernel
theorem bPti_d149 : decode bPti.bs 149 = .ok (.castore, 1) := by decide +kernel
theorem bPti_d150 : decode bPti.bs 150 = .ok (.iload 5, 2) := by decide +kernel
theorem bPti_d152 : decode bPti.bs 152 = .ok (.iconst 3, 1) := by decide +kernel
theorem bPti_d153 : decode bPti.bs 153 = .ok (.if_icmp .le 17, 3) := by decide +kernel
theorem bPti_d156 : decode bPti.bs 156 = .ok (.aload_n 0, 1) := by decide +kernel
theorem bPti_d157 : decode bPti.bs 157 = .ok (.iload_n 1, 1) := by decide +kernel
theorem bPti_d158 : decode bPti.bs 158 = .ok (.iinc 1 1, 3) := by decide +kernel
theorem bPti_d161 : decode bPti.bs 161 = .ok (.lload_n 3, 1) := by decide +kernel
theorem bPti_d162 : decode bPti.bs 162 = .ok (.ldc2_w 56, 3) := by decide +kernel
theorem bPti_d165 : decode bPti.bs 165 = .ok (.ldiv, 1) := by decide +kernel
theorem bPti_d166 : decode bPti.bs 166 = .ok (.invokestatic 74, 3) := by decide +kernel
theorem bPti_d169 : decode bPti.bs 169 = .ok (.castore, 1) := by decide +kernel
theorem bPti_d170 : decode bPti.bs 170 = .ok (.iload 5, 2) := by decide +kernel
theorem bPti_d172 : decode bPti.bs 172 = .ok (.iconst 2, 1) := by decide +kernel
theorem bPti_d173 : decode bPti.bs 173 = .ok (.if_icmp .le 17, 3) := by decide +kernel
theorem bPti_d176 : decode bPti.bs 176 = .ok (.aload_n 0, 1) := by decide +kernel
theorem bPti_d177 : decode bPti.bs 177 = .ok (.iload_n 1, 1) := by decide +kernel
theorem bPti_d178 : decode bPti.bs 178 = .ok (.iinc 1 1, 3) := by decide +kernel
theorem bPti_d181 : decode bPti.bs 181 = .ok (.lload_n 3, 1) := by decide +kernel
theorem bPti_d182 : decode bPti.bs 182 = .ok (.ldc2_w 54, 3) := by decide +kernel
theorem bPti_d185 : decode bPti.bs 185 = .ok (.ldiv, 1) := by decide +kernel
theorem bPti_d186 : decode bPti.bs 186 = .ok (.invokestatic 74, 3) := by decide +kernel
theorem bPti_d189 : decode bPti.bs 189 = .ok (.castore, 1) := by decide +kernel
theorem bPti_d190 : decode bPti.bs 190 = .ok (.iload 5, 2) := by decide +kernel
theorem bPti_d192 : decode bPti.bs 192 = .ok (.iconst 1, 1) := by decide +kernel
theorem bPti_d193 : decode bPti.bs 193 = .ok (.if_icmp .le 17, 3) := by decide +kernel
theorem bPti_d196 : decode bPti.bs 196 = .ok (.aload_n 0, 1) := by decide +kernel
theorem bPti_d197 : decode bPti.bs 197 = .ok (.iload_n 1, 1) := by decide +kernel
theorem bPti_d198 : decode bPti.bs 198 = .ok (.iinc 1 1, 3) := by decide +kernel
theorem bPti_d201 : decode bPti.bs 201 = .ok (.lload_n 3, 1) := by decide +kernel
theorem bPti_d202 : decode bPti.bs 202 = .ok (.ldc2_w 52, 3) := by decide +kernel
theorem bPti_d205 : decode bPti.bs 205 = .ok (.ldiv, 1) := by decide +kernel
theorem bPti_d206 : decode bPti.bs 206 = .ok (.invokestatic 74, 3) := by decide +kernel
theorem bPti_d209 : decode bPti.bs 209 = .ok (.castore, 1) := by decide +kernel
theorem bPti_d210 : decode bPti.bs 210 = .ok (.aload_n 0, 1) := by decide +kernel
theorem bPti_d211 : decode bPti.bs 211 = .ok (.iload_n 1, 1) := by decide +kernel
theorem bPti_d212 : decode bPti.bs 212 = .ok (.iinc 1 1, 3) := by decide +kernel
theorem bPti_d215 : decode bPti.bs 215 = .ok (.lload_n 3, 1) := by decide +kernel
theorem bPti_d216 : decode bPti.bs 216 = .ok (.invokestatic 74, 3) := by decide +kernel
theorem bPti_d219 : decode bPti.bs 219 = .ok (.castore, 1) := by decide +kernel
theorem bPti_d220 : decode bPti.bs 220 = .ok (.iload_n 1, 1) := by decide +kernel
theorem bPti_d221 : decode bPti.bs 221 = .ok (.ireturn, 1) := by decide +kernel
theorem bPti_pd : parseMethodDescriptor "([CII)I" = some ⟨[(.array .char), .int, .int], (some .int)⟩ := by decide +kernel
theorem bPti_pn : plainFor bPti.y = true := plainFor_of_name (show plainName "com/example/gridtally/gridtally/engine/OriginRefuseSecondPinLaw" = true from by first | (simp [plainName, overriddenIn]; done) | decide +kernel)
theorem cPti (l : Launch) (Z : State) (a0 : Array Value) (hw : ∀ d ∈ tables_1, d.before a0 Z = true) (n0 : Nat) (hEW : EW Z a0 consts_1) (e : Addr) (pre : List Int32) (r : Nat) (x : Int32) (h0 : Heap) (σ : Addr → Prop) (A : Road.Ary Z h0 e .char (pre.map Value.int ++ List.replicate r (Value.int 0))) (hr : (Road.dec x).length ≤ r) (se : σ e) :
    Road.Con l Z consts_1 n0 true bPti [] σ #[(.ref e), (.int (Nat.toInt32 pre.length)), (.int x)] h0 (fun v h2 _ => v = some (.int (Nat.toInt32 (pre ++ Road.dec x).length)) ∧ Keep h0 h2 [e] ∧ Road.Ary Z h2 e .char ((pre ++ Road.dec x).map Value.int ++ List.replicate (r - (Road.dec x).length) (Value.int 0))) := by
  refine Road.Con.of bPti_pn hEW #[.val (.ref e), .val (.int (Nat.toInt32 pre.length)), .val (.int x), .unset, .unset, .unset] (fun m => Road.ent (Road.laid1 rfl (Road.laid1 rfl (Road.laid1 rfl Road.laid0))) (k := 3) rfl rfl) ?_
  intro D hD
  have hmx := Road.nat_le x
  obtain ⟨m, hm⟩ : ∃ m, m = x.toInt.natAbs := ⟨_, rfl⟩
  rw [← hm] at hmx
  have J20 : ∀ (h : Heap) (pr : List Int32) (r' : Nat) (v : Int64), Keep h0 h [e] → Road.Ary Z h e .char (pr.map Value.int ++ List.replicate (r' - 0) (Value.int 0)) → v.toInt = (m : Int) → (Road.decN m).length ≤ r' → pre ++ Road.dec x = pr ++ Road.decN m → r - (Road.dec x).length = r' - (Road.decN m).length → Road.Go l Z a0 consts_1 n0 true bPti D (fun v h2 _ => v = some (.int (Nat.toInt32 (pre ++ Road.dec x).length)) ∧ Keep h0 h2 [e] ∧ Road.Ary Z h2 e .char ((pre ++ Road.dec x).map Value.int ++ List.replicate (r - (Road.dec x).length) (Value.int 0))) h σ 0 0 20 #[.val (.ref e), .val (.int (Nat.toInt32 pr.length)), .val (.int x), .val (.long v), .second, .unset] [] := by
    intro h pr r' v KE A hv hr' he hrr
    have hsm := A.small
    simp only [List.length_append, List.length_map, List.length_replicate] at hsm
    refine Road.lloadN 20 bPti_d20 rfl ?_
    refine Road.callS (B' := bDgs) 21 (argsL := [(.long v)]) (rest := []) 0 bPti_d21 (wI hw 34 rfl) (wI hw 35 rfl) (wI hw 32 rfl) (wI hw 36 rfl) (by decide) (cDgs l Z a0 hw n0 hEW v m h σ hv hmx) (lenOf bDgs_pd rfl) rfl rfl rfl (by decide) (by decide) (ce' := 0) (sl' := 0) rfl rfl (by decide) (by decide) ?_
    rintro _ h_1 σ_2 m_3 ⟨rfl, rfl⟩
    refine Road.Go.weaken (σ' := σ) m_3 (Nat.le_refl _) (Nat.le_refl _) ?_
    have hcs : m < 10 ∨ (10 ≤ m ∧ m < 100) ∨ (100 ≤ m ∧ m < 1000) ∨ (1000 ≤ m ∧ m < 10000) ∨ (10000 ≤ m ∧ m < 100000) ∨ (100000 ≤ m ∧ m < 1000000) ∨ (1000000 ≤ m ∧ m < 10000000) ∨ (10000000 ≤ m ∧ m < 100000000) ∨ (100000000 ≤ m ∧ m < 1000000000) ∨ 1000000000 ≤ m := by omega
    rcases hcs with hq | hq | hq | hq | hq | hq | hq | hq | hq | hq
    · skip
      have hlen := Road.decN_len 0 m (by omega) (Or.inl rfl)
      refine Road.nameI ?_
      intro z_5 hz_5
      obtain rfl : z_5 = (1 : Int32) := by rw [hz_5]; rw [hlen]; rfl
      have hlist : Road.decN m = [Road.dc (m / 1 % 10)] := by rw [Road.decN_list, hlen]; rfl
      refine Road.istore 24 #[.val (.ref e), .val (.int (Nat.toInt32 pr.length)), .val (.int x), .val (.long v), .second, .val (.int (1 : Int32))] bPti_d24 rfl ?_
      refine Road.iload 26 bPti_d26 rfl ?_
      refine Road.bipush 28 (9 : Int32) bPti_d28 rfl ?_
      refine Road.icmp_le 30 47 bPti_d30 rfl (fun hc30 => ?_) (fun q => absurd q (by decide))
      refine Road.iload 47 bPti_d47 rfl ?_
      refine Road.bipush 49 (8 : Int32) bPti_d49 rfl ?_
      refine Road.icmp_le 51 68 bPti_d51 rfl (fun hc51 => ?_) (fun q => absurd q (by decide))
      refine Road.iload 68 bPti_d68 rfl ?_
      refine Road.bipush 70 (7 : Int32) bPti_d70 rfl ?_
      refine Road.icmp_le 72 89 bPti_d72 rfl (fun hc72 => ?_) (fun q => absurd q (by decide))
      refine Road.iload 89 bPti_d89 rfl ?_
      refine Road.bipush 91 (6 : Int32) bPti_d91 rfl ?_
      refine Road.icmp_le 93 110 bPti_d93 rfl (fun hc93 => ?_) (fun q => absurd q (by decide))
      refine Road.iload 110 bPti_d110 rfl ?_
      refine Road.iconst 112 (5 : Int32) bPti_d112 rfl ?_
      refine Road.icmp_le 113 130 bPti_d113 rfl (fun hc113 => ?_) (fun q => absurd q (by decide))
      refine Road.iload 130 bPti_d130 rfl ?_
      refine Road.iconst 132 (4 : Int32) bPti_d132 rfl ?_
      refine Road.icmp_le 133 150 bPti_d133 rfl (fun hc133 => ?_) (fun q => absurd q (by decide))
      refine Road.iload 150 bPti_d150 rfl ?_
      refine Road.iconst 152 (3 : Int32) bPti_d152 rfl ?_
      refine Road.icmp_le 153 170 bPti_d153 rfl (fun hc153 => ?_) (fun q => absurd q (by decide))
      refine Road.iload 170 bPti_d170 rfl ?_
      refine Road.iconst 172 (2 : Int32) bPti_d172 rfl ?_
      refine Road.icmp_le 173 190 bPti_d173 rfl (fun hc173 => ?_) (fun q => absurd q (by decide))
      refine Road.iload 190 bPti_d190 rfl ?_
      refine Road.iconst 192 (1 : Int32) bPti_d192 rfl ?_
      refine Road.icmp_le 193 210 bPti_d193 rfl (fun hc193 => ?_) (fun q => absurd q (by decide))
      refine Road.aloadN 210 bPti_d210 rfl ?_
      refine Road.iloadN 211 bPti_d211 rfl ?_
      refine Road.iinc 212 (1) #[.val (.ref e), .val (.int ((Nat.toInt32 pr.length) + 1)), .val (.int x), .val (.long v), .second, .val (.int (1 : Int32))] bPti_d212 rfl rfl rfl ?_
      refine Road.lloadN 215 bPti_d215 rfl ?_
      refine Road.callS (B' := bDgt) 216 (argsL := [(.long v)]) (rest := [(.int (Nat.toInt32 pr.length)), (.ref e)]) 2 bPti_d216 (wI hw 42 rfl) (wI hw 43 rfl) (wI hw 32 rfl) (wI hw 44 rfl) (by decide) (cDgt l Z a0 hw n0 hEW v (m / 1) h σ (by rw [hv, Nat.div_one]) (by rw [Nat.div_one]; exact hmx)) (lenOf bDgt_pd rfl) rfl rfl rfl (by decide) (by decide) (ce' := 0) (sl' := 0) rfl rfl (by decide) (by decide) ?_
      rintro _ h_6 σ_7 m_8 ⟨rfl, rfl⟩
      refine Road.Go.weaken (σ' := σ) m_8 (Nat.le_refl _) (Nat.le_refl _) ?_
      refine Road.castore 219 pr.length (Road.dc ((m / 1) % 10)) bPti_d219 A (Road.n32 (by omega)) (by simp only [List.length_append, List.length_map, List.length_replicate]; omega) (Road.nar_dcc (Nat.mod_lt _ (by omega))) se ?_
      intro h_10 K_11 A_12
      replace A := A_12
      rw [Road.buf_set (by omega : 0 < r')] at A
      obtain ⟨u1, hu1⟩ : ∃ u_, u_ = pr ++ [(Road.dc ((m / 1) % 10))] := ⟨_, rfl⟩
      have hn1 : u1.length = pr.length + 1 := by rw [hu1, List.length_append]; try rfl
      rw [← hu1] at A
      rw [show (((Nat.toInt32 pr.length) + 1) : Int32) = (Nat.toInt32 u1.length) from by rw [hn1]; exact Road.succ32 _]
      replace KE := KE.trans K_11 (by simp)
      refine Road.iloadN 220 bPti_d220 rfl ?_
      have hcur : u1 = pre ++ Road.dec x := by rw [hu1, he, hlist]; try simp only [List.append_assoc, List.cons_append, List.nil_append]
      rw [hcur] at A
      rw [hlen] at hrr
      rw [← hrr] at A
      exact Road.iretI 221 bPti_d221 rfl (by decide) (by decide) (fun σ' m => ⟨by rw [hcur], KE, A⟩)
    · skip
      have hlen := Road.decN_len 1 m (by omega) (Or.inr (by omega))
      refine Road.nameI ?_
      intro z_13 hz_13
      obtain rfl : z_13 = (2 : Int32) := by rw [hz_13]; rw [hlen]; rfl
      have hlist : Road.decN m = [Road.dc (m / 10 % 10), Road.dc (m / 1 % 10)] := by rw [Road.decN_list, hlen]; rfl
      refine Road.istore 24 #[.val (.ref e), .val (.int (Nat.toInt32 pr.length)), .val (.int x), .val (.long v), .second, .val (.int (2 : Int32))] bPti_d24 rfl ?_
      refine Road.iload 26 bPti_d26 rfl ?_
      refine Road.bipush 28 (9 : Int32) bPti_d28 rfl ?_
      refine Road.icmp_le 30 47 bPti_d30 rfl (fun hc30 => ?_) (fun q => absurd q (by decide))
      refine Road.iload 47 bPti_d47 rfl ?_
      refine Road.bipush 49 (8 : Int32) bPti_d49 rfl ?_
      refine Road.icmp_le 51 68 bPti_d51 rfl (fun hc51 => ?_) (fun q => absurd q (by decide))
      refine Road.iload 68 bPti_d68 rfl ?_
      refine Road.bipush 70 (7 : Int32) bPti_d70 rfl ?_
      refine Road.icmp_le 72 89 bPti_d72 rfl (fun hc72 => ?_) (fun q => absurd q (by decide))
      refine Road.iload 89 bPti_d89 rfl ?_
      refine Road.bipush 91 (6 : Int32) bPti_d91 rfl ?_
      refine Road.icmp_le 93 110 bPti_d93 rfl (fun hc93 => ?_) (fun q => absurd q (by decide))
      refine Road.iload 110 bPti_d110 rfl ?_
      refine Road.iconst 112 (5 : Int32) bPti_d112 rfl ?_
      refine Road.icmp_le 113 130 bPti_d113 rfl (fun hc113 => ?_) (fun q => absurd q (by decide))
      refine Road.iload 130 bPti_d130 rfl ?_
      refine Road.iconst 132 (4 : Int32) bPti_d132 rfl ?_
      refine Road.icmp_le 133 150 bPti_d133 rfl (fun hc133 => ?_) (fun q => absurd q (by decide))
      refine Road.iload 150 bPti_d150 rfl ?_
      refine Road.iconst 152 (3 : Int32) bPti_d152 rfl ?_
      refine Road.icmp_le 153 170 bPti_d153 rfl (fun hc153 => ?_) (fun q => absurd q (by decide))
      refine Road.iload 170 bPti_d170 rfl ?_
      refine Road.iconst 172 (2 : Int32) bPti_d172 rfl ?_
      refine Road.icmp_le 173 190 bPti_d173 rfl (fun hc173 => ?_) (fun q => absurd q (by decide))
      refine Road.iload 190 bPti_d190 rfl ?_
      refine Road.iconst 192 (1 : Int32) bPti_d192 rfl ?_
      refine Road.icmp_le 193 210 bPti_d193 rfl (fun q => absurd q (by decide)) (fun hc193 => ?_)
      refine Road.aloadN 196 bPti_d196 rfl ?_
      refine Road.iloadN 197 bPti_d197 rfl ?_
      refine Road.iinc 198 (1) #[.val (.ref e), .val (.int ((Nat.toInt32 pr.length) + 1)), .val (.int x), .val (.long v), .second, .val (.int (2 : Int32))] bPti_d198 rfl rfl rfl ?_
      refine Road.lloadN 201 bPti_d201 rfl ?_
      refine Road.ldc2J 202 bPti_d202 (wI hw 37 rfl) ?_
      refine Road.ldiv 205 bPti_d205 (by decide) ?_
      refine Road.callS (B' := bDgt) 206 (argsL := [(.long (v / 10))]) (rest := [(.int (Nat.toInt32 pr.length)), (.ref e)]) 2 bPti_d206 (wI hw 42 rfl) (wI hw 43 rfl) (wI hw 32 rfl) (wI hw 44 rfl) (by decide) (cDgt l Z a0 hw n0 hEW (v / 10) (m / 10) h σ (Road.ldiv_nat hmx (by decide) hv (k := 10) rfl) (Nat.le_trans (Nat.div_le_self _ _) hmx)) (lenOf bDgt_pd rfl) rfl rfl rfl (by decide) (by decide) (ce' := 0) (sl' := 0) rfl rfl (by decide) (by decide) ?_
      rintro _ h_14 σ_15 m_16 ⟨rfl, rfl⟩
      refine Road.Go.weaken (σ' := σ) m_16 (Nat.le_refl _) (Nat.le_refl _) ?_
      refine Road.castore 209 pr.length (Road.dc ((m / 10) % 10)) bPti_d209 A (Road.n32 (by omega)) (by simp only [List.length_append, List.length_map, List.length_replicate]; omega) (Road.nar_dcc (Nat.mod_lt _ (by omega))) se ?_
      intro h_18 K_19 A_20
      replace A := A_20
      rw [Road.buf_set (by omega : 0 < r')] at A
      obtain ⟨u1, hu1⟩ : ∃ u_, u_ = pr ++ [(Road.dc ((m / 10) % 10))] := ⟨_, rfl⟩
      have hn1 : u1.length = pr.length + 1 := by rw [hu1, List.length_append]; try rfl
      rw [← hu1] at A
      rw [show (((Nat.toInt32 pr.length) + 1) : Int32) = (Nat.toInt32 u1.length) from by rw [hn1]; exact Road.succ32 _]
      replace KE := KE.trans K_19 (by simp)
      refine Road.aloadN 210 bPti_d210 rfl ?_
      refine Road.iloadN 211 bPti_d211 rfl ?_
      refine Road.iinc 212 (1) #[.val (.ref e), .val (.int ((Nat.toInt32 u1.length) + 1)), .val (.int x), .val (.long v), .second, .val (.int (2 : Int32))] bPti_d212 rfl rfl rfl ?_
      refine Road.lloadN 215 bPti_d215 rfl ?_
      refine Road.callS (B' := bDgt) 216 (argsL := [(.long v)]) (rest := [(.int (Nat.toInt32 u1.length)), (.ref e)]) 2 bPti_d216 (wI hw 42 rfl) (wI hw 43 rfl) (wI hw 32 rfl) (wI hw 44 rfl) (by decide) (cDgt l Z a0 hw n0 hEW v (m / 1) h_18 σ (by rw [hv, Nat.div_one]) (by rw [Nat.div_one]; exact hmx)) (lenOf bDgt_pd rfl) rfl rfl rfl (by decide) (by decide) (ce' := 0) (sl' := 0) rfl rfl (by decide) (by decide) ?_
      rintro _ h_21 σ_22 m_23 ⟨rfl, rfl⟩
      refine Road.Go.weaken (σ' := σ) m_23 (Nat.le_refl _) (Nat.le_refl _) ?_
      refine Road.castore 219 u1.length (Road.dc ((m / 1) % 10)) bPti_d219 A (Road.n32 (by omega)) (by simp only [List.length_append, List.length_map, List.length_replicate]; omega) (Road.nar_dcc (Nat.mod_lt _ (by omega))) se ?_
      intro h_25 K_26 A_27
      replace A := A_27
      rw [Road.buf_set (by omega : 1 < r')] at A
      obtain ⟨u2, hu2⟩ : ∃ u_, u_ = u1 ++ [(Road.dc ((m / 1) % 10))] := ⟨_, rfl⟩
      have hn2 : u2.length = u1.length + 1 := by rw [hu2, List.length_append]; try rfl
      rw [← hu2] at A
      rw [show (((Nat.toInt32 u1.length) + 1) : Int32) = (Nat.toInt32 u2.length) from by rw [hn2]; exact Road.succ32 _]
      replace KE := KE.trans K_26 (by simp)
      refine Road.iloadN 220 bPti_d220 rfl ?_
      have hcur : u2 = pre ++ Road.dec x := by rw [hu2, hu1, he, hlist]; try simp only [List.append_assoc, List.cons_append, List.nil_append]
      rw [hcur] at A
      rw [hlen] at hrr
      rw [← hrr] at A
      exact Road.iretI 221 bPti_d221 rfl (by decide) (by decide) (fun σ' m => ⟨by rw [hcur], KE, A⟩)
    · skip
      have hlen := Road.decN_len 2 m (by omega) (Or.inr (by omega))
      refine Road.nameI ?_
      intro z_28 hz_28
      obtain rfl : z_28 = (3 : Int32) := by rw [hz_28]; rw [hlen]; rfl
      have hlist : Road.decN m = [Road.dc (m / 100 % 10), Road.dc (m / 10 % 10), Road.dc (m / 1 % 10)] := by rw [Road.decN_list, hlen]; rfl
      refine Road.istore 24 #[.val (.ref e), .val (.int (Nat.toInt32 pr.length)), .val (.int x), .val (.long v), .second, .val (.int (3 : Int32))] bPti_d24 rfl ?_
      refine Road.iload 26 bPti_d26 rfl ?_
      refine Road.bipush 28 (9 : Int32) bPti_d28 rfl ?_
      refine Road.icmp_le 30 47 bPti_d30 rfl (fun hc30 => ?_) (fun q => absurd q (by decide))
      refine Road.iload 47 bPti_d47 rfl ?_
      refine Road.bipush 49 (8 : Int32) bPti_d49 rfl ?_
      refine Road.icmp_le 51 68 bPti_d51 rfl (fun hc51 => ?_) (fun q => absurd q (by decide))
      refine Road.iload 68 bPti_d68 rfl ?_
      refine Road.bipush 70 (7 : Int32) bPti_d70 rfl ?_
      refine Road.icmp_le 72 89 bPti_d72 rfl (fun hc72 => ?_) (fun q => absurd q (by decide))
      refine Road.iload 89 bPti_d89 rfl ?_
      refine Road.bipush 91 (6 : Int32) bPti_d91 rfl ?_
      refine Road.icmp_le 93 110 bPti_d93 rfl (fun hc93 => ?_) (fun q => absurd q (by decide))
      refine Road.iload 110 bPti_d110 rfl ?_
      refine Road.iconst 112 (5 : Int32) bPti_d112 rfl ?_
      refine Road.icmp_le 113 130 bPti_d113 rfl (fun hc113 => ?_) (fun q => absurd q (by decide))
      refine Road.iload 130 bPti_d130 rfl ?_
      refine Road.iconst 132 (4 : Int32) bPti_d132 rfl ?_
      refine Road.icmp_le 133 150 bPti_d133 rfl (fun hc133 => ?_) (fun q => absurd q (by decide))
      refine Road.iload 150 bPti_d150 rfl ?_
      refine Road.iconst 152 (3 : Int32) bPti_d152 rfl ?_
      refine Road.icmp_le 153 170 bPti_d153 rfl (fun hc153 => ?_) (fun q => absurd q (by decide))
      refine Road.iload 170 bPti_d170 rfl ?_
      refine Road.iconst 172 (2 : Int32) bPti_d172 rfl ?_
      refine Road.icmp_le 173 190 bPti_d173 rfl (fun q => absurd q (by decide)) (fun hc173 => ?_)
      refine Road.aloadN 176 bPti_d176 rfl ?_
      refine Road.iloadN 177 bPti_d177 rfl ?_
      refine Road.iinc 178 (1) #[.val (.ref e), .val (.int ((Nat.toInt32 pr.length) + 1)), .val (.int x), .val (.long v), .second, .val (.int (3 : Int32))] bPti_d178 rfl rfl rfl ?_
      refine Road.lloadN 181 bPti_d181 rfl ?_
      refine Road.ldc2J 182 bPti_d182 (wI hw 328 rfl) ?_
      refine Road.ldiv 185 bPti_d185 (by decide) ?_
      refine Road.callS (B' := bDgt) 186 (argsL := [(.long (v / 100))]) (rest := [(.int (Nat.toInt32 pr.length)), (.ref e)]) 2 bPti_d186 (wI hw 42 rfl) (wI hw 43 rfl) (wI hw 32 rfl) (wI hw 44 rfl) (by decide) (cDgt l Z a0 hw n0 hEW (v / 100) (m / 100) h σ (Road.ldiv_nat hmx (by decide) hv (k := 100) rfl) (Nat.le_trans (Nat.div_le_self _ _) hmx)) (lenOf bDgt_pd rfl) rfl rfl rfl (by decide) (by decide) (ce' := 0) (sl' := 0) rfl rfl (by decide) (by decide) ?_
      rintro _ h_29 σ_30 m_31 ⟨rfl, rfl⟩
      refine Road.Go.weaken (σ' := σ) m_31 (Nat.le_refl _) (Nat.le_refl _) ?_
      refine Road.castore 189 pr.length (Road.dc ((m / 100) % 10)) bPti_d189 A (Road.n32 (by omega)) (by simp only [List.length_append, List.length_map, List.length_replicate]; omega) (Road.nar_dcc (Nat.mod_lt _ (by omega))) se ?_
      intro h_33 K_34 A_35
      replace A := A_35
      rw [Road.buf_set (by omega : 0 < r')] at A
      obtain ⟨u1, hu1⟩ : ∃ u_, u_ = pr ++ [(Road.dc ((m / 100) % 10))] := ⟨_, rfl⟩
      have hn1 : u1.length = pr.length + 1 := by rw [hu1, List.length_append]; try rfl
      rw [← hu1] at A
      rw [show (((Nat.toInt32 pr.length) + 1) : Int32) = (Nat.toInt32 u1.length) from by rw [hn1]; exact Road.succ32 _]
      replace KE := KE.trans K_34 (by simp)
      refine Road.iload 190 bPti_d190 rfl ?_
      refine Road.iconst 192 (1 : Int32) bPti_d192 rfl ?_
      refine Road.icmp_le 193 210 bPti_d193 rfl (fun q => absurd q (by decide)) (fun hc193 => ?_)
      refine Road.aloadN 196 bPti_d196 rfl ?_
      refine Road.iloadN 197 bPti_d197 rfl ?_
      refine Road.iinc 198 (1) #[.val (.ref e), .val (.int ((Nat.toInt32 u1.length) + 1)), .val (.int x), .val (.long v), .second, .val (.int (3 : Int32))] bPti_d198 rfl rfl rfl ?_
      refine Road.lloadN 201 bPti_d201 rfl ?_
      refine Road.ldc2J 202 bPti_d202 (wI hw 37 rfl) ?_
      refine Road.ldiv 205 bPti_d205 (by decide) ?_
      refine Road.callS (B' := bDgt) 206 (argsL := [(.long (v / 10))]) (rest := [(.int (Nat.toInt32 u1.length)), (.ref e)]) 2 bPti_d206 (wI hw 42 rfl) (wI hw 43 rfl) (wI hw 32 rfl) (wI hw 44 rfl) (by decide) (cDgt l Z a0 hw n0 hEW (v / 10) (m / 10) h_33 σ (Road.ldiv_nat hmx (by decide) hv (k := 10) rfl) (Nat.le_trans (Nat.div_le_self _ _) hmx)) (lenOf bDgt_pd rfl) rfl rfl rfl (by decide) (by decide) (ce' := 0) (sl' := 0) rfl rfl (by decide) (by decide) ?_
      rintro _ h_36 σ_37 m_38 ⟨rfl, rfl⟩
      refine Road.Go.weaken (σ' := σ) m_38 (Nat.le_refl _) (Nat.le_refl _) ?_
      refine Road.castore 209 u1.length (Road.dc ((m / 10) % 10)) bPti_d209 A (Road.n32 (by omega)) (by simp only [List.length_append, List.length_map, List.length_replicate]; omega) (Road.nar_dcc (Nat.mod_lt _ (by omega))) se ?_
      intro h_40 K_41 A_42
      replace A := A_42
      rw [Road.buf_set (by omega : 1 < r')] at A
      obtain ⟨u2, hu2⟩ : ∃ u_, u_ = u1 ++ [(Road.dc ((m / 10) % 10))] := ⟨_, rfl⟩
      have hn2 : u2.length = u1.length + 1 := by rw [hu2, List.length_append]; try rfl
      rw [← hu2] at A
      rw [show (((Nat.toInt32 u1.length) + 1) : Int32) = (Nat.toInt32 u2.length) from by rw [hn2]; exact Road.succ32 _]
      replace KE := KE.trans K_41 (by simp)
      refine Road.aloadN 210 bPti_d210 rfl ?_
      refine Road.iloadN 211 bPti_d211 rfl ?_
      refine Road.iinc 212 (1) #[.val (.ref e), .val (.int ((Nat.toInt32 u2.length) + 1)), .val (.int x), .val (.long v), .second, .val (.int (3 : Int32))] bPti_d212 rfl rfl rfl ?_
      refine Road.lloadN 215 bPti_d215 rfl ?_
      refine Road.callS (B' := bDgt) 216 (argsL := [(.long v)]) (rest := [(.int (Nat.toInt32 u2.length)), (.ref e)]) 2 bPti_d216 (wI hw 42 rfl) (wI hw 43 rfl) (wI hw 32 rfl) (wI hw 44 rfl) (by decide) (cDgt l Z a0 hw n0 hEW v (m / 1) h_40 σ (by rw [hv, Nat.div_one]) (by rw [Nat.div_one]; exact hmx)) (lenOf bDgt_pd rfl) rfl rfl rfl (by decide) (by decide) (ce' := 0) (sl' := 0) rfl rfl (by decide) (by decide) ?_
      rintro _ h_43 σ_44 m_45 ⟨rfl, rfl⟩
      refine Road.Go.weaken (σ' := σ) m_45 (Nat.le_refl _) (Nat.le_refl _) ?_
      refine Road.castore 219 u2.length (Road.dc ((m / 1) % 10)) bPti_d219 A (Road.n32 (by omega)) (by simp only [List.length_append, List.length_map, List.length_replicate]; omega) (Road.nar_dcc (Nat.mod_lt _ (by omega))) se ?_
      intro h_47 K_48 A_49
      replace A := A_49
      rw [Road.buf_set (by omega : 2 < r')] at A
      obtain ⟨u3, hu3⟩ : ∃ u_, u_ = u2 ++ [(Road.dc ((m / 1) % 10))] := ⟨_, rfl⟩
      have hn3 : u3.length = u2.length + 1 := by rw [hu3, List.length_append]; try rfl
      rw [← hu3] at A
      rw [show (((Nat.toInt32 u2.length) + 1) : Int32) = (Nat.toInt32 u3.length) from by rw [hn3]; exact Road.succ32 _]
      replace KE := KE.trans K_48 (by simp)
      refine Road.iloadN 220 bPti_d220 rfl ?_
      have hcur : u3 = pre ++ Road.dec x := by rw [hu3, hu2, hu1, he, hlist]; try simp only [List.append_assoc, List.cons_append, List.nil_append]
      rw [hcur] at A
      rw [hlen] at hrr
      rw [← hrr] at A
      exact Road.iretI 221 bPti_d221 rfl (by decide) (by decide) (fun σ' m => ⟨by rw [hcur], KE, A⟩)
    · skip
      have hlen := Road.decN_len 3 m (by omega) (Or.inr (by omega))
      refine Road.nameI ?_
      intro z_50 hz_50
      obtain rfl : z_50 = (4 : Int32) := by rw [hz_50]; rw [hlen]; rfl
      have hlist : Road.decN m = [Road.dc (m / 1000 % 10), Road.dc (m / 100 % 10), Road.dc (m / 10 % 10), Road.dc (m / 1 % 10)] := by rw [Road.decN_list, hlen]; rfl
      refine Road.istore 24 #[.val (.ref e), .val (.int (Nat.toInt32 pr.length)), .val (.int x), .val (.long v), .second, .val (.int (4 : Int32))] bPti_d24 rfl ?_
      refine Road.iload 26 bPti_d26 rfl ?_
      refine Road.bipush 28 (9 : Int32) bPti_d28 rfl ?_
      refine Road.icmp_le 30 47 bPti_d30 rfl (fun hc30 => ?_) (fun q => absurd q (by decide))
      refine Road.iload 47 bPti_d47 rfl ?_
      refine Road.bipush 49 (8 : Int32) bPti_d49 rfl ?_
      refine Road.icmp_le 51 68 bPti_d51 rfl (fun hc51 => ?_) (fun q => absurd q (by decide))
      refine Road.iload 68 bPti_d68 rfl ?_
      refine Road.bipush 70 (7 : Int32) bPti_d70 rfl ?_
      refine Road.icmp_le 72 89 bPti_d72 rfl (fun hc72 => ?_) (fun q => absurd q (by decide))
      refine Road.iload 89 bPti_d89 rfl ?_
      refine Road.bipush 91 (6 : Int32) bPti_d91 rfl ?_
      refine Road.icmp_le 93 110 bPti_d93 rfl (fun hc93 => ?_) (fun q => absurd q (by decide))
      refine Road.iload 110 bPti_d110 rfl ?_
      refine Road.iconst 112 (5 : Int32) bPti_d112 rfl ?_
      refine Road.icmp_le 113 130 bPti_d113 rfl (fun hc113 => ?_) (fun q => absurd q (by decide))
      refine Road.iload 130 bPti_d130 rfl ?_
      refine Road.iconst 132 (4 : Int32) bPti_d132 rfl ?_
      refine Road.icmp_le 133 150 bPti_d133 rfl (fun hc133 => ?_) (fun q => absurd q (by decide))
      refine Road.iload 150 bPti_d150 rfl ?_
      refine Road.iconst 152 (3 : Int32) bPti_d152 rfl ?_
      refine Road.icmp_le 153 170 bPti_d153 rfl (fun q => absurd q (by decide)) (fun hc153 => ?_)
      refine Road.aloadN 156 bPti_d156 rfl ?_
      refine Road.iloadN 157 bPti_d157 rfl ?_
      refine Road.iinc 158 (1) #[.val (.ref e), .val (.int ((Nat.toInt32 pr.length) + 1)), .val (.int x), .val (.long v), .second, .val (.int (4 : Int32))] bPti_d158 rfl rfl rfl ?_
      refine Road.lloadN 161 bPti_d161 rfl ?_
      refine Road.ldc2J 162 bPti_d162 (wI hw 329 rfl) ?_
      refine Road.ldiv 165 bPti_d165 (by decide) ?_
      refine Road.callS (B' := bDgt) 166 (argsL := [(.long (v / 1000))]) (rest := [(.int (Nat.toInt32 pr.length)), (.ref e)]) 2 bPti_d166 (wI hw 42 rfl) (wI hw 43 rfl) (wI hw 32 rfl) (wI hw 44 rfl) (by decide) (cDgt l Z a0 hw n0 hEW (v / 1000) (m / 1000) h σ (Road.ldiv_nat hmx (by decide) hv (k := 1000) rfl) (Nat.le_trans (Nat.div_le_self _ _) hmx)) (lenOf bDgt_pd rfl) rfl rfl rfl (by decide) (by decide) (ce' := 0) (sl' := 0) rfl rfl (by decide) (by decide) ?_
      rintro _ h_51 σ_52 m_53 ⟨rfl, rfl⟩
      refine Road.Go.weaken (σ' := σ) m_53 (Nat.le_refl _) (Nat.le_refl _) ?_
      refine Road.castore 169 pr.length (Road.dc ((m / 1000) % 10)) bPti_d169 A (Road.n32 (by omega)) (by simp only [List.length_append, List.length_map, List.length_replicate]; omega) (Road.nar_dcc (Nat.mod_lt _ (by omega))) se ?_
      intro h_55 K_56 A_57
      replace A := A_57
      rw [Road.buf_set (by omega : 0 < r')] at A
      obtain ⟨u1, hu1⟩ : ∃ u_, u_ = pr ++ [(Road.dc ((m / 1000) % 10))] := ⟨_, rfl⟩
      have hn1 : u1.length = pr.length + 1 := by rw [hu1, List.length_append]; try rfl
      rw [← hu1] at A
      rw [show (((Nat.toInt32 pr.length) + 1) : Int32) = (Nat.toInt32 u1.length) from by rw [hn1]; exact Road.succ32 _]
      replace KE := KE.trans K_56 (by simp)
      refine Road.iload 170 bPti_d170 rfl ?_
      refine Road.iconst 172 (2 : Int32) bPti_d172 rfl ?_
      refine Road.icmp_le 173 190 bPti_d173 rfl (fun q => absurd q (by decide)) (fun hc173 => ?_)
      refine Road.aloadN 176 bPti_d176 rfl ?_
      refine Road.iloadN 177 bPti_d177 rfl ?_
      refine Road.iinc 178 (1) #[.val (.ref e), .val (.int ((Nat.toInt32 u1.length) + 1)), .val (.int x), .val (.long v), .second, .val (.int (4 : Int32))] bPti_d178 rfl rfl rfl ?_
      refine Road.lloadN 181 bPti_d181 rfl ?_
      refine Road.ldc2J 182 bPti_d182 (wI hw 328 rfl) ?_
      refine Road.ldiv 185 bPti_d185 (by decide) ?_
      refine Road.callS (B' := bDgt) 186 (argsL := [(.long (v / 100))]) (rest := [(.int (Nat.toInt32 u1.length)), (.ref e)]) 2 bPti_d186 (wI hw 42 rfl) (wI hw 43 rfl) (wI hw 32 rfl) (wI hw 44 rfl) (by decide) (cDgt l Z a0 hw n0 hEW (v / 100) (m / 100) h_55 σ (Road.ldiv_nat hmx (by decide) hv (k := 100) rfl) (Nat.le_trans (Nat.div_le_self _ _) hmx)) (lenOf bDgt_pd rfl) rfl rfl rfl (by decide) (by decide) (ce' := 0) (sl' := 0) rfl rfl (by decide) (by decide) ?_
      rintro _ h_58 σ_59 m_60 ⟨rfl, rfl⟩
      refine Road.Go.weaken (σ' := σ) m_60 (Nat.le_refl _) (Nat.le_refl _) ?_
      refine Road.castore 189 u1.length (Road.dc ((m / 100) % 10)) bPti_d189 A (Road.n32 (by omega)) (by simp only [List.length_append, List.length_map, List.length_replicate]; omega) (Road.nar_dcc (Nat.mod_lt _ (by omega))) se ?_
      intro h_62 K_63 A_64
      replace A := A_64
      rw [Road.buf_set (by omega : 1 < r')] at A
      obtain ⟨u2, hu2⟩ : ∃ u_, u_ = u1 ++ [(Road.dc ((m / 100) % 10))] := ⟨_, rfl⟩
      have hn2 : u2.length = u1.length + 1 := by rw [hu2, List.length_append]; try rfl
      rw [← hu2] at A
      rw [show (((Nat.toInt32 u1.length) + 1) : Int32) = (Nat.toInt32 u2.length) from by rw [hn2]; exact Road.succ32 _]
      replace KE := KE.trans K_63 (by simp)
      refine Road.iload 190 bPti_d190 rfl ?_
      refine Road.iconst 192 (1 : Int32) bPti_d192 rfl ?_
      refine Road.icmp_le 193 210 bPti_d193 rfl (fun q => absurd q (by decide)) (fun hc193 => ?_)
      refine Road.aloadN 196 bPti_d196 rfl ?_
      refine Road.iloadN 197 bPti_d197 rfl ?_
      refine Road.iinc 198 (1) #[.val (.ref e), .val (.int ((Nat.toInt32 u2.length) + 1)), .val (.int x), .val (.long v), .second, .val (.int (4 : Int32))] bPti_d198 rfl rfl rfl ?_
      refine Road.lloadN 201 bPti_d201 rfl ?_
      refine Road.ldc2J 202 bPti_d202 (wI hw 37 rfl) ?_
      refine Road.ldiv 205 bPti_d205 (by decide) ?_
      refine Road.callS (B' := bDgt) 206 (argsL := [(.long (v / 10))]) (rest := [(.int (Nat.toInt32 u2.length)), (.ref e)]) 2 bPti_d206 (wI hw 42 rfl) (wI hw 43 rfl) (wI hw 32 rfl) (wI hw 44 rfl) (by decide) (cDgt l Z a0 hw n0 hEW (v / 10) (m / 10) h_62 σ (Road.ldiv_nat hmx (by decide) hv (k := 10) rfl) (Nat.le_trans (Nat.div_le_self _ _) hmx)) (lenOf bDgt_pd rfl) rfl rfl rfl (by decide) (by decide) (ce' := 0) (sl' := 0) rfl rfl (by decide) (by decide) ?_
      rintro _ h_65 σ_66 m_67 ⟨rfl, rfl⟩
      refine Road.Go.weaken (σ' := σ) m_67 (Nat.le_refl _) (Nat.le_refl _) ?_
      refine Road.castore 209 u2.length (Road.dc ((m / 10) % 10)) bPti_d209 A (Road.n32 (by omega)) (by simp only [List.length_append, List.length_map, List.length_replicate]; omega) (Road.nar_dcc (Nat.mod_lt _ (by omega))) se ?_
      intro h_69 K_70 A_71
      replace A := A_71
      rw [Road.buf_set (by omega : 2 < r')] at A
      obtain ⟨u3, hu3⟩ : ∃ u_, u_ = u2 ++ [(Road.dc ((m / 10) % 10))] := ⟨_, rfl⟩
      have hn3 : u3.length = u2.length + 1 := by rw [hu3, List.length_append]; try rfl
      rw [← hu3] at A
      rw [show (((Nat.toInt32 u2.length) + 1) : Int32) = (Nat.toInt32 u3.length) from by rw [hn3]; exact Road.succ32 _]
      replace KE := KE.trans K_70 (by simp)
      refine Road.aloadN 210 bPti_d210 rfl ?_
      refine Road.iloadN 211 bPti_d211 rfl ?_
      refine Road.iinc 212 (1) #[.val (.ref e), .val (.int ((Nat.toInt32 u3.length) + 1)), .val (.int x), .val (.long v), .second, .val (.int (4 : Int32))] bPti_d212 rfl rfl rfl ?_
      refine Road.lloadN 215 bPti_d215 rfl ?_
      refine Road.callS (B' := bDgt) 216 (argsL := [(.long v)]) (rest := [(.int (Nat.toInt32 u3.length)), (.ref e)]) 2 bPti_d216 (wI hw 42 rfl) (wI hw 43 rfl) (wI hw 32 rfl) (wI hw 44 rfl) (by decide) (cDgt l Z a0 hw n0 hEW v (m / 1) h_69 σ (by rw [hv, Nat.div_one]) (by rw [Nat.div_one]; exact hmx)) (lenOf bDgt_pd rfl) rfl rfl rfl (by decide) (by decide) (ce' := 0) (sl' := 0) rfl rfl (by decide) (by decide) ?_
      rintro _ h_72 σ_73 m_74 ⟨rfl, rfl⟩
      refine Road.Go.weaken (σ' := σ) m_74 (Nat.le_refl _) (Nat.le_refl _) ?_
      refine Road.castore 219 u3.length (Road.dc ((m / 1) % 10)) bPti_d219 A (Road.n32 (by omega)) (by simp only [List.length_append, List.length_map, List.length_replicate]; omega) (Road.nar_dcc (Nat.mod_lt _ (by omega))) se ?_
      intro h_76 K_77 A_78
      replace A := A_78
      rw [Road.buf_set (by omega : 3 < r')] at A
      obtain ⟨u4, hu4⟩ : ∃ u_, u_ = u3 ++ [(Road.dc ((m / 1) % 10))] := ⟨_, rfl⟩
      have hn4 : u4.length = u3.length + 1 := by rw [hu4, List.length_append]; try rfl
      rw [← hu4] at A
      rw [show (((Nat.toInt32 u3.length) + 1) : Int32) = (Nat.toInt32 u4.length) from by rw [hn4]; exact Road.succ32 _]
      replace KE := KE.trans K_77 (by simp)
      refine Road.iloadN 220 bPti_d220 rfl ?_
      have hcur : u4 = pre ++ Road.dec x := by rw [hu4, hu3, hu2, hu1, he, hlist]; try simp only [List.append_assoc, List.cons_append, List.nil_append]
      rw [hcur] at A
      rw [hlen] at hrr
      rw [← hrr] at A
      exact Road.iretI 221 bPti_d221 rfl (by decide) (by decide) (fun σ' m => ⟨by rw [hcur], KE, A⟩)
    · skip
      have hlen := Road.decN_len 4 m (by omega) (Or.inr (by omega))
      refine Road.nameI ?_
      intro z_79 hz_79
      obtain rfl : z_79 = (5 : Int32) := by rw [hz_79]; rw [hlen]; rfl
      have hlist : Road.decN m = [Road.dc (m / 10000 % 10), Road.dc (m / 1000 % 10), Road.dc (m / 100 % 10), Road.dc (m / 10 % 10), Road.dc (m / 1 % 10)] := by rw [Road.decN_list, hlen]; rfl
      refine Road.istore 24 #[.val (.ref e), .val (.int (Nat.toInt32 pr.length)), .val (.int x), .val (.long v), .second, .val (.int (5 : Int32))] bPti_d24 rfl ?_
      refine Road.iload 26 bPti_d26 rfl ?_
      refine Road.bipush 28 (9 : Int32) bPti_d28 rfl ?_
      refine Road.icmp_le 30 47 bPti_d30 rfl (fun hc30 => ?_) (fun q => absurd q (by decide))
      refine Road.iload 47 bPti_d47 rfl ?_
      refine Road.bipush 49 (8 : Int32) bPti_d49 rfl ?_
      refine Road.icmp_le 51 68 bPti_d51 rfl (fun hc51 => ?_) (fun q => absurd q (by decide))
      refine Road.iload 68 bPti_d68 rfl ?_
      refine Road.bipush 70 (7 : Int32) bPti_d70 rfl ?_
      refine Road.icmp_le 72 89 bPti_d72 rfl (fun hc72 => ?_) (fun q => absurd q (by decide))
      refine Road.iload 89 bPti_d89 rfl ?_
      refine Road.bipush 91 (6 : Int32) bPti_d91 rfl ?_
      refine Road.icmp_le 93 110 bPti_d93 rfl (fun hc93 => ?_) (fun q => absurd q (by decide))
      refine Road.iload 110 bPti_d110 rfl ?_
      refine Road.iconst 112 (5 : Int32) bPti_d112 rfl ?_
      refine Road.icmp_le 113 130 bPti_d113 rfl (fun hc113 => ?_) (fun q => absurd q (by decide))
      refine Road.iload 130 bPti_d130 rfl ?_
      refine Road.iconst 132 (4 : Int32) bPti_d132 rfl ?_
      refine Road.icmp_le 133 150 bPti_d133 rfl (fun q => absurd q (by decide)) (fun hc133 => ?_)
      refine Road.aloadN 136 bPti_d136 rfl ?_
      refine Road.iloadN 137 bPti_d137 rfl ?_
      refine Road.iinc 138 (1) #[.val (.ref e), .val (.int ((Nat.toInt32 pr.length) + 1)), .val (.int x), .val (.long v), .second, .val (.int (5 : Int32))] bPti_d138 rfl rfl rfl ?_
      refine Road.lloadN 141 bPti_d141 rfl ?_
      refine Road.ldc2J 142 bPti_d142 (wI hw 331 rfl) ?_
      refine Road.ldiv 145 bPti_d145 (by decide) ?_
      refine Road.callS (B' := bDgt) 146 (argsL := [(.long (v / 10000))]) (rest := [(.int (Nat.toInt32 pr.length)), (.ref e)]) 2 bPti_d146 (wI hw 42 rfl) (wI hw 43 rfl) (wI hw 32 rfl) (wI hw 44 rfl) (by decide) (cDgt l Z a0 hw n0 hEW (v / 10000) (m / 10000) h σ (Road.ldiv_nat hmx (by decide) hv (k := 10000) rfl) (Nat.le_trans (Nat.div_le_self _ _) hmx)) (lenOf bDgt_pd rfl) rfl rfl rfl (by decide) (by decide) (ce' := 0) (sl' := 0) rfl rfl (by decide) (by decide) ?_
      rintro _ h_80 σ_81 m_82 ⟨rfl, rfl⟩
      refine Road.Go.weaken (σ' := σ) m_82 (Nat.le_refl _) (Nat.le_refl _) ?_
      refine Road.castore 149 pr.length (Road.dc ((m / 10000) % 10)) bPti_d149 A (Road.n32 (by omega)) (by simp only [List.length_append, List.length_map, List.length_replicate]; omega) (Road.nar_dcc (Nat.mod_lt _ (by omega))) se ?_
      intro h_84 K_85 A_86
      replace A := A_86
      rw [Road.buf_set (by omega : 0 < r')] at A
      obtain ⟨u1, hu1⟩ : ∃ u_, u_ = pr ++ [(Road.dc ((m / 10000) % 10))] := ⟨_, rfl⟩
      have hn1 : u1.length = pr.length + 1 := by rw [hu1, List.length_append]; try rfl
      rw [← hu1] at A
      rw [show (((Nat.toInt32 pr.length) + 1) : Int32) = (Nat.toInt32 u1.length) from by rw [hn1]; exact Road.succ32 _]
      replace KE := KE.trans K_85 (by simp)
      refine Road.iload 150 bPti_d150 rfl ?_
      refine Road.iconst 152 (3 : Int32) bPti_d152 rfl ?_
      refine Road.icmp_le 153 170 bPti_d153 rfl (fun q => absurd q (by decide)) (fun hc153 => ?_)
      refine Road.aloadN 156 bPti_d156 rfl ?_
      refine Road.iloadN 157 bPti_d157 rfl ?_
      refine Road.iinc 158 (1) #[.val (.ref e), .val (.int ((Nat.toInt32 u1.length) + 1)), .val (.int x), .val (.long v), .second, .val (.int (5 : Int32))] bPti_d158 rfl rfl rfl ?_
      refine Road.lloadN 161 bPti_d161 rfl ?_
      refine Road.ldc2J 162 bPti_d162 (wI hw 329 rfl) ?_
      refine Road.ldiv 165 bPti_d165 (by decide) ?_
      refine Road.callS (B' := bDgt) 166 (argsL := [(.long (v / 1000))]) (rest := [(.int (Nat.toInt32 u1.length)), (.ref e)]) 2 bPti_d166 (wI hw 42 rfl) (wI hw 43 rfl) (wI hw 32 rfl) (wI hw 44 rfl) (by decide) (cDgt l Z a0 hw n0 hEW (v / 1000) (m / 1000) h_84 σ (Road.ldiv_nat hmx (by decide) hv (k := 1000) rfl) (Nat.le_trans (Nat.div_le_self _ _) hmx)) (lenOf bDgt_pd rfl) rfl rfl rfl (by decide) (by decide) (ce' := 0) (sl' := 0) rfl rfl (by decide) (by decide) ?_
      rintro _ h_87 σ_88 m_89 ⟨rfl, rfl⟩
      refine Road.Go.weaken (σ' := σ) m_89 (Nat.le_refl _) (Nat.le_refl _) ?_
      refine Road.castore 169 u1.length (Road.dc ((m / 1000) % 10)) bPti_d169 A (Road.n32 (by omega)) (by simp only [List.length_append, List.length_map, List.length_replicate]; omega) (Road.nar_dcc (Nat.mod_lt _ (by omega))) se ?_
      intro h_91 K_92 A_93
      replace A := A_93
      rw [Road.buf_set (by omega : 1 < r')] at A
      obtain ⟨u2, hu2⟩ : ∃ u_, u_ = u1 ++ [(Road.dc ((m / 1000) % 10))] := ⟨_, rfl⟩
      have hn2 : u2.length = u1.length + 1 := by rw [hu2, List.length_append]; try rfl
      rw [← hu2] at A
      rw [show (((Nat.toInt32 u1.length) + 1) : Int32) = (Nat.toInt32 u2.length) from by rw [hn2]; exact Road.succ32 _]
      replace KE := KE.trans K_92 (by simp)
      refine Road.iload 170 bPti_d170 rfl ?_
      refine Road.iconst 172 (2 : Int32) bPti_d172 rfl ?_
      refine Road.icmp_le 173 190 bPti_d173 rfl (fun q => absurd q (by decide)) (fun hc173 => ?_)
      refine Road.aloadN 176 bPti_d176 rfl ?_
      refine Road.iloadN 177 bPti_d177 rfl ?_
      refine Road.iinc 178 (1) #[.val (.ref e), .val (.int ((Nat.toInt32 u2.length) + 1)), .val (.int x), .val (.long v), .second, .val (.int (5 : Int32))] bPti_d178 rfl rfl rfl ?_
      refine Road.lloadN 181 bPti_d181 rfl ?_
      refine Road.ldc2J 182 bPti_d182 (wI hw 328 rfl) ?_
      refine Road.ldiv 185 bPti_d185 (by decide) ?_
      refine Road.callS (B' := bDgt) 186 (argsL := [(.long (v / 100))]) (rest := [(.int (Nat.toInt32 u2.length)), (.ref e)]) 2 bPti_d186 (wI hw 42 rfl) (wI hw 43 rfl) (wI hw 32 rfl) (wI hw 44 rfl) (by decide) (cDgt l Z a0 hw n0 hEW (v / 100) (m / 100) h_91 σ (Road.ldiv_nat hmx (by decide) hv (k := 100) rfl) (Nat.le_trans (Nat.div_le_self _ _) hmx)) (lenOf bDgt_pd rfl) rfl rfl rfl (by decide) (by decide) (ce' := 0) (sl' := 0) rfl rfl (by decide) (by decide) ?_
      rintro _ h_94 σ_95 m_96 ⟨rfl, rfl⟩
      refine Road.Go.weaken (σ' := σ) m_96 (Nat.le_refl _) (Nat.le_refl _) ?_
      refine Road.castore 189 u2.length (Road.dc ((m / 100) % 10)) bPti_d189 A (Road.n32 (by omega)) (by simp only [List.length_append, List.length_map, List.length_replicate]; omega) (Road.nar_dcc (Nat.mod_lt _ (by omega))) se ?_
      intro h_98 K_99 A_100
      replace A := A_100
      rw [Road.buf_set (by omega : 2 < r')] at A
      obtain ⟨u3, hu3⟩ : ∃ u_, u_ = u2 ++ [(Road.dc ((m / 100) % 10))] := ⟨_, rfl⟩
      have hn3 : u3.length = u2.length + 1 := by rw [hu3, List.length_append]; try rfl
      rw [← hu3] at A
      rw [show (((Nat.toInt32 u2.length) + 1) : Int32) = (Nat.toInt32 u3.length) from by rw [hn3]; exact Road.succ32 _]
      replace KE := KE.trans K_99 (by simp)
      refine Road.iload 190 bPti_d190 rfl ?_
      refine Road.iconst 192 (1 : Int32) bPti_d192 rfl ?_
      refine Road.icmp_le 193 210 bPti_d193 rfl (fun q => absurd q (by decide)) (fun hc193 => ?_)
      refine Road.aloadN 196 bPti_d196 rfl ?_
      refine Road.iloadN 197 bPti_d197 rfl ?_
      refine Road.iinc 198 (1) #[.val (.ref e), .val (.int ((Nat.toInt32 u3.length) + 1)), .val (.int x), .val (.long v), .second, .val (.int (5 : Int32))] bPti_d198 rfl rfl rfl ?_
      refine Road.lloadN 201 bPti_d201 rfl ?_
      refine Road.ldc2J 202 bPti_d202 (wI hw 37 rfl) ?_
      refine Road.ldiv 205 bPti_d205 (by decide) ?_
      refine Road.callS (B' := bDgt) 206 (argsL := [(.long (v / 10))]) (rest := [(.int (Nat.toInt32 u3.length)), (.ref e)]) 2 bPti_d206 (wI hw 42 rfl) (wI hw 43 rfl) (wI hw 32 rfl) (wI hw 44 rfl) (by decide) (cDgt l Z a0 hw n0 hEW (v / 10) (m / 10) h_98 σ (Road.ldiv_nat hmx (by decide) hv (k := 10) rfl) (Nat.le_trans (Nat.div_le_self _ _) hmx)) (lenOf bDgt_pd rfl) rfl rfl rfl (by decide) (by decide) (ce' := 0) (sl' := 0) rfl rfl (by decide) (by decide) ?_
      rintro _ h_101 σ_102 m_103 ⟨rfl, rfl⟩
      refine Road.Go.weaken (σ' := σ) m_103 (Nat.le_refl _) (Nat.le_refl _) ?_
      refine Road.castore 209 u3.length (Road.dc ((m / 10) % 10)) bPti_d209 A (Road.n32 (by omega)) (by simp only [List.length_append, List.length_map, List.length_replicate]; omega) (Road.nar_dcc (Nat.mod_lt _ (by omega))) se ?_
      intro h_105 K_106 A_107
      replace A := A_107
      rw [Road.buf_set (by omega : 3 < r')] at A
      obtain ⟨u4, hu4⟩ : ∃ u_, u_ = u3 ++ [(Road.dc ((m / 10) % 10))] := ⟨_, rfl⟩
      have hn4 : u4.length = u3.length + 1 := by rw [hu4, List.length_append]; try rfl
      rw [← hu4] at A
      rw [show (((Nat.toInt32 u3.length) + 1) : Int32) = (Nat.toInt32 u4.length) from by rw [hn4]; exact Road.succ32 _]
      replace KE := KE.trans K_106 (by simp)
      refine Road.aloadN 210 bPti_d210 rfl ?_
      refine Road.iloadN 211 bPti_d211 rfl ?_
      refine Road.iinc 212 (1) #[.val (.ref e), .val (.int ((Nat.toInt32 u4.length) + 1)), .val (.int x), .val (.long v), .second, .val (.int (5 : Int32))] bPti_d212 rfl rfl rfl ?_
      refine Road.lloadN 215 bPti_d215 rfl ?_
      refine Road.callS (B' := bDgt) 216 (argsL := [(.long v)]) (rest := [(.int (Nat.toInt32 u4.length)), (.ref e)]) 2 bPti_d216 (wI hw 42 rfl) (wI hw 43 rfl) (wI hw 32 rfl) (wI hw 44 rfl) (by decide) (cDgt l Z a0 hw n0 hEW v (m / 1) h_105 σ (by rw [hv, Nat.div_one]) (by rw [Nat.div_one]; exact hmx)) (lenOf bDgt_pd rfl) rfl rfl rfl (by decide) (by decide) (ce' := 0) (sl' := 0) rfl rfl (by decide) (by decide) ?_
      rintro _ h_108 σ_109 m_110 ⟨rfl, rfl⟩
      refine Road.Go.weaken (σ' := σ) m_110 (Nat.le_refl _) (Nat.le_refl _) ?_
      refine Road.castore 219 u4.length (Road.dc ((m / 1) % 10)) bPti_d219 A (Road.n32 (by omega)) (by simp only [List.length_append, List.length_map, List.length_replicate]; omega) (Road.nar_dcc (Nat.mod_lt _ (by omega))) se ?_
      intro h_112 K_113 A_114
      replace A := A_114
      rw [Road.buf_set (by omega : 4 < r')] at A
      obtain ⟨u5, hu5⟩ : ∃ u_, u_ = u4 ++ [(Road.dc ((m / 1) % 10))] := ⟨_, rfl⟩
      have hn5 : u5.length = u4.length + 1 := by rw [hu5, List.length_append]; try rfl
      rw [← hu5] at A
      rw [show (((Nat.toInt32 u4.length) + 1) : Int32) = (Nat.toInt32 u5.length) from by rw [hn5]; exact Road.succ32 _]
      replace KE := KE.trans K_113 (by simp)
      refine Road.iloadN 220 bPti_d220 rfl ?_
      have hcur : u5 = pre ++ Road.dec x := by rw [hu5, hu4, hu3, hu2, hu1, he, hlist]; try simp only [List.append_assoc, List.cons_append, List.nil_append]
      rw [hcur] at A
      rw [hlen] at hrr
      rw [← hrr] at A
      exact Road.iretI 221 bPti_d221 rfl (by decide) (by decide) (fun σ' m => ⟨by rw [hcur], KE, A⟩)
    · skip
      have hlen := Road.decN_len 5 m (by omega) (Or.inr (by omega))
      refine Road.nameI ?_
      intro z_115 hz_115
      obtain rfl : z_115 = (6 : Int32) := by rw [hz_115]; rw [hlen]; rfl
      have hlist : Road.decN m = [Road.dc (m / 100000 % 10), Road.dc (m / 10000 % 10), Road.dc (m / 1000 % 10), Road.dc (m / 100 % 10), Road.dc (m / 10 % 10), Road.dc (m / 1 % 10)] := by rw [Road.decN_list, hlen]; rfl
      refine Road.istore 24 #[.val (.ref e), .val (.int (Nat.toInt32 pr.length)), .val (.int x), .val (.long v), .second, .val (.int (6 : Int32))] bPti_d24 rfl ?_
      refine Road.iload 26 bPti_d26 rfl ?_
      refine Road.bipush 28 (9 : Int32) bPti_d28 rfl ?_
      refine Road.icmp_le 30 47 bPti_d30 rfl (fun hc30 => ?_) (fun q => absurd q (by decide))
      refine Road.iload 47 bPti_d47 rfl ?_
      refine Road.bipush 49 (8 : Int32) bPti_d49 rfl ?_
      refine Road.icmp_le 51 68 bPti_d51 rfl (fun hc51 => ?_) (fun q => absurd q (by decide))
      refine Road.iload 68 bPti_d68 rfl ?_
      refine Road.bipush 70 (7 : Int32) bPti_d70 rfl ?_
      refine Road.icmp_le 72 89 bPti_d72 rfl (fun hc72 => ?_) (fun q => absurd q (by decide))
      refine Road.iload 89 bPti_d89 rfl ?_
      refine Road.bipush 91 (6 : Int32) bPti_d91 rfl ?_
      refine Road.icmp_le 93 110 bPti_d93 rfl (fun hc93 => ?_) (fun q => absurd q (by decide))
      refine Road.iload 110 bPti_d110 rfl ?_
      refine Road.iconst 112 (5 : Int32) bPti_d112 rfl ?_
      refine Road.icmp_le 113 130 bPti_d113 rfl (fun q => absurd q (by decide)) (fun hc113 => ?_)
      refine Road.aloadN 116 bPti_d116 rfl ?_
      refine Road.iloadN 117 bPti_d117 rfl ?_
      refine Road.iinc 118 (1) #[.val (.ref e), .val (.int ((Nat.toInt32 pr.length) + 1)), .val (.int x), .val (.long v), .second, .val (.int (6 : Int32))] bPti_d118 rfl rfl rfl ?_
      refine Road.lloadN 121 bPti_d121 rfl ?_
      refine Road.ldc2J 122 bPti_d122 (wI hw 332 rfl) ?_
      refine Road.ldiv 125 bPti_d125 (by decide) ?_
      refine Road.callS (B' := bDgt) 126 (argsL := [(.long (v / 100000))]) (rest := [(.int (Nat.toInt32 pr.length)), (.ref e)]) 2 bPti_d126 (wI hw 42 rfl) (wI hw 43 rfl) (wI hw 32 rfl) (wI hw 44 rfl) (by decide) (cDgt l Z a0 hw n0 hEW (v / 100000) (m / 100000) h σ (Road.ldiv_nat hmx (by decide) hv (k := 100000) rfl) (Nat.le_trans (Nat.div_le_self _ _) hmx)) (lenOf bDgt_pd rfl) rfl rfl rfl (by decide) (by decide) (ce' := 0) (sl' := 0) rfl rfl (by decide) (by decide) ?_
      rintro _ h_116 σ_117 m_118 ⟨rfl, rfl⟩
      refine Road.Go.weaken (σ' := σ) m_118 (Nat.le_refl _) (Nat.le_refl _) ?_
      refine Road.castore 129 pr.length (Road.dc ((m / 100000) % 10)) bPti_d129 A (Road.n32 (by omega)) (by simp only [List.length_append, List.length_map, List.length_replicate]; omega) (Road.nar_dcc (Nat.mod_lt _ (by omega))) se ?_
      intro h_120 K_121 A_122
      replace A := A_122
      rw [Road.buf_set (by omega : 0 < r')] at A
      obtain ⟨u1, hu1⟩ : ∃ u_, u_ = pr ++ [(Road.dc ((m / 100000) % 10))] := ⟨_, rfl⟩
      have hn1 : u1.length = pr.length + 1 := by rw [hu1, List.length_append]; try rfl
      rw [← hu1] at A
      rw [show (((Nat.toInt32 pr.length) + 1) : Int32) = (Nat.toInt32 u1.length) from by rw [hn1]; exact Road.succ32 _]
      replace KE := KE.trans K_121 (by simp)
      refine Road.iload 130 bPti_d130 rfl ?_
      refine Road.iconst 132 (4 : Int32) bPti_d132 rfl ?_
      refine Road.icmp_le 133 150 bPti_d133 rfl (fun q => absurd q (by decide)) (fun hc133 => ?_)
      refine Road.aloadN 136 bPti_d136 rfl ?_
      refine Road.iloadN 137 bPti_d137 rfl ?_
      refine Road.iinc 138 (1) #[.val (.ref e), .val (.int ((Nat.toInt32 u1.length) + 1)), .val (.int x), .val (.long v), .second, .val (.int (6 : Int32))] bPti_d138 rfl rfl rfl ?_
      refine Road.lloadN 141 bPti_d141 rfl ?_
      refine Road.ldc2J 142 bPti_d142 (wI hw 331 rfl) ?_
      refine Road.ldiv 145 bPti_d145 (by decide) ?_
      refine Road.callS (B' := bDgt) 146 (argsL := [(.long (v / 10000))]) (rest := [(.int (Nat.toInt32 u1.length)), (.ref e)]) 2 bPti_d146 (wI hw 42 rfl) (wI hw 43 rfl) (wI hw 32 rfl) (wI hw 44 rfl) (by decide) (cDgt l Z a0 hw n0 hEW (v / 10000) (m / 10000) h_120 σ (Road.ldiv_nat hmx (by decide) hv (k := 10000) rfl) (Nat.le_trans (Nat.div_le_self _ _) hmx)) (lenOf bDgt_pd rfl) rfl rfl rfl (by decide) (by decide) (ce' := 0) (sl' := 0) rfl rfl (by decide) (by decide) ?_
      rintro _ h_123 σ_124 m_125 ⟨rfl, rfl⟩
      refine Road.Go.weaken (σ' := σ) m_125 (Nat.le_refl _) (Nat.le_refl _) ?_
      refine Road.castore 149 u1.length (Road.dc ((m / 10000) % 10)) bPti_d149 A (Road.n32 (by omega)) (by simp only [List.length_append, List.length_map, List.length_replicate]; omega) (Road.nar_dcc (Nat.mod_lt _ (by omega))) se ?_
      intro h_127 K_128 A_129
      replace A := A_129
      rw [Road.buf_set (by omega : 1 < r')] at A
      obtain ⟨u2, hu2⟩ : ∃ u_, u_ = u1 ++ [(Road.dc ((m / 10000) % 10))] := ⟨_, rfl⟩
      have hn2 : u2.length = u1.length + 1 := by rw [hu2, List.length_append]; try rfl
      rw [← hu2] at A
      rw [show (((Nat.toInt32 u1.length) + 1) : Int32) = (Nat.toInt32 u2.length) from by rw [hn2]; exact Road.succ32 _]
      replace KE := KE.trans K_128 (by simp)
      refine Road.iload 150 bPti_d150 rfl ?_
      refine Road.iconst 152 (3 : Int32) bPti_d152 rfl ?_
      refine Road.icmp_le 153 170 bPti_d153 rfl (fun q => absurd q (by decide)) (fun hc153 => ?_)
      refine Road.aloadN 156 bPti_d156 rfl ?_
      refine Road.iloadN 157 bPti_d157 rfl ?_
      refine Road.iinc 158 (1) #[.val (.ref e), .val (.int ((Nat.toInt32 u2.length) + 1)), .val (.int x), .val (.long v), .second, .val (.int (6 : Int32))] bPti_d158 rfl rfl rfl ?_
      refine Road.lloadN 161 bPti_d161 rfl ?_
      refine Road.ldc2J 162 bPti_d162 (wI hw 329 rfl) ?_
      refine Road.ldiv 165 bPti_d165 (by decide) ?_
      refine Road.callS (B' := bDgt) 166 (argsL := [(.long (v / 1000))]) (rest := [(.int (Nat.toInt32 u2.length)), (.ref e)]) 2 bPti_d166 (wI hw 42 rfl) (wI hw 43 rfl) (wI hw 32 rfl) (wI hw 44 rfl) (by decide) (cDgt l Z a0 hw n0 hEW (v / 1000) (m / 1000) h_127 σ (Road.ldiv_nat hmx (by decide) hv (k := 1000) rfl) (Nat.le_trans (Nat.div_le_self _ _) hmx)) (lenOf bDgt_pd rfl) rfl rfl rfl (by decide) (by decide) (ce' := 0) (sl' := 0) rfl rfl (by decide) (by decide) ?_
      rintro _ h_130 σ_131 m_132 ⟨rfl, rfl⟩
      refine Road.Go.weaken (σ' := σ) m_132 (Nat.le_refl _) (Nat.le_refl _) ?_
      refine Road.castore 169 u2.length (Road.dc ((m / 1000) % 10)) bPti_d169 A (Road.n32 (by omega)) (by simp only [List.length_append, List.length_map, List.length_replicate]; omega) (Road.nar_dcc (Nat.mod_lt _ (by omega))) se ?_
      intro h_134 K_135 A_136
      replace A := A_136
      rw [Road.buf_set (by omega : 2 < r')] at A
      obtain ⟨u3, hu3⟩ : ∃ u_, u_ = u2 ++ [(Road.dc ((m / 1000) % 10))] := ⟨_, rfl⟩
      have hn3 : u3.length = u2.length + 1 := by rw [hu3, List.length_append]; try rfl
      rw [← hu3] at A
      rw [show (((Nat.toInt32 u2.length) + 1) : Int32) = (Nat.toInt32 u3.length) from by rw [hn3]; exact Road.succ32 _]
      replace KE := KE.trans K_135 (by simp)
      refine Road.iload 170 bPti_d170 rfl ?_
      refine Road.iconst 172 (2 : Int32) bPti_d172 rfl ?_
      refine Road.icmp_le 173 190 bPti_d173 rfl (fun q => absurd q (by decide)) (fun hc173 => ?_)
      refine Road.aloadN 176 bPti_d176 rfl ?_
      refine Road.iloadN 177 bPti_d177 rfl ?_
      refine Road.iinc 178 (1) #[.val (.ref e), .val (.int ((Nat.toInt32 u3.length) + 1)), .val (.int x), .val (.long v), .second, .val (.int (6 : Int32))] bPti_d178 rfl rfl rfl ?_
      refine Road.lloadN 181 bPti_d181 rfl ?_
      refine Road.ldc2J 182 bPti_d182 (wI hw 328 rfl) ?_
      refine Road.ldiv 185 bPti_d185 (by decide) ?_
      refine Road.callS (B' := bDgt) 186 (argsL := [(.long (v / 100))]) (rest := [(.int (Nat.toInt32 u3.length)), (.ref e)]) 2 bPti_d186 (wI hw 42 rfl) (wI hw 43 rfl) (wI hw 32 rfl) (wI hw 44 rfl) (by decide) (cDgt l Z a0 hw n0 hEW (v / 100) (m / 100) h_134 σ (Road.ldiv_nat hmx (by decide) hv (k := 100) rfl) (Nat.le_trans (Nat.div_le_self _ _) hmx)) (lenOf bDgt_pd rfl) rfl rfl rfl (by decide) (by decide) (ce' := 0) (sl' := 0) rfl rfl (by decide) (by decide) ?_
      rintro _ h_137 σ_138 m_139 ⟨rfl, rfl⟩
      refine Road.Go.weaken (σ' := σ) m_139 (Nat.le_refl _) (Nat.le_refl _) ?_
      refine Road.castore 189 u3.length (Road.dc ((m / 100) % 10)) bPti_d189 A (Road.n32 (by omega)) (by simp only [List.length_append, List.length_map, List.length_replicate]; omega) (Road.nar_dcc (Nat.mod_lt _ (by omega))) se ?_
      intro h_141 K_142 A_143
      replace A := A_143
      rw [Road.buf_set (by omega : 3 < r')] at A
      obtain ⟨u4, hu4⟩ : ∃ u_, u_ = u3 ++ [(Road.dc ((m / 100) % 10))] := ⟨_, rfl⟩
      have hn4 : u4.length = u3.length + 1 := by rw [hu4, List.length_append]; try rfl
      rw [← hu4] at A
      rw [show (((Nat.toInt32 u3.length) + 1) : Int32) = (Nat.toInt32 u4.length) from by rw [hn4]; exact Road.succ32 _]
      replace KE := KE.trans K_142 (by simp)
      refine Road.iload 190 bPti_d190 rfl ?_
      refine Road.iconst 192 (1 : Int32) bPti_d192 rfl ?_
      refine Road.icmp_le 193 210 bPti_d193 rfl (fun q => absurd q (by decide)) (fun hc193 => ?_)
      refine Road.aloadN 196 bPti_d196 rfl ?_
      refine Road.iloadN 197 bPti_d197 rfl ?_
      refine Road.iinc 198 (1) #[.val (.ref e), .val (.int ((Nat.toInt32 u4.length) + 1)), .val (.int x), .val (.long v), .second, .val (.int (6 : Int32))] bPti_d198 rfl rfl rfl ?_
      refine Road.lloadN 201 bPti_d201 rfl ?_
      refine Road.ldc2J 202 bPti_d202 (wI hw 37 rfl) ?_
      refine Road.ldiv 205 bPti_d205 (by decide) ?_
      refine Road.callS (B' := bDgt) 206 (argsL := [(.long (v / 10))]) (rest := [(.int (Nat.toInt32 u4.length)), (.ref e)]) 2 bPti_d206 (wI hw 42 rfl) (wI hw 43 rfl) (wI hw 32 rfl) (wI hw 44 rfl) (by decide) (cDgt l Z a0 hw n0 hEW (v / 10) (m / 10) h_141 σ (Road.ldiv_nat hmx (by decide) hv (k := 10) rfl) (Nat.le_trans (Nat.div_le_self _ _) hmx)) (lenOf bDgt_pd rfl) rfl rfl rfl (by decide) (by decide) (ce' := 0) (sl' := 0) rfl rfl (by decide) (by decide) ?_
      rintro _ h_144 σ_145 m_146 ⟨rfl, rfl⟩
      refine Road.Go.weaken (σ' := σ) m_146 (Nat.le_refl _) (Nat.le_refl _) ?_
      refine Road.castore 209 u4.length (Road.dc ((m / 10) % 10)) bPti_d209 A (Road.n32 (by omega)) (by simp only [List.length_append, List.length_map, List.length_replicate]; omega) (Road.nar_dcc (Nat.mod_lt _ (by omega))) se ?_
      intro h_148 K_149 A_150
      replace A := A_150
      rw [Road.buf_set (by omega : 4 < r')] at A
      obtain ⟨u5, hu5⟩ : ∃ u_, u_ = u4 ++ [(Road.dc ((m / 10) % 10))] := ⟨_, rfl⟩
      have hn5 : u5.length = u4.length + 1 := by rw [hu5, List.length_append]; try rfl
      rw [← hu5] at A
      rw [show (((Nat.toInt32 u4.length) + 1) : Int32) = (Nat.toInt32 u5.length) from by rw [hn5]; exact Road.succ32 _]
      replace KE := KE.trans K_149 (by simp)
      refine Road.aloadN 210 bPti_d210 rfl ?_
      refine Road.iloadN 211 bPti_d211 rfl ?_
      refine Road.iinc 212 (1) #[.val (.ref e), .val (.int ((Nat.toInt32 u5.length) + 1)), .val (.int x), .val (.long v), .second, .val (.int (6 : Int32))] bPti_d212 rfl rfl rfl ?_
      refine Road.lloadN 215 bPti_d215 rfl ?_
      refine Road.callS (B' := bDgt) 216 (argsL := [(.long v)]) (rest := [(.int (Nat.toInt32 u5.length)), (.ref e)]) 2 bPti_d216 (wI hw 42 rfl) (wI hw 43 rfl) (wI hw 32 rfl) (wI hw 44 rfl) (by decide) (cDgt l Z a0 hw n0 hEW v (m / 1) h_148 σ (by rw [hv, Nat.div_one]) (by rw [Nat.div_one]; exact hmx)) (lenOf bDgt_pd rfl) rfl rfl rfl (by decide) (by decide) (ce' := 0) (sl' := 0) rfl rfl (by decide) (by decide) ?_
      rintro _ h_151 σ_152 m_153 ⟨rfl, rfl⟩
      refine Road.Go.weaken (σ' := σ) m_153 (Nat.le_refl _) (Nat.le_refl _) ?_
      refine Road.castore 219 u5.length (Road.dc ((m / 1) % 10)) bPti_d219 A (Road.n32 (by omega)) (by simp only [List.length_append, List.length_map, List.length_replicate]; omega) (Road.nar_dcc (Nat.mod_lt _ (by omega))) se ?_
      intro h_155 K_156 A_157
      replace A := A_157
      rw [Road.buf_set (by omega : 5 < r')] at A
      obtain ⟨u6, hu6⟩ : ∃ u_, u_ = u5 ++ [(Road.dc ((m / 1) % 10))] := ⟨_, rfl⟩
      have hn6 : u6.length = u5.length + 1 := by rw [hu6, List.length_append]; try rfl
      rw [← hu6] at A
      rw [show (((Nat.toInt32 u5.length) + 1) : Int32) = (Nat.toInt32 u6.length) from by rw [hn6]; exact Road.succ32 _]
      replace KE := KE.trans K_156 (by simp)
      refine Road.iloadN 220 bPti_d220 rfl ?_
      have hcur : u6 = pre ++ Road.dec x := by rw [hu6, hu5, hu4, hu3, hu2, hu1, he, hlist]; try simp only [List.append_assoc, List.cons_append, List.nil_append]
      rw [hcur] at A
      rw [hlen] at hrr
      rw [← hrr] at A
      exact Road.iretI 221 bPti_d221 rfl (by decide) (by decide) (fun σ' m => ⟨by rw [hcur], KE, A⟩)
    · skip
      have hlen := Road.decN_len 6 m (by omega) (Or.inr (by omega))
      refine Road.nameI ?_
      intro z_158 hz_158
      obtain rfl : z_158 = (7 : Int32) := by rw [hz_158]; rw [hlen]; rfl
      have hlist : Road.decN m = [Road.dc (m / 1000000 % 10), Road.dc (m / 100000 % 10), Road.dc (m / 10000 % 10), Road.dc (m / 1000 % 10), Road.dc (m / 100 % 10), Road.dc (m / 10 % 10), Road.dc (m / 1 % 10)] := by rw [Road.decN_list, hlen]; rfl
      refine Road.istore 24 #[.val (.ref e), .val (.int (Nat.toInt32 pr.length)), .val (.int x), .val (.long v), .second, .val (.int (7 : Int32))] bPti_d24 rfl ?_
      refine Road.iload 26 bPti_d26 rfl ?_
      refine Road.bipush 28 (9 : Int32) bPti_d28 rfl ?_
      refine Road.icmp_le 30 47 bPti_d30 rfl (fun hc30 => ?_) (fun q => absurd q (by decide))
      refine Road.iload 47 bPti_d47 rfl ?_
      refine Road.bipush 49 (8 : Int32) bPti_d49 rfl ?_
      refine Road.icmp_le 51 68 bPti_d51 rfl (fun hc51 => ?_) (fun q => absurd q (by decide))
      refine Road.iload 68 bPti_d68 rfl ?_
      refine Road.bipush 70 (7 : Int32) bPti_d70 rfl ?_
      refine Road.icmp_le 72 89 bPti_d72 rfl (fun hc72 => ?_) (fun q => absurd q (by decide))
      refine Road.iload 89 bPti_d89 rfl ?_
      refine Road.bipush 91 (6 : Int32) bPti_d91 rfl ?_
      refine Road.icmp_le 93 110 bPti_d93 rfl (fun q => absurd q (by decide)) (fun hc93 => ?_)
      refine Road.aloadN 96 bPti_d96 rfl ?_
      refine Road.iloadN 97 bPti_d97 rfl ?_
      refine Road.iinc 98 (1) #[.val (.ref e), .val (.int ((Nat.toInt32 pr.length) + 1)), .val (.int x), .val (.long v), .second, .val (.int (7 : Int32))] bPti_d98 rfl rfl rfl ?_
      refine Road.lloadN 101 bPti_d101 rfl ?_
      refine Road.ldc2J 102 bPti_d102 (wI hw 333 rfl) ?_
      refine Road.ldiv 105 bPti_d105 (by decide) ?_
      refine Road.callS (B' := bDgt) 106 (argsL := [(.long (v / 1000000))]) (rest := [(.int (Nat.toInt32 pr.length)), (.ref e)]) 2 bPti_d106 (wI hw 42 rfl) (wI hw 43 rfl) (wI hw 32 rfl) (wI hw 44 rfl) (by decide) (cDgt l Z a0 hw n0 hEW (v / 1000000) (m / 1000000) h σ (Road.ldiv_nat hmx (by decide) hv (k := 1000000) rfl) (Nat.le_trans (Nat.div_le_self _ _) hmx)) (lenOf bDgt_pd rfl) rfl rfl rfl (by decide) (by decide) (ce' := 0) (sl' := 0) rfl rfl (by decide) (by decide) ?_
      rintro _ h_159 σ_160 m_161 ⟨rfl, rfl⟩
      refine Road.Go.weaken (σ' := σ) m_161 (Nat.le_refl _) (Nat.le_refl _) ?_
      refine Road.castore 109 pr.length (Road.dc ((m / 1000000) % 10)) bPti_d109 A (Road.n32 (by omega)) (by simp only [List.length_append, List.length_map, List.length_replicate]; omega) (Road.nar_dcc (Nat.mod_lt _ (by omega))) se ?_
      intro h_163 K_164 A_165
      replace A := A_165
      rw [Road.buf_set (by omega : 0 < r')] at A
      obtain ⟨u1, hu1⟩ : ∃ u_, u_ = pr ++ [(Road.dc ((m / 1000000) % 10))] := ⟨_, rfl⟩
      have hn1 : u1.length = pr.length + 1 := by rw [hu1, List.length_append]; try rfl
      rw [← hu1] at A
      rw [show (((Nat.toInt32 pr.length) + 1) : Int32) = (Nat.toInt32 u1.length) from by rw [hn1]; exact Road.succ32 _]
      replace KE := KE.trans K_164 (by simp)
      refine Road.iload 110 bPti_d110 rfl ?_
      refine Road.iconst 112 (5 : Int32) bPti_d112 rfl ?_
      refine Road.icmp_le 113 130 bPti_d113 rfl (fun q => absurd q (by decide)) (fun hc113 => ?_)
      refine Road.aloadN 116 bPti_d116 rfl ?_
      refine Road.iloadN 117 bPti_d117 rfl ?_
      refine Road.iinc 118 (1) #[.val (.ref e), .val (.int ((Nat.toInt32 u1.length) + 1)), .val (.int x), .val (.long v), .second, .val (.int (7 : Int32))] bPti_d118 rfl rfl rfl ?_
      refine Road.lloadN 121 bPti_d121 rfl ?_
      refine Road.ldc2J 122 bPti_d122 (wI hw 332 rfl) ?_
      refine Road.ldiv 125 bPti_d125 (by decide) ?_
      refine Road.callS (B' := bDgt) 126 (argsL := [(.long (v / 100000))]) (rest := [(.int (Nat.toInt32 u1.length)), (.ref e)]) 2 bPti_d126 (wI hw 42 rfl) (wI hw 43 rfl) (wI hw 32 rfl) (wI hw 44 rfl) (by decide) (cDgt l Z a0 hw n0 hEW (v / 100000) (m / 100000) h_163 σ (Road.ldiv_nat hmx (by decide) hv (k := 100000) rfl) (Nat.le_trans (Nat.div_le_self _ _) hmx)) (lenOf bDgt_pd rfl) rfl rfl rfl (by decide) (by decide) (ce' := 0) (sl' := 0) rfl rfl (by decide) (by decide) ?_
      rintro _ h_166 σ_167 m_168 ⟨rfl, rfl⟩
      refine Road.Go.weaken (σ' := σ) m_168 (Nat.le_refl _) (Nat.le_refl _) ?_
      refine Road.castore 129 u1.length (Road.dc ((m / 100000) % 10)) bPti_d129 A (Road.n32 (by omega)) (by simp only [List.length_append, List.length_map, List.length_replicate]; omega) (Road.nar_dcc (Nat.mod_lt _ (by omega))) se ?_
      intro h_170 K_171 A_172
      replace A := A_172
      rw [Road.buf_set (by omega : 1 < r')] at A
      obtain ⟨u2, hu2⟩ : ∃ u_, u_ = u1 ++ [(Road.dc ((m / 100000) % 10))] := ⟨_, rfl⟩
      have hn2 : u2.length = u1.length + 1 := by rw [hu2, List.length_append]; try rfl
      rw [← hu2] at A
      rw [show (((Nat.toInt32 u1.length) + 1) : Int32) = (Nat.toInt32 u2.length) from by rw [hn2]; exact Road.succ32 _]
      replace KE := KE.trans K_171 (by simp)
      refine Road.iload 130 bPti_d130 rfl ?_
      refine Road.iconst 132 (4 : Int32) bPti_d132 rfl ?_
      refine Road.icmp_le 133 150 bPti_d133 rfl (fun q => absurd q (by decide)) (fun hc133 => ?_)
      refine Road.aloadN 136 bPti_d136 rfl ?_
      refine Road.iloadN 137 bPti_d137 rfl ?_
      refine Road.iinc 138 (1) #[.val (.ref e), .val (.int ((Nat.toInt32 u2.length) + 1)), .val (.int x), .val (.long v), .second, .val (.int (7 : Int32))] bPti_d138 rfl rfl rfl ?_
      refine Road.lloadN 141 bPti_d141 rfl ?_
      refine Road.ldc2J 142 bPti_d142 (wI hw 331 rfl) ?_
      refine Road.ldiv 145 bPti_d145 (by decide) ?_
      refine Road.callS (B' := bDgt) 146 (argsL := [(.long (v / 10000))]) (rest := [(.int (Nat.toInt32 u2.length)), (.ref e)]) 2 bPti_d146 (wI hw 42 rfl) (wI hw 43 rfl) (wI hw 32 rfl) (wI hw 44 rfl) (by decide) (cDgt l Z a0 hw n0 hEW (v / 10000) (m / 10000) h_170 σ (Road.ldiv_nat hmx (by decide) hv (k := 10000) rfl) (Nat.le_trans (Nat.div_le_self _ _) hmx)) (lenOf bDgt_pd rfl) rfl rfl rfl (by decide) (by decide) (ce' := 0) (sl' := 0) rfl rfl (by decide) (by decide) ?_
      rintro _ h_173 σ_174 m_175 ⟨rfl, rfl⟩
      refine Road.Go.weaken (σ' := σ) m_175 (Nat.le_refl _) (Nat.le_refl _) ?_
      refine Road.castore 149 u2.length (Road.dc ((m / 10000) % 10)) bPti_d149 A (Road.n32 (by omega)) (by simp only [List.length_append, List.length_map, List.length_replicate]; omega) (Road.nar_dcc (Nat.mod_lt _ (by omega))) se ?_
      intro h_177 K_178 A_179
      replace A := A_179
      rw [Road.buf_set (by omega : 2 < r')] at A
      obtain ⟨u3, hu3⟩ : ∃ u_, u_ = u2 ++ [(Road.dc ((m / 10000) % 10))] := ⟨_, rfl⟩
      have hn3 : u3.length = u2.length + 1 := by rw [hu3, List.length_append]; try rfl
      rw [← hu3] at A
      rw [show (((Nat.toInt32 u2.length) + 1) : Int32) = (Nat.toInt32 u3.length) from by rw [hn3]; exact Road.succ32 _]
      replace KE := KE.trans K_178 (by simp)
      refine Road.iload 150 bPti_d150 rfl ?_
      refine Road.iconst 152 (3 : Int32) bPti_d152 rfl ?_
      refine Road.icmp_le 153 170 bPti_d153 rfl (fun q => absurd q (by decide)) (fun hc153 => ?_)
      refine Road.aloadN 156 bPti_d156 rfl ?_
      refine Road.iloadN 157 bPti_d157 rfl ?_
      refine Road.iinc 158 (1) #[.val (.ref e), .val (.int ((Nat.toInt32 u3.length) + 1)), .val (.int x), .val (.long v), .second, .val (.int (7 : Int32))] bPti_d158 rfl rfl rfl ?_
      refine Road.lloadN 161 bPti_d161 rfl ?_
      refine Road.ldc2J 162 bPti_d162 (wI hw 329 rfl) ?_
      refine Road.ldiv 165 bPti_d165 (by decide) ?_
      refine Road.callS (B' := bDgt) 166 (argsL := [(.long (v / 1000))]) (rest := [(.int (Nat.toInt32 u3.length)), (.ref e)]) 2 bPti_d166 (wI hw 42 rfl) (wI hw 43 rfl) (wI hw 32 rfl) (wI hw 44 rfl) (by decide) (cDgt l Z a0 hw n0 hEW (v / 1000) (m / 1000) h_177 σ (Road.ldiv_nat hmx (by decide) hv (k := 1000) rfl) (Nat.le_trans (Nat.div_le_self _ _) hmx)) (lenOf bDgt_pd rfl) rfl rfl rfl (by decide) (by decide) (ce' := 0) (sl' := 0) rfl rfl (by decide) (by decide) ?_
      rintro _ h_180 σ_181 m_182 ⟨rfl, rfl⟩
      refine Road.Go.weaken (σ' := σ) m_182 (Nat.le_refl _) (Nat.le_refl _) ?_
      refine Road.castore 169 u3.length (Road.dc ((m / 1000) % 10)) bPti_d169 A (Road.n32 (by omega)) (by simp only [List.length_append, List.length_map, List.length_replicate]; omega) (Road.nar_dcc (Nat.mod_lt _ (by omega))) se ?_
      intro h_184 K_185 A_186
      replace A := A_186
      rw [Road.buf_set (by omega : 3 < r')] at A
      obtain ⟨u4, hu4⟩ : ∃ u_, u_ = u3 ++ [(Road.dc ((m / 1000) % 10))] := ⟨_, rfl⟩
      have hn4 : u4.length = u3.length + 1 := by rw [hu4, List.length_append]; try rfl
      rw [← hu4] at A
      rw [show (((Nat.toInt32 u3.length) + 1) : Int32) = (Nat.toInt32 u4.length) from by rw [hn4]; exact Road.succ32 _]
      replace KE := KE.trans K_185 (by simp)
      refine Road.iload 170 bPti_d170 rfl ?_
      refine Road.iconst 172 (2 : Int32) bPti_d172 rfl ?_
      refine Road.icmp_le 173 190 bPti_d173 rfl (fun q => absurd q (by decide)) (fun hc173 => ?_)
      refine Road.aloadN 176 bPti_d176 rfl ?_
      refine Road.iloadN 177 bPti_d177 rfl ?_
      refine Road.iinc 178 (1) #[.val (.ref e), .val (.int ((Nat.toInt32 u4.length) + 1)), .val (.int x), .val (.long v), .second, .val (.int (7 : Int32))] bPti_d178 rfl rfl rfl ?_
      refine Road.lloadN 181 bPti_d181 rfl ?_
      refine Road.ldc2J 182 bPti_d182 (wI hw 328 rfl) ?_
      refine Road.ldiv 185 bPti_d185 (by decide) ?_
      refine Road.callS (B' := bDgt) 186 (argsL := [(.long (v / 100))]) (rest := [(.int (Nat.toInt32 u4.length)), (.ref e)]) 2 bPti_d186 (wI hw 42 rfl) (wI hw 43 rfl) (wI hw 32 rfl) (wI hw 44 rfl) (by decide) (cDgt l Z a0 hw n0 hEW (v / 100) (m / 100) h_184 σ (Road.ldiv_nat hmx (by decide) hv (k := 100) rfl) (Nat.le_trans (Nat.div_le_self _ _) hmx)) (lenOf bDgt_pd rfl) rfl rfl rfl (by decide) (by decide) (ce' := 0) (sl' := 0) rfl rfl (by decide) (by decide) ?_
      rintro _ h_187 σ_188 m_189 ⟨rfl, rfl⟩
      refine Road.Go.weaken (σ' := σ) m_189 (Nat.le_refl _) (Nat.le_refl _) ?_
      refine Road.castore 189 u4.length (Road.dc ((m / 100) % 10)) bPti_d189 A (Road.n32 (by omega)) (by simp only [List.length_append, List.length_map, List.length_replicate]; omega) (Road.nar_dcc (Nat.mod_lt _ (by omega))) se ?_
      intro h_191 K_192 A_193
      replace A := A_193
      rw [Road.buf_set (by omega : 4 < r')] at A
      obtain ⟨u5, hu5⟩ : ∃ u_, u_ = u4 ++ [(Road.dc ((m / 100) % 10))] := ⟨_, rfl⟩
      have hn5 : u5.length = u4.length + 1 := by rw [hu5, List.length_append]; try rfl
      rw [← hu5] at A
      rw [show (((Nat.toInt32 u4.length) + 1) : Int32) = (Nat.toInt32 u5.length) from by rw [hn5]; exact Road.succ32 _]
      replace KE := KE.trans K_192 (by simp)
      refine Road.iload 190 bPti_d190 rfl ?_
      refine Road.iconst 192 (1 : Int32) bPti_d192 rfl ?_
      refine Road.icmp_le 193 210 bPti_d193 rfl (fun q => absurd q (by decide)) (fun hc193 => ?_)
      refine Road.aloadN 196 bPti_d196 rfl ?_
      refine Road.iloadN 197 bPti_d197 rfl ?_
      refine Road.iinc 198 (1) #[.val (.ref e), .val (.int ((Nat.toInt32 u5.length) + 1)), .val (.int x), .val (.long v), .second, .val (.int (7 : Int32))] bPti_d198 rfl rfl rfl ?_
      refine Road.lloadN 201 bPti_d201 rfl ?_
      refine Road.ldc2J 202 bPti_d202 (wI hw 37 rfl) ?_
      refine Road.ldiv 205 bPti_d205 (by decide) ?_
      refine Road.callS (B' := bDgt) 206 (argsL := [(.long (v / 10))]) (rest := [(.int (Nat.toInt32 u5.length)), (.ref e)]) 2 bPti_d206 (wI hw 42 rfl) (wI hw 43 rfl) (wI hw 32 rfl) (wI hw 44 rfl) (by decide) (cDgt l Z a0 hw n0 hEW (v / 10) (m / 10) h_191 σ (Road.ldiv_nat hmx (by decide) hv (k := 10) rfl) (Nat.le_trans (Nat.div_le_self _ _) hmx)) (lenOf bDgt_pd rfl) rfl rfl rfl (by decide) (by decide) (ce' := 0) (sl' := 0) rfl rfl (by decide) (by decide) ?_
      rintro _ h_194 σ_195 m_196 ⟨rfl, rfl⟩
      refine Road.Go.weaken (σ' := σ) m_196 (Nat.le_refl _) (Nat.le_refl _) ?_
      refine Road.castore 209 u5.length (Road.dc ((m / 10) % 10)) bPti_d209 A (Road.n32 (by omega)) (by simp only [List.length_append, List.length_map, List.length_replicate]; omega) (Road.nar_dcc (Nat.mod_lt _ (by omega))) se ?_
      intro h_198 K_199 A_200
      replace A := A_200
      rw [Road.buf_set (by omega : 5 < r')] at A
      obtain ⟨u6, hu6⟩ : ∃ u_, u_ = u5 ++ [(Road.dc ((m / 10) % 10))] := ⟨_, rfl⟩
      have hn6 : u6.length = u5.length + 1 := by rw [hu6, List.length_append]; try rfl
      rw [← hu6] at A
      rw [show (((Nat.toInt32 u5.length) + 1) : Int32) = (Nat.toInt32 u6.length) from by rw [hn6]; exact Road.succ32 _]
      replace KE := KE.trans K_199 (by simp)
      refine Road.aloadN 210 bPti_d210 rfl ?_
      refine Road.iloadN 211 bPti_d211 rfl ?_
      refine Road.iinc 212 (1) #[.val (.ref e), .val (.int ((Nat.toInt32 u6.length) + 1)), .val (.int x), .val (.long v), .second, .val (.int (7 : Int32))] bPti_d212 rfl rfl rfl ?_
      refine Road.lloadN 215 bPti_d215 rfl ?_
      refine Road.callS (B' := bDgt) 216 (argsL := [(.long v)]) (rest := [(.int (Nat.toInt32 u6.length)), (.ref e)]) 2 bPti_d216 (wI hw 42 rfl) (wI hw 43 rfl) (wI hw 32 rfl) (wI hw 44 rfl) (by decide) (cDgt l Z a0 hw n0 hEW v (m / 1) h_198 σ (by rw [hv, Nat.div_one]) (by rw [Nat.div_one]; exact hmx)) (lenOf bDgt_pd rfl) rfl rfl rfl (by decide) (by decide) (ce' := 0) (sl' := 0) rfl rfl (by decide) (by decide) ?_
      rintro _ h_201 σ_202 m_203 ⟨rfl, rfl⟩
      refine Road.Go.weaken (σ' := σ) m_203 (Nat.le_refl _) (Nat.le_refl _) ?_
      refine Road.castore 219 u6.length (Road.dc ((m / 1) % 10)) bPti_d219 A (Road.n32 (by omega)) (by simp only [List.length_append, List.length_map, List.length_replicate]; omega) (Road.nar_dcc (Nat.mod_lt _ (by omega))) se ?_
      intro h_205 K_206 A_207
      replace A := A_207
      rw [Road.buf_set (by omega : 6 < r')] at A
      obtain ⟨u7, hu7⟩ : ∃ u_, u_ = u6 ++ [(Road.dc ((m / 1) % 10))] := ⟨_, rfl⟩
      have hn7 : u7.length = u6.length + 1 := by rw [hu7, List.length_append]; try rfl
      rw [← hu7] at A
      rw [show (((Nat.toInt32 u6.length) + 1) : Int32) = (Nat.toInt32 u7.length) from by rw [hn7]; exact Road.succ32 _]
      replace KE := KE.trans K_206 (by simp)
      refine Road.iloadN 220 bPti_d220 rfl ?_
      have hcur : u7 = pre ++ Road.dec x := by rw [hu7, hu6, hu5, hu4, hu3, hu2, hu1, he, hlist]; try simp only [List.append_assoc, List.cons_append, List.nil_append]
      rw [hcur] at A
      rw [hlen] at hrr
      rw [← hrr] at A
      exact Road.iretI 221 bPti_d221 rfl (by decide) (by decide) (fun σ' m => ⟨by rw [hcur], KE, A⟩)
    · skip
      have hlen := Road.decN_len 7 m (by omega) (Or.inr (by omega))
      refine Road.nameI ?_
      intro z_208 hz_208
      obtain rfl : z_208 = (8 : Int32) := by rw [hz_208]; rw [hlen]; rfl
      have hlist : Road.decN m = [Road.dc (m / 10000000 % 10), Road.dc (m / 1000000 % 10), Road.dc (m / 100000 % 10), Road.dc (m / 10000 % 10), Road.dc (m / 1000 % 10), Road.dc (m / 100 % 10), Road.dc (m / 10 % 10), Road.dc (m / 1 % 10)] := by rw [Road.decN_list, hlen]; rfl
      refine Road.istore 24 #[.val (.ref e), .val (.int (Nat.toInt32 pr.length)), .val (.int x), .val (.long v), .second, .val (.int (8 : Int32))] bPti_d24 rfl ?_
      refine Road.iload 26 bPti_d26 rfl ?_
      refine Road.bipush 28 (9 : Int32) bPti_d28 rfl ?_
      refine Road.icmp_le 30 47 bPti_d30 rfl (fun hc30 => ?_) (fun q => absurd q (by decide))
      refine Road.iload 47 bPti_d47 rfl ?_
      refine Road.bipush 49 (8 : Int32) bPti_d49 rfl ?_
      refine Road.icmp_le 51 68 bPti_d51 rfl (fun hc51 => ?_) (fun q => absurd q (by decide))
      refine Road.iload 68 bPti_d68 rfl ?_
      refine Road.bipush 70 (7 : Int32) bPti_d70 rfl ?_
      refine Road.icmp_le 72 89 bPti_d72 rfl (fun q => absurd q (by decide)) (fun hc72 => ?_)
      refine Road.aloadN 75 bPti_d75 rfl ?_
      refine Road.iloadN 76 bPti_d76 rfl ?_
      refine Road.iinc 77 (1) #[.val (.ref e), .val (.int ((Nat.toInt32 pr.length) + 1)), .val (.int x), .val (.long v), .second, .val (.int (8 : Int32))] bPti_d77 rfl rfl rfl ?_
      refine Road.lloadN 80 bPti_d80 rfl ?_
      refine Road.ldc2J 81 bPti_d81 (wI hw 334 rfl) ?_
      refine Road.ldiv 84 bPti_d84 (by decide) ?_
      refine Road.callS (B' := bDgt) 85 (argsL := [(.long (v / 10000000))]) (rest := [(.int (Nat.toInt32 pr.length)), (.ref e)]) 2 bPti_d85 (wI hw 42 rfl) (wI hw 43 rfl) (wI hw 32 rfl) (wI hw 44 rfl) (by decide) (cDgt l Z a0 hw n0 hEW (v / 10000000) (m / 10000000) h σ (Road.ldiv_nat hmx (by decide) hv (k := 10000000) rfl) (Nat.le_trans (Nat.div_le_self _ _) hmx)) (lenOf bDgt_pd rfl) rfl rfl rfl (by decide) (by decide) (ce' := 0) (sl' := 0) rfl rfl (by decide) (by decide) ?_
      rintro _ h_209 σ_210 m_211 ⟨rfl, rfl⟩
      refine Road.Go.weaken (σ' := σ) m_211 (Nat.le_refl _) (Nat.le_refl _) ?_
      refine Road.castore 88 pr.length (Road.dc ((m / 10000000) % 10)) bPti_d88 A (Road.n32 (by omega)) (by simp only [List.length_append, List.length_map, List.length_replicate]; omega) (Road.nar_dcc (Nat.mod_lt _ (by omega))) se ?_
      intro h_213 K_214 A_215
      replace A := A_215
      rw [Road.buf_set (by omega : 0 < r')] at A
      obtain ⟨u1, hu1⟩ : ∃ u_, u_ = pr ++ [(Road.dc ((m / 10000000) % 10))] := ⟨_, rfl⟩
      have hn1 : u1.length = pr.length + 1 := by rw [hu1, List.length_append]; try rfl
      rw [← hu1] at A
      rw [show (((Nat.toInt32 pr.length) + 1) : Int32) = (Nat.toInt32 u1.length) from by rw [hn1]; exact Road.succ32 _]
      replace KE := KE.trans K_214 (by simp)
      refine Road.iload 89 bPti_d89 rfl ?_
      refine Road.bipush 91 (6 : Int32) bPti_d91 rfl ?_
      refine Road.icmp_le 93 110 bPti_d93 rfl (fun q => absurd q (by decide)) (fun hc93 => ?_)
      refine Road.aloadN 96 bPti_d96 rfl ?_
      refine Road.iloadN 97 bPti_d97 rfl ?_
      refine Road.iinc 98 (1) #[.val (.ref e), .val (.int ((Nat.toInt32 u1.length) + 1)), .val (.int x), .val (.long v), .second, .val (.int (8 : Int32))] bPti_d98 rfl rfl rfl ?_
      refine Road.lloadN 101 bPti_d101 rfl ?_
      refine Road.ldc2J 102 bPti_d102 (wI hw 333 rfl) ?_
      refine Road.ldiv 105 bPti_d105 (by decide) ?_
      refine Road.callS (B' := bDgt) 106 (argsL := [(.long (v / 1000000))]) (rest := [(.int (Nat.toInt32 u1.length)), (.ref e)]) 2 bPti_d106 (wI hw 42 rfl) (wI hw 43 rfl) (wI hw 32 rfl) (wI hw 44 rfl) (by decide) (cDgt l Z a0 hw n0 hEW (v / 1000000) (m / 1000000) h_213 σ (Road.ldiv_nat hmx (by decide) hv (k := 1000000) rfl) (Nat.le_trans (Nat.div_le_self _ _) hmx)) (lenOf bDgt_pd rfl) rfl rfl rfl (by decide) (by decide) (ce' := 0) (sl' := 0) rfl rfl (by decide) (by decide) ?_
      rintro _ h_216 σ_217 m_218 ⟨rfl, rfl⟩
      refine Road.Go.weaken (σ' := σ) m_218 (Nat.le_refl _) (Nat.le_refl _) ?_
      refine Road.castore 109 u1.length (Road.dc ((m / 1000000) % 10)) bPti_d109 A (Road.n32 (by omega)) (by simp only [List.length_append, List.length_map, List.length_replicate]; omega) (Road.nar_dcc (Nat.mod_lt _ (by omega))) se ?_
      intro h_220 K_221 A_222
      replace A := A_222
      rw [Road.buf_set (by omega : 1 < r')] at A
      obtain ⟨u2, hu2⟩ : ∃ u_, u_ = u1 ++ [(Road.dc ((m / 1000000) % 10))] := ⟨_, rfl⟩
      have hn2 : u2.length = u1.length + 1 := by rw [hu2, List.length_append]; try rfl
      rw [← hu2] at A
      rw [show (((Nat.toInt32 u1.length) + 1) : Int32) = (Nat.toInt32 u2.length) from by rw [hn2]; exact Road.succ32 _]
      replace KE := KE.trans K_221 (by simp)
      refine Road.iload 110 bPti_d110 rfl ?_
      refine Road.iconst 112 (5 : Int32) bPti_d112 rfl ?_
      refine Road.icmp_le 113 130 bPti_d113 rfl (fun q => absurd q (by decide)) (fun hc113 => ?_)
      refine Road.aloadN 116 bPti_d116 rfl ?_
      refine Road.iloadN 117 bPti_d117 rfl ?_
      refine Road.iinc 118 (1) #[.val (.ref e), .val (.int ((Nat.toInt32 u2.length) + 1)), .val (.int x), .val (.long v), .second, .val (.int (8 : Int32))] bPti_d118 rfl rfl rfl ?_
      refine Road.lloadN 121 bPti_d121 rfl ?_
      refine Road.ldc2J 122 bPti_d122 (wI hw 332 rfl) ?_
      refine Road.ldiv 125 bPti_d125 (by decide) ?_
      refine Road.callS (B' := bDgt) 126 (argsL := [(.long (v / 100000))]) (rest := [(.int (Nat.toInt32 u2.length)), (.ref e)]) 2 bPti_d126 (wI hw 42 rfl) (wI hw 43 rfl) (wI hw 32 rfl) (wI hw 44 rfl) (by decide) (cDgt l Z a0 hw n0 hEW (v / 100000) (m / 100000) h_220 σ (Road.ldiv_nat hmx (by decide) hv (k := 100000) rfl) (Nat.le_trans (Nat.div_le_self _ _) hmx)) (lenOf bDgt_pd rfl) rfl rfl rfl (by decide) (by decide) (ce' := 0) (sl' := 0) rfl rfl (by decide) (by decide) ?_
      rintro _ h_223 σ_224 m_225 ⟨rfl, rfl⟩
      refine Road.Go.weaken (σ' := σ) m_225 (Nat.le_refl _) (Nat.le_refl _) ?_
      refine Road.castore 129 u2.length (Road.dc ((m / 100000) % 10)) bPti_d129 A (Road.n32 (by omega)) (by simp only [List.length_append, List.length_map, List.length_replicate]; omega) (Road.nar_dcc (Nat.mod_lt _ (by omega))) se ?_
      intro h_227 K_228 A_229
      replace A := A_229
      rw [Road.buf_set (by omega : 2 < r')] at A
      obtain ⟨u3, hu3⟩ : ∃ u_, u_ = u2 ++ [(Road.dc ((m / 100000) % 10))] := ⟨_, rfl⟩
      have hn3 : u3.length = u2.length + 1 := by rw [hu3, List.length_append]; try rfl
      rw [← hu3] at A
      rw [show (((Nat.toInt32 u2.length) + 1) : Int32) = (Nat.toInt32 u3.length) from by rw [hn3]; exact Road.succ32 _]
      replace KE := KE.trans K_228 (by simp)
      refine Road.iload 130 bPti_d130 rfl ?_
      refine Road.iconst 132 (4 : Int32) bPti_d132 rfl ?_
      refine Road.icmp_le 133 150 bPti_d133 rfl (fun q => absurd q (by decide)) (fun hc133 => ?_)
      refine Road.aloadN 136 bPti_d136 rfl ?_
      refine Road.iloadN 137 bPti_d137 rfl ?_
      refine Road.iinc 138 (1) #[.val (.ref e), .val (.int ((Nat.toInt32 u3.length) + 1)), .val (.int x), .val (.long v), .second, .val (.int (8 : Int32))] bPti_d138 rfl rfl rfl ?_
      refine Road.lloadN 141 bPti_d141 rfl ?_
      refine Road.ldc2J 142 bPti_d142 (wI hw 331 rfl) ?_
      refine Road.ldiv 145 bPti_d145 (by decide) ?_
      refine Road.callS (B' := bDgt) 146 (argsL := [(.long (v / 10000))]) (rest := [(.int (Nat.toInt32 u3.length)), (.ref e)]) 2 bPti_d146 (wI hw 42 rfl) (wI hw 43 rfl) (wI hw 32 rfl) (wI hw 44 rfl) (by decide) (cDgt l Z a0 hw n0 hEW (v / 10000) (m / 10000) h_227 σ (Road.ldiv_nat hmx (by decide) hv (k := 10000) rfl) (Nat.le_trans (Nat.div_le_self _ _) hmx)) (lenOf bDgt_pd rfl) rfl rfl rfl (by decide) (by decide) (ce' := 0) (sl' := 0) rfl rfl (by decide) (by decide) ?_
      rintro _ h_230 σ_231 m_232 ⟨rfl, rfl⟩
      refine Road.Go.weaken (σ' := σ) m_232 (Nat.le_refl _) (Nat.le_refl _) ?_
      refine Road.castore 149 u3.length (Road.dc ((m / 10000) % 10)) bPti_d149 A (Road.n32 (by omega)) (by simp only [List.length_append, List.length_map, List.length_replicate]; omega) (Road.nar_dcc (Nat.mod_lt _ (by omega))) se ?_
      intro h_234 K_235 A_236
      replace A := A_236
      rw [Road.buf_set (by omega : 3 < r')] at A
      obtain ⟨u4, hu4⟩ : ∃ u_, u_ = u3 ++ [(Road.dc ((m / 10000) % 10))] := ⟨_, rfl⟩
      have hn4 : u4.length = u3.length + 1 := by rw [hu4, List.length_append]; try rfl
      rw [← hu4] at A
      rw [show (((Nat.toInt32 u3.length) + 1) : Int32) = (Nat.toInt32 u4.length) from by rw [hn4]; exact Road.succ32 _]
      replace KE := KE.trans K_235 (by simp)
      refine Road.iload 150 bPti_d150 rfl ?_
      refine Road.iconst 152 (3 : Int32) bPti_d152 rfl ?_
      refine Road.icmp_le 153 170 bPti_d153 rfl (fun q => absurd q (by decide)) (fun hc153 => ?_)
      refine Road.aloadN 156 bPti_d156 rfl ?_
      refine Road.iloadN 157 bPti_d157 rfl ?_
      refine Road.iinc 158 (1) #[.val (.ref e), .val (.int ((Nat.toInt32 u4.length) + 1)), .val (.int x), .val (.long v), .second, .val (.int (8 : Int32))] bPti_d158 rfl rfl rfl ?_
      refine Road.lloadN 161 bPti_d161 rfl ?_
      refine Road.ldc2J 162 bPti_d162 (wI hw 329 rfl) ?_
      refine Road.ldiv 165 bPti_d165 (by decide) ?_
      refine Road.callS (B' := bDgt) 166 (argsL := [(.long (v / 1000))]) (rest := [(.int (Nat.toInt32 u4.length)), (.ref e)]) 2 bPti_d166 (wI hw 42 rfl) (wI hw 43 rfl) (wI hw 32 rfl) (wI hw 44 rfl) (by decide) (cDgt l Z a0 hw n0 hEW (v / 1000) (m / 1000) h_234 σ (Road.ldiv_nat hmx (by decide) hv (k := 1000) rfl) (Nat.le_trans (Nat.div_le_self _ _) hmx)) (lenOf bDgt_pd rfl) rfl rfl rfl (by decide) (by decide) (ce' := 0) (sl' := 0) rfl rfl (by decide) (by decide) ?_
      rintro _ h_237 σ_238 m_239 ⟨rfl, rfl⟩
      refine Road.Go.weaken (σ' := σ) m_239 (Nat.le_refl _) (Nat.le_refl _) ?_
      refine Road.castore 169 u4.length (Road.dc ((m / 1000) % 10)) bPti_d169 A (Road.n32 (by omega)) (by simp only [List.length_append, List.length_map, List.length_replicate]; omega) (Road.nar_dcc (Nat.mod_lt _ (by omega))) se ?_
      intro h_241 K_242 A_243
      replace A := A_243
      rw [Road.buf_set (by omega : 4 < r')] at A
      obtain ⟨u5, hu5⟩ : ∃ u_, u_ = u4 ++ [(Road.dc ((m / 1000) % 10))] := ⟨_, rfl⟩
      have hn5 : u5.length = u4.length + 1 := by rw [hu5, List.length_append]; try rfl
      rw [← hu5] at A
      rw [show (((Nat.toInt32 u4.length) + 1) : Int32) = (Nat.toInt32 u5.length) from by rw [hn5]; exact Road.succ32 _]
      replace KE := KE.trans K_242 (by simp)
      refine Road.iload 170 bPti_d170 rfl ?_
      refine Road.iconst 172 (2 : Int32) bPti_d172 rfl ?_
      refine Road.icmp_le 173 190 bPti_d173 rfl (fun q => absurd q (by decide)) (fun hc173 => ?_)
      refine Road.aloadN 176 bPti_d176 rfl ?_
      refine Road.iloadN 177 bPti_d177 rfl ?_
      refine Road.iinc 178 (1) #[.val (.ref e), .val (.int ((Nat.toInt32 u5.length) + 1)), .val (.int x), .val (.long v), .second, .val (.int (8 : Int32))] bPti_d178 rfl rfl rfl ?_
      refine Road.lloadN 181 bPti_d181 rfl ?_
      refine Road.ldc2J 182 bPti_d182 (wI hw 328 rfl) ?_
      refine Road.ldiv 185 bPti_d185 (by decide) ?_
      refine Road.callS (B' := bDgt) 186 (argsL := [(.long (v / 100))]) (rest := [(.int (Nat.toInt32 u5.length)), (.ref e)]) 2 bPti_d186 (wI hw 42 rfl) (wI hw 43 rfl) (wI hw 32 rfl) (wI hw 44 rfl) (by decide) (cDgt l Z a0 hw n0 hEW (v / 100) (m / 100) h_241 σ (Road.ldiv_nat hmx (by decide) hv (k := 100) rfl) (Nat.le_trans (Nat.div_le_self _ _) hmx)) (lenOf bDgt_pd rfl) rfl rfl rfl (by decide) (by decide) (ce' := 0) (sl' := 0) rfl rfl (by decide) (by decide) ?_
      rintro _ h_244 σ_245 m_246 ⟨rfl, rfl⟩
      refine Road.Go.weaken (σ' := σ) m_246 (Nat.le_refl _) (Nat.le_refl _) ?_
      refine Road.castore 189 u5.length (Road.dc ((m / 100) % 10)) bPti_d189 A (Road.n32 (by omega)) (by simp only [List.length_append, List.length_map, List.length_replicate]; omega) (Road.nar_dcc (Nat.mod_lt _ (by omega))) se ?_
      intro h_248 K_249 A_250
      replace A := A_250
      rw [Road.buf_set (by omega : 5 < r')] at A
      obtain ⟨u6, hu6⟩ : ∃ u_, u_ = u5 ++ [(Road.dc ((m / 100) % 10))] := ⟨_, rfl⟩
      have hn6 : u6.length = u5.length + 1 := by rw [hu6, List.length_append]; try rfl
      rw [← hu6] at A
      rw [show (((Nat.toInt32 u5.length) + 1) : Int32) = (Nat.toInt32 u6.length) from by rw [hn6]; exact Road.succ32 _]
      replace KE := KE.trans K_249 (by simp)
      refine Road.iload 190 bPti_d190 rfl ?_
      refine Road.iconst 192 (1 : Int32) bPti_d192 rfl ?_
      refine Road.icmp_le 193 210 bPti_d193 rfl (fun q => absurd q (by decide)) (fun hc193 => ?_)
      refine Road.aloadN 196 bPti_d196 rfl ?_
      refine Road.iloadN 197 bPti_d197 rfl ?_
      refine Road.iinc 198 (1) #[.val (.ref e), .val (.int ((Nat.toInt32 u6.length) + 1)), .val (.int x), .val (.long v), .second, .val (.int (8 : Int32))] bPti_d198 rfl rfl rfl ?_
      refine Road.lloadN 201 bPti_d201 rfl ?_
      refine Road.ldc2J 202 bPti_d202 (wI hw 37 rfl) ?_
      refine Road.ldiv 205 bPti_d205 (by decide) ?_
      refine Road.callS (B' := bDgt) 206 (argsL := [(.long (v / 10))]) (rest := [(.int (Nat.toInt32 u6.length)), (.ref e)]) 2 bPti_d206 (wI hw 42 rfl) (wI hw 43 rfl) (wI hw 32 rfl) (wI hw 44 rfl) (by decide) (cDgt l Z a0 hw n0 hEW (v / 10) (m / 10) h_248 σ (Road.ldiv_nat hmx (by decide) hv (k := 10) rfl) (Nat.le_trans (Nat.div_le_self _ _) hmx)) (lenOf bDgt_pd rfl) rfl rfl rfl (by decide) (by decide) (ce' := 0) (sl' := 0) rfl rfl (by decide) (by decide) ?_
      rintro _ h_251 σ_252 m_253 ⟨rfl, rfl⟩
      refine Road.Go.weaken (σ' := σ) m_253 (Nat.le_refl _) (Nat.le_refl _) ?_
      refine Road.castore 209 u6.length (Road.dc ((m / 10) % 10)) bPti_d209 A (Road.n32 (by omega)) (by simp only [List.length_append, List.length_map, List.length_replicate]; omega) (Road.nar_dcc (Nat.mod_lt _ (by omega))) se ?_
      intro h_255 K_256 A_257
      replace A := A_257
      rw [Road.buf_set (by omega : 6 < r')] at A
      obtain ⟨u7, hu7⟩ : ∃ u_, u_ = u6 ++ [(Road.dc ((m / 10) % 10))] := ⟨_, rfl⟩
      have hn7 : u7.length = u6.length + 1 := by rw [hu7, List.length_append]; try rfl
      rw [← hu7] at A
      rw [show (((Nat.toInt32 u6.length) + 1) : Int32) = (Nat.toInt32 u7.length) from by rw [hn7]; exact Road.succ32 _]
      replace KE := KE.trans K_256 (by simp)
      refine Road.aloadN 210 bPti_d210 rfl ?_
      refine Road.iloadN 211 bPti_d211 rfl ?_
      refine Road.iinc 212 (1) #[.val (.ref e), .val (.int ((Nat.toInt32 u7.length) + 1)), .val (.int x), .val (.long v), .second, .val (.int (8 : Int32))] bPti_d212 rfl rfl rfl ?_
      refine Road.lloadN 215 bPti_d215 rfl ?_
      refine Road.callS (B' := bDgt) 216 (argsL := [(.long v)]) (rest := [(.int (Nat.toInt32 u7.length)), (.ref e)]) 2 bPti_d216 (wI hw 42 rfl) (wI hw 43 rfl) (wI hw 32 rfl) (wI hw 44 rfl) (by decide) (cDgt l Z a0 hw n0 hEW v (m / 1) h_255 σ (by rw [hv, Nat.div_one]) (by rw [Nat.div_one]; exact hmx)) (lenOf bDgt_pd rfl) rfl rfl rfl (by decide) (by decide) (ce' := 0) (sl' := 0) rfl rfl (by decide) (by decide) ?_
      rintro _ h_258 σ_259 m_260 ⟨rfl, rfl⟩
      refine Road.Go.weaken (σ' := σ) m_260 (Nat.le_refl _) (Nat.le_refl _) ?_
      refine Road.castore 219 u7.length (Road.dc ((m / 1) % 10)) bPti_d219 A (Road.n32 (by omega)) (by simp only [List.length_append, List.length_map, List.length_replicate]; omega) (Road.nar_dcc (Nat.mod_lt _ (by omega))) se ?_
      intro h_262 K_263 A_264
      replace A := A_264
      rw [Road.buf_set (by omega : 7 < r')] at A
      obtain ⟨u8, hu8⟩ : ∃ u_, u_ = u7 ++ [(Road.dc ((m / 1) % 10))] := ⟨_, rfl⟩
      have hn8 : u8.length = u7.length + 1 := by rw [hu8, List.length_append]; try rfl
      rw [← hu8] at A
      rw [show (((Nat.toInt32 u7.length) + 1) : Int32) = (Nat.toInt32 u8.length) from by rw [hn8]; exact Road.succ32 _]
      replace KE := KE.trans K_263 (by simp)
      refine Road.iloadN 220 bPti_d220 rfl ?_
      have hcur : u8 = pre ++ Road.dec x := by rw [hu8, hu7, hu6, hu5, hu4, hu3, hu2, hu1, he, hlist]; try simp only [List.append_assoc, List.cons_append, List.nil_append]
      rw [hcur] at A
      rw [hlen] at hrr
      rw [← hrr] at A
      exact Road.iretI 221 bPti_d221 rfl (by decide) (by decide) (fun σ' m => ⟨by rw [hcur], KE, A⟩)
    · skip
      have hlen := Road.decN_len 8 m (by omega) (Or.inr (by omega))
      refine Road.nameI ?_
      intro z_265 hz_265
      obtain rfl : z_265 = (9 : Int32) := by rw [hz_265]; rw [hlen]; rfl
      have hlist : Road.decN m = [Road.dc (m / 100000000 % 10), Road.dc (m / 10000000 % 10), Road.dc (m / 1000000 % 10), Road.dc (m / 100000 % 10), Road.dc (m / 10000 % 10), Road.dc (m / 1000 % 10), Road.dc (m / 100 % 10), Road.dc (m / 10 % 10), Road.dc (m / 1 % 10)] := by rw [Road.decN_list, hlen]; rfl
      refine Road.istore 24 #[.val (.ref e), .val (.int (Nat.toInt32 pr.length)), .val (.int x), .val (.long v), .second, .val (.int (9 : Int32))] bPti_d24 rfl ?_
      refine Road.iload 26 bPti_d26 rfl ?_
      refine Road.bipush 28 (9 : Int32) bPti_d28 rfl ?_
      refine Road.icmp_le 30 47 bPti_d30 rfl (fun hc30 => ?_) (fun q => absurd q (by decide))
      refine Road.iload 47 bPti_d47 rfl ?_
      refine Road.bipush 49 (8 : Int32) bPti_d49 rfl ?_
      refine Road.icmp_le 51 68 bPti_d51 rfl (fun q => absurd q (by decide)) (fun hc51 => ?_)
      refine Road.aloadN 54 bPti_d54 rfl ?_
      refine Road.iloadN 55 bPti_d55 rfl ?_
      refine Road.iinc 56 (1) #[.val (.ref e), .val (.int ((Nat.toInt32 pr.length) + 1)), .val (.int x), .val (.long v), .second, .val (.int (9 : Int32))] bPti_d56 rfl rfl rfl ?_
      refine Road.lloadN 59 bPti_d59 rfl ?_
      refine Road.ldc2J 60 bPti_d60 (wI hw 335 rfl) ?_
      refine Road.ldiv 63 bPti_d63 (by decide) ?_
      refine Road.callS (B' := bDgt) 64 (argsL := [(.long (v / 100000000))]) (rest := [(.int (Nat.toInt32 pr.length)), (.ref e)]) 2 bPti_d64 (wI hw 42 rfl) (wI hw 43 rfl) (wI hw 32 rfl) (wI hw 44 rfl) (by decide) (cDgt l Z a0 hw n0 hEW (v / 100000000) (m / 100000000) h σ (Road.ldiv_nat hmx (by decide) hv (k := 100000000) rfl) (Nat.le_trans (Nat.div_le_self _ _) hmx)) (lenOf bDgt_pd rfl) rfl rfl rfl (by decide) (by decide) (ce' := 0) (sl' := 0) rfl rfl (by decide) (by decide) ?_
      rintro _ h_266 σ_267 m_268 ⟨rfl, rfl⟩
      refine Road.Go.weaken (σ' := σ) m_268 (Nat.le_refl _) (Nat.le_refl _) ?_
      refine Road.castore 67 pr.length (Road.dc ((m / 100000000) % 10)) bPti_d67 A (Road.n32 (by omega)) (by simp only [List.length_append, List.length_map, List.length_replicate]; omega) (Road.nar_dcc (Nat.mod_lt _ (by omega))) se ?_
      intro h_270 K_271 A_272
      replace A := A_272
      rw [Road.buf_set (by omega : 0 < r')] at A
      obtain ⟨u1, hu1⟩ : ∃ u_, u_ = pr ++ [(Road.dc ((m / 100000000) % 10))] := ⟨_, rfl⟩
      have hn1 : u1.length = pr.length + 1 := by rw [hu1, List.length_append]; try rfl
      rw [← hu1] at A
      rw [show (((Nat.toInt32 pr.length) + 1) : Int32) = (Nat.toInt32 u1.length) from by rw [hn1]; exact Road.succ32 _]
      replace KE := KE.trans K_271 (by simp)
      refine Road.iload 68 bPti_d68 rfl ?_
      refine Road.bipush 70 (7 : Int32) bPti_d70 rfl ?_
      refine Road.icmp_le 72 89 bPti_d72 rfl (fun q => absurd q (by decide)) (fun hc72 => ?_)
      refine Road.aloadN 75 bPti_d75 rfl ?_
      refine Road.iloadN 76 bPti_d76 rfl ?_
      refine Road.iinc 77 (1) #[.val (.ref e), .val (.int ((Nat.toInt32 u1.length) + 1)), .val (.int x), .val (.long v), .second, .val (.int (9 : Int32))] bPti_d77 rfl rfl rfl ?_
      refine Road.lloadN 80 bPti_d80 rfl ?_
      refine Road.ldc2J 81 bPti_d81 (wI hw 334 rfl) ?_
      refine Road.ldiv 84 bPti_d84 (by decide) ?_
      refine Road.callS (B' := bDgt) 85 (argsL := [(.long (v / 10000000))]) (rest := [(.int (Nat.toInt32 u1.length)), (.ref e)]) 2 bPti_d85 (wI hw 42 rfl) (wI hw 43 rfl) (wI hw 32 rfl) (wI hw 44 rfl) (by decide) (cDgt l Z a0 hw n0 hEW (v / 10000000) (m / 10000000) h_270 σ (Road.ldiv_nat hmx (by decide) hv (k := 10000000) rfl) (Nat.le_trans (Nat.div_le_self _ _) hmx)) (lenOf bDgt_pd rfl) rfl rfl rfl (by decide) (by decide) (ce' := 0) (sl' := 0) rfl rfl (by decide) (by decide) ?_
      rintro _ h_273 σ_274 m_275 ⟨rfl, rfl⟩
      refine Road.Go.weaken (σ' := σ) m_275 (Nat.le_refl _) (Nat.le_refl _) ?_
      refine Road.castore 88 u1.length (Road.dc ((m / 10000000) % 10)) bPti_d88 A (Road.n32 (by omega)) (by simp only [List.length_append, List.length_map, List.length_replicate]; omega) (Road.nar_dcc (Nat.mod_lt _ (by omega))) se ?_
      intro h_277 K_278 A_279
      replace A := A_279
      rw [Road.buf_set (by omega : 1 < r')] at A
      obtain ⟨u2, hu2⟩ : ∃ u_, u_ = u1 ++ [(Road.dc ((m / 10000000) % 10))] := ⟨_, rfl⟩
      have hn2 : u2.length = u1.length + 1 := by rw [hu2, List.length_append]; try rfl
      rw [← hu2] at A
      rw [show (((Nat.toInt32 u1.length) + 1) : Int32) = (Nat.toInt32 u2.length) from by rw [hn2]; exact Road.succ32 _]
      replace KE := KE.trans K_278 (by simp)
      refine Road.iload 89 bPti_d89 rfl ?_
      refine Road.bipush 91 (6 : Int32) bPti_d91 rfl ?_
      refine Road.icmp_le 93 110 bPti_d93 rfl (fun q => absurd q (by decide)) (fun hc93 => ?_)
      refine Road.aloadN 96 bPti_d96 rfl ?_
      refine Road.iloadN 97 bPti_d97 rfl ?_
      refine Road.iinc 98 (1) #[.val (.ref e), .val (.int ((Nat.toInt32 u2.length) + 1)), .val (.int x), .val (.long v), .second, .val (.int (9 : Int32))] bPti_d98 rfl rfl rfl ?_
      refine Road.lloadN 101 bPti_d101 rfl ?_
      refine Road.ldc2J 102 bPti_d102 (wI hw 333 rfl) ?_
      refine Road.ldiv 105 bPti_d105 (by decide) ?_
      refine Road.callS (B' := bDgt) 106 (argsL := [(.long (v / 1000000))]) (rest := [(.int (Nat.toInt32 u2.length)), (.ref e)]) 2 bPti_d106 (wI hw 42 rfl) (wI hw 43 rfl) (wI hw 32 rfl) (wI hw 44 rfl) (by decide) (cDgt l Z a0 hw n0 hEW (v / 1000000) (m / 1000000) h_277 σ (Road.ldiv_nat hmx (by decide) hv (k := 1000000) rfl) (Nat.le_trans (Nat.div_le_self _ _) hmx)) (lenOf bDgt_pd rfl) rfl rfl rfl (by decide) (by decide) (ce' := 0) (sl' := 0) rfl rfl (by decide) (by decide) ?_
      rintro _ h_280 σ_281 m_282 ⟨rfl, rfl⟩
      refine Road.Go.weaken (σ' := σ) m_282 (Nat.le_refl _) (Nat.le_refl _) ?_
      refine Road.castore 109 u2.length (Road.dc ((m / 1000000) % 10)) bPti_d109 A (Road.n32 (by omega)) (by simp only [List.length_append, List.length_map, List.length_replicate]; omega) (Road.nar_dcc (Nat.mod_lt _ (by omega))) se ?_
      intro h_284 K_285 A_286
      replace A := A_286
      rw [Road.buf_set (by omega : 2 < r')] at A
      obtain ⟨u3, hu3⟩ : ∃ u_, u_ = u2 ++ [(Road.dc ((m / 1000000) % 10))] := ⟨_, rfl⟩
      have hn3 : u3.length = u2.length + 1 := by rw [hu3, List.length_append]; try rfl
      rw [← hu3] at A
      rw [show (((Nat.toInt32 u2.length) + 1) : Int32) = (Nat.toInt32 u3.length) from by rw [hn3]; exact Road.succ32 _]
      replace KE := KE.trans K_285 (by simp)
      refine Road.iload 110 bPti_d110 rfl ?_
      refine Road.iconst 112 (5 : Int32) bPti_d112 rfl ?_
      refine Road.icmp_le 113 130 bPti_d113 rfl (fun q => absurd q (by decide)) (fun hc113 => ?_)
      refine Road.aloadN 116 bPti_d116 rfl ?_
      refine Road.iloadN 117 bPti_d117 rfl ?_
      refine Road.iinc 118 (1) #[.val (.ref e), .val (.int ((Nat.toInt32 u3.length) + 1)), .val (.int x), .val (.long v), .second, .val (.int (9 : Int32))] bPti_d118 rfl rfl rfl ?_
      refine Road.lloadN 121 bPti_d121 rfl ?_
      refine Road.ldc2J 122 bPti_d122 (wI hw 332 rfl) ?_
      refine Road.ldiv 125 bPti_d125 (by decide) ?_
      refine Road.callS (B' := bDgt) 126 (argsL := [(.long (v / 100000))]) (rest := [(.int (Nat.toInt32 u3.length)), (.ref e)]) 2 bPti_d126 (wI hw 42 rfl) (wI hw 43 rfl) (wI hw 32 rfl) (wI hw 44 rfl) (by decide) (cDgt l Z a0 hw n0 hEW (v / 100000) (m / 100000) h_284 σ (Road.ldiv_nat hmx (by decide) hv (k := 100000) rfl) (Nat.le_trans (Nat.div_le_self _ _) hmx)) (lenOf bDgt_pd rfl) rfl rfl rfl (by decide) (by decide) (ce' := 0) (sl' := 0) rfl rfl (by decide) (by decide) ?_
      rintro _ h_287 σ_288 m_289 ⟨rfl, rfl⟩
      refine Road.Go.weaken (σ' := σ) m_289 (Nat.le_refl _) (Nat.le_refl _) ?_
      refine Road.castore 129 u3.length (Road.dc ((m / 100000) % 10)) bPti_d129 A (Road.n32 (by omega)) (by simp only [List.length_append, List.length_map, List.length_replicate]; omega) (Road.nar_dcc (Nat.mod_lt _ (by omega))) se ?_
      intro h_291 K_292 A_293
      replace A := A_293
      rw [Road.buf_set (by omega : 3 < r')] at A
      obtain ⟨u4, hu4⟩ : ∃ u_, u_ = u3 ++ [(Road.dc ((m / 100000) % 10))] := ⟨_, rfl⟩
      have hn4 : u4.length = u3.length + 1 := by rw [hu4, List.length_append]; try rfl
      rw [← hu4] at A
      rw [show (((Nat.toInt32 u3.length) + 1) : Int32) = (Nat.toInt32 u4.length) from by rw [hn4]; exact Road.succ32 _]
      replace KE := KE.trans K_292 (by simp)
      refine Road.iload 130 bPti_d130 rfl ?_
      refine Road.iconst 132 (4 : Int32) bPti_d132 rfl ?_
      refine Road.icmp_le 133 150 bPti_d133 rfl (fun q => absurd q (by decide)) (fun hc133 => ?_)
      refine Road.aloadN 136 bPti_d136 rfl ?_
      refine Road.iloadN 137 bPti_d137 rfl ?_
      refine Road.iinc 138 (1) #[.val (.ref e), .val (.int ((Nat.toInt32 u4.length) + 1)), .val (.int x), .val (.long v), .second, .val (.int (9 : Int32))] bPti_d138 rfl rfl rfl ?_
      refine Road.lloadN 141 bPti_d141 rfl ?_
      refine Road.ldc2J 142 bPti_d142 (wI hw 331 rfl) ?_
      refine Road.ldiv 145 bPti_d145 (by decide) ?_
      refine Road.callS (B' := bDgt) 146 (argsL := [(.long (v / 10000))]) (rest := [(.int (Nat.toInt32 u4.length)), (.ref e)]) 2 bPti_d146 (wI hw 42 rfl) (wI hw 43 rfl) (wI hw 32 rfl) (wI hw 44 rfl) (by decide) (cDgt l Z a0 hw n0 hEW (v / 10000) (m / 10000) h_291 σ (Road.ldiv_nat hmx (by decide) hv (k := 10000) rfl) (Nat.le_trans (Nat.div_le_self _ _) hmx)) (lenOf bDgt_pd rfl) rfl rfl rfl (by decide) (by decide) (ce' := 0) (sl' := 0) rfl rfl (by decide) (by decide) ?_
      rintro _ h_294 σ_295 m_296 ⟨rfl, rfl⟩
      refine Road.Go.weaken (σ' := σ) m_296 (Nat.le_refl _) (Nat.le_refl _) ?_
      refine Road.castore 149 u4.length (Road.dc ((m / 10000) % 10)) bPti_d149 A (Road.n32 (by omega)) (by simp only [List.length_append, List.length_map, List.length_replicate]; omega) (Road.nar_dcc (Nat.mod_lt _ (by omega))) se ?_
      intro h_298 K_299 A_300
      replace A := A_300
      rw [Road.buf_set (by omega : 4 < r')] at A
      obtain ⟨u5, hu5⟩ : ∃ u_, u_ = u4 ++ [(Road.dc ((m / 10000) % 10))] := ⟨_, rfl⟩
      have hn5 : u5.length = u4.length + 1 := by rw [hu5, List.length_append]; try rfl
      rw [← hu5] at A
      rw [show (((Nat.toInt32 u4.length) + 1) : Int32) = (Nat.toInt32 u5.length) from by rw [hn5]; exact Road.succ32 _]
      replace KE := KE.trans K_299 (by simp)
      refine Road.iload 150 bPti_d150 rfl ?_
      refine Road.iconst 152 (3 : Int32) bPti_d152 rfl ?_
      refine Road.icmp_le 153 170 bPti_d153 rfl (fun q => absurd q (by decide)) (fun hc153 => ?_)
      refine Road.aloadN 156 bPti_d156 rfl ?_
      refine Road.iloadN 157 bPti_d157 rfl ?_
      refine Road.iinc 158 (1) #[.val (.ref e), .val (.int ((Nat.toInt32 u5.length) + 1)), .val (.int x), .val (.long v), .second, .val (.int (9 : Int32))] bPti_d158 rfl rfl rfl ?_
      refine Road.lloadN 161 bPti_d161 rfl ?_
      refine Road.ldc2J 162 bPti_d162 (wI hw 329 rfl) ?_
      refine Road.ldiv 165 bPti_d165 (by decide) ?_
      refine Road.callS (B' := bDgt) 166 (argsL := [(.long (v / 1000))]) (rest := [(.int (Nat.toInt32 u5.length)), (.ref e)]) 2 bPti_d166 (wI hw 42 rfl) (wI hw 43 rfl) (wI hw 32 rfl) (wI hw 44 rfl) (by decide) (cDgt l Z a0 hw n0 hEW (v / 1000) (m / 1000) h_298 σ (Road.ldiv_nat hmx (by decide) hv (k := 1000) rfl) (Nat.le_trans (Nat.div_le_self _ _) hmx)) (lenOf bDgt_pd rfl) rfl rfl rfl (by decide) (by decide) (ce' := 0) (sl' := 0) rfl rfl (by decide) (by decide) ?_
      rintro _ h_301 σ_302 m_303 ⟨rfl, rfl⟩
      refine Road.Go.weaken (σ' := σ) m_303 (Nat.le_refl _) (Nat.le_refl _) ?_
      refine Road.castore 169 u5.length (Road.dc ((m / 1000) % 10)) bPti_d169 A (Road.n32 (by omega)) (by simp only [List.length_append, List.length_map, List.length_replicate]; omega) (Road.nar_dcc (Nat.mod_lt _ (by omega))) se ?_
      intro h_305 K_306 A_307
      replace A := A_307
      rw [Road.buf_set (by omega : 5 < r')] at A
      obtain ⟨u6, hu6⟩ : ∃ u_, u_ = u5 ++ [(Road.dc ((m / 1000) % 10))] := ⟨_, rfl⟩
      have hn6 : u6.length = u5.length + 1 := by rw [hu6, List.length_append]; try rfl
      rw [← hu6] at A
      rw [show (((Nat.toInt32 u5.length) + 1) : Int32) = (Nat.toInt32 u6.length) from by rw [hn6]; exact Road.succ32 _]
      replace KE := KE.trans K_306 (by simp)
      refine Road.iload 170 bPti_d170 rfl ?_
      refine Road.iconst 172 (2 : Int32) bPti_d172 rfl ?_
      refine Road.icmp_le 173 190 bPti_d173 rfl (fun q => absurd q (by decide)) (fun hc173 => ?_)
      refine Road.aloadN 176 bPti_d176 rfl ?_
      refine Road.iloadN 177 bPti_d177 rfl ?_
      refine Road.iinc 178 (1) #[.val (.ref e), .val (.int ((Nat.toInt32 u6.length) + 1)), .val (.int x), .val (.long v), .second, .val (.int (9 : Int32))] bPti_d178 rfl rfl rfl ?_
      refine Road.lloadN 181 bPti_d181 rfl ?_
      refine Road.ldc2J 182 bPti_d182 (wI hw 328 rfl) ?_
      refine Road.ldiv 185 bPti_d185 (by decide) ?_
      refine Road.callS (B' := bDgt) 186 (argsL := [(.long (v / 100))]) (rest := [(.int (Nat.toInt32 u6.length)), (.ref e)]) 2 bPti_d186 (wI hw 42 rfl) (wI hw 43 rfl) (wI hw 32 rfl) (wI hw 44 rfl) (by decide) (cDgt l Z a0 hw n0 hEW (v / 100) (m / 100) h_305 σ (Road.ldiv_nat hmx (by decide) hv (k := 100) rfl) (Nat.le_trans (Nat.div_le_self _ _) hmx)) (lenOf bDgt_pd rfl) rfl rfl rfl (by decide) (by decide) (ce' := 0) (sl' := 0) rfl rfl (by decide) (by decide) ?_
      rintro _ h_308 σ_309 m_310 ⟨rfl, rfl⟩
      refine Road.Go.weaken (σ' := σ) m_310 (Nat.le_refl _) (Nat.le_refl _) ?_
      refine Road.castore 189 u6.length (Road.dc ((m / 100) % 10)) bPti_d189 A (Road.n32 (by omega)) (by simp only [List.length_append, List.length_map, List.length_replicate]; omega) (Road.nar_dcc (Nat.mod_lt _ (by omega))) se ?_
      intro h_312 K_313 A_314
      replace A := A_314
      rw [Road.buf_set (by omega : 6 < r')] at A
      obtain ⟨u7, hu7⟩ : ∃ u_, u_ = u6 ++ [(Road.dc ((m / 100) % 10))] := ⟨_, rfl⟩
      have hn7 : u7.length = u6.length + 1 := by rw [hu7, List.length_append]; try rfl
      rw [← hu7] at A
      rw [show (((Nat.toInt32 u6.length) + 1) : Int32) = (Nat.toInt32 u7.length) from by rw [hn7]; exact Road.succ32 _]
      replace KE := KE.trans K_313 (by simp)
      refine Road.iload 190 bPti_d190 rfl ?_
      refine Road.iconst 192 (1 : Int32) bPti_d192 rfl ?_
      refine Road.icmp_le 193 210 bPti_d193 rfl (fun q => absurd q (by decide)) (fun hc193 => ?_)
      refine Road.aloadN 196 bPti_d196 rfl ?_
      refine Road.iloadN 197 bPti_d197 rfl ?_
      refine Road.iinc 198 (1) #[.val (.ref e), .val (.int ((Nat.toInt32 u7.length) + 1)), .val (.int x), .val (.long v), .second, .val (.int (9 : Int32))] bPti_d198 rfl rfl rfl ?_
      refine Road.lloadN 201 bPti_d201 rfl ?_
      refine Road.ldc2J 202 bPti_d202 (wI hw 37 rfl) ?_
      refine Road.ldiv 205 bPti_d205 (by decide) ?_
      refine Road.callS (B' := bDgt) 206 (argsL := [(.long (v / 10))]) (rest := [(.int (Nat.toInt32 u7.length)), (.ref e)]) 2 bPti_d206 (wI hw 42 rfl) (wI hw 43 rfl) (wI hw 32 rfl) (wI hw 44 rfl) (by decide) (cDgt l Z a0 hw n0 hEW (v / 10) (m / 10) h_312 σ (Road.ldiv_nat hmx (by decide) hv (k := 10) rfl) (Nat.le_trans (Nat.div_le_self _ _) hmx)) (lenOf bDgt_pd rfl) rfl rfl rfl (by decide) (by decide) (ce' := 0) (sl' := 0) rfl rfl (by decide) (by decide) ?_
      rintro _ h_315 σ_316 m_317 ⟨rfl, rfl⟩
      refine Road.Go.weaken (σ' := σ) m_317 (Nat.le_refl _) (Nat.le_refl _) ?_
      refine Road.castore 209 u7.length (Road.dc ((m / 10) % 10)) bPti_d209 A (Road.n32 (by omega)) (by simp only [List.length_append, List.length_map, List.length_replicate]; omega) (Road.nar_dcc (Nat.mod_lt _ (by omega))) se ?_
      intro h_319 K_320 A_321
      replace A := A_321
      rw [Road.buf_set (by omega : 7 < r')] at A
      obtain ⟨u8, hu8⟩ : ∃ u_, u_ = u7 ++ [(Road.dc ((m / 10) % 10))] := ⟨_, rfl⟩
      have hn8 : u8.length = u7.length + 1 := by rw [hu8, List.length_append]; try rfl
      rw [← hu8] at A
      rw [show (((Nat.toInt32 u7.length) + 1) : Int32) = (Nat.toInt32 u8.length) from by rw [hn8]; exact Road.succ32 _]
      replace KE := KE.trans K_320 (by simp)
      refine Road.aloadN 210 bPti_d210 rfl ?_
      refine Road.iloadN 211 bPti_d211 rfl ?_
      refine Road.iinc 212 (1) #[.val (.ref e), .val (.int ((Nat.toInt32 u8.length) + 1)), .val (.int x), .val (.long v), .second, .val (.int (9 : Int32))] bPti_d212 rfl rfl rfl ?_
      refine Road.lloadN 215 bPti_d215 rfl ?_
      refine Road.callS (B' := bDgt) 216 (argsL := [(.long v)]) (rest := [(.int (Nat.toInt32 u8.length)), (.ref e)]) 2 bPti_d216 (wI hw 42 rfl) (wI hw 43 rfl) (wI hw 32 rfl) (wI hw 44 rfl) (by decide) (cDgt l Z a0 hw n0 hEW v (m / 1) h_319 σ (by rw [hv, Nat.div_one]) (by rw [Nat.div_one]; exact hmx)) (lenOf bDgt_pd rfl) rfl rfl rfl (by decide) (by decide) (ce' := 0) (sl' := 0) rfl rfl (by decide) (by decide) ?_
      rintro _ h_322 σ_323 m_324 ⟨rfl, rfl⟩
      refine Road.Go.weaken (σ' := σ) m_324 (Nat.le_refl _) (Nat.le_refl _) ?_
      refine Road.castore 219 u8.length (Road.dc ((m / 1) % 10)) bPti_d219 A (Road.n32 (by omega)) (by simp only [List.length_append, List.length_map, List.length_replicate]; omega) (Road.nar_dcc (Nat.mod_lt _ (by omega))) se ?_
      intro h_326 K_327 A_328
      replace A := A_328
      rw [Road.buf_set (by omega : 8 < r')] at A
      obtain ⟨u9, hu9⟩ : ∃ u_, u_ = u8 ++ [(Road.dc ((m / 1) % 10))] := ⟨_, rfl⟩
      have hn9 : u9.length = u8.length + 1 := by rw [hu9, List.length_append]; try rfl
      rw [← hu9] at A
      rw [show (((Nat.toInt32 u8.length) + 1) : Int32) = (Nat.toInt32 u9.length) from by rw [hn9]; exact Road.succ32 _]
      replace KE := KE.trans K_327 (by simp)
      refine Road.iloadN 220 bPti_d220 rfl ?_
      have hcur : u9 = pre ++ Road.dec x := by rw [hu9, hu8, hu7, hu6, hu5, hu4, hu3, hu2, hu1, he, hlist]; try simp only [List.append_assoc, List.cons_append, List.nil_append]
      rw [hcur] at A
      rw [hlen] at hrr
      rw [← hrr] at A
      exact Road.iretI 221 bPti_d221 rfl (by decide) (by decide) (fun σ' m => ⟨by rw [hcur], KE, A⟩)
    · skip
      have hlen := Road.decN_len 9 m (by omega) (Or.inr (by omega))
      refine Road.nameI ?_
      intro z_329 hz_329
      obtain rfl : z_329 = (10 : Int32) := by rw [hz_329]; rw [hlen]; rfl
      have hlist : Road.decN m = [Road.dc (m / 1000000000 % 10), Road.dc (m / 100000000 % 10), Road.dc (m / 10000000 % 10), Road.dc (m / 1000000 % 10), Road.dc (m / 100000 % 10), Road.dc (m / 10000 % 10), Road.dc (m / 1000 % 10), Road.dc (m / 100 % 10), Road.dc (m / 10 % 10), Road.dc (m / 1 % 10)] := by rw [Road.decN_list, hlen]; rfl
      refine Road.istore 24 #[.val (.ref e), .val (.int (Nat.toInt32 pr.length)), .val (.int x), .val (.long v), .second, .val (.int (10 : Int32))] bPti_d24 rfl ?_
      refine Road.iload 26 bPti_d26 rfl ?_
      refine Road.bipush 28 (9 : Int32) bPti_d28 rfl ?_
      refine Road.icmp_le 30 47 bPti_d30 rfl (fun q => absurd q (by decide)) (fun hc30 => ?_)
      refine Road.aloadN 33 bPti_d33 rfl ?_
      refine Road.iloadN 34 bPti_d34 rfl ?_
      refine Road.iinc 35 (1) #[.val (.ref e), .val (.int ((Nat.toInt32 pr.length) + 1)), .val (.int x), .val (.long v), .second, .val (.int (10 : Int32))] bPti_d35 rfl rfl rfl ?_
      refine Road.lloadN 38 bPti_d38 rfl ?_
      refine Road.ldc2J 39 bPti_d39 (wI hw 336 rfl) ?_
      refine Road.ldiv 42 bPti_d42 (by decide) ?_
      refine Road.callS (B' := bDgt) 43 (argsL := [(.long (v / 1000000000))]) (rest := [(.int (Nat.toInt32 pr.length)), (.ref e)]) 2 bPti_d43 (wI hw 42 rfl) (wI hw 43 rfl) (wI hw 32 rfl) (wI hw 44 rfl) (by decide) (cDgt l Z a0 hw n0 hEW (v / 1000000000) (m / 1000000000) h σ (Road.ldiv_nat hmx (by decide) hv (k := 1000000000) rfl) (Nat.le_trans (Nat.div_le_self _ _) hmx)) (lenOf bDgt_pd rfl) rfl rfl rfl (by decide) (by decide) (ce' := 0) (sl' := 0) rfl rfl (by decide) (by decide) ?_
      rintro _ h_330 σ_331 m_332 ⟨rfl, rfl⟩
      refine Road.Go.weaken (σ' := σ) m_332 (Nat.le_refl _) (Nat.le_refl _) ?_
      refine Road.castore 46 pr.length (Road.dc ((m / 1000000000) % 10)) bPti_d46 A (Road.n32 (by omega)) (by simp only [List.length_append, List.length_map, List.length_replicate]; omega) (Road.nar_dcc (Nat.mod_lt _ (by omega))) se ?_
      intro h_334 K_335 A_336
      replace A := A_336
      rw [Road.buf_set (by omega : 0 < r')] at A
      obtain ⟨u1, hu1⟩ : ∃ u_, u_ = pr ++ [(Road.dc ((m / 1000000000) % 10))] := ⟨_, rfl⟩
      have hn1 : u1.length = pr.length + 1 := by rw [hu1, List.length_append]; try rfl
      rw [← hu1] at A
      rw [show (((Nat.toInt32 pr.length) + 1) : Int32) = (Nat.toInt32 u1.length) from by rw [hn1]; exact Road.succ32 _]
      replace KE := KE.trans K_335 (by simp)
      refine Road.iload 47 bPti_d47 rfl ?_
      refine Road.bipush 49 (8 : Int32) bPti_d49 rfl ?_
      refine Road.icmp_le 51 68 bPti_d51 rfl (fun q => absurd q (by decide)) (fun hc51 => ?_)
      refine Road.aloadN 54 bPti_d54 rfl ?_
      refine Road.iloadN 55 bPti_d55 rfl ?_
      refine Road.iinc 56 (1) #[.val (.ref e), .val (.int ((Nat.toInt32 u1.length) + 1)), .val (.int x), .val (.long v), .second, .val (.int (10 : Int32))] bPti_d56 rfl rfl rfl ?_
      refine Road.lloadN 59 bPti_d59 rfl ?_
      refine Road.ldc2J 60 bPti_d60 (wI hw 335 rfl) ?_
      refine Road.ldiv 63 bPti_d63 (by decide) ?_
      refine Road.callS (B' := bDgt) 64 (argsL := [(.long (v / 100000000))]) (rest := [(.int (Nat.toInt32 u1.length)), (.ref e)]) 2 bPti_d64 (wI hw 42 rfl) (wI hw 43 rfl) (wI hw 32 rfl) (wI hw 44 rfl) (by decide) (cDgt l Z a0 hw n0 hEW (v / 100000000) (m / 100000000) h_334 σ (Road.ldiv_nat hmx (by decide) hv (k := 100000000) rfl) (Nat.le_trans (Nat.div_le_self _ _) hmx)) (lenOf bDgt_pd rfl) rfl rfl rfl (by decide) (by decide) (ce' := 0) (sl' := 0) rfl rfl (by decide) (by decide) ?_
      rintro _ h_337 σ_338 m_339 ⟨rfl, rfl⟩
      refine Road.Go.weaken (σ' := σ) m_339 (Nat.le_refl _) (Nat.le_refl _) ?_
      refine Road.castore 67 u1.length (Road.dc ((m / 100000000) % 10)) bPti_d67 A (Road.n32 (by omega)) (by simp only [List.length_append, List.length_map, List.length_replicate]; omega) (Road.nar_dcc (Nat.mod_lt _ (by omega))) se ?_
      intro h_341 K_342 A_343
      replace A := A_343
      rw [Road.buf_set (by omega : 1 < r')] at A
      obtain ⟨u2, hu2⟩ : ∃ u_, u_ = u1 ++ [(Road.dc ((m / 100000000) % 10))] := ⟨_, rfl⟩
      have hn2 : u2.length = u1.length + 1 := by rw [hu2, List.length_append]; try rfl
      rw [← hu2] at A
      rw [show (((Nat.toInt32 u1.length) + 1) : Int32) = (Nat.toInt32 u2.length) from by rw [hn2]; exact Road.succ32 _]
      replace KE := KE.trans K_342 (by simp)
      refine Road.iload 68 bPti_d68 rfl ?_
      refine Road.bipush 70 (7 : Int32) bPti_d70 rfl ?_
      refine Road.icmp_le 72 89 bPti_d72 rfl (fun q => absurd q (by decide)) (fun hc72 => ?_)
      refine Road.aloadN 75 bPti_d75 rfl ?_
      refine Road.iloadN 76 bPti_d76 rfl ?_
      refine Road.iinc 77 (1) #[.val (.ref e), .val (.int ((Nat.toInt32 u2.length) + 1)), .val (.int x), .val (.long v), .second, .val (.int (10 : Int32))] bPti_d77 rfl rfl rfl ?_
      refine Road.lloadN 80 bPti_d80 rfl ?_
      refine Road.ldc2J 81 bPti_d81 (wI hw 334 rfl) ?_
      refine Road.ldiv 84 bPti_d84 (by decide) ?_
      refine Road.callS (B' := bDgt) 85 (argsL := [(.long (v / 10000000))]) (rest := [(.int (Nat.toInt32 u2.length)), (.ref e)]) 2 bPti_d85 (wI hw 42 rfl) (wI hw 43 rfl) (wI hw 32 rfl) (wI hw 44 rfl) (by decide) (cDgt l Z a0 hw n0 hEW (v / 10000000) (m / 10000000) h_341 σ (Road.ldiv_nat hmx (by decide) hv (k := 10000000) rfl) (Nat.le_trans (Nat.div_le_self _ _) hmx)) (lenOf bDgt_pd rfl) rfl rfl rfl (by decide) (by decide) (ce' := 0) (sl' := 0) rfl rfl (by decide) (by decide) ?_
      rintro _ h_344 σ_345 m_346 ⟨rfl, rfl⟩
      refine Road.Go.weaken (σ' := σ) m_346 (Nat.le_refl _) (Nat.le_refl _) ?_
      refine Road.castore 88 u2.length (Road.dc ((m / 10000000) % 10)) bPti_d88 A (Road.n32 (by omega)) (by simp only [List.length_append, List.length_map, List.length_replicate]; omega) (Road.nar_dcc (Nat.mod_lt _ (by omega))) se ?_
      intro h_348 K_349 A_350
      replace A := A_350
      rw [Road.buf_set (by omega : 2 < r')] at A
      obtain ⟨u3, hu3⟩ : ∃ u_, u_ = u2 ++ [(Road.dc ((m / 10000000) % 10))] := ⟨_, rfl⟩
      have hn3 : u3.length = u2.length + 1 := by rw [hu3, List.length_append]; try rfl
      rw [← hu3] at A
      rw [show (((Nat.toInt32 u2.length) + 1) : Int32) = (Nat.toInt32 u3.length) from by rw [hn3]; exact Road.succ32 _]
      replace KE := KE.trans K_349 (by simp)
      refine Road.iload 89 bPti_d89 rfl ?_
      refine Road.bipush 91 (6 : Int32) bPti_d91 rfl ?_
      refine Road.icmp_le 93 110 bPti_d93 rfl (fun q => absurd q (by decide)) (fun hc93 => ?_)
      refine Road.aloadN 96 bPti_d96 rfl ?_
      refine Road.iloadN 97 bPti_d97 rfl ?_
      refine Road.iinc 98 (1) #[.val (.ref e), .val (.int ((Nat.toInt32 u3.length) + 1)), .val (.int x), .val (.long v), .second, .val (.int (10 : Int32))] bPti_d98 rfl rfl rfl ?_
      refine Road.lloadN 101 bPti_d101 rfl ?_
      refine Road.ldc2J 102 bPti_d102 (wI hw 333 rfl) ?_
      refine Road.ldiv 105 bPti_d105 (by decide) ?_
      refine Road.callS (B' := bDgt) 106 (argsL := [(.long (v / 1000000))]) (rest := [(.int (Nat.toInt32 u3.length)), (.ref e)]) 2 bPti_d106 (wI hw 42 rfl) (wI hw 43 rfl) (wI hw 32 rfl) (wI hw 44 rfl) (by decide) (cDgt l Z a0 hw n0 hEW (v / 1000000) (m / 1000000) h_348 σ (Road.ldiv_nat hmx (by decide) hv (k := 1000000) rfl) (Nat.le_trans (Nat.div_le_self _ _) hmx)) (lenOf bDgt_pd rfl) rfl rfl rfl (by decide) (by decide) (ce' := 0) (sl' := 0) rfl rfl (by decide) (by decide) ?_
      rintro _ h_351 σ_352 m_353 ⟨rfl, rfl⟩
      refine Road.Go.weaken (σ' := σ) m_353 (Nat.le_refl _) (Nat.le_refl _) ?_
      refine Road.castore 109 u3.length (Road.dc ((m / 1000000) % 10)) bPti_d109 A (Road.n32 (by omega)) (by simp only [List.length_append, List.length_map, List.length_replicate]; omega) (Road.nar_dcc (Nat.mod_lt _ (by omega))) se ?_
      intro h_355 K_356 A_357
      replace A := A_357
      rw [Road.buf_set (by omega : 3 < r')] at A
      obtain ⟨u4, hu4⟩ : ∃ u_, u_ = u3 ++ [(Road.dc ((m / 1000000) % 10))] := ⟨_, rfl⟩
      have hn4 : u4.length = u3.length + 1 := by rw [hu4, List.length_append]; try rfl
      rw [← hu4] at A
      rw [show (((Nat.toInt32 u3.length) + 1) : Int32) = (Nat.toInt32 u4.length) from by rw [hn4]; exact Road.succ32 _]
      replace KE := KE.trans K_356 (by simp)
      refine Road.iload 110 bPti_d110 rfl ?_
      refine Road.iconst 112 (5 : Int32) bPti_d112 rfl ?_
      refine Road.icmp_le 113 130 bPti_d113 rfl (fun q => absurd q (by decide)) (fun hc113 => ?_)
      refine Road.aloadN 116 bPti_d116 rfl ?_
      refine Road.iloadN 117 bPti_d117 rfl ?_
      refine Road.iinc 118 (1) #[.val (.ref e), .val (.int ((Nat.toInt32 u4.length) + 1)), .val (.int x), .val (.long v), .second, .val (.int (10 : Int32))] bPti_d118 rfl rfl rfl ?_
      refine Road.lloadN 121 bPti_d121 rfl ?_
      refine Road.ldc2J 122 bPti_d122 (wI hw 332 rfl) ?_
      refine Road.ldiv 125 bPti_d125 (by decide) ?_
      refine Road.callS (B' := bDgt) 126 (argsL := [(.long (v / 100000))]) (rest := [(.int (Nat.toInt32 u4.length)), (.ref e)]) 2 bPti_d126 (wI hw 42 rfl) (wI hw 43 rfl) (wI hw 32 rfl) (wI hw 44 rfl) (by decide) (cDgt l Z a0 hw n0 hEW (v / 100000) (m / 100000) h_355 σ (Road.ldiv_nat hmx (by decide) hv (k := 100000) rfl) (Nat.le_trans (Nat.div_le_self _ _) hmx)) (lenOf bDgt_pd rfl) rfl rfl rfl (by decide) (by decide) (ce' := 0) (sl' := 0) rfl rfl (by decide) (by decide) ?_
      rintro _ h_358 σ_359 m_360 ⟨rfl, rfl⟩
      refine Road.Go.weaken (σ' := σ) m_360 (Nat.le_refl _) (Nat.le_refl _) ?_
      refine Road.castore 129 u4.length (Road.dc ((m / 100000) % 10)) bPti_d129 A (Road.n32 (by omega)) (by simp only [List.length_append, List.length_map, List.length_replicate]; omega) (Road.nar_dcc (Nat.mod_lt _ (by omega))) se ?_
      intro h_362 K_363 A_364
      replace A := A_364
      rw [Road.buf_set (by omega : 4 < r')] at A
      obtain ⟨u5, hu5⟩ : ∃ u_, u_ = u4 ++ [(Road.dc ((m / 100000) % 10))] := ⟨_, rfl⟩
      have hn5 : u5.length = u4.length + 1 := by rw [hu5, List.length_append]; try rfl
      rw [← hu5] at A
      rw [show (((Nat.toInt32 u4.length) + 1) : Int32) = (Nat.toInt32 u5.length) from by rw [hn5]; exact Road.succ32 _]
      replace KE := KE.trans K_363 (by simp)
      refine Road.iload 130 bPti_d130 rfl ?_
      refine Road.iconst 132 (4 : Int32) bPti_d132 rfl ?_
      refine Road.icmp_le 133 150 bPti_d133 rfl (fun q => absurd q (by decide)) (fun hc133 => ?_)
      refine Road.aloadN 136 bPti_d136 rfl ?_
      refine Road.iloadN 137 bPti_d137 rfl ?_
      refine Road.iinc 138 (1) #[.val (.ref e), .val (.int ((Nat.toInt32 u5.length) + 1)), .val (.int x), .val (.long v), .second, .val (.int (10 : Int32))] bPti_d138 rfl rfl rfl ?_
      refine Road.lloadN 141 bPti_d141 rfl ?_
      refine Road.ldc2J 142 bPti_d142 (wI hw 331 rfl) ?_
      refine Road.ldiv 145 bPti_d145 (by decide) ?_
      refine Road.callS (B' := bDgt) 146 (argsL := [(.long (v / 10000))]) (rest := [(.int (Nat.toInt32 u5.length)), (.ref e)]) 2 bPti_d146 (wI hw 42 rfl) (wI hw 43 rfl) (wI hw 32 rfl) (wI hw 44 rfl) (by decide) (cDgt l Z a0 hw n0 hEW (v / 10000) (m / 10000) h_362 σ (Road.ldiv_nat hmx (by decide) hv (k := 10000) rfl) (Nat.le_trans (Nat.div_le_self _ _) hmx)) (lenOf bDgt_pd rfl) rfl rfl rfl (by decide) (by decide) (ce' := 0) (sl' := 0) rfl rfl (by decide) (by decide) ?_
      rintro _ h_365 σ_366 m_367 ⟨rfl, rfl⟩
      refine Road.Go.weaken (σ' := σ) m_367 (Nat.le_refl _) (Nat.le_refl _) ?_
      refine Road.castore 149 u5.length (Road.dc ((m / 10000) % 10)) bPti_d149 A (Road.n32 (by omega)) (by simp only [List.length_append, List.length_map, List.length_replicate]; omega) (Road.nar_dcc (Nat.mod_lt _ (by omega))) se ?_
      intro h_369 K_370 A_371
      replace A := A_371
      rw [Road.buf_set (by omega : 5 < r')] at A
      obtain ⟨u6, hu6⟩ : ∃ u_, u_ = u5 ++ [(Road.dc ((m / 10000) % 10))] := ⟨_, rfl⟩
      have hn6 : u6.length = u5.length + 1 := by rw [hu6, List.length_append]; try rfl
      rw [← hu6] at A
      rw [show (((Nat.toInt32 u5.length) + 1) : Int32) = (Nat.toInt32 u6.length) from by rw [hn6]; exact Road.succ32 _]
      replace KE := KE.trans K_370 (by simp)
      refine Road.iload 150 bPti_d150 rfl ?_
      refine Road.iconst 152 (3 : Int32) bPti_d152 rfl ?_
      refine Road.icmp_le 153 170 bPti_d153 rfl (fun q => absurd q (by decide)) (fun hc153 => ?_)
      refine Road.aloadN 156 bPti_d156 rfl ?_
      refine Road.iloadN 157 bPti_d157 rfl ?_
      refine Road.iinc 158 (1) #[.val (.ref e), .val (.int ((Nat.toInt32 u6.length) + 1)), .val (.int x), .val (.long v), .second, .val (.int (10 : Int32))] bPti_d158 rfl rfl rfl ?_
      refine Road.lloadN 161 bPti_d161 rfl ?_
      refine Road.ldc2J 162 bPti_d162 (wI hw 329 rfl) ?_
      refine Road.ldiv 165 bPti_d165 (by decide) ?_
      refine Road.callS (B' := bDgt) 166 (argsL := [(.long (v / 1000))]) (rest := [(.int (Nat.toInt32 u6.length)), (.ref e)]) 2 bPti_d166 (wI hw 42 rfl) (wI hw 43 rfl) (wI hw 32 rfl) (wI hw 44 rfl) (by decide) (cDgt l Z a0 hw n0 hEW (v / 1000) (m / 1000) h_369 σ (Road.ldiv_nat hmx (by decide) hv (k := 1000) rfl) (Nat.le_trans (Nat.div_le_self _ _) hmx)) (lenOf bDgt_pd rfl) rfl rfl rfl (by decide) (by decide) (ce' := 0) (sl' := 0) rfl rfl (by decide) (by decide) ?_
      rintro _ h_372 σ_373 m_374 ⟨rfl, rfl⟩
      refine Road.Go.weaken (σ' := σ) m_374 (Nat.le_refl _) (Nat.le_refl _) ?_
      refine Road.castore 169 u6.length (Road.dc ((m / 1000) % 10)) bPti_d169 A (Road.n32 (by omega)) (by simp only [List.length_append, List.length_map, List.length_replicate]; omega) (Road.nar_dcc (Nat.mod_lt _ (by omega))) se ?_
      intro h_376 K_377 A_378
      replace A := A_378
      rw [Road.buf_set (by omega : 6 < r')] at A
      obtain ⟨u7, hu7⟩ : ∃ u_, u_ = u6 ++ [(Road.dc ((m / 1000) % 10))] := ⟨_, rfl⟩
      have hn7 : u7.length = u6.length + 1 := by rw [hu7, List.length_append]; try rfl
      rw [← hu7] at A
      rw [show (((Nat.toInt32 u6.length) + 1) : Int32) = (Nat.toInt32 u7.length) from by rw [hn7]; exact Road.succ32 _]
      replace KE := KE.trans K_377 (by simp)
      refine Road.iload 170 bPti_d170 rfl ?_
      refine Road.iconst 172 (2 : Int32) bPti_d172 rfl ?_
      refine Road.icmp_le 173 190 bPti_d173 rfl (fun q => absurd q (by decide)) (fun hc173 => ?_)
      refine Road.aloadN 176 bPti_d176 rfl ?_
      refine Road.iloadN 177 bPti_d177 rfl ?_
      refine Road.iinc 178 (1) #[.val (.ref e), .val (.int ((Nat.toInt32 u7.length) + 1)), .val (.int x), .val (.long v), .second, .val (.int (10 : Int32))] bPti_d178 rfl rfl rfl ?_
      refine Road.lloadN 181 bPti_d181 rfl ?_
      refine Road.ldc2J 182 bPti_d182 (wI hw 328 rfl) ?_
      refine Road.ldiv 185 bPti_d185 (by decide) ?_
      refine Road.callS (B' := bDgt) 186 (argsL := [(.long (v / 100))]) (rest := [(.int (Nat.toInt32 u7.length)), (.ref e)]) 2 bPti_d186 (wI hw 42 rfl) (wI hw 43 rfl) (wI hw 32 rfl) (wI hw 44 rfl) (by decide) (cDgt l Z a0 hw n0 hEW (v / 100) (m / 100) h_376 σ (Road.ldiv_nat hmx (by decide) hv (k := 100) rfl) (Nat.le_trans (Nat.div_le_self _ _) hmx)) (lenOf bDgt_pd rfl) rfl rfl rfl (by decide) (by decide) (ce' := 0) (sl' := 0) rfl rfl (by decide) (by decide) ?_
      rintro _ h_379 σ_380 m_381 ⟨rfl, rfl⟩
      refine Road.Go.weaken (σ' := σ) m_381 (Nat.le_refl _) (Nat.le_refl _) ?_
      refine Road.castore 189 u7.length (Road.dc ((m / 100) % 10)) bPti_d189 A (Road.n32 (by omega)) (by simp only [List.length_append, List.length_map, List.length_replicate]; omega) (Road.nar_dcc (Nat.mod_lt _ (by omega))) se ?_
      intro h_383 K_384 A_385
      replace A := A_385
      rw [Road.buf_set (by omega : 7 < r')] at A
      obtain ⟨u8, hu8⟩ : ∃ u_, u_ = u7 ++ [(Road.dc ((m / 100) % 10))] := ⟨_, rfl⟩
      have hn8 : u8.length = u7.length + 1 := by rw [hu8, List.length_append]; try rfl
      rw [← hu8] at A
      rw [show (((Nat.toInt32 u7.length) + 1) : Int32) = (Nat.toInt32 u8.length) from by rw [hn8]; exact Road.succ32 _]
      replace KE := KE.trans K_384 (by simp)
      refine Road.iload 190 bPti_d190 rfl ?_
      refine Road.iconst 192 (1 : Int32) bPti_d192 rfl ?_
      refine Road.icmp_le 193 210 bPti_d193 rfl (fun q => absurd q (by decide)) (fun hc193 => ?_)
      refine Road.aloadN 196 bPti_d196 rfl ?_
      refine Road.iloadN 197 bPti_d197 rfl ?_
      refine Road.iinc 198 (1) #[.val (.ref e), .val (.int ((Nat.toInt32 u8.length) + 1)), .val (.int x), .val (.long v), .second, .val (.int (10 : Int32))] bPti_d198 rfl rfl rfl ?_
      refine Road.lloadN 201 bPti_d201 rfl ?_
      refine Road.ldc2J 202 bPti_d202 (wI hw 37 rfl) ?_
      refine Road.ldiv 205 bPti_d205 (by decide) ?_
      refine Road.callS (B' := bDgt) 206 (argsL := [(.long (v / 10))]) (rest := [(.int (Nat.toInt32 u8.length)), (.ref e)]) 2 bPti_d206 (wI hw 42 rfl) (wI hw 43 rfl) (wI hw 32 rfl) (wI hw 44 rfl) (by decide) (cDgt l Z a0 hw n0 hEW (v / 10) (m / 10) h_383 σ (Road.ldiv_nat hmx (by decide) hv (k := 10) rfl) (Nat.le_trans (Nat.div_le_self _ _) hmx)) (lenOf bDgt_pd rfl) rfl rfl rfl (by decide) (by decide) (ce' := 0) (sl' := 0) rfl rfl (by decide) (by decide) ?_
      rintro _ h_386 σ_387 m_388 ⟨rfl, rfl⟩
      refine Road.Go.weaken (σ' := σ) m_388 (Nat.le_refl _) (Nat.le_refl _) ?_
      refine Road.castore 209 u8.length (Road.dc ((m / 10) % 10)) bPti_d209 A (Road.n32 (by omega)) (by simp only [List.length_append, List.length_map, List.length_replicate]; omega) (Road.nar_dcc (Nat.mod_lt _ (by omega))) se ?_
      intro h_390 K_391 A_392
      replace A := A_392
      rw [Road.buf_set (by omega : 8 < r')] at A
      obtain ⟨u9, hu9⟩ : ∃ u_, u_ = u8 ++ [(Road.dc ((m / 10) % 10))] := ⟨_, rfl⟩
      have hn9 : u9.length = u8.length + 1 := by rw [hu9, List.length_append]; try rfl
      rw [← hu9] at A
      rw [show (((Nat.toInt32 u8.length) + 1) : Int32) = (Nat.toInt32 u9.length) from by rw [hn9]; exact Road.succ32 _]
      replace KE := KE.trans K_391 (by simp)
      refine Road.aloadN 210 bPti_d210 rfl ?_
      refine Road.iloadN 211 bPti_d211 rfl ?_
      refine Road.iinc 212 (1) #[.val (.ref e), .val (.int ((Nat.toInt32 u9.length) + 1)), .val (.int x), .val (.long v), .second, .val (.int (10 : Int32))] bPti_d212 rfl rfl rfl ?_
      refine Road.lloadN 215 bPti_d215 rfl ?_
      refine Road.callS (B' := bDgt) 216 (argsL := [(.long v)]) (rest := [(.int (Nat.toInt32 u9.length)), (.ref e)]) 2 bPti_d216 (wI hw 42 rfl) (wI hw 43 rfl) (wI hw 32 rfl) (wI hw 44 rfl) (by decide) (cDgt l Z a0 hw n0 hEW v (m / 1) h_390 σ (by rw [hv, Nat.div_one]) (by rw [Nat.div_one]; exact hmx)) (lenOf bDgt_pd rfl) rfl rfl rfl (by decide) (by decide) (ce' := 0) (sl' := 0) rfl rfl (by decide) (by decide) ?_
      rintro _ h_393 σ_394 m_395 ⟨rfl, rfl⟩
      refine Road.Go.weaken (σ' := σ) m_395 (Nat.le_refl _) (Nat.le_refl _) ?_
      refine Road.castore 219 u9.length (Road.dc ((m / 1) % 10)) bPti_d219 A (Road.n32 (by omega)) (by simp only [List.length_append, List.length_map, List.length_replicate]; omega) (Road.nar_dcc (Nat.mod_lt _ (by omega))) se ?_
      intro h_397 K_398 A_399
      replace A := A_399
      rw [Road.buf_set (by omega : 9 < r')] at A
      obtain ⟨u10, hu10⟩ : ∃ u_, u_ = u9 ++ [(Road.dc ((m / 1) % 10))] := ⟨_, rfl⟩
      have hn10 : u10.length = u9.length + 1 := by rw [hu10, List.length_append]; try rfl
      rw [← hu10] at A
      rw [show (((Nat.toInt32 u9.length) + 1) : Int32) = (Nat.toInt32 u10.length) from by rw [hn10]; exact Road.succ32 _]
      replace KE := KE.trans K_398 (by simp)
      refine Road.iloadN 220 bPti_d220 rfl ?_
      have hcur : u10 = pre ++ Road.dec x := by rw [hu10, hu9, hu8, hu7, hu6, hu5, hu4, hu3, hu2, hu1, he, hlist]; try simp only [List.append_assoc, List.cons_append, List.nil_append]
      rw [hcur] at A
      rw [hlen] at hrr
      rw [← hrr] at A
      exact Road.iretI 221 bPti_d221 rfl (by decide) (by decide) (fun σ' m => ⟨by rw [hcur], KE, A⟩)
  refine Road.iloadN 0 bPti_d0 rfl ?_
  refine Road.i2l 1 bPti_d1 ?_
  refine Road.lstoreN 2 #[.val (.ref e), .val (.int (Nat.toInt32 pre.length)), .val (.int x), .val (.long (Int32.toInt64 x)), .second, .unset] bPti_d2 rfl ?_
  refine Road.lloadN 3 bPti_d3 rfl ?_
  refine Road.lconst 4 (0 : Int64) bPti_d4 rfl ?_
  refine Road.lcmp 5 bPti_d5 ?_
  refine Road.ifl_ge 6 20 bPti_d6 rfl (fun hc6 => ?_) (fun hc6 => ?_)
  · skip
    rw [Int64.lt_iff_toInt_lt, Road.i2l_int, show (0 : Int64).toInt = 0 from rfl] at hc6
    have hdx : Road.dec x = Road.decN m := by unfold Road.dec; rw [if_neg hc6, ← hm]
    exact J20 h0 pre r (Int32.toInt64 x) (Keep.refl _ _) A (by rw [Road.i2l_int]; omega) (by rw [← hdx]; exact hr) (by rw [hdx]) (by rw [hdx])
  · skip
    rw [Int64.lt_iff_toInt_lt, Road.i2l_int, show (0 : Int64).toInt = 0 from rfl] at hc6
    have hdx : Road.dec x = 45 :: Road.decN m := by unfold Road.dec; rw [if_pos hc6, ← hm]
    have hdl : (Road.dec x).length = (Road.decN m).length + 1 := by rw [hdx]; rfl
    have hsm := A.small
    simp only [List.length_append, List.length_map, List.length_replicate] at hsm
    have KE := Keep.refl h0 [e]
    replace A : Road.Ary Z h0 e .char (pre.map Value.int ++ List.replicate (r - 0) (Value.int 0)) := A
    refine Road.aloadN 9 bPti_d9 rfl ?_
    refine Road.iloadN 10 bPti_d10 rfl ?_
    refine Road.iinc 11 (1) #[.val (.ref e), .val (.int ((Nat.toInt32 pre.length) + 1)), .val (.int x), .val (.long (Int32.toInt64 x)), .second, .unset] bPti_d11 rfl rfl rfl ?_
    refine Road.bipush 14 (45 : Int32) bPti_d14 rfl ?_
    refine Road.castore 16 pre.length (45 : Int32) bPti_d16 A (Road.n32 (by omega)) (by simp only [List.length_append, List.length_map, List.length_replicate]; omega) rfl se ?_
    intro h_400 K_401 A_402
    replace A := A_402
    rw [Road.buf_set (by omega : 0 < r)] at A
    obtain ⟨u1, hu1⟩ : ∃ u_, u_ = pre ++ [(45 : Int32)] := ⟨_, rfl⟩
    have hn1 : u1.length = pre.length + 1 := by rw [hu1, List.length_append]; try rfl
    rw [← hu1] at A
    rw [show (((Nat.toInt32 pre.length) + 1) : Int32) = (Nat.toInt32 u1.length) from by rw [hn1]; exact Road.succ32 _]
    replace KE := KE.trans K_401 (by simp)
    refine Road.lloadN 17 bPti_d17 rfl ?_
    refine Road.lneg 18 bPti_d18 ?_
    refine Road.lstoreN 19 #[.val (.ref e), .val (.int (Nat.toInt32 u1.length)), .val (.int x), .val (.long (-(Int32.toInt64 x))), .second, .unset] bPti_d19 rfl ?_
    exact J20 h_400 u1 (r - 1) (-(Int32.toInt64 x)) KE A (Road.lneg_nat hmx (by rw [Road.i2l_int]; omega)) (by omega) (by rw [hdx, hu1]; simp) (by omega)
def bPfa : Road.Bdy := (⟨"com/example/gridtally/gridtally/engine/OriginRefuseSecondPinLaw", "putFirstIsAt", "([CI)I"⟩, method_7_code, 2, (some .int), { frames := 0, cells := 0, slots := 0, locals := 0 })
theorem bPfa_d0 : decode bPfa.bs 0 = .ok (.aload_n 0, 1) := by decide +kernel
theorem bPfa_d1 : decode bPfa.bs 1 = .ok (.iload_n 1, 1) := by decide +kernel
theorem bPfa_d2 : decode bPfa.bs 2 = .ok (.iinc 1 1, 3) := by decide +kernel
theorem bPfa_d5 : decode bPfa.bs 5 = .ok (.bipush 59, 2) := by decide +kernel
theorem bPfa_d7 : decode bPfa.bs 7 = .ok (.castore, 1) := by decide +kernel
theorem bPfa_d8 : decode bPfa.bs 8 = .ok (.aload_n 0, 1) := by decide +kernel
theorem bPfa_d9 : decode bPfa.bs 9 = .ok (.iload_n 1, 1) := by decide +kernel
theorem bPfa_d10 : decode bPfa.bs 10 = .ok (.iinc 1 1, 3) := by decide +kernel
theorem bPfa_d13 : decode bPfa.bs 13 = .ok (.bipush 32, 2) := by decide +kernel
theorem bPfa_d15 : decode bPfa.bs 15 = .ok (.castore, 1) := by decide +kernel
theorem bPfa_d16 : decode bPfa.bs 16 = .ok (.aload_n 0, 1) := by decide +kernel
theorem bPfa_d17 : decode bPfa.bs 17 = .ok (.iload_n 1, 1) := by decide +kernel
theorem bPfa_d18 : decode bPfa.bs 18 = .ok (.iinc 1 1, 3) := by decide +kernel
theorem bPfa_d21 : decode bPfa.bs 21 = .ok (.bipush 116, 2) := by decide +kernel
theorem bPfa_d23 : decode bPfa.bs 23 = .ok (.castore, 1) := by decide +kernel
theorem bPfa_d24 : decode bPfa.bs 24 = .ok (.aload_n 0, 1) := by decide +kernel
theorem bPfa_d25 : decode bPfa.bs 25 = .ok (.iload_n 1, 1) := by decide +kernel
theorem bPfa_d26 : decode bPfa.bs 26 = .ok (.iinc 1 1, 3) := by decide +kernel
theorem bPfa_d29 : decode bPfa.bs 29 = .ok (.bipush 104, 2) := by decide +kernel
theorem bPfa_d31 : decode bPfa.bs 31 = .ok (.castore, 1) := by decide +kernel
theorem bPfa_d32 : decode bPfa.bs 32 = .ok (.aload_n 0, 1) := by decide +kernel
theorem bPfa_d33 : decode bPfa.bs 33 = .ok (.iload_n 1, 1) := by decide +kernel
theorem bPfa_d34 : decode bPfa.bs 34 = .ok (.iinc 1 1, 3) := by decide +kernel
theorem bPfa_d37 : decode bPfa.bs 37 = .ok (.bipush 101, 2) := by decide +kernel
theorem bPfa_d39 : decode bPfa.bs 39 = .ok (.castore, 1) := by decide +kernel
theorem bPfa_d40 : decode bPfa.bs 40 = .ok (.aload_n 0, 1) := by decide +kernel
theorem bPfa_d41 : decode bPfa.bs 41 = .ok (.iload_n 1, 1) := by decide +kernel
theorem bPfa_d42 : decode bPfa.bs 42 = .ok (.iinc 1 1, 3) := by decide +kernel
theorem bPfa_d45 : decode bPfa.bs 45 = .ok (.bipush 32, 2) := by decide +kernel
theorem bPfa_d47 : decode bPfa.bs 47 = .ok (.castore, 1) := by decide +kernel
theorem bPfa_d48 : decode bPfa.bs 48 = .ok (.aload_n 0, 1) := by decide +kernel
theorem bPfa_d49 : decode bPfa.bs 49 = .ok (.iload_n 1, 1) := by decide +kernel
theorem bPfa_d50 : decode bPfa.bs 50 = .ok (.iinc 1 1, 3) := by decide +kernel
theorem bPfa_d53 : decode bPfa.bs 53 = .ok (.bipush 102, 2) := by decide +kernel
theorem bPfa_d55 : decode bPfa.bs 55 = .ok (.castore, 1) := by decide +kernel
theorem bPfa_d56 : decode bPfa.bs 56 = .ok (.aload_n 0, 1) := by decide +kernel
theorem bPfa_d57 : decode bPfa.bs 57 = .ok (.iload_n 1, 1) := by decide +kernel
theorem bPfa_d58 : decode bPfa.bs 58 = .ok (.iinc 1 1, 3) := by decide +kernel
theorem bPfa_d61 : decode bPfa.bs 61 = .ok (.bipush 105, 2) := by decide +kernel
theorem bPfa_d63 : decode bPfa.bs 63 = .ok (.castore, 1) := by decide +kernel
theorem bPfa_d64 : decode bPfa.bs 64 = .ok (.aload_n 0, 1) := by decide +kernel
theorem bPfa_d65 : decode bPfa.bs 65 = .ok (.iload_n 1, 1) := by decide +kernel
theorem bPfa_d66 : decode bPfa.bs 66 = .ok (.iinc 1 1, 3) := by decide +kernel
theorem bPfa_d69 : decode bPfa.bs 69 = .ok (.bipush 114, 2) := by decide +kernel
theorem bPfa_d71 : decode bPfa.bs 71 = .ok (.castore, 1) := by decide +kernel
theorem bPfa_d72 : decode bPfa.bs 72 = .ok (.aload_n 0, 1) := by decide +kernel
theorem bPfa_d73 : decode bPfa.bs 73 = .ok (.iload_n 1, 1) := by decide +kernel
theorem bPfa_d74 : decode bPfa.bs 74 = .ok (.iinc 1 1, 3) := by decide +kernel
theorem bPfa_d77 : decode bPfa.bs 77 = .ok (.bipush 115, 2) := by decide +kernel
theorem bPfa_d79 : decode bPfa.bs 79 = .ok (.castore, 1) := by decide +kernel
theorem bPfa_d80 : decode bPfa.bs 80 = .ok (.aload_n 0, 1) := by decide +kernel
theorem bPfa_d81 : decode bPfa.bs 81 = .ok (.iload_n 1, 1) := by decide +kernel
theorem bPfa_d82 : decode bPfa.bs 82 = .ok (.iinc 1 1, 3) := by decide +kernel
theorem bPfa_d85 : decode bPfa.bs 85 = .ok (.bipush 116, 2) := by decide +kernel
theorem bPfa_d87 : decode bPfa.bs 87 = .ok (.castore, 1) := by decide +kernel
theorem bPfa_d88 : decode bPfa.bs 88 = .ok (.aload_n 0, 1) := by decide +kernel
theorem bPfa_d89 : decode bPfa.bs 89 = .ok (.iload_n 1, 1) := by decide +kernel
theorem bPfa_d90 : decode bPfa.bs 90 = .ok (.iinc 1 1, 3) := by decide +kernel
theorem bPfa_d93 : decode bPfa.bs 93 = .ok (.bipush 32, 2) := by decide +kernel
theorem bPfa_d95 : decode bPfa.bs 95 = .ok (.castore, 1) := by decide +kernel
theorem bPfa_d96 : decode bPfa.bs 96 = .ok (.aload_n 0, 1) := by decide +kernel
theorem bPfa_d97 : decode bPfa.bs 97 = .ok (.iload_n 1, 1) := by decide +kernel
theorem bPfa_d98 : decode bPfa.bs 98 = .ok (.iinc 1 1, 3) := by decide +kernel
theorem bPfa_d101 : decode bPfa.bs 101 = .ok (.bipush 105, 2) := by decide +kernel
theorem bPfa_d103 : decode bPfa.bs 103 = .ok (.castore, 1) := by decide +kernel
theorem bPfa_d104 : decode bPfa.bs 104 = .ok (.aload_n 0, 1) := by decide +kernel
theorem bPfa_d105 : decode bPfa.bs 105 = .ok (.iload_n 1, 1) := by decide +kernel
theorem bPfa_d106 : decode bPfa.bs 106 = .ok (.iinc 1 1, 3) := by decide +kernel
theorem bPfa_d109 : decode bPfa.bs 109 = .ok (.bipush 115, 2) := by decide +kernel
theorem bPfa_d111 : decode bPfa.bs 111 = .ok (.castore, 1) := by decide +kernel
theorem bPfa_d112 : decode bPfa.bs 112 = .ok (.aload_n 0, 1) := by decide +kernel
theorem bPfa_d113 : decode bPfa.bs 113 = .ok (.iload_n 1, 1) := by decide +kernel
theorem bPfa_d114 : decode bPfa.bs 114 = .ok (.iinc 1 1, 3) := by decide +kernel
theorem bPfa_d117 : decode bPfa.bs 117 = .ok (.bipush 32, 2) := by decide +kernel
theorem bPfa_d119 : decode bPfa.bs 119 = .ok (.castore, 1) := by decide +kernel
theorem bPfa_d120 : decode bPfa.bs 120 = .ok (.aload_n 0, 1) := by decide +kernel
theorem bPfa_d121 : decode bPfa.bs 121 = .ok (.iload_n 1, 1) := by decide +kernel
theorem bPfa_d122 : decode bPfa.bs 122 = .ok (.iinc 1 1, 3) := by decide +kernel
theorem bPfa_d125 : decode bPfa.bs 125 = .ok (.bipush 97, 2) := by decide +kernel
theorem bPfa_d127 : decode bPfa.bs 127 = .ok (.castore, 1) := by decide +kernel
theorem bPfa_d128 : decode bPfa.bs 128 = .ok (.aload_n 0, 1) := by decide +kernel
theorem bPfa_d129 : decode bPfa.bs 129 = .ok (.iload_n 1, 1) := by decide +kernel
theorem bPfa_d130 : decode bPfa.bs 130 = .ok (.iinc 1 1, 3) := by decide +kernel
theorem bPfa_d133 : decode bPfa.bs 133 = .ok (.bipush 116, 2) := by decide +kernel
theorem bPfa_d135 : decode bPfa.bs 135 = .ok (.castore, 1) := by decide +kernel
theorem bPfa_d136 : decode bPfa.bs 136 = .ok (.aload_n 0, 1) := by decide +kernel
theorem bPfa_d137 : decode bPfa.bs 137 = .ok (.iload_n 1, 1) := by decide +kernel
theorem bPfa_d138 : decode bPfa.bs 138 = .ok (.iinc 1 1, 3) := by decide +kernel
theorem bPfa_d141 : decode bPfa.bs 141 = .ok (.bipush 32, 2) := by decide +kernel
theorem bPfa_d143 : decode bPfa.bs 143 = .ok (.castore, 1) := by decide +kernel
theorem bPfa_d144 : decode bPfa.bs 144 = .ok (.iload_n 1, 1) := by decide +kernel
theorem bPfa_d145 : decode bPfa.bs 145 = .ok (.ireturn, 1) := by decide +kernel
theorem bPfa_pd : parseMethodDescriptor "([CI)I" = some ⟨[(.array .char), .int], (some .int)⟩ := by decide +kernel
theorem bPfa_pn : plainFor bPfa.y = true := plainFor_of_name (show plainName "com/example/gridtally/gridtally/engine/OriginRefuseSecondPinLaw" = true from by first | (simp [plainName, overriddenIn]; done) | decide +kernel)
theorem cPfa (l : Launch) (Z : State) (a0 : Array Value) (hw : ∀ d ∈ tables_1, d.before a0 Z = true) (n0 : Nat) (hEW : EW Z a0 consts_1) (e : Addr) (pre : List Int32) (r : Nat) (h0 : Heap) (σ : Addr → Prop) (A : Road.Ary Z h0 e .char (pre.map Value.int ++ List.replicate r (Value.int 0))) (hr : 18 ≤ r) (se : σ e) :
    Road.Con l Z consts_1 n0 true bPfa [] σ #[(.ref e), (.int (Nat.toInt32 pre.length))] h0 (fun v h2 _ => v = some (.int (Nat.toInt32 (pre ++ ([59, 32, 116, 104, 101, 32, 102, 105, 114, 115, 116, 32, 105, 115, 32, 97, 116, 32] : List Int32)).length)) ∧ Keep h0 h2 [e] ∧ Road.Ary Z h2 e .char ((pre ++ ([59, 32, 116, 104, 101, 32, 102, 105, 114, 115, 116, 32, 105, 115, 32, 97, 116, 32] : List Int32)).map Value.int ++ List.replicate (r - 18) (Value.int 0))) := by
  refine Road.Con.of bPfa_pn hEW #[.val (.ref e), .val (.int (Nat.toInt32 pre.length))] (fun m => Road.ent (Road.laid1 rfl (Road.laid1 rfl Road.laid0)) (k := 0) rfl rfl) ?_
  intro D hD
  have hsm := A.small
  simp only [List.length_append, List.length_map, List.length_replicate] at hsm
  have KE := Keep.refl h0 [e]
  replace A : Road.Ary Z h0 e .char (pre.map Value.int ++ List.replicate (r - 0) (Value.int 0)) := A
  refine Road.aloadN 0 bPfa_d0 rfl ?_
  refine Road.iloadN 1 bPfa_d1 rfl ?_
  refine Road.iinc 2 (1) #[.val (.ref e), .val (.int ((Nat.toInt32 pre.length) + 1))] bPfa_d2 rfl rfl rfl ?_
  refine Road.bipush 5 (59 : Int32) bPfa_d5 rfl ?_
  refine Road.castore 7 pre.length (59 : Int32) bPfa_d7 A (Road.n32 (by omega)) (by simp only [List.length_append, List.length_map, List.length_replicate]; omega) rfl se ?_
  intro h_1 K_2 A_3
  replace A := A_3
  rw [Road.buf_set (by omega : 0 < r)] at A
  obtain ⟨u1, hu1⟩ : ∃ u_, u_ = pre ++ [(59 : Int32)] := ⟨_, rfl⟩
  have hn1 : u1.length = pre.length + 1 := by rw [hu1, List.length_append]; try rfl
  rw [← hu1] at A
  rw [show (((Nat.toInt32 pre.length) + 1) : Int32) = (Nat.toInt32 u1.length) from by rw [hn1]; exact Road.succ32 _]
  replace KE := KE.trans K_2 (by simp)
  refine Road.aloadN 8 bPfa_d8 rfl ?_
  refine Road.iloadN 9 bPfa_d9 rfl ?_
  refine Road.iinc 10 (1) #[.val (.ref e), .val (.int ((Nat.toInt32 u1.length) + 1))] bPfa_d10 rfl rfl rfl ?_
  refine Road.bipush 13 (32 : Int32) bPfa_d13 rfl ?_
  refine Road.castore 15 u1.length (32 : Int32) bPfa_d15 A (Road.n32 (by omega)) (by simp only [List.length_append, List.length_map, List.length_replicate]; omega) rfl se ?_
  intro h_4 K_5 A_6
  replace A := A_6
  rw [Road.buf_set (by omega : 1 < r)] at A
  obtain ⟨u2, hu2⟩ : ∃ u_, u_ = u1 ++ [(32 : Int32)] := ⟨_, rfl⟩
  have hn2 : u2.length = u1.length + 1 := by rw [hu2, List.length_append]; try rfl
  rw [← hu2] at A
  rw [show (((Nat.toInt32 u1.length) + 1) : Int32) = (Nat.toInt32 u2.length) from by rw [hn2]; exact Road.succ32 _]
  replace KE := KE.trans K_5 (by simp)
  refine Road.aloadN 16 bPfa_d16 rfl ?_
  refine Road.iloadN 17 bPfa_d17 rfl ?_
  refine Road.iinc 18 (1) #[.val (.ref e), .val (.int ((Nat.toInt32 u2.length) + 1))] bPfa_d18 rfl rfl rfl ?_
  refine Road.bipush 21 (116 : Int32) bPfa_d21 rfl ?_
  refine Road.castore 23 u2.length (116 : Int32) bPfa_d23 A (Road.n32 (by omega)) (by simp only [List.length_append, List.length_map, List.length_replicate]; omega) rfl se ?_
  intro h_7 K_8 A_9
  replace A := A_9
  rw [Road.buf_set (by omega : 2 < r)] at A
  obtain ⟨u3, hu3⟩ : ∃ u_, u_ = u2 ++ [(116 : Int32)] := ⟨_, rfl⟩
  have hn3 : u3.length = u2.length + 1 := by rw [hu3, List.length_append]; try rfl
  rw [← hu3] at A
  rw [show (((Nat.toInt32 u2.length) + 1) : Int32) = (Nat.toInt32 u3.length) from by rw [hn3]; exact Road.succ32 _]
  replace KE := KE.trans K_8 (by simp)
  refine Road.aloadN 24 bPfa_d24 rfl ?_
  refine Road.iloadN 25 bPfa_d25 rfl ?_
  refine Road.iinc 26 (1) #[.val (.ref e), .val (.int ((Nat.toInt32 u3.length) + 1))] bPfa_d26 rfl rfl rfl ?_
  refine Road.bipush 29 (104 : Int32) bPfa_d29 rfl ?_
  refine Road.castore 31 u3.length (104 : Int32) bPfa_d31 A (Road.n32 (by omega)) (by simp only [List.length_append, List.length_map, List.length_replicate]; omega) rfl se ?_
  intro h_10 K_11 A_12
  replace A := A_12
  rw [Road.buf_set (by omega : 3 < r)] at A
  obtain ⟨u4, hu4⟩ : ∃ u_, u_ = u3 ++ [(104 : Int32)] := ⟨_, rfl⟩
  have hn4 : u4.length = u3.length + 1 := by rw [hu4, List.length_append]; try rfl
  rw [← hu4] at A
  rw [show (((Nat.toInt32 u3.length) + 1) : Int32) = (Nat.toInt32 u4.length) from by rw [hn4]; exact Road.succ32 _]
  replace KE := KE.trans K_11 (by simp)
  refine Road.aloadN 32 bPfa_d32 rfl ?_
  refine Road.iloadN 33 bPfa_d33 rfl ?_
  refine Road.iinc 34 (1) #[.val (.ref e), .val (.int ((Nat.toInt32 u4.length) + 1))] bPfa_d34 rfl rfl rfl ?_
  refine Road.bipush 37 (101 : Int32) bPfa_d37 rfl ?_
  refine Road.castore 39 u4.length (101 : Int32) bPfa_d39 A (Road.n32 (by omega)) (by simp only [List.length_append, List.length_map, List.length_replicate]; omega) rfl se ?_
  intro h_13 K_14 A_15
  replace A := A_15
  rw [Road.buf_set (by omega : 4 < r)] at A
  obtain ⟨u5, hu5⟩ : ∃ u_, u_ = u4 ++ [(101 : Int32)] := ⟨_, rfl⟩
  have hn5 : u5.length = u4.length + 1 := by rw [hu5, List.length_append]; try rfl
  rw [← hu5] at A
  rw [show (((Nat.toInt32 u4.length) + 1) : Int32) = (Nat.toInt32 u5.length) from by rw [hn5]; exact Road.succ32 _]
  replace KE := KE.trans K_14 (by simp)
  refine Road.aloadN 40 bPfa_d40 rfl ?_
  refine Road.iloadN 41 bPfa_d41 rfl ?_
  refine Road.iinc 42 (1) #[.val (.ref e), .val (.int ((Nat.toInt32 u5.length) + 1))] bPfa_d42 rfl rfl rfl ?_
  refine Road.bipush 45 (32 : Int32) bPfa_d45 rfl ?_
  refine Road.castore 47 u5.length (32 : Int32) bPfa_d47 A (Road.n32 (by omega)) (by simp only [List.length_append, List.length_map, List.length_replicate]; omega) rfl se ?_
  intro h_16 K_17 A_18
  replace A := A_18
  rw [Road.buf_set (by omega : 5 < r)] at A
  obtain ⟨u6, hu6⟩ : ∃ u_, u_ = u5 ++ [(32 : Int32)] := ⟨_, rfl⟩
  have hn6 : u6.length = u5.length + 1 := by rw [hu6, List.length_append]; try rfl
  rw [← hu6] at A
  rw [show (((Nat.toInt32 u5.length) + 1) : Int32) = (Nat.toInt32 u6.length) from by rw [hn6]; exact Road.succ32 _]
  replace KE := KE.trans K_17 (by simp)
  refine Road.aloadN 48 bPfa_d48 rfl ?_
  refine Road.iloadN 49 bPfa_d49 rfl ?_
  refine Road.iinc 50 (1) #[.val (.ref e), .val (.int ((Nat.toInt32 u6.length) + 1))] bPfa_d50 rfl rfl rfl ?_
  refine Road.bipush 53 (102 : Int32) bPfa_d53 rfl ?_
  refine Road.castore 55 u6.length (102 : Int32) bPfa_d55 A (Road.n32 (by omega)) (by simp only [List.length_append, List.length_map, List.length_replicate]; omega) rfl se ?_
  intro h_19 K_20 A_21
  replace A := A_21
  rw [Road.buf_set (by omega : 6 < r)] at A
  obtain ⟨u7, hu7⟩ : ∃ u_, u_ = u6 ++ [(102 : Int32)] := ⟨_, rfl⟩
  have hn7 : u7.length = u6.length + 1 := by rw [hu7, List.length_append]; try rfl
  rw [← hu7] at A
  rw [show (((Nat.toInt32 u6.length) + 1) : Int32) = (Nat.toInt32 u7.length) from by rw [hn7]; exact Road.succ32 _]
  replace KE := KE.trans K_20 (by simp)
  refine Road.aloadN 56 bPfa_d56 rfl ?_
  refine Road.iloadN 57 bPfa_d57 rfl ?_
  refine Road.iinc 58 (1) #[.val (.ref e), .val (.int ((Nat.toInt32 u7.length) + 1))] bPfa_d58 rfl rfl rfl ?_
  refine Road.bipush 61 (105 : Int32) bPfa_d61 rfl ?_
  refine Road.castore 63 u7.length (105 : Int32) bPfa_d63 A (Road.n32 (by omega)) (by simp only [List.length_append, List.length_map, List.length_replicate]; omega) rfl se ?_
  intro h_22 K_23 A_24
  replace A := A_24
  rw [Road.buf_set (by omega : 7 < r)] at A
  obtain ⟨u8, hu8⟩ : ∃ u_, u_ = u7 ++ [(105 : Int32)] := ⟨_, rfl⟩
  have hn8 : u8.length = u7.length + 1 := by rw [hu8, List.length_append]; try rfl
  rw [← hu8] at A
  rw [show (((Nat.toInt32 u7.length) + 1) : Int32) = (Nat.toInt32 u8.length) from by rw [hn8]; exact Road.succ32 _]
  replace KE := KE.trans K_23 (by simp)
  refine Road.aloadN 64 bPfa_d64 rfl ?_
  refine Road.iloadN 65 bPfa_d65 rfl ?_
  refine Road.iinc 66 (1) #[.val (.ref e), .val (.int ((Nat.toInt32 u8.length) + 1))] bPfa_d66 rfl rfl rfl ?_
  refine Road.bipush 69 (114 : Int32) bPfa_d69 rfl ?_
  refine Road.castore 71 u8.length (114 : Int32) bPfa_d71 A (Road.n32 (by omega)) (by simp only [List.length_append, List.length_map, List.length_replicate]; omega) rfl se ?_
  intro h_25 K_26 A_27
  replace A := A_27
  rw [Road.buf_set (by omega : 8 < r)] at A
  obtain ⟨u9, hu9⟩ : ∃ u_, u_ = u8 ++ [(114 : Int32)] := ⟨_, rfl⟩
  have hn9 : u9.length = u8.length + 1 := by rw [hu9, List.length_append]; try rfl
  rw [← hu9] at A
  rw [show (((Nat.toInt32 u8.length) + 1) : Int32) = (Nat.toInt32 u9.length) from by rw [hn9]; exact Road.succ32 _]
  replace KE := KE.trans K_26 (by simp)
  refine Road.aloadN 72 bPfa_d72 rfl ?_
  refine Road.iloadN 73 bPfa_d73 rfl ?_
  refine Road.iinc 74 (1) #[.val (.ref e), .val (.int ((Nat.toInt32 u9.length) + 1))] bPfa_d74 rfl rfl rfl ?_
  refine Road.bipush 77 (115 : Int32) bPfa_d77 rfl ?_
  refine Road.castore 79 u9.length (115 : Int32) bPfa_d79 A (Road.n32 (by omega)) (by simp only [List.length_append, List.length_map, List.length_replicate]; omega) rfl se ?_
  intro h_28 K_29 A_30
  replace A := A_30
  rw [Road.buf_set (by omega : 9 < r)] at A
  obtain ⟨u10, hu10⟩ : ∃ u_, u_ = u9 ++ [(115 : Int32)] := ⟨_, rfl⟩
  have hn10 : u10.length = u9.length + 1 := by rw [hu10, List.length_append]; try rfl
  rw [← hu10] at A
  rw [show (((Nat.toInt32 u9.length) + 1) : Int32) = (Nat.toInt32 u10.length) from by rw [hn10]; exact Road.succ32 _]
  replace KE := KE.trans K_29 (by simp)
  refine Road.aloadN 80 bPfa_d80 rfl ?_
  refine Road.iloadN 81 bPfa_d81 rfl ?_
  refine Road.iinc 82 (1) #[.val (.ref e), .val (.int ((Nat.toInt32 u10.length) + 1))] bPfa_d82 rfl rfl rfl ?_
  refine Road.bipush 85 (116 : Int32) bPfa_d85 rfl ?_
  refine Road.castore 87 u10.length (116 : Int32) bPfa_d87 A (Road.n32 (by omega)) (by simp only [List.length_append, List.length_map, List.length_replicate]; omega) rfl se ?_
  intro h_31 K_32 A_33
  replace A := A_33
  rw [Road.buf_set (by omega : 10 < r)] at A
  obtain ⟨u11, hu11⟩ : ∃ u_, u_ = u10 ++ [(116 : Int32)] := ⟨_, rfl⟩
  have hn11 : u11.length = u10.length + 1 := by rw [hu11, List.length_append]; try rfl
  rw [← hu11] at A
  rw [show (((Nat.toInt32 u10.length) + 1) : Int32) = (Nat.toInt32 u11.length) from by rw [hn11]; exact Road.succ32 _]
  replace KE := KE.trans K_32 (by simp)
  refine Road.aloadN 88 bPfa_d88 rfl ?_
  refine Road.iloadN 89 bPfa_d89 rfl ?_
  refine Road.iinc 90 (1) #[.val (.ref e), .val (.int ((Nat.toInt32 u11.length) + 1))] bPfa_d90 rfl rfl rfl ?_
  refine Road.bipush 93 (32 : Int32) bPfa_d93 rfl ?_
  refine Road.castore 95 u11.length (32 : Int32) bPfa_d95 A (Road.n32 (by omega)) (by simp only [List.length_append, List.length_map, List.length_replicate]; omega) rfl se ?_
  intro h_34 K_35 A_36
  replace A := A_36
  rw [Road.buf_set (by omega : 11 < r)] at A
  obtain ⟨u12, hu12⟩ : ∃ u_, u_ = u11 ++ [(32 : Int32)] := ⟨_, rfl⟩
  have hn12 : u12.length = u11.length + 1 := by rw [hu12, List.length_append]; try rfl
  rw [← hu12] at A
  rw [show (((Nat.toInt32 u11.length) + 1) : Int32) = (Nat.toInt32 u12.length) from by rw [hn12]; exact Road.succ32 _]
  replace KE := KE.trans K_35 (by simp)
  refine Road.aloadN 96 bPfa_d96 rfl ?_
  refine Road.iloadN 97 bPfa_d97 rfl ?_
  refine Road.iinc 98 (1) #[.val (.ref e), .val (.int ((Nat.toInt32 u12.length) + 1))] bPfa_d98 rfl rfl rfl ?_
  refine Road.bipush 101 (105 : Int32) bPfa_d101 rfl ?_
  refine Road.castore 103 u12.length (105 : Int32) bPfa_d103 A (Road.n32 (by omega)) (by simp only [List.length_append, List.length_map, List.length_replicate]; omega) rfl se ?_
  intro h_37 K_38 A_39
  replace A := A_39
  rw [Road.buf_set (by omega : 12 < r)] at A
  obtain ⟨u13, hu13⟩ : ∃ u_, u_ = u12 ++ [(105 : Int32)] := ⟨_, rfl⟩
  have hn13 : u13.length = u12.length + 1 := by rw [hu13, List.length_append]; try rfl
  rw [← hu13] at A
  rw [show (((Nat.toInt32 u12.length) + 1) : Int32) = (Nat.toInt32 u13.length) from by rw [hn13]; exact Road.succ32 _]
  replace KE := KE.trans K_38 (by simp)
  refine Road.aloadN 104 bPfa_d104 rfl ?_
  refine Road.iloadN 105 bPfa_d105 rfl ?_
  refine Road.iinc 106 (1) #[.val (.ref e), .val (.int ((Nat.toInt32 u13.length) + 1))] bPfa_d106 rfl rfl rfl ?_
  refine Road.bipush 109 (115 : Int32) bPfa_d109 rfl ?_
  refine Road.castore 111 u13.length (115 : Int32) bPfa_d111 A (Road.n32 (by omega)) (by simp only [List.length_append, List.length_map, List.length_replicate]; omega) rfl se ?_
  intro h_40 K_41 A_42
  replace A := A_42
  rw [Road.buf_set (by omega : 13 < r)] at A
  obtain ⟨u14, hu14⟩ : ∃ u_, u_ = u13 ++ [(115 : Int32)] := ⟨_, rfl⟩
  have hn14 : u14.length = u13.length + 1 := by rw [hu14, List.length_append]; try rfl
  rw [← hu14] at A
  rw [show (((Nat.toInt32 u13.length) + 1) : Int32) = (Nat.toInt32 u14.length) from by rw [hn14]; exact Road.succ32 _]
  replace KE := KE.trans K_41 (by simp)
  refine Road.aloadN 112 bPfa_d112 rfl ?_
  refine Road.iloadN 113 bPfa_d113 rfl ?_
  refine Road.iinc 114 (1) #[.val (.ref e), .val (.int ((Nat.toInt32 u14.length) + 1))] bPfa_d114 rfl rfl rfl ?_
  refine Road.bipush 117 (32 : Int32) bPfa_d117 rfl ?_
  refine Road.castore 119 u14.length (32 : Int32) bPfa_d119 A (Road.n32 (by omega)) (by simp only [List.length_append, List.length_map, List.length_replicate]; omega) rfl se ?_
  intro h_43 K_44 A_45
  replace A := A_45
  rw [Road.buf_set (by omega : 14 < r)] at A
  obtain ⟨u15, hu15⟩ : ∃ u_, u_ = u14 ++ [(32 : Int32)] := ⟨_, rfl⟩
  have hn15 : u15.length = u14.length + 1 := by rw [hu15, List.length_append]; try rfl
  rw [← hu15] at A
  rw [show (((Nat.toInt32 u14.length) + 1) : Int32) = (Nat.toInt32 u15.length) from by rw [hn15]; exact Road.succ32 _]
  replace KE := KE.trans K_44 (by simp)
  refine Road.aloadN 120 bPfa_d120 rfl ?_
  refine Road.iloadN 121 bPfa_d121 rfl ?_
  refine Road.iinc 122 (1) #[.val (.ref e), .val (.int ((Nat.toInt32 u15.length) + 1))] bPfa_d122 rfl rfl rfl ?_
  refine Road.bipush 125 (97 : Int32) bPfa_d125 rfl ?_
  refine Road.castore 127 u15.length (97 : Int32) bPfa_d127 A (Road.n32 (by omega)) (by simp only [List.length_append, List.length_map, List.length_replicate]; omega) rfl se ?_
  intro h_46 K_47 A_48
  replace A := A_48
  rw [Road.buf_set (by omega : 15 < r)] at A
  obtain ⟨u16, hu16⟩ : ∃ u_, u_ = u15 ++ [(97 : Int32)] := ⟨_, rfl⟩
  have hn16 : u16.length = u15.length + 1 := by rw [hu16, List.length_append]; try rfl
  rw [← hu16] at A
  rw [show (((Nat.toInt32 u15.length) + 1) : Int32) = (Nat.toInt32 u16.length) from by rw [hn16]; exact Road.succ32 _]
  replace KE := KE.trans K_47 (by simp)
  refine Road.aloadN 128 bPfa_d128 rfl ?_
  refine Road.iloadN 129 bPfa_d129 rfl ?_
  refine Road.iinc 130 (1) #[.val (.ref e), .val (.int ((Nat.toInt32 u16.length) + 1))] bPfa_d130 rfl rfl rfl ?_
  refine Road.bipush 133 (116 : Int32) bPfa_d133 rfl ?_
  refine Road.castore 135 u16.length (116 : Int32) bPfa_d135 A (Road.n32 (by omega)) (by simp only [List.length_append, List.length_map, List.length_replicate]; omega) rfl se ?_
  intro h_49 K_50 A_51
  replace A := A_51
  rw [Road.buf_set (by omega : 16 < r)] at A
  obtain ⟨u17, hu17⟩ : ∃ u_, u_ = u16 ++ [(116 : Int32)] := ⟨_, rfl⟩
  have hn17 : u17.length = u16.length + 1 := by rw [hu17, List.length_append]; try rfl
  rw [← hu17] at A
  rw [show (((Nat.toInt32 u16.length) + 1) : Int32) = (Nat.toInt32 u17.length) from by rw [hn17]; exact Road.succ32 _]
  replace KE := KE.trans K_50 (by simp)
  refine Road.aloadN 136 bPfa_d136 rfl ?_
  refine Road.iloadN 137 bPfa_d137 rfl ?_
  refine Road.iinc 138 (1) #[.val (.ref e), .val (.int ((Nat.toInt32 u17.length) + 1))] bPfa_d138 rfl rfl rfl ?_
  refine Road.bipush 141 (32 : Int32) bPfa_d141 rfl ?_
  refine Road.castore 143 u17.length (32 : Int32) bPfa_d143 A (Road.n32 (by omega)) (by simp only [List.length_append, List.length_map, List.length_replicate]; omega) rfl se ?_
  intro h_52 K_53 A_54
  replace A := A_54
  rw [Road.buf_set (by omega : 17 < r)] at A
  obtain ⟨u18, hu18⟩ : ∃ u_, u_ = u17 ++ [(32 : Int32)] := ⟨_, rfl⟩
  have hn18 : u18.length = u17.length + 1 := by rw [hu18, List.length_append]; try rfl
  rw [← hu18] at A
  rw [show (((Nat.toInt32 u17.length) + 1) : Int32) = (Nat.toInt32 u18.length) from by rw [hn18]; exact Road.succ32 _]
  replace KE := KE.trans K_53 (by simp)
  refine Road.iloadN 144 bPfa_d144 rfl ?_
  have hcur : u18 = pre ++ ([59, 32, 116, 104, 101, 32, 102, 105, 114, 115, 116, 32, 105, 115, 32, 97, 116, 32] : List Int32) := by rw [hu18, hu17, hu16, hu15, hu14, hu13, hu12, hu11, hu10, hu9, hu8, hu7, hu6, hu5, hu4, hu3, hu2, hu1]; simp only [List.append_assoc, List.cons_append, List.nil_append]
  rw [hcur] at A
  exact Road.iretI 145 bPfa_d145 rfl (by decide) (by decide) (fun σ' m => ⟨by rw [hcur], KE, A⟩)
def b0 : Road.Bdy := (x, code, maxLocals, ret, room_1)
theorem b0_d0 : decode b0.bs 0 = .ok (.iload_n 0, 1) := at_0
theorem b0_d1 : decode b0.bs 1 = .ok (.sipush 255, 3) := at_1
theorem b0_d4 : decode b0.bs 4 = .ok (.iand, 1) := at_4
theorem b0_d5 : decode b0.bs 5 = .ok (.i2c, 1) := at_5
theorem b0_d6 : decode b0.bs 6 = .ok (.istore 4, 2) := at_6
theorem b0_d8 : decode b0.bs 8 = .ok (.iload_n 0, 1) := at_8
theorem b0_d9 : decode b0.bs 9 = .ok (.bipush 8, 2) := at_9
theorem b0_d11 : decode b0.bs 11 = .ok (.iushr, 1) := at_11
theorem b0_d12 : decode b0.bs 12 = .ok (.sipush 255, 3) := at_12
theorem b0_d15 : decode b0.bs 15 = .ok (.iand, 1) := at_15
theorem b0_d16 : decode b0.bs 16 = .ok (.i2c, 1) := at_16
theorem b0_d17 : decode b0.bs 17 = .ok (.istore 5, 2) := at_17
theorem b0_d19 : decode b0.bs 19 = .ok (.iload_n 0, 1) := at_19
theorem b0_d20 : decode b0.bs 20 = .ok (.bipush 16, 2) := at_20
theorem b0_d22 : decode b0.bs 22 = .ok (.iushr, 1) := at_22
theorem b0_d23 : decode b0.bs 23 = .ok (.sipush 255, 3) := at_23
theorem b0_d26 : decode b0.bs 26 = .ok (.iand, 1) := at_26
theorem b0_d27 : decode b0.bs 27 = .ok (.i2c, 1) := at_27
theorem b0_d28 : decode b0.bs 28 = .ok (.istore 6, 2) := at_28
theorem b0_d30 : decode b0.bs 30 = .ok (.iload_n 0, 1) := at_30
theorem b0_d31 : decode b0.bs 31 = .ok (.bipush 24, 2) := at_31
theorem b0_d33 : decode b0.bs 33 = .ok (.iushr, 1) := at_33
theorem b0_d34 : decode b0.bs 34 = .ok (.sipush 255, 3) := at_34
theorem b0_d37 : decode b0.bs 37 = .ok (.iand, 1) := at_37
theorem b0_d38 : decode b0.bs 38 = .ok (.i2c, 1) := at_38
theorem b0_d39 : decode b0.bs 39 = .ok (.istore 7, 2) := at_39
theorem b0_d41 : decode b0.bs 41 = .ok (.iload_n 3, 1) := at_41
theorem b0_d42 : decode b0.bs 42 = .ok (.iconst 1, 1) := at_42
theorem b0_d43 : decode b0.bs 43 = .ok (.iand, 1) := at_43
theorem b0_d44 : decode b0.bs 44 = .ok (.ifCond .eq 7, 3) := at_44
theorem b0_d47 : decode b0.bs 47 = .ok (.iconst 1, 1) := at_47
theorem b0_d48 : decode b0.bs 48 = .ok (.goto 4, 3) := at_48
theorem b0_d51 : decode b0.bs 51 = .ok (.iconst 0, 1) := at_51
theorem b0_d52 : decode b0.bs 52 = .ok (.istore 8, 2) := at_52
theorem b0_d54 : decode b0.bs 54 = .ok (.iload_n 3, 1) := at_54
theorem b0_d55 : decode b0.bs 55 = .ok (.iconst 2, 1) := at_55
theorem b0_d56 : decode b0.bs 56 = .ok (.iand, 1) := at_56
theorem b0_d57 : decode b0.bs 57 = .ok (.ifCond .eq 7, 3) := at_57
theorem b0_d60 : decode b0.bs 60 = .ok (.iconst 1, 1) := at_60
theorem b0_d61 : decode b0.bs 61 = .ok (.goto 4, 3) := at_61
theorem b0_d64 : decode b0.bs 64 = .ok (.iconst 0, 1) := at_64
theorem b0_d65 : decode b0.bs 65 = .ok (.istore 9, 2) := at_65
theorem b0_d67 : decode b0.bs 67 = .ok (.iload_n 3, 1) := at_67
theorem b0_d68 : decode b0.bs 68 = .ok (.iconst 2, 1) := at_68
theorem b0_d69 : decode b0.bs 69 = .ok (.iushr, 1) := at_69
theorem b0_d70 : decode b0.bs 70 = .ok (.ldc 7, 2) := at_70
theorem b0_d72 : decode b0.bs 72 = .ok (.iand, 1) := at_72
theorem b0_d73 : decode b0.bs 73 = .ok (.iconst 3, 1) := at_73
theorem b0_d74 : decode b0.bs 74 = .ok (.irem, 1) := at_74
theorem b0_d75 : decode b0.bs 75 = .ok (.istore 10, 2) := at_75
theorem b0_d77 : decode b0.bs 77 = .ok (.iload 8, 2) := at_77
theorem b0_d79 : decode b0.bs 79 = .ok (.ifCond .eq 8, 3) := at_79
theorem b0_d82 : decode b0.bs 82 = .ok (.ldc 8, 2) := at_82
theorem b0_d84 : decode b0.bs 84 = .ok (.goto 8, 3) := at_84
theorem b0_d87 : decode b0.bs 87 = .ok (.iload 4, 2) := at_87
theorem b0_d89 : decode b0.bs 89 = .ok (.invokestatic 10, 3) := at_89
theorem b0_d92 : decode b0.bs 92 = .ok (.astore 11, 2) := at_92
theorem b0_d94 : decode b0.bs 94 = .ok (.iload 9, 2) := at_94
theorem b0_d96 : decode b0.bs 96 = .ok (.ifCond .eq 8, 3) := at_96
theorem b0_d99 : decode b0.bs 99 = .ok (.ldc 8, 2) := at_99
theorem b0_d101 : decode b0.bs 101 = .ok (.goto 8, 3) := at_101
theorem b0_d104 : decode b0.bs 104 = .ok (.iload 5, 2) := at_104
theorem b0_d106 : decode b0.bs 106 = .ok (.invokestatic 10, 3) := at_106
theorem b0_d109 : decode b0.bs 109 = .ok (.astore 12, 2) := at_109
theorem b0_d111 : decode b0.bs 111 = .ok (.iload 10, 2) := at_111
theorem b0_d113 : decode b0.bs 113 = .ok (.ifCond .ne 10, 3) := at_113
theorem b0_d116 : decode b0.bs 116 = .ok (.ldc 8, 2) := at_116
theorem b0_d118 : decode b0.bs 118 = .ok (.astore 13, 2) := at_118
theorem b0_d120 : decode b0.bs 120 = .ok (.goto 41, 3) := at_120
theorem b0_d123 : decode b0.bs 123 = .ok (.iload 10, 2) := at_123
theorem b0_d125 : decode b0.bs 125 = .ok (.iconst 1, 1) := at_125
theorem b0_d126 : decode b0.bs 126 = .ok (.if_icmp .ne 13, 3) := at_126
theorem b0_d129 : decode b0.bs 129 = .ok (.iload 6, 2) := at_129
theorem b0_d131 : decode b0.bs 131 = .ok (.invokestatic 10, 3) := at_131
theorem b0_d134 : decode b0.bs 134 = .ok (.astore 13, 2) := at_134
theorem b0_d136 : decode b0.bs 136 = .ok (.goto 25, 3) := at_136
theorem b0_d139 : decode b0.bs 139 = .ok (.new 11, 3) := at_139
theorem b0_d142 : decode b0.bs 142 = .ok (.dup, 1) := at_142
theorem b0_d143 : decode b0.bs 143 = .ok (.iconst 2, 1) := at_143
theorem b0_d144 : decode b0.bs 144 = .ok (.newarray .char, 2) := at_144
theorem b0_d146 : decode b0.bs 146 = .ok (.dup, 1) := at_146
theorem b0_d147 : decode b0.bs 147 = .ok (.iconst 0, 1) := at_147
theorem b0_d148 : decode b0.bs 148 = .ok (.iload 6, 2) := at_148
theorem b0_d150 : decode b0.bs 150 = .ok (.castore, 1) := at_150
theorem b0_d151 : decode b0.bs 151 = .ok (.dup, 1) := at_151
theorem b0_d152 : decode b0.bs 152 = .ok (.iconst 1, 1) := at_152
theorem b0_d153 : decode b0.bs 153 = .ok (.iload 7, 2) := at_153
theorem b0_d155 : decode b0.bs 155 = .ok (.castore, 1) := at_155
theorem b0_d156 : decode b0.bs 156 = .ok (.invokespecial 16, 3) := at_156
theorem b0_d159 : decode b0.bs 159 = .ok (.astore 13, 2) := at_159
theorem b0_d161 : decode b0.bs 161 = .ok (.iload 8, 2) := at_161
theorem b0_d163 : decode b0.bs 163 = .ok (.ifCond .eq 7, 3) := at_163
theorem b0_d166 : decode b0.bs 166 = .ok (.iconst 0, 1) := at_166
theorem b0_d167 : decode b0.bs 167 = .ok (.goto 4, 3) := at_167
theorem b0_d170 : decode b0.bs 170 = .ok (.iconst 1, 1) := at_170
theorem b0_d171 : decode b0.bs 171 = .ok (.istore 14, 2) := at_171
theorem b0_d173 : decode b0.bs 173 = .ok (.iload 9, 2) := at_173
theorem b0_d175 : decode b0.bs 175 = .ok (.ifCond .eq 7, 3) := at_175
theorem b0_d178 : decode b0.bs 178 = .ok (.iconst 0, 1) := at_178
theorem b0_d179 : decode b0.bs 179 = .ok (.goto 4, 3) := at_179
theorem b0_d182 : decode b0.bs 182 = .ok (.iconst 1, 1) := at_182
theorem b0_d183 : decode b0.bs 183 = .ok (.istore 15, 2) := at_183
theorem b0_d185 : decode b0.bs 185 = .ok (.iload 14, 2) := at_185
theorem b0_d187 : decode b0.bs 187 = .ok (.iconst 1, 1) := at_187
theorem b0_d188 : decode b0.bs 188 = .ok (.iadd, 1) := at_188
theorem b0_d189 : decode b0.bs 189 = .ok (.iload_n 1, 1) := at_189
theorem b0_d190 : decode b0.bs 190 = .ok (.invokestatic 19, 3) := at_190
theorem b0_d193 : decode b0.bs 193 = .ok (.iadd, 1) := at_193
theorem b0_d194 : decode b0.bs 194 = .ok (.iconst 2, 1) := at_194
theorem b0_d195 : decode b0.bs 195 = .ok (.iadd, 1) := at_195
theorem b0_d196 : decode b0.bs 196 = .ok (.iload 10, 2) := at_196
theorem b0_d198 : decode b0.bs 198 = .ok (.iadd, 1) := at_198
theorem b0_d199 : decode b0.bs 199 = .ok (.bipush 18, 2) := at_199
theorem b0_d201 : decode b0.bs 201 = .ok (.iadd, 1) := at_201
theorem b0_d202 : decode b0.bs 202 = .ok (.iload 15, 2) := at_202
theorem b0_d204 : decode b0.bs 204 = .ok (.iadd, 1) := at_204
theorem b0_d205 : decode b0.bs 205 = .ok (.iconst 1, 1) := at_205
theorem b0_d206 : decode b0.bs 206 = .ok (.iadd, 1) := at_206
theorem b0_d207 : decode b0.bs 207 = .ok (.iload_n 2, 1) := at_207
theorem b0_d208 : decode b0.bs 208 = .ok (.invokestatic 19, 3) := at_208
theorem b0_d211 : decode b0.bs 211 = .ok (.iadd, 1) := at_211
theorem b0_d212 : decode b0.bs 212 = .ok (.istore 16, 2) := at_212
theorem b0_d214 : decode b0.bs 214 = .ok (.iload 16, 2) := at_214
theorem b0_d216 : decode b0.bs 216 = .ok (.newarray .char, 2) := at_216
theorem b0_d218 : decode b0.bs 218 = .ok (.astore 17, 2) := at_218
theorem b0_d220 : decode b0.bs 220 = .ok (.iconst 0, 1) := at_220
theorem b0_d221 : decode b0.bs 221 = .ok (.istore 18, 2) := at_221
theorem b0_d223 : decode b0.bs 223 = .ok (.iload 8, 2) := at_223
theorem b0_d225 : decode b0.bs 225 = .ok (.ifCond .ne 13, 3) := at_225
theorem b0_d228 : decode b0.bs 228 = .ok (.aload 17, 2) := at_228
theorem b0_d230 : decode b0.bs 230 = .ok (.iload 18, 2) := at_230
theorem b0_d232 : decode b0.bs 232 = .ok (.iinc 18 1, 3) := at_232
theorem b0_d235 : decode b0.bs 235 = .ok (.iload 4, 2) := at_235
theorem b0_d237 : decode b0.bs 237 = .ok (.castore, 1) := at_237
theorem b0_d238 : decode b0.bs 238 = .ok (.aload 17, 2) := at_238
theorem b0_d240 : decode b0.bs 240 = .ok (.iload 18, 2) := at_240
theorem b0_d242 : decode b0.bs 242 = .ok (.iinc 18 1, 3) := at_242
theorem b0_d245 : decode b0.bs 245 = .ok (.bipush 58, 2) := at_245
theorem b0_d247 : decode b0.bs 247 = .ok (.castore, 1) := at_247
theorem b0_d248 : decode b0.bs 248 = .ok (.aload 17, 2) := at_248
theorem b0_d250 : decode b0.bs 250 = .ok (.iload 18, 2) := at_250
theorem b0_d252 : decode b0.bs 252 = .ok (.iload_n 1, 1) := at_252
theorem b0_d253 : decode b0.bs 253 = .ok (.invokestatic 25, 3) := at_253
theorem b0_d256 : decode b0.bs 256 = .ok (.istore 18, 2) := at_256
theorem b0_d258 : decode b0.bs 258 = .ok (.aload 17, 2) := at_258
theorem b0_d260 : decode b0.bs 260 = .ok (.iload 18, 2) := at_260
theorem b0_d262 : decode b0.bs 262 = .ok (.iinc 18 1, 3) := at_262
theorem b0_d265 : decode b0.bs 265 = .ok (.bipush 58, 2) := at_265
theorem b0_d267 : decode b0.bs 267 = .ok (.castore, 1) := at_267
theorem b0_d268 : decode b0.bs 268 = .ok (.aload 17, 2) := at_268
theorem b0_d270 : decode b0.bs 270 = .ok (.iload 18, 2) := at_270
theorem b0_d272 : decode b0.bs 272 = .ok (.iinc 18 1, 3) := at_272
theorem b0_d275 : decode b0.bs 275 = .ok (.bipush 32, 2) := at_275
theorem b0_d277 : decode b0.bs 277 = .ok (.castore, 1) := at_277
theorem b0_d278 : decode b0.bs 278 = .ok (.iload 10, 2) := at_278
theorem b0_d280 : decode b0.bs 280 = .ok (.iconst 1, 1) := at_280
theorem b0_d281 : decode b0.bs 281 = .ok (.if_icmp .lt 13, 3) := at_281
theorem b0_d284 : decode b0.bs 284 = .ok (.aload 17, 2) := at_284
theorem b0_d286 : decode b0.bs 286 = .ok (.iload 18, 2) := at_286
theorem b0_d288 : decode b0.bs 288 = .ok (.iinc 18 1, 3) := at_288
theorem b0_d291 : decode b0.bs 291 = .ok (.iload 6, 2) := at_291
theorem b0_d293 : decode b0.bs 293 = .ok (.castore, 1) := at_293
theorem b0_d294 : decode b0.bs 294 = .ok (.iload 10, 2) := at_294
theorem b0_d296 : decode b0.bs 296 = .ok (.iconst 2, 1) := at_296
theorem b0_d297 : decode b0.bs 297 = .ok (.if_icmp .ne 13, 3) := at_297
theorem b0_d300 : decode b0.bs 300 = .ok (.aload 17, 2) := at_300
theorem b0_d302 : decode b0.bs 302 = .ok (.iload 18, 2) := at_302
theorem b0_d304 : decode b0.bs 304 = .ok (.iinc 18 1, 3) := at_304
theorem b0_d307 : decode b0.bs 307 = .ok (.iload 7, 2) := at_307
theorem b0_d309 : decode b0.bs 309 = .ok (.castore, 1) := at_309
theorem b0_d310 : decode b0.bs 310 = .ok (.aload 17, 2) := at_310
theorem b0_d312 : decode b0.bs 312 = .ok (.iload 18, 2) := at_312
theorem b0_d314 : decode b0.bs 314 = .ok (.invokestatic 29, 3) := at_314
theorem b0_d317 : decode b0.bs 317 = .ok (.istore 18, 2) := at_317
theorem b0_d319 : decode b0.bs 319 = .ok (.iload 9, 2) := at_319
theorem b0_d321 : decode b0.bs 321 = .ok (.ifCond .ne 13, 3) := at_321
theorem b0_d324 : decode b0.bs 324 = .ok (.aload 17, 2) := at_324
theorem b0_d326 : decode b0.bs 326 = .ok (.iload 18, 2) := at_326
theorem b0_d328 : decode b0.bs 328 = .ok (.iinc 18 1, 3) := at_328
theorem b0_d331 : decode b0.bs 331 = .ok (.iload 5, 2) := at_331
theorem b0_d333 : decode b0.bs 333 = .ok (.castore, 1) := at_333
theorem b0_d334 : decode b0.bs 334 = .ok (.aload 17, 2) := at_334
theorem b0_d336 : decode b0.bs 336 = .ok (.iload 18, 2) := at_336
theorem b0_d338 : decode b0.bs 338 = .ok (.iinc 18 1, 3) := at_338
theorem b0_d341 : decode b0.bs 341 = .ok (.bipush 58, 2) := at_341
theorem b0_d343 : decode b0.bs 343 = .ok (.castore, 1) := at_343
theorem b0_d344 : decode b0.bs 344 = .ok (.aload 17, 2) := at_344
theorem b0_d346 : decode b0.bs 346 = .ok (.iload 18, 2) := at_346
theorem b0_d348 : decode b0.bs 348 = .ok (.iload_n 2, 1) := at_348
theorem b0_d349 : decode b0.bs 349 = .ok (.invokestatic 25, 3) := at_349
theorem b0_d352 : decode b0.bs 352 = .ok (.istore 18, 2) := at_352
theorem b0_d354 : decode b0.bs 354 = .ok (.new 33, 3) := at_354
theorem b0_d357 : decode b0.bs 357 = .ok (.dup, 1) := at_357
theorem b0_d358 : decode b0.bs 358 = .ok (.aload 12, 2) := at_358
theorem b0_d360 : decode b0.bs 360 = .ok (.iload_n 2, 1) := at_360
theorem b0_d361 : decode b0.bs 361 = .ok (.invokespecial 35, 3) := at_361
theorem b0_d364 : decode b0.bs 364 = .ok (.astore 19, 2) := at_364
theorem b0_d366 : decode b0.bs 366 = .ok (.new 33, 3) := at_366
theorem b0_d369 : decode b0.bs 369 = .ok (.dup, 1) := at_369
theorem b0_d370 : decode b0.bs 370 = .ok (.aload 11, 2) := at_370
theorem b0_d372 : decode b0.bs 372 = .ok (.iload_n 1, 1) := at_372
theorem b0_d373 : decode b0.bs 373 = .ok (.invokespecial 35, 3) := at_373
theorem b0_d376 : decode b0.bs 376 = .ok (.astore 20, 2) := at_376
theorem b0_d378 : decode b0.bs 378 = .ok (.aload 20, 2) := at_378
theorem b0_d380 : decode b0.bs 380 = .ok (.aload 13, 2) := at_380
theorem b0_d382 : decode b0.bs 382 = .ok (.aload 19, 2) := at_382
theorem b0_d384 : decode b0.bs 384 = .ok (.invokevirtual 38, 3) := at_384
theorem b0_d387 : decode b0.bs 387 = .ok (.astore 21, 2) := at_387
theorem b0_d389 : decode b0.bs 389 = .ok (.iload 18, 2) := at_389
theorem b0_d391 : decode b0.bs 391 = .ok (.iload 16, 2) := at_391
theorem b0_d393 : decode b0.bs 393 = .ok (.if_icmp .ne 32, 3) := at_393
theorem b0_d396 : decode b0.bs 396 = .ok (.aload 21, 2) := at_396
theorem b0_d398 : decode b0.bs 398 = .ok (.ifnull 27, 3) := at_398
theorem b0_d401 : decode b0.bs 401 = .ok (.new 11, 3) := at_401
theorem b0_d404 : decode b0.bs 404 = .ok (.dup, 1) := at_404
theorem b0_d405 : decode b0.bs 405 = .ok (.aload 17, 2) := at_405
theorem b0_d407 : decode b0.bs 407 = .ok (.invokespecial 16, 3) := at_407
theorem b0_d410 : decode b0.bs 410 = .ok (.aload 21, 2) := at_410
theorem b0_d412 : decode b0.bs 412 = .ok (.invokevirtual 42, 3) := at_412
theorem b0_d415 : decode b0.bs 415 = .ok (.invokevirtual 48, 3) := at_415
theorem b0_d418 : decode b0.bs 418 = .ok (.ifCond .eq 7, 3) := at_418
theorem b0_d421 : decode b0.bs 421 = .ok (.iconst 1, 1) := at_421
theorem b0_d422 : decode b0.bs 422 = .ok (.goto 4, 3) := at_422
theorem b0_d425 : decode b0.bs 425 = .ok (.iconst 0, 1) := at_425
theorem b0_d426 : decode b0.bs 426 = .ok (.ireturn, 1) := at_426
theorem b0_pd : parseMethodDescriptor "(IIII)Z" = some ⟨[.int, .int, .int, .int], (some .boolean)⟩ := by decide +kernel
theorem b0_pn : plainFor b0.y = true := plainFor_of_name (show plainName "com/example/gridtally/gridtally/engine/OriginRefuseSecondPinLaw" = true from by first | (simp [plainName, overriddenIn]; done) | decide +kernel)
set_option maxHeartbeats 4000000 in
theorem law (l : Launch) (Z : State) (a0 : Array Value) (hw : ∀ d ∈ tables_1, d.before a0 Z = true) (n0 : Nat) (hEW : EW Z a0 consts_1) (p0 p1 p2 p3 : Int32) (h0 : Heap) (σ : Addr → Prop) (cp : Int32) (Hc : Sta Z Z.heap Road.SN "COMPACT_STRINGS" "Z" (.int cp)) (hcp : ¬ cp = 0) (o1 o2 : Addr) (HO : Sta Z Z.heap "java/lang/Integer" "DigitOnes" "[B" (.ref o1)) (AO : Road.Ary Z Z.heap o1 .byte Road.OnesL) (HT : Sta Z Z.heap "java/lang/Integer" "DigitTens" "[B" (.ref o2)) (AT : Road.Ary Z Z.heap o2 .byte Road.TensL) (hl : l.stackTraces = true) (us : Addr) (Su : Sta Z Z.heap "java/lang/Throwable" "UNASSIGNED_STACK" "[Ljava/lang/StackTraceElement;" (.ref us)) (sp : Value) (hsp : sp.isRef = true) (Sp : Sta Z Z.heap "java/lang/Throwable" "SUPPRESSED_SENTINEL" "Ljava/util/List;" sp) (ws : List Jvm.Cond) :
    Road.Con l Z consts_1 n0 true b0 ws σ #[(.int p0), (.int p1), (.int p2), (.int p3)] h0 (fun v h2 _ => v = some (.int 1)) := by
  refine Road.Con.of b0_pn hEW #[.val (.int p0), .val (.int p1), .val (.int p2), .val (.int p3), .unset, .unset, .unset, .unset, .unset, .unset, .unset, .unset, .unset, .unset, .unset, .unset, .unset, .unset, .unset, .unset, .unset, .unset] (fun m => Road.ent (Road.laid1 rfl (Road.laid1 rfl (Road.laid1 rfl (Road.laid1 rfl Road.laid0)))) (k := 18) rfl rfl) ?_
  intro D hD
  have wS : ∀ d ∈ Bundle.stringAtoms, d.before a0 Z = true := fun d hd => hw d ((by decide +kernel : ∀ d ∈ Bundle.stringAtoms, d ∈ tables_1) d hd)
  refine Road.iloadN 0 b0_d0 rfl ?_
  refine Road.sipush 1 (255 : Int32) b0_d1 rfl ?_
  refine Road.iand 4 b0_d4 ?_
  refine Road.i2c 5 b0_d5 ?_
  refine Road.nameI ?_
  intro c1 hc1
  have latc1 : 0 ≤ c1.toInt ∧ c1.toInt < 256 := by rw [hc1]; exact Road.and255 _
  clear hc1
  refine Road.istore 6 #[.val (.int p0), .val (.int p1), .val (.int p2), .val (.int p3), .val (.int c1), .unset, .unset, .unset, .unset, .unset, .unset, .unset, .unset, .unset, .unset, .unset, .unset, .unset, .unset, .unset, .unset, .unset] b0_d6 rfl ?_
  refine Road.iloadN 8 b0_d8 rfl ?_
  refine Road.bipush 9 (8 : Int32) b0_d9 rfl ?_
  refine Road.iushr 11 b0_d11 ?_
  refine Road.sipush 12 (255 : Int32) b0_d12 rfl ?_
  refine Road.iand 15 b0_d15 ?_
  refine Road.i2c 16 b0_d16 ?_
  refine Road.nameI ?_
  intro c2 hc2
  have latc2 : 0 ≤ c2.toInt ∧ c2.toInt < 256 := by rw [hc2]; exact Road.and255 _
  clear hc2
  refine Road.istore 17 #[.val (.int p0), .val (.int p1), .val (.int p2), .val (.int p3), .val (.int c1), .val (.int c2), .unset, .unset, .unset, .unset, .unset, .unset, .unset, .unset, .unset, .unset, .unset, .unset, .unset, .unset, .unset, .unset] b0_d17 rfl ?_
  refine Road.iloadN 19 b0_d19 rfl ?_
  refine Road.bipush 20 (16 : Int32) b0_d20 rfl ?_
  refine Road.iushr 22 b0_d22 ?_
  refine Road.sipush 23 (255 : Int32) b0_d23 rfl ?_
  refine Road.iand 26 b0_d26 ?_
  refine Road.i2c 27 b0_d27 ?_
  refine Road.nameI ?_
  intro c3 hc3
  have latc3 : 0 ≤ c3.toInt ∧ c3.toInt < 256 := by rw [hc3]; exact Road.and255 _
  clear hc3
  refine Road.istore 28 #[.val (.int p0), .val (.int p1), .val (.int p2), .val (.int p3), .val (.int c1), .val (.int c2), .val (.int c3), .unset, .unset, .unset, .unset, .unset, .unset, .unset, .unset, .unset, .unset, .unset, .unset, .unset, .unset, .unset] b0_d28 rfl ?_
  refine Road.iloadN 30 b0_d30 rfl ?_
  refine Road.bipush 31 (24 : Int32) b0_d31 rfl ?_
  refine Road.iushr 33 b0_d33 ?_
  refine Road.sipush 34 (255 : Int32) b0_d34 rfl ?_
  refine Road.iand 37 b0_d37 ?_
  refine Road.i2c 38 b0_d38 ?_
  refine Road.nameI ?_
  intro c4 hc4
  have latc4 : 0 ≤ c4.toInt ∧ c4.toInt < 256 := by rw [hc4]; exact Road.and255 _
  clear hc4
  refine Road.istore 39 #[.val (.int p0), .val (.int p1), .val (.int p2), .val (.int p3), .val (.int c1), .val (.int c2), .val (.int c3), .val (.int c4), .unset, .unset, .unset, .unset, .unset, .unset, .unset, .unset, .unset, .unset, .unset, .unset, .unset, .unset] b0_d39 rfl ?_
  have hdl1 := Road.dec_le p1
  have hdl2 := Road.dec_le p2
  have J354 : ∀ (h : Heap) (τ : Addr → Prop) (s1 d1 s2 d2 s3 d3 : Addr) (f1 f2 w : Int32) (cs1 cs2 ws : List Int32) (fl fl2 : Int32) (e : Addr), cs1.length ≤ 1 → cs2.length ≤ 1 → ws.length ≤ 2 → Road.Str Z h s1 d1 cs1 → Road.Str Z h s2 d2 cs2 → Road.Str Z h s3 d3 ws → Road.Ary Z h e .char ((cs1 ++ [58] ++ Road.dec p1 ++ [58, 32] ++ (([] : List Int32) ++ ws ++ ([59, 32, 116, 104, 101, 32, 102, 105, 114, 115, 116, 32, 105, 115, 32, 97, 116, 32] : List Int32) ++ (cs2 ++ [58] ++ Road.dec p2))).map Value.int) → Road.Go l Z a0 consts_1 n0 true b0 D (fun v h2 _ => v = some (.int 1)) h τ 8 112 354 #[.val (.int p0), .val (.int p1), .val (.int p2), .val (.int p3), .val (.int c1), .val (.int c2), .val (.int c3), .val (.int c4), .val (.int f1), .val (.int f2), .val (.int w), .val (.ref s1), .val (.ref s2), .val (.ref s3), .val (.int fl), .val (.int fl2), .val (.int (Nat.toInt32 (cs1 ++ [58] ++ Road.dec p1 ++ [58, 32] ++ (([] : List Int32) ++ ws ++ ([59, 32, 116, 104, 101, 32, 102, 105, 114, 115, 116, 32, 105, 115, 32, 97, 116, 32] : List Int32) ++ (cs2 ++ [58] ++ Road.dec p2))).length)), .val (.ref e), .val (.int (Nat.toInt32 (cs1 ++ [58] ++ Road.dec p1 ++ [58, 32] ++ (([] : List Int32) ++ ws ++ ([59, 32, 116, 104, 101, 32, 102, 105, 114, 115, 116, 32, 105, 115, 32, 97, 116, 32] : List Int32) ++ (cs2 ++ [58] ++ Road.dec p2))).length)), .unset, .unset, .unset] [] := by
    intro h τ s1 d1 s2 d2 s3 d3 f1 f2 w cs1 cs2 ws fl fl2 e l1 l2 l3 T1 T2 T3 Ae
    refine Road.new 354 "com/example/gridtally/gridtally/engine/Origin" b0_d354 (wI hw 48 rfl) (wI hw 49 rfl) (wI hw 50 rfl) (ce' := 9) (sl' := 114) rfl rfl (by decide) (by decide) ?_
    intro ob h_1 σ_2 g_3 K_4 lt_5 m_6 s_7 Eob D_8 M_9
    have ne_s1_ob : s1 ≠ ob := Nat.ne_of_lt (Nat.lt_of_lt_of_le T1.lt (Nat.le_of_eq g_3.symm))
    have ne_d1_ob : d1 ≠ ob := Nat.ne_of_lt (Nat.lt_of_lt_of_le T1.ltb (Nat.le_of_eq g_3.symm))
    have ne_s2_ob : s2 ≠ ob := Nat.ne_of_lt (Nat.lt_of_lt_of_le T2.lt (Nat.le_of_eq g_3.symm))
    have ne_d2_ob : d2 ≠ ob := Nat.ne_of_lt (Nat.lt_of_lt_of_le T2.ltb (Nat.le_of_eq g_3.symm))
    have ne_s3_ob : s3 ≠ ob := Nat.ne_of_lt (Nat.lt_of_lt_of_le T3.lt (Nat.le_of_eq g_3.symm))
    have ne_d3_ob : d3 ≠ ob := Nat.ne_of_lt (Nat.lt_of_lt_of_le T3.ltb (Nat.le_of_eq g_3.symm))
    have ne_e_ob : e ≠ ob := Nat.ne_of_lt (Nat.lt_of_lt_of_le Ae.lt (Nat.le_of_eq g_3.symm))
    replace T1 := T1.keep K_4 nin0 nin0
    replace T2 := T2.keep K_4 nin0 nin0
    replace T3 := T3.keep K_4 nin0 nin0
    replace Ae := Ae.keep K_4 nin0
    have Fob := D_8 (Or.inr (wI hw 61 rfl)) (ty := (.object "java/lang/String")) (by decide)
    have Gob := D_8 (Or.inr (wI hw 63 rfl)) (ty := .int) (by decide)
    refine Road.dup 357 b0_d357 ?_
    refine Road.aload 358 b0_d358 rfl ?_
    refine Road.iloadN 360 b0_d360 rfl ?_
    refine Road.callI (B' := bOri) (a := ob) 361 (argsL := [(.ref s2), (.int p2)]) (rest := [(.ref ob)]) 1 b0_d361 (wI hw 51 rfl) (wI hw 52 rfl) (wI hw 50 rfl) (wI hw 53 rfl) rfl rfl (by decide) (cOri l Z a0 hw n0 hEW ob (.ref s2) rfl p2 h_1 σ_2 Eob Fob Gob s_7) (lenOf bOri_pd rfl) rfl rfl rfl (by decide) (by decide) (ce' := 9) (sl' := 114) rfl rfl (by decide) (by decide) ?_
    rintro _ h_10 σ_11 m_12 ⟨rfl, K_13, Fob, Gob⟩
    replace T1 := T1.keep K_13 (ninS ne_s1_ob nin0) (ninS ne_d1_ob nin0)
    replace T2 := T2.keep K_13 (ninS ne_s2_ob nin0) (ninS ne_d2_ob nin0)
    replace T3 := T3.keep K_13 (ninS ne_s3_ob nin0) (ninS ne_d3_ob nin0)
    replace Ae := Ae.keep K_13 (ninS ne_e_ob nin0)
    replace s_7 := m_12 _ s_7
    replace Eob := Eob.keep K_13
    refine Road.astore 364 #[.val (.int p0), .val (.int p1), .val (.int p2), .val (.int p3), .val (.int c1), .val (.int c2), .val (.int c3), .val (.int c4), .val (.int f1), .val (.int f2), .val (.int w), .val (.ref s1), .val (.ref s2), .val (.ref s3), .val (.int fl), .val (.int fl2), .val (.int (Nat.toInt32 (cs1 ++ [58] ++ Road.dec p1 ++ [58, 32] ++ (([] : List Int32) ++ ws ++ ([59, 32, 116, 104, 101, 32, 102, 105, 114, 115, 116, 32, 105, 115, 32, 97, 116, 32] : List Int32) ++ (cs2 ++ [58] ++ Road.dec p2))).length)), .val (.ref e), .val (.int (Nat.toInt32 (cs1 ++ [58] ++ Road.dec p1 ++ [58, 32] ++ (([] : List Int32) ++ ws ++ ([59, 32, 116, 104, 101, 32, 102, 105, 114, 115, 116, 32, 105, 115, 32, 97, 116, 32] : List Int32) ++ (cs2 ++ [58] ++ Road.dec p2))).length)), .val (.ref ob), .unset, .unset] b0_d364 rfl ?_
    refine Road.new 366 "com/example/gridtally/gridtally/engine/Origin" b0_d366 (wI hw 48 rfl) (wI hw 49 rfl) (wI hw 50 rfl) (ce' := 10) (sl' := 116) rfl rfl (by decide) (by decide) ?_
    intro oa h_15 σ_16 g_17 K_18 lt_19 m_20 s_21 Eoa D_22 M_23
    have ne_s1_oa : s1 ≠ oa := Nat.ne_of_lt (Nat.lt_of_lt_of_le T1.lt (Nat.le_of_eq g_17.symm))
    have ne_d1_oa : d1 ≠ oa := Nat.ne_of_lt (Nat.lt_of_lt_of_le T1.ltb (Nat.le_of_eq g_17.symm))
    have ne_s2_oa : s2 ≠ oa := Nat.ne_of_lt (Nat.lt_of_lt_of_le T2.lt (Nat.le_of_eq g_17.symm))
    have ne_d2_oa : d2 ≠ oa := Nat.ne_of_lt (Nat.lt_of_lt_of_le T2.ltb (Nat.le_of_eq g_17.symm))
    have ne_s3_oa : s3 ≠ oa := Nat.ne_of_lt (Nat.lt_of_lt_of_le T3.lt (Nat.le_of_eq g_17.symm))
    have ne_d3_oa : d3 ≠ oa := Nat.ne_of_lt (Nat.lt_of_lt_of_le T3.ltb (Nat.le_of_eq g_17.symm))
    have ne_e_oa : e ≠ oa := Nat.ne_of_lt (Nat.lt_of_lt_of_le Ae.lt (Nat.le_of_eq g_17.symm))
    have ne_ob_oa : ob ≠ oa := Nat.ne_of_lt (Nat.lt_of_lt_of_le Eob.lt (Nat.le_of_eq g_17.symm))
    replace T1 := T1.keep K_18 nin0 nin0
    replace T2 := T2.keep K_18 nin0 nin0
    replace T3 := T3.keep K_18 nin0 nin0
    replace Ae := Ae.keep K_18 nin0
    replace Eob := Eob.keep K_18
    replace Fob := Fob.keep K_18 nin0
    replace Gob := Gob.keep K_18 nin0
    replace s_7 := m_20 _ s_7
    have Foa := D_22 (Or.inr (wI hw 61 rfl)) (ty := (.object "java/lang/String")) (by decide)
    have Goa := D_22 (Or.inr (wI hw 63 rfl)) (ty := .int) (by decide)
    refine Road.dup 369 b0_d369 ?_
    refine Road.aload 370 b0_d370 rfl ?_
    refine Road.iloadN 372 b0_d372 rfl ?_
    refine Road.callI (B' := bOri) (a := oa) 373 (argsL := [(.ref s1), (.int p1)]) (rest := [(.ref oa)]) 1 b0_d373 (wI hw 51 rfl) (wI hw 52 rfl) (wI hw 50 rfl) (wI hw 53 rfl) rfl rfl (by decide) (cOri l Z a0 hw n0 hEW oa (.ref s1) rfl p1 h_15 σ_16 Eoa Foa Goa s_21) (lenOf bOri_pd rfl) rfl rfl rfl (by decide) (by decide) (ce' := 10) (sl' := 116) rfl rfl (by decide) (by decide) ?_
    rintro _ h_24 σ_25 m_26 ⟨rfl, K_27, Foa, Goa⟩
    replace T1 := T1.keep K_27 (ninS ne_s1_oa nin0) (ninS ne_d1_oa nin0)
    replace T2 := T2.keep K_27 (ninS ne_s2_oa nin0) (ninS ne_d2_oa nin0)
    replace T3 := T3.keep K_27 (ninS ne_s3_oa nin0) (ninS ne_d3_oa nin0)
    replace Ae := Ae.keep K_27 (ninS ne_e_oa nin0)
    replace Eob := Eob.keep K_27
    replace Fob := Fob.keep K_27 (ninS ne_ob_oa nin0)
    replace Gob := Gob.keep K_27 (ninS ne_ob_oa nin0)
    replace s_7 := m_26 _ s_7
    replace s_21 := m_26 _ s_21
    replace Eoa := Eoa.keep K_27
    refine Road.astore 376 #[.val (.int p0), .val (.int p1), .val (.int p2), .val (.int p3), .val (.int c1), .val (.int c2), .val (.int c3), .val (.int c4), .val (.int f1), .val (.int f2), .val (.int w), .val (.ref s1), .val (.ref s2), .val (.ref s3), .val (.int fl), .val (.int fl2), .val (.int (Nat.toInt32 (cs1 ++ [58] ++ Road.dec p1 ++ [58, 32] ++ (([] : List Int32) ++ ws ++ ([59, 32, 116, 104, 101, 32, 102, 105, 114, 115, 116, 32, 105, 115, 32, 97, 116, 32] : List Int32) ++ (cs2 ++ [58] ++ Road.dec p2))).length)), .val (.ref e), .val (.int (Nat.toInt32 (cs1 ++ [58] ++ Road.dec p1 ++ [58, 32] ++ (([] : List Int32) ++ ws ++ ([59, 32, 116, 104, 101, 32, 102, 105, 114, 115, 116, 32, 105, 115, 32, 97, 116, 32] : List Int32) ++ (cs2 ++ [58] ++ Road.dec p2))).length)), .val (.ref ob), .val (.ref oa), .unset] b0_d376 rfl ?_
    refine Road.aload 378 b0_d378 rfl ?_
    refine Road.aload 380 b0_d380 rfl ?_
    refine Road.aload 382 b0_d382 rfl ?_
    refine Road.callV (B' := bRf2) (a := oa) 384 (argsL := [(.ref s3), (.ref ob)]) (rest := []) "com/example/gridtally/gridtally/engine/Origin" 0 b0_d384 (wI hw 64 rfl) (wI hw 65 rfl) (fun vm hz => Road.notFace_sib (args := #[]) (mv (s := D.s.setVm vm) hz (wI hw 67 rfl)) rfl) (wI hw 67 rfl) (wI hw 66 rfl) (wI hw 50 rfl) (wI hw 68 rfl) (by decide) Eoa (cRf2 l Z a0 hw n0 hEW oa s1 d1 s3 d3 cs1 ws p1 ob s2 d2 cs2 p2 h_24 σ_25 Eoa Foa Goa T1 T3 l1 l3 hl us Su sp hsp Sp Eob Fob Gob T2 l2 cp Hc hcp o1 o2 HO AO HT AT) (lenOf bRf2_pd rfl) rfl rfl rfl (by decide) (by decide) (ce' := 41) (sl' := 3626) rfl rfl (by decide) (by decide) ?_
    rintro _ h_30 σ_31 m_32 ⟨ex, m, d, rfl, Ee, K_33, Fm, M⟩
    replace Ae := Ae.keep K_33 nin0
    replace s_7 := m_32 _ s_7
    replace s_21 := m_32 _ s_21
    refine Road.astore 387 #[.val (.int p0), .val (.int p1), .val (.int p2), .val (.int p3), .val (.int c1), .val (.int c2), .val (.int c3), .val (.int c4), .val (.int f1), .val (.int f2), .val (.int w), .val (.ref s1), .val (.ref s2), .val (.ref s3), .val (.int fl), .val (.int fl2), .val (.int (Nat.toInt32 (cs1 ++ [58] ++ Road.dec p1 ++ [58, 32] ++ (([] : List Int32) ++ ws ++ ([59, 32, 116, 104, 101, 32, 102, 105, 114, 115, 116, 32, 105, 115, 32, 97, 116, 32] : List Int32) ++ (cs2 ++ [58] ++ Road.dec p2))).length)), .val (.ref e), .val (.int (Nat.toInt32 (cs1 ++ [58] ++ Road.dec p1 ++ [58, 32] ++ (([] : List Int32) ++ ws ++ ([59, 32, 116, 104, 101, 32, 102, 105, 114, 115, 116, 32, 105, 115, 32, 97, 116, 32] : List Int32) ++ (cs2 ++ [58] ++ Road.dec p2))).length)), .val (.ref ob), .val (.ref oa), .val (.ref ex)] b0_d387 rfl ?_
    refine Road.iload 389 b0_d389 rfl ?_
    refine Road.iload 391 b0_d391 rfl ?_
    refine Road.icmp_ne 393 425 b0_d393 rfl (fun q => absurd q (by simp)) (fun hc393 => ?_)
    refine Road.aload 396 b0_d396 rfl ?_
    refine Road.ifnull 398 425 rfl b0_d398 rfl (fun q => absurd q (by simp)) (fun hc398 => ?_)
    refine Road.new 401 "java/lang/String" b0_d401 (wI hw 297 rfl) (wI hw 3 rfl) (wI hw 2 rfl) (ce' := 42) (sl' := 3630) rfl rfl (by decide) (by decide) ?_
    intro t h_36 σ_37 g_38 K_39 lt_40 m_41 s_42 Et D_43 M_44
    have ne_e_t : e ≠ t := Nat.ne_of_lt (Nat.lt_of_lt_of_le Ae.lt (Nat.le_of_eq g_38.symm))
    have ne_ex_t : ex ≠ t := Nat.ne_of_lt (Nat.lt_of_lt_of_le Ee.lt (Nat.le_of_eq g_38.symm))
    have ne_m_t : m ≠ t := Nat.ne_of_lt (Nat.lt_of_lt_of_le M.lt (Nat.le_of_eq g_38.symm))
    have ne_d_t : d ≠ t := Nat.ne_of_lt (Nat.lt_of_lt_of_le M.ltb (Nat.le_of_eq g_38.symm))
    replace Ae := Ae.keep K_39 nin0
    replace Ee := Ee.keep K_39
    replace Fm := Fm.keep K_39 nin0
    replace M := M.keep K_39 nin0 nin0
    replace s_7 := m_41 _ s_7
    replace s_21 := m_41 _ s_21
    have Ct := D_43 (Or.inr (wI hw 6 rfl)) (ty := .byte) (by decide)
    have Vt := D_43 (Or.inr (wI hw 5 rfl)) (ty := (.array .byte)) (by decide)
    refine Road.dup 404 b0_d404 ?_
    refine Road.aload 405 b0_d405 rfl ?_
    have hlt : ∀ c ∈ (cs1 ++ [58] ++ Road.dec p1 ++ [58, 32] ++ (([] : List Int32) ++ ws ++ ([59, 32, 116, 104, 101, 32, 102, 105, 114, 115, 116, 32, 105, 115, 32, 97, 116, 32] : List Int32) ++ (cs2 ++ [58] ++ Road.dec p2))), 0 ≤ c.toInt ∧ c.toInt < 256 := by
      have g1 := T1.2.2.2.2; have g2 := T2.2.2.2.2; have g3 := T3.2.2.2.2; have g4 := Road.dec_lat p1; have g5 := Road.dec_lat p2
      have g6 : ∀ c ∈ (([59, 32, 116, 104, 101, 32, 102, 105, 114, 115, 116, 32, 105, 115, 32, 97, 116, 32] : List Int32) : List Int32), 0 ≤ c.toInt ∧ c.toInt < 256 := by decide
      have g7 : (0 : Int) ≤ (58 : Int32).toInt ∧ (58 : Int32).toInt < 256 := by decide
      have g8 : (0 : Int) ≤ (32 : Int32).toInt ∧ (32 : Int32).toInt < 256 := by decide
      intro c hc
      rcases List.mem_append.mp hc with hc | hc
      · rcases List.mem_append.mp hc with hc | hc
        · rcases List.mem_append.mp hc with hc | hc
          · rcases List.mem_append.mp hc with hc | hc
            · exact g1 c hc
            · cases List.mem_singleton.mp hc; exact g7
          · exact g4 c hc
        · simp only [List.mem_cons, List.not_mem_nil, or_false] at hc; rcases hc with rfl | rfl <;> assumption
      · rcases List.mem_append.mp hc with hc | hc
        · rcases List.mem_append.mp hc with hc | hc
          · rcases List.mem_append.mp hc with hc | hc
            · cases hc
            · exact g3 c hc
          · exact g6 c hc
        · rcases List.mem_append.mp hc with hc | hc
          · rcases List.mem_append.mp hc with hc | hc
            · exact g2 c hc
            · cases List.mem_singleton.mp hc; exact g7
          · exact g5 c hc
    refine Road.callI (B' := bStr1) (a := t) 407 (argsL := [(.ref e)]) (rest := [(.ref t)]) 1 b0_d407 (wI hw 298 rfl) (wI hw 299 rfl) (wI hw 2 rfl) (wI hw 300 rfl) rfl rfl (by decide) (cStr1 l Z a0 hw n0 hEW t e (cs1 ++ [58] ++ Road.dec p1 ++ [58, 32] ++ (([] : List Int32) ++ ws ++ ([59, 32, 116, 104, 101, 32, 102, 105, 114, 115, 116, 32, 105, 115, 32, 97, 116, 32] : List Int32) ++ (cs2 ++ [58] ++ Road.dec p2))) h_36 σ_37 Et Ct Vt Ae (by simp only [List.length_append, List.length_cons, List.length_nil]; omega) hlt s_42 cp Hc hcp (by simp)) (lenOf bStr1_pd rfl) rfl rfl rfl (by decide) (by decide) (ce' := 43) (sl' := 3678) rfl rfl (by decide) (by decide) ?_
    rintro _ h_45 σ_46 m_47 ⟨rfl, K_48, dt, St, Nt⟩
    replace Ae := Ae.keep K_48 (ninS ne_e_t nin0)
    replace Ee := Ee.keep K_48
    replace Fm := Fm.keep K_48 (ninS ne_ex_t nin0)
    replace M := M.keep K_48 (ninS ne_m_t nin0) (ninS ne_d_t nin0)
    replace s_7 := m_47 _ s_7
    replace s_21 := m_47 _ s_21
    replace s_42 := m_47 _ s_42
    refine Road.aload 410 b0_d410 rfl ?_
    refine Road.callU (B' := bgM) (a := ex) 412 (argsL := []) (rest := [(.ref t)]) "com/example/gridtally/gridtally/engine/RefusedInputException" "java/lang/Throwable" 1 b0_d412 (wI hw 314 rfl) (wI hw 315 rfl) (wI hw 316 rfl) (by decide) (wI hw 318 rfl) (wI hw 317 rfl) (wI hw 258 rfl) (wI hw 319 rfl) Ee (cgM l Z a0 hw n0 hEW ex (.ref m) h_45 σ_46 rfl Fm) (lenOf bgM_pd rfl) rfl rfl rfl (by decide) (by decide) (ce' := 43) (sl' := 3678) rfl rfl (by decide) (by decide) ?_
    rintro _ h_52 σ_53 m_54 ⟨rfl, rfl⟩
    refine Road.Go.weaken (σ' := σ_46) m_54 (Nat.le_refl _) (Nat.le_refl _) ?_
    refine Road.callV (B' := bEq) (a := t) 415 (argsL := [(.ref m)]) (rest := []) "java/lang/String" 0 b0_d415 (wI hw 320 rfl) (wI hw 321 rfl) (fun vm hz => Road.notFace_sib (args := #[]) (mv (s := D.s.setVm vm) hz (wI hw 100 rfl)) rfl) (wI hw 323 rfl) (wI hw 322 rfl) (wI hw 2 rfl) (wI hw 324 rfl) (by decide) St.1 (cEq l Z a0 hw n0 hEW t dt m d (cs1 ++ [58] ++ Road.dec p1 ++ [58, 32] ++ (([] : List Int32) ++ ws ++ ([59, 32, 116, 104, 101, 32, 102, 105, 114, 115, 116, 32, 105, 115, 32, 97, 116, 32] : List Int32) ++ (cs2 ++ [58] ++ Road.dec p2))) (cs1 ++ [58] ++ Road.dec p1 ++ [58, 32] ++ (([] : List Int32) ++ ws ++ ([59, 32, 116, 104, 101, 32, 102, 105, 114, 115, 116, 32, 105, 115, 32, 97, 116, 32] : List Int32) ++ (cs2 ++ [58] ++ Road.dec p2))) h_45 σ_46 St M cp Hc hcp) (lenOf bEq_pd rfl) rfl rfl rfl (by decide) (by decide) (ce' := 43) (sl' := 3678) rfl rfl (by decide) (by decide) ?_
    rintro _ h_56 σ_57 m_58 ⟨rfl, rfl⟩
    refine Road.Go.weaken (σ' := σ_46) m_58 (Nat.le_refl _) (Nat.le_refl _) ?_
    refine Road.nameI ?_
    intro z_60 hz_60
    obtain rfl : z_60 = (1 : Int32) := by rw [hz_60]; rw [if_pos rfl]
    refine Road.if_eq 418 425 b0_d418 rfl (fun q => absurd q (by decide)) (fun hc418 => ?_)
    refine Road.iconst 421 (1 : Int32) b0_d421 rfl ?_
    refine Road.goto 422 426 b0_d422 rfl ?_
    exact Road.iret 426 1 b0_d426 (t := .boolean) rfl (by simp) rfl (by decide) (by decide) (fun σ' m => rfl)
  have J334 : ∀ (h : Heap) (τ : Addr → Prop) (s1 d1 s2 d2 s3 d3 : Addr) (f1 f2 w : Int32) (cs1 cs2 ws : List Int32) (fl fl2 : Int32) (e : Addr) (X u : List Int32), (f1 = 0 ∧ cs1 = [c1] ∨ f1 = 1 ∧ cs1 = []) → (f2 = 0 ∧ cs2 = [c2] ∨ f2 = 1 ∧ cs2 = []) → (w = 0 ∧ ws = [] ∨ w = 1 ∧ ws = [c3] ∨ w = 2 ∧ ws = [c3, c4]) → Road.Str Z h s1 d1 cs1 → Road.Str Z h s2 d2 cs2 → Road.Str Z h s3 d3 ws → (s1 ≠ e ∧ d1 ≠ e ∧ s2 ≠ e ∧ d2 ≠ e ∧ s3 ≠ e ∧ d3 ≠ e) → τ e → X = (cs1 ++ [58] ++ Road.dec p1 ++ [58, 32] ++ (([] : List Int32) ++ ws ++ ([59, 32, 116, 104, 101, 32, 102, 105, 114, 115, 116, 32, 105, 115, 32, 97, 116, 32] : List Int32) ++ (cs2 ++ [58] ++ Road.dec p2))) → Road.Ary Z h e .char (u.map Value.int ++ List.replicate (X.length - u.length) (Value.int 0)) → u ++ ([58] ++ Road.dec p2) = X → Road.Go l Z a0 consts_1 n0 true b0 D (fun v h2 _ => v = some (.int 1)) h τ 8 112 334 #[.val (.int p0), .val (.int p1), .val (.int p2), .val (.int p3), .val (.int c1), .val (.int c2), .val (.int c3), .val (.int c4), .val (.int f1), .val (.int f2), .val (.int w), .val (.ref s1), .val (.ref s2), .val (.ref s3), .val (.int fl), .val (.int fl2), .val (.int (Nat.toInt32 X.length)), .val (.ref e), .val (.int (Nat.toInt32 u.length)), .unset, .unset, .unset] [] := by
    intro h τ s1 d1 s2 d2 s3 d3 f1 f2 w cs1 cs2 ws fl fl2 e X u e1 e2 e3 T1 T2 T3 nes se hX A hu
    obtain ⟨y1, y2, y3, y4, y5, y6⟩ := id nes
    have l1 : cs1.length ≤ 1 := by rcases e1 with ⟨_, rfl⟩ | ⟨_, rfl⟩ <;> simp
    have l2 : cs2.length ≤ 1 := by rcases e2 with ⟨_, rfl⟩ | ⟨_, rfl⟩ <;> simp
    have l3 : ws.length ≤ 2 := by rcases e3 with ⟨_, rfl⟩ | ⟨_, rfl⟩ | ⟨_, rfl⟩ <;> simp
    have hul := congrArg List.length hu
    simp only [List.length_append, List.length_cons, List.length_nil] at hul
    have hXl := congrArg List.length hX
    simp only [List.length_append, List.length_cons, List.length_nil] at hXl
    refine Road.aload 334 b0_d334 rfl ?_
    refine Road.iload 336 b0_d336 rfl ?_
    refine Road.iinc 338 (1) #[.val (.int p0), .val (.int p1), .val (.int p2), .val (.int p3), .val (.int c1), .val (.int c2), .val (.int c3), .val (.int c4), .val (.int f1), .val (.int f2), .val (.int w), .val (.ref s1), .val (.ref s2), .val (.ref s3), .val (.int fl), .val (.int fl2), .val (.int (Nat.toInt32 X.length)), .val (.ref e), .val (.int ((Nat.toInt32 u.length) + 1)), .unset, .unset, .unset] b0_d338 rfl rfl rfl ?_
    refine Road.bipush 341 (58 : Int32) b0_d341 rfl ?_
    refine Road.castore 343 u.length (58 : Int32) b0_d343 A (Road.n32 (by omega)) (by simp only [List.length_append, List.length_map, List.length_replicate]; omega) rfl se ?_
    intro h_61 K_62 A_63
    replace T1 := T1.keep K_62 (ninS y1 nin0) (ninS y2 nin0)
    replace T2 := T2.keep K_62 (ninS y3 nin0) (ninS y4 nin0)
    replace T3 := T3.keep K_62 (ninS y5 nin0) (ninS y6 nin0)
    replace A := A_63
    rw [Road.buf_set (by omega : u.length < X.length)] at A
    obtain ⟨u1, hu1⟩ : ∃ u_, u_ = u ++ [(58 : Int32)] := ⟨_, rfl⟩
    have hn1 : u1.length = u.length + 1 := by rw [hu1, List.length_append]; try rfl
    rw [← hu1] at A
    rw [show (((Nat.toInt32 u.length) + 1) : Int32) = (Nat.toInt32 u1.length) from by rw [hn1]; exact Road.succ32 _]
    refine Road.aload 344 b0_d344 rfl ?_
    refine Road.iload 346 b0_d346 rfl ?_
    refine Road.iloadN 348 b0_d348 rfl ?_
    refine Road.callS (B' := bPti) 349 (argsL := [(.ref e), (.int (Nat.toInt32 u1.length)), (.int p2)]) (rest := []) 0 b0_d349 (wI hw 39 rfl) (wI hw 40 rfl) (wI hw 32 rfl) (wI hw 41 rfl) (by decide) (cPti l Z a0 hw n0 hEW e u1 (X.length - (u.length + 1)) p2 h_61 τ A (by omega) se) (lenOf bPti_pd rfl) rfl rfl rfl (by decide) (by decide) (ce' := 8) (sl' := 112) rfl rfl (by decide) (by decide) ?_
    rintro _ h_64 σ_65 m_66 ⟨rfl, K_67, A⟩
    replace T1 := T1.keep K_67 (ninS y1 nin0) (ninS y2 nin0)
    replace T2 := T2.keep K_67 (ninS y3 nin0) (ninS y4 nin0)
    replace T3 := T3.keep K_67 (ninS y5 nin0) (ninS y6 nin0)
    replace se := m_66 _ se
    refine Road.istore 352 #[.val (.int p0), .val (.int p1), .val (.int p2), .val (.int p3), .val (.int c1), .val (.int c2), .val (.int c3), .val (.int c4), .val (.int f1), .val (.int f2), .val (.int w), .val (.ref s1), .val (.ref s2), .val (.ref s3), .val (.int fl), .val (.int fl2), .val (.int (Nat.toInt32 X.length)), .val (.ref e), .val (.int (Nat.toInt32 (u1 ++ Road.dec p2).length)), .unset, .unset, .unset] b0_d352 rfl ?_
    rw [Nat.sub_sub] at A
    obtain ⟨u2, hu2⟩ : ∃ u_, u_ = u1 ++ Road.dec p2 := ⟨_, rfl⟩
    have hn2 : u2.length = u1.length + (Road.dec p2).length := by rw [hu2, List.length_append]; try rfl
    rw [← hu2] at A
    rw [show ((Nat.toInt32 (u1 ++ Road.dec p2).length) : Int32) = (Nat.toInt32 u2.length) from by rw [hn2]; rw [List.length_append]; try rfl]
    have hcur : u2 = X := by rw [hu2, hu1, ← hu]; simp only [List.append_assoc, List.cons_append, List.nil_append]
    rw [hcur, show X.length - ((u.length + 1) + (Road.dec p2).length) = 0 from by omega, List.replicate_zero, List.append_nil] at A
    rw [hcur]
    subst hX
    exact J354 h_64 σ_65 s1 d1 s2 d2 s3 d3 f1 f2 w cs1 cs2 ws fl fl2 e l1 l2 l3 T1 T2 T3 A
  have J319 : ∀ (h : Heap) (τ : Addr → Prop) (s1 d1 s2 d2 s3 d3 : Addr) (f1 f2 w : Int32) (cs1 cs2 ws : List Int32) (fl fl2 : Int32) (e : Addr) (X u : List Int32), (f1 = 0 ∧ cs1 = [c1] ∨ f1 = 1 ∧ cs1 = []) → (f2 = 0 ∧ cs2 = [c2] ∨ f2 = 1 ∧ cs2 = []) → (w = 0 ∧ ws = [] ∨ w = 1 ∧ ws = [c3] ∨ w = 2 ∧ ws = [c3, c4]) → Road.Str Z h s1 d1 cs1 → Road.Str Z h s2 d2 cs2 → Road.Str Z h s3 d3 ws → (s1 ≠ e ∧ d1 ≠ e ∧ s2 ≠ e ∧ d2 ≠ e ∧ s3 ≠ e ∧ d3 ≠ e) → τ e → X = (cs1 ++ [58] ++ Road.dec p1 ++ [58, 32] ++ (([] : List Int32) ++ ws ++ ([59, 32, 116, 104, 101, 32, 102, 105, 114, 115, 116, 32, 105, 115, 32, 97, 116, 32] : List Int32) ++ (cs2 ++ [58] ++ Road.dec p2))) → Road.Ary Z h e .char (u.map Value.int ++ List.replicate (X.length - u.length) (Value.int 0)) → u ++ (cs2 ++ ([58] ++ Road.dec p2)) = X → Road.Go l Z a0 consts_1 n0 true b0 D (fun v h2 _ => v = some (.int 1)) h τ 8 112 319 #[.val (.int p0), .val (.int p1), .val (.int p2), .val (.int p3), .val (.int c1), .val (.int c2), .val (.int c3), .val (.int c4), .val (.int f1), .val (.int f2), .val (.int w), .val (.ref s1), .val (.ref s2), .val (.ref s3), .val (.int fl), .val (.int fl2), .val (.int (Nat.toInt32 X.length)), .val (.ref e), .val (.int (Nat.toInt32 u.length)), .unset, .unset, .unset] [] := by
    intro h τ s1 d1 s2 d2 s3 d3 f1 f2 w cs1 cs2 ws fl fl2 e X u e1 e2 e3 T1 T2 T3 nes se hX A hu
    obtain ⟨y1, y2, y3, y4, y5, y6⟩ := id nes
    have l1 : cs1.length ≤ 1 := by rcases e1 with ⟨_, rfl⟩ | ⟨_, rfl⟩ <;> simp
    have l2 : cs2.length ≤ 1 := by rcases e2 with ⟨_, rfl⟩ | ⟨_, rfl⟩ <;> simp
    have l3 : ws.length ≤ 2 := by rcases e3 with ⟨_, rfl⟩ | ⟨_, rfl⟩ | ⟨_, rfl⟩ <;> simp
    have hul := congrArg List.length hu
    simp only [List.length_append, List.length_cons, List.length_nil] at hul
    have hXl := congrArg List.length hX
    simp only [List.length_append, List.length_cons, List.length_nil] at hXl
    have e2x := e2
    rcases e2 with ⟨rfl, rfl⟩ | ⟨rfl, rfl⟩
    · skip
      refine Road.iload 319 b0_d319 rfl ?_
      refine Road.if_ne 321 334 b0_d321 rfl (fun q => absurd q (by decide)) (fun hc321 => ?_)
      refine Road.aload 324 b0_d324 rfl ?_
      refine Road.iload 326 b0_d326 rfl ?_
      refine Road.iinc 328 (1) #[.val (.int p0), .val (.int p1), .val (.int p2), .val (.int p3), .val (.int c1), .val (.int c2), .val (.int c3), .val (.int c4), .val (.int f1), .val (.int (0 : Int32)), .val (.int w), .val (.ref s1), .val (.ref s2), .val (.ref s3), .val (.int fl), .val (.int fl2), .val (.int (Nat.toInt32 X.length)), .val (.ref e), .val (.int ((Nat.toInt32 u.length) + 1)), .unset, .unset, .unset] b0_d328 rfl rfl rfl ?_
      refine Road.iload 331 b0_d331 rfl ?_
      refine Road.castore 333 u.length c2 b0_d333 A (Road.n32 (by omega)) (by simp only [List.length_append, List.length_map, List.length_replicate]; omega) (Road.nar_lat latc2) se ?_
      intro h_69 K_70 A_71
      replace T1 := T1.keep K_70 (ninS y1 nin0) (ninS y2 nin0)
      replace T2 := T2.keep K_70 (ninS y3 nin0) (ninS y4 nin0)
      replace T3 := T3.keep K_70 (ninS y5 nin0) (ninS y6 nin0)
      replace A := A_71
      rw [Road.buf_set (by omega : u.length < X.length)] at A
      obtain ⟨u1, hu1⟩ : ∃ u_, u_ = u ++ [c2] := ⟨_, rfl⟩
      have hn1 : u1.length = u.length + 1 := by rw [hu1, List.length_append]; try rfl
      rw [← hu1] at A
      rw [show (((Nat.toInt32 u.length) + 1) : Int32) = (Nat.toInt32 u1.length) from by rw [hn1]; exact Road.succ32 _]
      rw [show (u.length + 1) = u1.length from by omega] at A
      exact J334 h_69 τ s1 d1 s2 d2 s3 d3 f1 0 w cs1 [c2] ws fl fl2 e X u1 e1 e2x e3 T1 T2 T3 nes se hX A (by rw [hu1, ← hu]; simp only [List.append_assoc, List.cons_append, List.nil_append])
    · skip
      refine Road.iload 319 b0_d319 rfl ?_
      refine Road.if_ne 321 334 b0_d321 rfl (fun hc321 => ?_) (fun q => absurd q (by decide))
      exact J334 h τ s1 d1 s2 d2 s3 d3 f1 1 w cs1 [] ws fl fl2 e X u e1 e2x e3 T1 T2 T3 nes se hX A (by simpa using hu)
  have J310 : ∀ (h : Heap) (τ : Addr → Prop) (s1 d1 s2 d2 s3 d3 : Addr) (f1 f2 w : Int32) (cs1 cs2 ws : List Int32) (fl fl2 : Int32) (e : Addr) (X u : List Int32), (f1 = 0 ∧ cs1 = [c1] ∨ f1 = 1 ∧ cs1 = []) → (f2 = 0 ∧ cs2 = [c2] ∨ f2 = 1 ∧ cs2 = []) → (w = 0 ∧ ws = [] ∨ w = 1 ∧ ws = [c3] ∨ w = 2 ∧ ws = [c3, c4]) → Road.Str Z h s1 d1 cs1 → Road.Str Z h s2 d2 cs2 → Road.Str Z h s3 d3 ws → (s1 ≠ e ∧ d1 ≠ e ∧ s2 ≠ e ∧ d2 ≠ e ∧ s3 ≠ e ∧ d3 ≠ e) → τ e → X = (cs1 ++ [58] ++ Road.dec p1 ++ [58, 32] ++ (([] : List Int32) ++ ws ++ ([59, 32, 116, 104, 101, 32, 102, 105, 114, 115, 116, 32, 105, 115, 32, 97, 116, 32] : List Int32) ++ (cs2 ++ [58] ++ Road.dec p2))) → Road.Ary Z h e .char (u.map Value.int ++ List.replicate (X.length - u.length) (Value.int 0)) → u ++ (([59, 32, 116, 104, 101, 32, 102, 105, 114, 115, 116, 32, 105, 115, 32, 97, 116, 32] : List Int32) ++ (cs2 ++ ([58] ++ Road.dec p2))) = X → Road.Go l Z a0 consts_1 n0 true b0 D (fun v h2 _ => v = some (.int 1)) h τ 8 112 310 #[.val (.int p0), .val (.int p1), .val (.int p2), .val (.int p3), .val (.int c1), .val (.int c2), .val (.int c3), .val (.int c4), .val (.int f1), .val (.int f2), .val (.int w), .val (.ref s1), .val (.ref s2), .val (.ref s3), .val (.int fl), .val (.int fl2), .val (.int (Nat.toInt32 X.length)), .val (.ref e), .val (.int (Nat.toInt32 u.length)), .unset, .unset, .unset] [] := by
    intro h τ s1 d1 s2 d2 s3 d3 f1 f2 w cs1 cs2 ws fl fl2 e X u e1 e2 e3 T1 T2 T3 nes se hX A hu
    obtain ⟨y1, y2, y3, y4, y5, y6⟩ := id nes
    have l1 : cs1.length ≤ 1 := by rcases e1 with ⟨_, rfl⟩ | ⟨_, rfl⟩ <;> simp
    have l2 : cs2.length ≤ 1 := by rcases e2 with ⟨_, rfl⟩ | ⟨_, rfl⟩ <;> simp
    have l3 : ws.length ≤ 2 := by rcases e3 with ⟨_, rfl⟩ | ⟨_, rfl⟩ | ⟨_, rfl⟩ <;> simp
    have hul := congrArg List.length hu
    simp only [List.length_append, List.length_cons, List.length_nil] at hul
    have hXl := congrArg List.length hX
    simp only [List.length_append, List.length_cons, List.length_nil] at hXl
    refine Road.aload 310 b0_d310 rfl ?_
    refine Road.iload 312 b0_d312 rfl ?_
    refine Road.callS (B' := bPfa) 314 (argsL := [(.ref e), (.int (Nat.toInt32 u.length))]) (rest := []) 0 b0_d314 (wI hw 45 rfl) (wI hw 46 rfl) (wI hw 32 rfl) (wI hw 47 rfl) (by decide) (cPfa l Z a0 hw n0 hEW e u (X.length - u.length) h τ A (by omega) se) (lenOf bPfa_pd rfl) rfl rfl rfl (by decide) (by decide) (ce' := 8) (sl' := 112) rfl rfl (by decide) (by decide) ?_
    rintro _ h_72 σ_73 m_74 ⟨rfl, K_75, A⟩
    replace T1 := T1.keep K_75 (ninS y1 nin0) (ninS y2 nin0)
    replace T2 := T2.keep K_75 (ninS y3 nin0) (ninS y4 nin0)
    replace T3 := T3.keep K_75 (ninS y5 nin0) (ninS y6 nin0)
    replace se := m_74 _ se
    refine Road.istore 317 #[.val (.int p0), .val (.int p1), .val (.int p2), .val (.int p3), .val (.int c1), .val (.int c2), .val (.int c3), .val (.int c4), .val (.int f1), .val (.int f2), .val (.int w), .val (.ref s1), .val (.ref s2), .val (.ref s3), .val (.int fl), .val (.int fl2), .val (.int (Nat.toInt32 X.length)), .val (.ref e), .val (.int (Nat.toInt32 (u ++ ([59, 32, 116, 104, 101, 32, 102, 105, 114, 115, 116, 32, 105, 115, 32, 97, 116, 32] : List Int32)).length)), .unset, .unset, .unset] b0_d317 rfl ?_
    rw [Nat.sub_sub] at A
    obtain ⟨u1, hu1⟩ : ∃ u_, u_ = u ++ ([59, 32, 116, 104, 101, 32, 102, 105, 114, 115, 116, 32, 105, 115, 32, 97, 116, 32] : List Int32) := ⟨_, rfl⟩
    have hn1 : u1.length = u.length + 18 := by rw [hu1, List.length_append]; try rfl
    rw [← hu1] at A
    rw [show ((Nat.toInt32 (u ++ ([59, 32, 116, 104, 101, 32, 102, 105, 114, 115, 116, 32, 105, 115, 32, 97, 116, 32] : List Int32)).length) : Int32) = (Nat.toInt32 u1.length) from by rw [hn1]; rw [List.length_append]; try rfl]
    rw [show (u.length + 18) = u1.length from by omega] at A
    exact J319 h_72 σ_73 s1 d1 s2 d2 s3 d3 f1 f2 w cs1 cs2 ws fl fl2 e X u1 e1 e2 e3 T1 T2 T3 nes se hX A (by rw [hu1, ← hu]; simp only [List.append_assoc, List.cons_append, List.nil_append])
  have J278 : ∀ (h : Heap) (τ : Addr → Prop) (s1 d1 s2 d2 s3 d3 : Addr) (f1 f2 w : Int32) (cs1 cs2 ws : List Int32) (fl fl2 : Int32) (e : Addr) (X u : List Int32), (f1 = 0 ∧ cs1 = [c1] ∨ f1 = 1 ∧ cs1 = []) → (f2 = 0 ∧ cs2 = [c2] ∨ f2 = 1 ∧ cs2 = []) → (w = 0 ∧ ws = [] ∨ w = 1 ∧ ws = [c3] ∨ w = 2 ∧ ws = [c3, c4]) → Road.Str Z h s1 d1 cs1 → Road.Str Z h s2 d2 cs2 → Road.Str Z h s3 d3 ws → (s1 ≠ e ∧ d1 ≠ e ∧ s2 ≠ e ∧ d2 ≠ e ∧ s3 ≠ e ∧ d3 ≠ e) → τ e → X = (cs1 ++ [58] ++ Road.dec p1 ++ [58, 32] ++ (([] : List Int32) ++ ws ++ ([59, 32, 116, 104, 101, 32, 102, 105, 114, 115, 116, 32, 105, 115, 32, 97, 116, 32] : List Int32) ++ (cs2 ++ [58] ++ Road.dec p2))) → Road.Ary Z h e .char (u.map Value.int ++ List.replicate (X.length - u.length) (Value.int 0)) → u ++ (ws ++ (([59, 32, 116, 104, 101, 32, 102, 105, 114, 115, 116, 32, 105, 115, 32, 97, 116, 32] : List Int32) ++ (cs2 ++ ([58] ++ Road.dec p2)))) = X → Road.Go l Z a0 consts_1 n0 true b0 D (fun v h2 _ => v = some (.int 1)) h τ 8 112 278 #[.val (.int p0), .val (.int p1), .val (.int p2), .val (.int p3), .val (.int c1), .val (.int c2), .val (.int c3), .val (.int c4), .val (.int f1), .val (.int f2), .val (.int w), .val (.ref s1), .val (.ref s2), .val (.ref s3), .val (.int fl), .val (.int fl2), .val (.int (Nat.toInt32 X.length)), .val (.ref e), .val (.int (Nat.toInt32 u.length)), .unset, .unset, .unset] [] := by
    intro h τ s1 d1 s2 d2 s3 d3 f1 f2 w cs1 cs2 ws fl fl2 e X u e1 e2 e3 T1 T2 T3 nes se hX A hu
    obtain ⟨y1, y2, y3, y4, y5, y6⟩ := id nes
    have l1 : cs1.length ≤ 1 := by rcases e1 with ⟨_, rfl⟩ | ⟨_, rfl⟩ <;> simp
    have l2 : cs2.length ≤ 1 := by rcases e2 with ⟨_, rfl⟩ | ⟨_, rfl⟩ <;> simp
    have l3 : ws.length ≤ 2 := by rcases e3 with ⟨_, rfl⟩ | ⟨_, rfl⟩ | ⟨_, rfl⟩ <;> simp
    have hul := congrArg List.length hu
    simp only [List.length_append, List.length_cons, List.length_nil] at hul
    have hXl := congrArg List.length hX
    simp only [List.length_append, List.length_cons, List.length_nil] at hXl
    have e3x := e3
    rcases e3 with ⟨rfl, rfl⟩ | ⟨rfl, rfl⟩ | ⟨rfl, rfl⟩
    · skip
      refine Road.iload 278 b0_d278 rfl ?_
      refine Road.iconst 280 (1 : Int32) b0_d280 rfl ?_
      refine Road.icmp_lt 281 294 b0_d281 rfl (fun hc281 => ?_) (fun q => absurd q (by decide))
      refine Road.iload 294 b0_d294 rfl ?_
      refine Road.iconst 296 (2 : Int32) b0_d296 rfl ?_
      refine Road.icmp_ne 297 310 b0_d297 rfl (fun hc297 => ?_) (fun q => absurd q (by decide))
      exact J310 h τ s1 d1 s2 d2 s3 d3 f1 f2 0 cs1 cs2 [] fl fl2 e X u e1 e2 e3x T1 T2 T3 nes se hX A (by simpa using hu)
    · skip
      refine Road.iload 278 b0_d278 rfl ?_
      refine Road.iconst 280 (1 : Int32) b0_d280 rfl ?_
      refine Road.icmp_lt 281 294 b0_d281 rfl (fun q => absurd q (by decide)) (fun hc281 => ?_)
      refine Road.aload 284 b0_d284 rfl ?_
      refine Road.iload 286 b0_d286 rfl ?_
      refine Road.iinc 288 (1) #[.val (.int p0), .val (.int p1), .val (.int p2), .val (.int p3), .val (.int c1), .val (.int c2), .val (.int c3), .val (.int c4), .val (.int f1), .val (.int f2), .val (.int (1 : Int32)), .val (.ref s1), .val (.ref s2), .val (.ref s3), .val (.int fl), .val (.int fl2), .val (.int (Nat.toInt32 X.length)), .val (.ref e), .val (.int ((Nat.toInt32 u.length) + 1)), .unset, .unset, .unset] b0_d288 rfl rfl rfl ?_
      refine Road.iload 291 b0_d291 rfl ?_
      refine Road.castore 293 u.length c3 b0_d293 A (Road.n32 (by omega)) (by simp only [List.length_append, List.length_map, List.length_replicate]; omega) (Road.nar_lat latc3) se ?_
      intro h_77 K_78 A_79
      replace T1 := T1.keep K_78 (ninS y1 nin0) (ninS y2 nin0)
      replace T2 := T2.keep K_78 (ninS y3 nin0) (ninS y4 nin0)
      replace T3 := T3.keep K_78 (ninS y5 nin0) (ninS y6 nin0)
      replace A := A_79
      rw [Road.buf_set (by omega : u.length < X.length)] at A
      obtain ⟨u1, hu1⟩ : ∃ u_, u_ = u ++ [c3] := ⟨_, rfl⟩
      have hn1 : u1.length = u.length + 1 := by rw [hu1, List.length_append]; try rfl
      rw [← hu1] at A
      rw [show (((Nat.toInt32 u.length) + 1) : Int32) = (Nat.toInt32 u1.length) from by rw [hn1]; exact Road.succ32 _]
      refine Road.iload 294 b0_d294 rfl ?_
      refine Road.iconst 296 (2 : Int32) b0_d296 rfl ?_
      refine Road.icmp_ne 297 310 b0_d297 rfl (fun hc297 => ?_) (fun q => absurd q (by decide))
      rw [show (u.length + 1) = u1.length from by omega] at A
      exact J310 h_77 τ s1 d1 s2 d2 s3 d3 f1 f2 1 cs1 cs2 [c3] fl fl2 e X u1 e1 e2 e3x T1 T2 T3 nes se hX A (by rw [hu1, ← hu]; simp only [List.append_assoc, List.cons_append, List.nil_append])
    · skip
      refine Road.iload 278 b0_d278 rfl ?_
      refine Road.iconst 280 (1 : Int32) b0_d280 rfl ?_
      refine Road.icmp_lt 281 294 b0_d281 rfl (fun q => absurd q (by decide)) (fun hc281 => ?_)
      refine Road.aload 284 b0_d284 rfl ?_
      refine Road.iload 286 b0_d286 rfl ?_
      refine Road.iinc 288 (1) #[.val (.int p0), .val (.int p1), .val (.int p2), .val (.int p3), .val (.int c1), .val (.int c2), .val (.int c3), .val (.int c4), .val (.int f1), .val (.int f2), .val (.int (2 : Int32)), .val (.ref s1), .val (.ref s2), .val (.ref s3), .val (.int fl), .val (.int fl2), .val (.int (Nat.toInt32 X.length)), .val (.ref e), .val (.int ((Nat.toInt32 u.length) + 1)), .unset, .unset, .unset] b0_d288 rfl rfl rfl ?_
      refine Road.iload 291 b0_d291 rfl ?_
      refine Road.castore 293 u.length c3 b0_d293 A (Road.n32 (by omega)) (by simp only [List.length_append, List.length_map, List.length_replicate]; omega) (Road.nar_lat latc3) se ?_
      intro h_80 K_81 A_82
      replace T1 := T1.keep K_81 (ninS y1 nin0) (ninS y2 nin0)
      replace T2 := T2.keep K_81 (ninS y3 nin0) (ninS y4 nin0)
      replace T3 := T3.keep K_81 (ninS y5 nin0) (ninS y6 nin0)
      replace A := A_82
      rw [Road.buf_set (by omega : u.length < X.length)] at A
      obtain ⟨u1, hu1⟩ : ∃ u_, u_ = u ++ [c3] := ⟨_, rfl⟩
      have hn1 : u1.length = u.length + 1 := by rw [hu1, List.length_append]; try rfl
      rw [← hu1] at A
      rw [show (((Nat.toInt32 u.length) + 1) : Int32) = (Nat.toInt32 u1.length) from by rw [hn1]; exact Road.succ32 _]
      refine Road.iload 294 b0_d294 rfl ?_
      refine Road.iconst 296 (2 : Int32) b0_d296 rfl ?_
      refine Road.icmp_ne 297 310 b0_d297 rfl (fun q => absurd q (by decide)) (fun hc297 => ?_)
      refine Road.aload 300 b0_d300 rfl ?_
      refine Road.iload 302 b0_d302 rfl ?_
      refine Road.iinc 304 (1) #[.val (.int p0), .val (.int p1), .val (.int p2), .val (.int p3), .val (.int c1), .val (.int c2), .val (.int c3), .val (.int c4), .val (.int f1), .val (.int f2), .val (.int (2 : Int32)), .val (.ref s1), .val (.ref s2), .val (.ref s3), .val (.int fl), .val (.int fl2), .val (.int (Nat.toInt32 X.length)), .val (.ref e), .val (.int ((Nat.toInt32 u1.length) + 1)), .unset, .unset, .unset] b0_d304 rfl rfl rfl ?_
      refine Road.iload 307 b0_d307 rfl ?_
      refine Road.castore 309 u1.length c4 b0_d309 A (Road.n32 (by omega)) (by simp only [List.length_append, List.length_map, List.length_replicate]; omega) (Road.nar_lat latc4) se ?_
      intro h_83 K_84 A_85
      replace T1 := T1.keep K_84 (ninS y1 nin0) (ninS y2 nin0)
      replace T2 := T2.keep K_84 (ninS y3 nin0) (ninS y4 nin0)
      replace T3 := T3.keep K_84 (ninS y5 nin0) (ninS y6 nin0)
      replace A := A_85
      rw [Road.buf_set (by omega : (u.length + 1) < X.length)] at A
      obtain ⟨u2, hu2⟩ : ∃ u_, u_ = u1 ++ [c4] := ⟨_, rfl⟩
      have hn2 : u2.length = u1.length + 1 := by rw [hu2, List.length_append]; try rfl
      rw [← hu2] at A
      rw [show (((Nat.toInt32 u1.length) + 1) : Int32) = (Nat.toInt32 u2.length) from by rw [hn2]; exact Road.succ32 _]
      rw [show ((u.length + 1) + 1) = u2.length from by omega] at A
      exact J310 h_83 τ s1 d1 s2 d2 s3 d3 f1 f2 2 cs1 cs2 [c3, c4] fl fl2 e X u2 e1 e2 e3x T1 T2 T3 nes se hX A (by rw [hu2, hu1, ← hu]; simp only [List.append_assoc, List.cons_append, List.nil_append])
  have J238 : ∀ (h : Heap) (τ : Addr → Prop) (s1 d1 s2 d2 s3 d3 : Addr) (f1 f2 w : Int32) (cs1 cs2 ws : List Int32) (fl fl2 : Int32) (e : Addr) (X u : List Int32), (f1 = 0 ∧ cs1 = [c1] ∨ f1 = 1 ∧ cs1 = []) → (f2 = 0 ∧ cs2 = [c2] ∨ f2 = 1 ∧ cs2 = []) → (w = 0 ∧ ws = [] ∨ w = 1 ∧ ws = [c3] ∨ w = 2 ∧ ws = [c3, c4]) → Road.Str Z h s1 d1 cs1 → Road.Str Z h s2 d2 cs2 → Road.Str Z h s3 d3 ws → (s1 ≠ e ∧ d1 ≠ e ∧ s2 ≠ e ∧ d2 ≠ e ∧ s3 ≠ e ∧ d3 ≠ e) → τ e → X = (cs1 ++ [58] ++ Road.dec p1 ++ [58, 32] ++ (([] : List Int32) ++ ws ++ ([59, 32, 116, 104, 101, 32, 102, 105, 114, 115, 116, 32, 105, 115, 32, 97, 116, 32] : List Int32) ++ (cs2 ++ [58] ++ Road.dec p2))) → Road.Ary Z h e .char (u.map Value.int ++ List.replicate (X.length - u.length) (Value.int 0)) → u ++ ([58] ++ Road.dec p1 ++ [58, 32] ++ (ws ++ (([59, 32, 116, 104, 101, 32, 102, 105, 114, 115, 116, 32, 105, 115, 32, 97, 116, 32] : List Int32) ++ (cs2 ++ ([58] ++ Road.dec p2))))) = X → Road.Go l Z a0 consts_1 n0 true b0 D (fun v h2 _ => v = some (.int 1)) h τ 8 112 238 #[.val (.int p0), .val (.int p1), .val (.int p2), .val (.int p3), .val (.int c1), .val (.int c2), .val (.int c3), .val (.int c4), .val (.int f1), .val (.int f2), .val (.int w), .val (.ref s1), .val (.ref s2), .val (.ref s3), .val (.int fl), .val (.int fl2), .val (.int (Nat.toInt32 X.length)), .val (.ref e), .val (.int (Nat.toInt32 u.length)), .unset, .unset, .unset] [] := by
    intro h τ s1 d1 s2 d2 s3 d3 f1 f2 w cs1 cs2 ws fl fl2 e X u e1 e2 e3 T1 T2 T3 nes se hX A hu
    obtain ⟨y1, y2, y3, y4, y5, y6⟩ := id nes
    have l1 : cs1.length ≤ 1 := by rcases e1 with ⟨_, rfl⟩ | ⟨_, rfl⟩ <;> simp
    have l2 : cs2.length ≤ 1 := by rcases e2 with ⟨_, rfl⟩ | ⟨_, rfl⟩ <;> simp
    have l3 : ws.length ≤ 2 := by rcases e3 with ⟨_, rfl⟩ | ⟨_, rfl⟩ | ⟨_, rfl⟩ <;> simp
    have hul := congrArg List.length hu
    simp only [List.length_append, List.length_cons, List.length_nil] at hul
    have hXl := congrArg List.length hX
    simp only [List.length_append, List.length_cons, List.length_nil] at hXl
    refine Road.aload 238 b0_d238 rfl ?_
    refine Road.iload 240 b0_d240 rfl ?_
    refine Road.iinc 242 (1) #[.val (.int p0), .val (.int p1), .val (.int p2), .val (.int p3), .val (.int c1), .val (.int c2), .val (.int c3), .val (.int c4), .val (.int f1), .val (.int f2), .val (.int w), .val (.ref s1), .val (.ref s2), .val (.ref s3), .val (.int fl), .val (.int fl2), .val (.int (Nat.toInt32 X.length)), .val (.ref e), .val (.int ((Nat.toInt32 u.length) + 1)), .unset, .unset, .unset] b0_d242 rfl rfl rfl ?_
    refine Road.bipush 245 (58 : Int32) b0_d245 rfl ?_
    refine Road.castore 247 u.length (58 : Int32) b0_d247 A (Road.n32 (by omega)) (by simp only [List.length_append, List.length_map, List.length_replicate]; omega) rfl se ?_
    intro h_86 K_87 A_88
    replace T1 := T1.keep K_87 (ninS y1 nin0) (ninS y2 nin0)
    replace T2 := T2.keep K_87 (ninS y3 nin0) (ninS y4 nin0)
    replace T3 := T3.keep K_87 (ninS y5 nin0) (ninS y6 nin0)
    replace A := A_88
    rw [Road.buf_set (by omega : u.length < X.length)] at A
    obtain ⟨u1, hu1⟩ : ∃ u_, u_ = u ++ [(58 : Int32)] := ⟨_, rfl⟩
    have hn1 : u1.length = u.length + 1 := by rw [hu1, List.length_append]; try rfl
    rw [← hu1] at A
    rw [show (((Nat.toInt32 u.length) + 1) : Int32) = (Nat.toInt32 u1.length) from by rw [hn1]; exact Road.succ32 _]
    refine Road.aload 248 b0_d248 rfl ?_
    refine Road.iload 250 b0_d250 rfl ?_
    refine Road.iloadN 252 b0_d252 rfl ?_
    refine Road.callS (B' := bPti) 253 (argsL := [(.ref e), (.int (Nat.toInt32 u1.length)), (.int p1)]) (rest := []) 0 b0_d253 (wI hw 39 rfl) (wI hw 40 rfl) (wI hw 32 rfl) (wI hw 41 rfl) (by decide) (cPti l Z a0 hw n0 hEW e u1 (X.length - (u.length + 1)) p1 h_86 τ A (by omega) se) (lenOf bPti_pd rfl) rfl rfl rfl (by decide) (by decide) (ce' := 8) (sl' := 112) rfl rfl (by decide) (by decide) ?_
    rintro _ h_89 σ_90 m_91 ⟨rfl, K_92, A⟩
    replace T1 := T1.keep K_92 (ninS y1 nin0) (ninS y2 nin0)
    replace T2 := T2.keep K_92 (ninS y3 nin0) (ninS y4 nin0)
    replace T3 := T3.keep K_92 (ninS y5 nin0) (ninS y6 nin0)
    replace se := m_91 _ se
    refine Road.istore 256 #[.val (.int p0), .val (.int p1), .val (.int p2), .val (.int p3), .val (.int c1), .val (.int c2), .val (.int c3), .val (.int c4), .val (.int f1), .val (.int f2), .val (.int w), .val (.ref s1), .val (.ref s2), .val (.ref s3), .val (.int fl), .val (.int fl2), .val (.int (Nat.toInt32 X.length)), .val (.ref e), .val (.int (Nat.toInt32 (u1 ++ Road.dec p1).length)), .unset, .unset, .unset] b0_d256 rfl ?_
    rw [Nat.sub_sub] at A
    obtain ⟨u2, hu2⟩ : ∃ u_, u_ = u1 ++ Road.dec p1 := ⟨_, rfl⟩
    have hn2 : u2.length = u1.length + (Road.dec p1).length := by rw [hu2, List.length_append]; try rfl
    rw [← hu2] at A
    rw [show ((Nat.toInt32 (u1 ++ Road.dec p1).length) : Int32) = (Nat.toInt32 u2.length) from by rw [hn2]; rw [List.length_append]; try rfl]
    refine Road.aload 258 b0_d258 rfl ?_
    refine Road.iload 260 b0_d260 rfl ?_
    refine Road.iinc 262 (1) #[.val (.int p0), .val (.int p1), .val (.int p2), .val (.int p3), .val (.int c1), .val (.int c2), .val (.int c3), .val (.int c4), .val (.int f1), .val (.int f2), .val (.int w), .val (.ref s1), .val (.ref s2), .val (.ref s3), .val (.int fl), .val (.int fl2), .val (.int (Nat.toInt32 X.length)), .val (.ref e), .val (.int ((Nat.toInt32 u2.length) + 1)), .unset, .unset, .unset] b0_d262 rfl rfl rfl ?_
    refine Road.bipush 265 (58 : Int32) b0_d265 rfl ?_
    refine Road.castore 267 u2.length (58 : Int32) b0_d267 A (Road.n32 (by omega)) (by simp only [List.length_append, List.length_map, List.length_replicate]; omega) rfl se ?_
    intro h_94 K_95 A_96
    replace T1 := T1.keep K_95 (ninS y1 nin0) (ninS y2 nin0)
    replace T2 := T2.keep K_95 (ninS y3 nin0) (ninS y4 nin0)
    replace T3 := T3.keep K_95 (ninS y5 nin0) (ninS y6 nin0)
    replace A := A_96
    rw [Road.buf_set (by omega : ((u.length + 1) + (Road.dec p1).length) < X.length)] at A
    obtain ⟨u3, hu3⟩ : ∃ u_, u_ = u2 ++ [(58 : Int32)] := ⟨_, rfl⟩
    have hn3 : u3.length = u2.length + 1 := by rw [hu3, List.length_append]; try rfl
    rw [← hu3] at A
    rw [show (((Nat.toInt32 u2.length) + 1) : Int32) = (Nat.toInt32 u3.length) from by rw [hn3]; exact Road.succ32 _]
    refine Road.aload 268 b0_d268 rfl ?_
    refine Road.iload 270 b0_d270 rfl ?_
    refine Road.iinc 272 (1) #[.val (.int p0), .val (.int p1), .val (.int p2), .val (.int p3), .val (.int c1), .val (.int c2), .val (.int c3), .val (.int c4), .val (.int f1), .val (.int f2), .val (.int w), .val (.ref s1), .val (.ref s2), .val (.ref s3), .val (.int fl), .val (.int fl2), .val (.int (Nat.toInt32 X.length)), .val (.ref e), .val (.int ((Nat.toInt32 u3.length) + 1)), .unset, .unset, .unset] b0_d272 rfl rfl rfl ?_
    refine Road.bipush 275 (32 : Int32) b0_d275 rfl ?_
    refine Road.castore 277 u3.length (32 : Int32) b0_d277 A (Road.n32 (by omega)) (by simp only [List.length_append, List.length_map, List.length_replicate]; omega) rfl se ?_
    intro h_97 K_98 A_99
    replace T1 := T1.keep K_98 (ninS y1 nin0) (ninS y2 nin0)
    replace T2 := T2.keep K_98 (ninS y3 nin0) (ninS y4 nin0)
    replace T3 := T3.keep K_98 (ninS y5 nin0) (ninS y6 nin0)
    replace A := A_99
    rw [Road.buf_set (by omega : (((u.length + 1) + (Road.dec p1).length) + 1) < X.length)] at A
    obtain ⟨u4, hu4⟩ : ∃ u_, u_ = u3 ++ [(32 : Int32)] := ⟨_, rfl⟩
    have hn4 : u4.length = u3.length + 1 := by rw [hu4, List.length_append]; try rfl
    rw [← hu4] at A
    rw [show (((Nat.toInt32 u3.length) + 1) : Int32) = (Nat.toInt32 u4.length) from by rw [hn4]; exact Road.succ32 _]
    rw [show ((((u.length + 1) + (Road.dec p1).length) + 1) + 1) = u4.length from by omega] at A
    exact J278 h_97 σ_90 s1 d1 s2 d2 s3 d3 f1 f2 w cs1 cs2 ws fl fl2 e X u4 e1 e2 e3 T1 T2 T3 nes se hX A (by rw [hu4, hu3, hu2, hu1, ← hu]; simp only [List.append_assoc, List.cons_append, List.nil_append])
  have J223 : ∀ (h : Heap) (τ : Addr → Prop) (s1 d1 s2 d2 s3 d3 : Addr) (f1 f2 w : Int32) (cs1 cs2 ws : List Int32) (fl fl2 : Int32) (e : Addr) (X u : List Int32), (f1 = 0 ∧ cs1 = [c1] ∨ f1 = 1 ∧ cs1 = []) → (f2 = 0 ∧ cs2 = [c2] ∨ f2 = 1 ∧ cs2 = []) → (w = 0 ∧ ws = [] ∨ w = 1 ∧ ws = [c3] ∨ w = 2 ∧ ws = [c3, c4]) → Road.Str Z h s1 d1 cs1 → Road.Str Z h s2 d2 cs2 → Road.Str Z h s3 d3 ws → (s1 ≠ e ∧ d1 ≠ e ∧ s2 ≠ e ∧ d2 ≠ e ∧ s3 ≠ e ∧ d3 ≠ e) → τ e → X = (cs1 ++ [58] ++ Road.dec p1 ++ [58, 32] ++ (([] : List Int32) ++ ws ++ ([59, 32, 116, 104, 101, 32, 102, 105, 114, 115, 116, 32, 105, 115, 32, 97, 116, 32] : List Int32) ++ (cs2 ++ [58] ++ Road.dec p2))) → Road.Ary Z h e .char (u.map Value.int ++ List.replicate (X.length - u.length) (Value.int 0)) → u ++ (cs1 ++ ([58] ++ Road.dec p1 ++ [58, 32] ++ (ws ++ (([59, 32, 116, 104, 101, 32, 102, 105, 114, 115, 116, 32, 105, 115, 32, 97, 116, 32] : List Int32) ++ (cs2 ++ ([58] ++ Road.dec p2)))))) = X → Road.Go l Z a0 consts_1 n0 true b0 D (fun v h2 _ => v = some (.int 1)) h τ 8 112 223 #[.val (.int p0), .val (.int p1), .val (.int p2), .val (.int p3), .val (.int c1), .val (.int c2), .val (.int c3), .val (.int c4), .val (.int f1), .val (.int f2), .val (.int w), .val (.ref s1), .val (.ref s2), .val (.ref s3), .val (.int fl), .val (.int fl2), .val (.int (Nat.toInt32 X.length)), .val (.ref e), .val (.int (Nat.toInt32 u.length)), .unset, .unset, .unset] [] := by
    intro h τ s1 d1 s2 d2 s3 d3 f1 f2 w cs1 cs2 ws fl fl2 e X u e1 e2 e3 T1 T2 T3 nes se hX A hu
    obtain ⟨y1, y2, y3, y4, y5, y6⟩ := id nes
    have l1 : cs1.length ≤ 1 := by rcases e1 with ⟨_, rfl⟩ | ⟨_, rfl⟩ <;> simp
    have l2 : cs2.length ≤ 1 := by rcases e2 with ⟨_, rfl⟩ | ⟨_, rfl⟩ <;> simp
    have l3 : ws.length ≤ 2 := by rcases e3 with ⟨_, rfl⟩ | ⟨_, rfl⟩ | ⟨_, rfl⟩ <;> simp
    have hul := congrArg List.length hu
    simp only [List.length_append, List.length_cons, List.length_nil] at hul
    have hXl := congrArg List.length hX
    simp only [List.length_append, List.length_cons, List.length_nil] at hXl
    have e1x := e1
    rcases e1 with ⟨rfl, rfl⟩ | ⟨rfl, rfl⟩
    · skip
      refine Road.iload 223 b0_d223 rfl ?_
      refine Road.if_ne 225 238 b0_d225 rfl (fun q => absurd q (by decide)) (fun hc225 => ?_)
      refine Road.aload 228 b0_d228 rfl ?_
      refine Road.iload 230 b0_d230 rfl ?_
      refine Road.iinc 232 (1) #[.val (.int p0), .val (.int p1), .val (.int p2), .val (.int p3), .val (.int c1), .val (.int c2), .val (.int c3), .val (.int c4), .val (.int (0 : Int32)), .val (.int f2), .val (.int w), .val (.ref s1), .val (.ref s2), .val (.ref s3), .val (.int fl), .val (.int fl2), .val (.int (Nat.toInt32 X.length)), .val (.ref e), .val (.int ((Nat.toInt32 u.length) + 1)), .unset, .unset, .unset] b0_d232 rfl rfl rfl ?_
      refine Road.iload 235 b0_d235 rfl ?_
      refine Road.castore 237 u.length c1 b0_d237 A (Road.n32 (by omega)) (by simp only [List.length_append, List.length_map, List.length_replicate]; omega) (Road.nar_lat latc1) se ?_
      intro h_100 K_101 A_102
      replace T1 := T1.keep K_101 (ninS y1 nin0) (ninS y2 nin0)
      replace T2 := T2.keep K_101 (ninS y3 nin0) (ninS y4 nin0)
      replace T3 := T3.keep K_101 (ninS y5 nin0) (ninS y6 nin0)
      replace A := A_102
      rw [Road.buf_set (by omega : u.length < X.length)] at A
      obtain ⟨u1, hu1⟩ : ∃ u_, u_ = u ++ [c1] := ⟨_, rfl⟩
      have hn1 : u1.length = u.length + 1 := by rw [hu1, List.length_append]; try rfl
      rw [← hu1] at A
      rw [show (((Nat.toInt32 u.length) + 1) : Int32) = (Nat.toInt32 u1.length) from by rw [hn1]; exact Road.succ32 _]
      rw [show (u.length + 1) = u1.length from by omega] at A
      exact J238 h_100 τ s1 d1 s2 d2 s3 d3 0 f2 w [c1] cs2 ws fl fl2 e X u1 e1x e2 e3 T1 T2 T3 nes se hX A (by rw [hu1, ← hu]; simp only [List.append_assoc, List.cons_append, List.nil_append])
    · skip
      refine Road.iload 223 b0_d223 rfl ?_
      refine Road.if_ne 225 238 b0_d225 rfl (fun hc225 => ?_) (fun q => absurd q (by decide))
      exact J238 h τ s1 d1 s2 d2 s3 d3 1 f2 w [] cs2 ws fl fl2 e X u e1x e2 e3 T1 T2 T3 nes se hX A (by simpa using hu)
  have J185 : ∀ (h : Heap) (τ : Addr → Prop) (s1 d1 s2 d2 s3 d3 : Addr) (f1 f2 w : Int32) (cs1 cs2 ws : List Int32), (f1 = 0 ∧ cs1 = [c1] ∨ f1 = 1 ∧ cs1 = []) → (f2 = 0 ∧ cs2 = [c2] ∨ f2 = 1 ∧ cs2 = []) → (w = 0 ∧ ws = [] ∨ w = 1 ∧ ws = [c3] ∨ w = 2 ∧ ws = [c3, c4]) → Road.Str Z h s1 d1 cs1 → Road.Str Z h s2 d2 cs2 → Road.Str Z h s3 d3 ws → Road.Go l Z a0 consts_1 n0 true b0 D (fun v h2 _ => v = some (.int 1)) h τ 7 64 185 #[.val (.int p0), .val (.int p1), .val (.int p2), .val (.int p3), .val (.int c1), .val (.int c2), .val (.int c3), .val (.int c4), .val (.int f1), .val (.int f2), .val (.int w), .val (.ref s1), .val (.ref s2), .val (.ref s3), .val (.int (Nat.toInt32 cs1.length)), .val (.int (Nat.toInt32 cs2.length)), .unset, .unset, .unset, .unset, .unset, .unset] [] := by
    intro h τ s1 d1 s2 d2 s3 d3 f1 f2 w cs1 cs2 ws e1 e2 e3 T1 T2 T3
    have l1 : cs1.length ≤ 1 := by rcases e1 with ⟨_, rfl⟩ | ⟨_, rfl⟩ <;> simp
    have l2 : cs2.length ≤ 1 := by rcases e2 with ⟨_, rfl⟩ | ⟨_, rfl⟩ <;> simp
    have l3 : w = Nat.toInt32 ws.length ∧ ws.length ≤ 2 := by rcases e3 with ⟨rfl, rfl⟩ | ⟨rfl, rfl⟩ | ⟨rfl, rfl⟩ <;> exact ⟨rfl, by simp⟩
    refine Road.iload 185 b0_d185 rfl ?_
    refine Road.iconst 187 (1 : Int32) b0_d187 rfl ?_
    refine Road.iadd 188 b0_d188 ?_
    refine Road.iloadN 189 b0_d189 rfl ?_
    refine Road.callS (B' := bDcl) 190 (argsL := [(.int p1)]) (rest := [(.int ((Nat.toInt32 cs1.length) + (1 : Int32)))]) 1 b0_d190 (wI hw 30 rfl) (wI hw 31 rfl) (wI hw 32 rfl) (wI hw 33 rfl) (by decide) (cDcl l Z a0 hw n0 hEW p1 h τ) (lenOf bDcl_pd rfl) rfl rfl rfl (by decide) (by decide) (ce' := 7) (sl' := 64) rfl rfl (by decide) (by decide) ?_
    rintro _ h_103 σ_104 m_105 ⟨rfl, rfl⟩
    refine Road.Go.weaken (σ' := τ) m_105 (Nat.le_refl _) (Nat.le_refl _) ?_
    refine Road.iadd 193 b0_d193 ?_
    refine Road.iconst 194 (2 : Int32) b0_d194 rfl ?_
    refine Road.iadd 195 b0_d195 ?_
    refine Road.iload 196 b0_d196 rfl ?_
    refine Road.iadd 198 b0_d198 ?_
    refine Road.bipush 199 (18 : Int32) b0_d199 rfl ?_
    refine Road.iadd 201 b0_d201 ?_
    refine Road.iload 202 b0_d202 rfl ?_
    refine Road.iadd 204 b0_d204 ?_
    refine Road.iconst 205 (1 : Int32) b0_d205 rfl ?_
    refine Road.iadd 206 b0_d206 ?_
    refine Road.iloadN 207 b0_d207 rfl ?_
    refine Road.callS (B' := bDcl) 208 (argsL := [(.int p2)]) (rest := [(.int ((((((((Nat.toInt32 cs1.length) + (1 : Int32)) + (Nat.toInt32 (Road.dec p1).length)) + (2 : Int32)) + w) + (18 : Int32)) + (Nat.toInt32 cs2.length)) + (1 : Int32)))]) 1 b0_d208 (wI hw 30 rfl) (wI hw 31 rfl) (wI hw 32 rfl) (wI hw 33 rfl) (by decide) (cDcl l Z a0 hw n0 hEW p2 h τ) (lenOf bDcl_pd rfl) rfl rfl rfl (by decide) (by decide) (ce' := 7) (sl' := 64) rfl rfl (by decide) (by decide) ?_
    rintro _ h_107 σ_108 m_109 ⟨rfl, rfl⟩
    refine Road.Go.weaken (σ' := τ) m_109 (Nat.le_refl _) (Nat.le_refl _) ?_
    refine Road.iadd 211 b0_d211 ?_
    obtain ⟨X, hX⟩ : ∃ X, X = (cs1 ++ [58] ++ Road.dec p1 ++ [58, 32] ++ (([] : List Int32) ++ ws ++ ([59, 32, 116, 104, 101, 32, 102, 105, 114, 115, 116, 32, 105, 115, 32, 97, 116, 32] : List Int32) ++ (cs2 ++ [58] ++ Road.dec p2))) := ⟨_, rfl⟩
    have hXl := congrArg List.length hX
    simp only [List.length_append, List.length_cons, List.length_nil] at hXl
    refine Road.nameI ?_
    intro z_111 hz_111
    obtain rfl : z_111 = (Nat.toInt32 X.length) := by rw [hz_111]; rw [hXl, l3.1]; simp only [show (1 : Int32) = Nat.toInt32 1 from rfl, show (2 : Int32) = Nat.toInt32 2 from rfl, show (18 : Int32) = Nat.toInt32 18 from rfl, Road.add32n]; congr 1; omega
    refine Road.istore 212 #[.val (.int p0), .val (.int p1), .val (.int p2), .val (.int p3), .val (.int c1), .val (.int c2), .val (.int c3), .val (.int c4), .val (.int f1), .val (.int f2), .val (.int w), .val (.ref s1), .val (.ref s2), .val (.ref s3), .val (.int (Nat.toInt32 cs1.length)), .val (.int (Nat.toInt32 cs2.length)), .val (.int (Nat.toInt32 X.length)), .unset, .unset, .unset, .unset, .unset] b0_d212 rfl ?_
    refine Road.iload 214 b0_d214 rfl ?_
    refine Road.newarray 216 .char X.length 48 b0_d216 rfl (wI hw 38 rfl) (Road.n32 (by omega)) (by omega) (by decide) (ce' := 8) (sl' := 112) rfl rfl (by decide) (by decide) ?_
    intro e h_112 σ_113 g_114 K_115 lt_116 m_117 s_118 A
    have ne_s1_e : s1 ≠ e := Nat.ne_of_lt (Nat.lt_of_lt_of_le T1.lt (Nat.le_of_eq g_114.symm))
    have ne_d1_e : d1 ≠ e := Nat.ne_of_lt (Nat.lt_of_lt_of_le T1.ltb (Nat.le_of_eq g_114.symm))
    have ne_s2_e : s2 ≠ e := Nat.ne_of_lt (Nat.lt_of_lt_of_le T2.lt (Nat.le_of_eq g_114.symm))
    have ne_d2_e : d2 ≠ e := Nat.ne_of_lt (Nat.lt_of_lt_of_le T2.ltb (Nat.le_of_eq g_114.symm))
    have ne_s3_e : s3 ≠ e := Nat.ne_of_lt (Nat.lt_of_lt_of_le T3.lt (Nat.le_of_eq g_114.symm))
    have ne_d3_e : d3 ≠ e := Nat.ne_of_lt (Nat.lt_of_lt_of_le T3.ltb (Nat.le_of_eq g_114.symm))
    replace T1 := T1.keep K_115 nin0 nin0
    replace T2 := T2.keep K_115 nin0 nin0
    replace T3 := T3.keep K_115 nin0 nin0
    refine Road.astore 218 #[.val (.int p0), .val (.int p1), .val (.int p2), .val (.int p3), .val (.int c1), .val (.int c2), .val (.int c3), .val (.int c4), .val (.int f1), .val (.int f2), .val (.int w), .val (.ref s1), .val (.ref s2), .val (.ref s3), .val (.int (Nat.toInt32 cs1.length)), .val (.int (Nat.toInt32 cs2.length)), .val (.int (Nat.toInt32 X.length)), .val (.ref e), .unset, .unset, .unset, .unset] b0_d218 rfl ?_
    refine Road.iconst 220 (0 : Int32) b0_d220 rfl ?_
    refine Road.istore 221 #[.val (.int p0), .val (.int p1), .val (.int p2), .val (.int p3), .val (.int c1), .val (.int c2), .val (.int c3), .val (.int c4), .val (.int f1), .val (.int f2), .val (.int w), .val (.ref s1), .val (.ref s2), .val (.ref s3), .val (.int (Nat.toInt32 cs1.length)), .val (.int (Nat.toInt32 cs2.length)), .val (.int (Nat.toInt32 X.length)), .val (.ref e), .val (.int (0 : Int32)), .unset, .unset, .unset] b0_d221 rfl ?_
    exact J223 h_112 σ_113 s1 d1 s2 d2 s3 d3 f1 f2 w cs1 cs2 ws _ _ e X [] e1 e2 e3 T1 T2 T3 ⟨ne_s1_e, ne_d1_e, ne_s2_e, ne_d2_e, ne_s3_e, ne_d3_e⟩ s_118 hX (by simpa [defaultValue] using A) (by rw [hX]; simp only [List.append_assoc, List.cons_append, List.nil_append])
  have J161 : ∀ (h : Heap) (τ : Addr → Prop) (s1 d1 s2 d2 s3 d3 : Addr) (f1 f2 w : Int32) (cs1 cs2 ws : List Int32), (f1 = 0 ∧ cs1 = [c1] ∨ f1 = 1 ∧ cs1 = []) → (f2 = 0 ∧ cs2 = [c2] ∨ f2 = 1 ∧ cs2 = []) → (w = 0 ∧ ws = [] ∨ w = 1 ∧ ws = [c3] ∨ w = 2 ∧ ws = [c3, c4]) → Road.Str Z h s1 d1 cs1 → Road.Str Z h s2 d2 cs2 → Road.Str Z h s3 d3 ws → Road.Go l Z a0 consts_1 n0 true b0 D (fun v h2 _ => v = some (.int 1)) h τ 7 64 161 #[.val (.int p0), .val (.int p1), .val (.int p2), .val (.int p3), .val (.int c1), .val (.int c2), .val (.int c3), .val (.int c4), .val (.int f1), .val (.int f2), .val (.int w), .val (.ref s1), .val (.ref s2), .val (.ref s3), .unset, .unset, .unset, .unset, .unset, .unset, .unset, .unset] [] := by
    intro h τ s1 d1 s2 d2 s3 d3 f1 f2 w cs1 cs2 ws e1 e2 e3 T1 T2 T3
    have e1x := e1
    have e2x := e2
    rcases e1 with ⟨rfl, rfl⟩ | ⟨rfl, rfl⟩ <;> rcases e2 with ⟨rfl, rfl⟩ | ⟨rfl, rfl⟩
    · skip
      refine Road.iload 161 b0_d161 rfl ?_
      refine Road.if_eq 163 170 b0_d163 rfl (fun hc163 => ?_) (fun q => absurd q (by decide))
      refine Road.iconst 170 (1 : Int32) b0_d170 rfl ?_
      refine Road.istore 171 #[.val (.int p0), .val (.int p1), .val (.int p2), .val (.int p3), .val (.int c1), .val (.int c2), .val (.int c3), .val (.int c4), .val (.int (0 : Int32)), .val (.int (0 : Int32)), .val (.int w), .val (.ref s1), .val (.ref s2), .val (.ref s3), .val (.int (1 : Int32)), .unset, .unset, .unset, .unset, .unset, .unset, .unset] b0_d171 rfl ?_
      refine Road.iload 173 b0_d173 rfl ?_
      refine Road.if_eq 175 182 b0_d175 rfl (fun hc175 => ?_) (fun q => absurd q (by decide))
      refine Road.iconst 182 (1 : Int32) b0_d182 rfl ?_
      refine Road.istore 183 #[.val (.int p0), .val (.int p1), .val (.int p2), .val (.int p3), .val (.int c1), .val (.int c2), .val (.int c3), .val (.int c4), .val (.int (0 : Int32)), .val (.int (0 : Int32)), .val (.int w), .val (.ref s1), .val (.ref s2), .val (.ref s3), .val (.int (1 : Int32)), .val (.int (1 : Int32)), .unset, .unset, .unset, .unset, .unset, .unset] b0_d183 rfl ?_
      exact J185 h τ s1 d1 s2 d2 s3 d3 0 0 w [c1] [c2] ws e1x e2x e3 T1 T2 T3
    · skip
      refine Road.iload 161 b0_d161 rfl ?_
      refine Road.if_eq 163 170 b0_d163 rfl (fun hc163 => ?_) (fun q => absurd q (by decide))
      refine Road.iconst 170 (1 : Int32) b0_d170 rfl ?_
      refine Road.istore 171 #[.val (.int p0), .val (.int p1), .val (.int p2), .val (.int p3), .val (.int c1), .val (.int c2), .val (.int c3), .val (.int c4), .val (.int (0 : Int32)), .val (.int (1 : Int32)), .val (.int w), .val (.ref s1), .val (.ref s2), .val (.ref s3), .val (.int (1 : Int32)), .unset, .unset, .unset, .unset, .unset, .unset, .unset] b0_d171 rfl ?_
      refine Road.iload 173 b0_d173 rfl ?_
      refine Road.if_eq 175 182 b0_d175 rfl (fun q => absurd q (by decide)) (fun hc175 => ?_)
      refine Road.iconst 178 (0 : Int32) b0_d178 rfl ?_
      refine Road.goto 179 183 b0_d179 rfl ?_
      refine Road.istore 183 #[.val (.int p0), .val (.int p1), .val (.int p2), .val (.int p3), .val (.int c1), .val (.int c2), .val (.int c3), .val (.int c4), .val (.int (0 : Int32)), .val (.int (1 : Int32)), .val (.int w), .val (.ref s1), .val (.ref s2), .val (.ref s3), .val (.int (1 : Int32)), .val (.int (0 : Int32)), .unset, .unset, .unset, .unset, .unset, .unset] b0_d183 rfl ?_
      exact J185 h τ s1 d1 s2 d2 s3 d3 0 1 w [c1] [] ws e1x e2x e3 T1 T2 T3
    · skip
      refine Road.iload 161 b0_d161 rfl ?_
      refine Road.if_eq 163 170 b0_d163 rfl (fun q => absurd q (by decide)) (fun hc163 => ?_)
      refine Road.iconst 166 (0 : Int32) b0_d166 rfl ?_
      refine Road.goto 167 171 b0_d167 rfl ?_
      refine Road.istore 171 #[.val (.int p0), .val (.int p1), .val (.int p2), .val (.int p3), .val (.int c1), .val (.int c2), .val (.int c3), .val (.int c4), .val (.int (1 : Int32)), .val (.int (0 : Int32)), .val (.int w), .val (.ref s1), .val (.ref s2), .val (.ref s3), .val (.int (0 : Int32)), .unset, .unset, .unset, .unset, .unset, .unset, .unset] b0_d171 rfl ?_
      refine Road.iload 173 b0_d173 rfl ?_
      refine Road.if_eq 175 182 b0_d175 rfl (fun hc175 => ?_) (fun q => absurd q (by decide))
      refine Road.iconst 182 (1 : Int32) b0_d182 rfl ?_
      refine Road.istore 183 #[.val (.int p0), .val (.int p1), .val (.int p2), .val (.int p3), .val (.int c1), .val (.int c2), .val (.int c3), .val (.int c4), .val (.int (1 : Int32)), .val (.int (0 : Int32)), .val (.int w), .val (.ref s1), .val (.ref s2), .val (.ref s3), .val (.int (0 : Int32)), .val (.int (1 : Int32)), .unset, .unset, .unset, .unset, .unset, .unset] b0_d183 rfl ?_
      exact J185 h τ s1 d1 s2 d2 s3 d3 1 0 w [] [c2] ws e1x e2x e3 T1 T2 T3
    · skip
      refine Road.iload 161 b0_d161 rfl ?_
      refine Road.if_eq 163 170 b0_d163 rfl (fun q => absurd q (by decide)) (fun hc163 => ?_)
      refine Road.iconst 166 (0 : Int32) b0_d166 rfl ?_
      refine Road.goto 167 171 b0_d167 rfl ?_
      refine Road.istore 171 #[.val (.int p0), .val (.int p1), .val (.int p2), .val (.int p3), .val (.int c1), .val (.int c2), .val (.int c3), .val (.int c4), .val (.int (1 : Int32)), .val (.int (1 : Int32)), .val (.int w), .val (.ref s1), .val (.ref s2), .val (.ref s3), .val (.int (0 : Int32)), .unset, .unset, .unset, .unset, .unset, .unset, .unset] b0_d171 rfl ?_
      refine Road.iload 173 b0_d173 rfl ?_
      refine Road.if_eq 175 182 b0_d175 rfl (fun q => absurd q (by decide)) (fun hc175 => ?_)
      refine Road.iconst 178 (0 : Int32) b0_d178 rfl ?_
      refine Road.goto 179 183 b0_d179 rfl ?_
      refine Road.istore 183 #[.val (.int p0), .val (.int p1), .val (.int p2), .val (.int p3), .val (.int c1), .val (.int c2), .val (.int c3), .val (.int c4), .val (.int (1 : Int32)), .val (.int (1 : Int32)), .val (.int w), .val (.ref s1), .val (.ref s2), .val (.ref s3), .val (.int (0 : Int32)), .val (.int (0 : Int32)), .unset, .unset, .unset, .unset, .unset, .unset] b0_d183 rfl ?_
      exact J185 h τ s1 d1 s2 d2 s3 d3 1 1 w [] [] ws e1x e2x e3 T1 T2 T3
  have J111 : ∀ (h : Heap) (τ : Addr → Prop) (s1 d1 s2 d2 : Addr) (f1 f2 w : Int32) (cs1 cs2 : List Int32), (f1 = 0 ∧ cs1 = [c1] ∨ f1 = 1 ∧ cs1 = []) → (f2 = 0 ∧ cs2 = [c2] ∨ f2 = 1 ∧ cs2 = []) → (w = 0 ∨ w = 1 ∨ w = 2) → Road.Str Z h s1 d1 cs1 → Road.Str Z h s2 d2 cs2 → Road.Go l Z a0 consts_1 n0 true b0 D (fun v h2 _ => v = some (.int 1)) h τ 4 10 111 #[.val (.int p0), .val (.int p1), .val (.int p2), .val (.int p3), .val (.int c1), .val (.int c2), .val (.int c3), .val (.int c4), .val (.int f1), .val (.int f2), .val (.int w), .val (.ref s1), .val (.ref s2), .unset, .unset, .unset, .unset, .unset, .unset, .unset, .unset, .unset] [] := by
    intro h τ s1 d1 s2 d2 f1 f2 w cs1 cs2 e1 e2 e3 T1 T2
    rcases e3 with rfl | rfl | rfl
    · skip
      refine Road.iload 111 b0_d111 rfl ?_
      refine Road.if_ne 113 123 b0_d113 rfl (fun q => absurd q (by decide)) (fun hc113 => ?_)
      refine Road.ldcS 116 "" [] 0 b0_d116 (wI hw 1 rfl) wS (List.mem_of_getElem? (i := 2) rfl) (by decide) (by decide +kernel) (by decide) (by decide) (by decide) (ce' := 6) (sl' := 14) rfl rfl (by decide) (by decide) ?_
      intro s3 d3 h_119 σ_120 K_121 m_122 T3 q_123
      replace T1 := T1.keep K_121 nin0 nin0
      replace T2 := T2.keep K_121 nin0 nin0
      refine Road.astore 118 #[.val (.int p0), .val (.int p1), .val (.int p2), .val (.int p3), .val (.int c1), .val (.int c2), .val (.int c3), .val (.int c4), .val (.int f1), .val (.int f2), .val (.int (0 : Int32)), .val (.ref s1), .val (.ref s2), .val (.ref s3), .unset, .unset, .unset, .unset, .unset, .unset, .unset, .unset] b0_d118 rfl ?_
      refine Road.goto 120 161 b0_d120 rfl ?_
      exact Road.Go.weaken (σ' := σ_120) (fun _ q => q) (ce' := 7) (sl' := 64) (by decide) (by decide) (J161 h_119 σ_120 s1 d1 s2 d2 s3 _ f1 f2 0 cs1 cs2 [] e1 e2 (Or.inl ⟨rfl, rfl⟩) T1 T2 T3)
    · skip
      refine Road.iload 111 b0_d111 rfl ?_
      refine Road.if_ne 113 123 b0_d113 rfl (fun hc113 => ?_) (fun q => absurd q (by decide))
      refine Road.iload 123 b0_d123 rfl ?_
      refine Road.iconst 125 (1 : Int32) b0_d125 rfl ?_
      refine Road.icmp_ne 126 139 b0_d126 rfl (fun q => absurd q (by decide)) (fun hc126 => ?_)
      refine Road.iload 129 b0_d129 rfl ?_
      refine Road.callS (B' := bVal) 131 (argsL := [(.int c3)]) (rest := []) 0 b0_d131 (wI hw 9 rfl) (wI hw 10 rfl) (wI hw 2 rfl) (wI hw 11 rfl) (by decide) (cVal l Z a0 hw n0 hEW c3 h τ latc3 cp Hc hcp) (lenOf bVal_pd rfl) rfl rfl rfl (by decide) (by decide) (ce' := 6) (sl' := 15) rfl rfl (by decide) (by decide) ?_
      rintro _ h_125 σ_126 m_127 ⟨s3, d3, rfl, -, -, K_128, T3⟩
      replace T1 := T1.keep K_128 nin0 nin0
      replace T2 := T2.keep K_128 nin0 nin0
      refine Road.astore 134 #[.val (.int p0), .val (.int p1), .val (.int p2), .val (.int p3), .val (.int c1), .val (.int c2), .val (.int c3), .val (.int c4), .val (.int f1), .val (.int f2), .val (.int (1 : Int32)), .val (.ref s1), .val (.ref s2), .val (.ref s3), .unset, .unset, .unset, .unset, .unset, .unset, .unset, .unset] b0_d134 rfl ?_
      refine Road.goto 136 161 b0_d136 rfl ?_
      exact Road.Go.weaken (σ' := σ_126) (fun _ q => q) (ce' := 7) (sl' := 64) (by decide) (by decide) (J161 h_125 σ_126 s1 d1 s2 d2 s3 _ f1 f2 1 cs1 cs2 [c3] e1 e2 (Or.inr (Or.inl ⟨rfl, rfl⟩)) T1 T2 T3)
    · skip
      refine Road.iload 111 b0_d111 rfl ?_
      refine Road.if_ne 113 123 b0_d113 rfl (fun hc113 => ?_) (fun q => absurd q (by decide))
      refine Road.iload 123 b0_d123 rfl ?_
      refine Road.iconst 125 (1 : Int32) b0_d125 rfl ?_
      refine Road.icmp_ne 126 139 b0_d126 rfl (fun hc126 => ?_) (fun q => absurd q (by decide))
      refine Road.new 139 "java/lang/String" b0_d139 (wI hw 297 rfl) (wI hw 3 rfl) (wI hw 2 rfl) (ce' := 5) (sl' := 14) rfl rfl (by decide) (by decide) ?_
      intro s3 h_129 σ_130 g_131 K_132 lt_133 m_134 s_135 Es3 D_136 M_137
      have ne_s1_s3 : s1 ≠ s3 := Nat.ne_of_lt (Nat.lt_of_lt_of_le T1.lt (Nat.le_of_eq g_131.symm))
      have ne_d1_s3 : d1 ≠ s3 := Nat.ne_of_lt (Nat.lt_of_lt_of_le T1.ltb (Nat.le_of_eq g_131.symm))
      have ne_s2_s3 : s2 ≠ s3 := Nat.ne_of_lt (Nat.lt_of_lt_of_le T2.lt (Nat.le_of_eq g_131.symm))
      have ne_d2_s3 : d2 ≠ s3 := Nat.ne_of_lt (Nat.lt_of_lt_of_le T2.ltb (Nat.le_of_eq g_131.symm))
      replace T1 := T1.keep K_132 nin0 nin0
      replace T2 := T2.keep K_132 nin0 nin0
      have Cs3 := D_136 (Or.inr (wI hw 6 rfl)) (ty := .byte) (by decide)
      have Vs3 := D_136 (Or.inr (wI hw 5 rfl)) (ty := (.array .byte)) (by decide)
      refine Road.dup 142 b0_d142 ?_
      refine Road.iconst 143 (2 : Int32) b0_d143 rfl ?_
      refine Road.newarray 144 .char 2 2 b0_d144 rfl (wI hw 38 rfl) (by decide) (by decide) (by decide) (ce' := 6) (sl' := 16) rfl rfl (by decide) (by decide) ?_
      intro ar h_138 σ_139 g_140 K_141 lt_142 m_143 s_144 Aar
      have ne_s1_ar : s1 ≠ ar := Nat.ne_of_lt (Nat.lt_of_lt_of_le T1.lt (Nat.le_of_eq g_140.symm))
      have ne_d1_ar : d1 ≠ ar := Nat.ne_of_lt (Nat.lt_of_lt_of_le T1.ltb (Nat.le_of_eq g_140.symm))
      have ne_s2_ar : s2 ≠ ar := Nat.ne_of_lt (Nat.lt_of_lt_of_le T2.lt (Nat.le_of_eq g_140.symm))
      have ne_d2_ar : d2 ≠ ar := Nat.ne_of_lt (Nat.lt_of_lt_of_le T2.ltb (Nat.le_of_eq g_140.symm))
      have ne_s3_ar : s3 ≠ ar := Nat.ne_of_lt (Nat.lt_of_lt_of_le Es3.lt (Nat.le_of_eq g_140.symm))
      replace T1 := T1.keep K_141 nin0 nin0
      replace T2 := T2.keep K_141 nin0 nin0
      replace Es3 := Es3.keep K_141
      replace Cs3 := Cs3.keep K_141 nin0
      replace Vs3 := Vs3.keep K_141 nin0
      replace s_135 := m_143 _ s_135
      refine Road.dup 146 b0_d146 ?_
      refine Road.iconst 147 (0 : Int32) b0_d147 rfl ?_
      refine Road.iload 148 b0_d148 rfl ?_
      refine Road.castore 150 0 c3 b0_d150 Aar (by decide) (by simp) (Road.nar_lat latc3) s_144 ?_
      intro h_145 K_146 A_147
      replace T1 := T1.keep K_146 (ninS ne_s1_ar nin0) (ninS ne_d1_ar nin0)
      replace T2 := T2.keep K_146 (ninS ne_s2_ar nin0) (ninS ne_d2_ar nin0)
      replace Es3 := Es3.keep K_146
      replace Cs3 := Cs3.keep K_146 (ninS ne_s3_ar nin0)
      replace Vs3 := Vs3.keep K_146 (ninS ne_s3_ar nin0)
      replace Aar := A_147
      refine Road.dup 151 b0_d151 ?_
      refine Road.iconst 152 (1 : Int32) b0_d152 rfl ?_
      refine Road.iload 153 b0_d153 rfl ?_
      refine Road.castore 155 1 c4 b0_d155 Aar (by decide) (by simp) (Road.nar_lat latc4) s_144 ?_
      intro h_148 K_149 A_150
      replace T1 := T1.keep K_149 (ninS ne_s1_ar nin0) (ninS ne_d1_ar nin0)
      replace T2 := T2.keep K_149 (ninS ne_s2_ar nin0) (ninS ne_d2_ar nin0)
      replace Es3 := Es3.keep K_149
      replace Cs3 := Cs3.keep K_149 (ninS ne_s3_ar nin0)
      replace Vs3 := Vs3.keep K_149 (ninS ne_s3_ar nin0)
      replace Aar := A_150
      replace Aar : Road.Ary Z h_148 ar .char (([c3, c4] : List Int32).map .int) := Aar
      refine Road.callI (B' := bStr1) (a := s3) 156 (argsL := [(.ref ar)]) (rest := [(.ref s3)]) 1 b0_d156 (wI hw 298 rfl) (wI hw 299 rfl) (wI hw 2 rfl) (wI hw 300 rfl) rfl rfl (by decide) (cStr1 l Z a0 hw n0 hEW s3 ar [c3, c4] h_148 σ_139 Es3 Cs3 Vs3 Aar (by simp) (by intro c hc; simp only [List.mem_cons, List.not_mem_nil, or_false] at hc; rcases hc with rfl | rfl <;> assumption) s_135 cp Hc hcp (by simp)) (lenOf bStr1_pd rfl) rfl rfl rfl (by decide) (by decide) (ce' := 7) (sl' := 64) rfl rfl (by decide) (by decide) ?_
      rintro _ h_151 σ_152 m_153 ⟨rfl, K_154, ds3, Ss3, Ns3⟩
      replace T1 := T1.keep K_154 (ninS ne_s1_s3 nin0) (ninS ne_d1_s3 nin0)
      replace T2 := T2.keep K_154 (ninS ne_s2_s3 nin0) (ninS ne_d2_s3 nin0)
      replace s_135 := m_153 _ s_135
      replace s_144 := m_153 _ s_144
      have T3 := Ss3
      obtain ⟨d3, rfl⟩ : ∃ d3, d3 = ds3 := ⟨_, rfl⟩
      refine Road.astore 159 #[.val (.int p0), .val (.int p1), .val (.int p2), .val (.int p3), .val (.int c1), .val (.int c2), .val (.int c3), .val (.int c4), .val (.int f1), .val (.int f2), .val (.int (2 : Int32)), .val (.ref s1), .val (.ref s2), .val (.ref s3), .unset, .unset, .unset, .unset, .unset, .unset, .unset, .unset] b0_d159 rfl ?_
      exact Road.Go.weaken (σ' := σ_152) (fun _ q => q) (ce' := 7) (sl' := 64) (by decide) (by decide) (J161 h_151 σ_152 s1 d1 s2 d2 s3 _ f1 f2 2 cs1 cs2 [c3, c4] e1 e2 (Or.inr (Or.inr ⟨rfl, rfl⟩)) T1 T2 Ss3)
  have J94 : ∀ (h : Heap) (τ : Addr → Prop) (s1 d1 : Addr) (f1 f2 w : Int32) (cs1 : List Int32), (f1 = 0 ∧ cs1 = [c1] ∨ f1 = 1 ∧ cs1 = []) → (f2 = 0 ∨ f2 = 1) → (w = 0 ∨ w = 1 ∨ w = 2) → Road.Str Z h s1 d1 cs1 → Road.Go l Z a0 consts_1 n0 true b0 D (fun v h2 _ => v = some (.int 1)) h τ 2 5 94 #[.val (.int p0), .val (.int p1), .val (.int p2), .val (.int p3), .val (.int c1), .val (.int c2), .val (.int c3), .val (.int c4), .val (.int f1), .val (.int f2), .val (.int w), .val (.ref s1), .unset, .unset, .unset, .unset, .unset, .unset, .unset, .unset, .unset, .unset] [] := by
    intro h τ s1 d1 f1 f2 w cs1 e1 e2 e3 T1
    rcases e2 with rfl | rfl
    · skip
      refine Road.iload 94 b0_d94 rfl ?_
      refine Road.if_eq 96 104 b0_d96 rfl (fun hc96 => ?_) (fun q => absurd q (by decide))
      refine Road.iload 104 b0_d104 rfl ?_
      refine Road.callS (B' := bVal) 106 (argsL := [(.int c2)]) (rest := []) 0 b0_d106 (wI hw 9 rfl) (wI hw 10 rfl) (wI hw 2 rfl) (wI hw 11 rfl) (by decide) (cVal l Z a0 hw n0 hEW c2 h τ latc2 cp Hc hcp) (lenOf bVal_pd rfl) rfl rfl rfl (by decide) (by decide) (ce' := 4) (sl' := 10) rfl rfl (by decide) (by decide) ?_
      rintro _ h_157 σ_158 m_159 ⟨s2, d2, rfl, -, -, K_160, T2⟩
      replace T1 := T1.keep K_160 nin0 nin0
      refine Road.astore 109 #[.val (.int p0), .val (.int p1), .val (.int p2), .val (.int p3), .val (.int c1), .val (.int c2), .val (.int c3), .val (.int c4), .val (.int f1), .val (.int (0 : Int32)), .val (.int w), .val (.ref s1), .val (.ref s2), .unset, .unset, .unset, .unset, .unset, .unset, .unset, .unset, .unset] b0_d109 rfl ?_
      exact Road.Go.weaken (σ' := σ_158) (fun _ q => q) (ce' := 4) (sl' := 10) (by decide) (by decide) (J111 h_157 σ_158 s1 d1 s2 d2 f1 0 w cs1 [c2] e1 (Or.inl ⟨rfl, rfl⟩) e3 T1 T2)
    · skip
      refine Road.iload 94 b0_d94 rfl ?_
      refine Road.if_eq 96 104 b0_d96 rfl (fun q => absurd q (by decide)) (fun hc96 => ?_)
      refine Road.ldcS 99 "" [] 0 b0_d99 (wI hw 1 rfl) wS (List.mem_of_getElem? (i := 2) rfl) (by decide) (by decide +kernel) (by decide) (by decide) (by decide) (ce' := 4) (sl' := 9) rfl rfl (by decide) (by decide) ?_
      intro s2 d2 h_161 σ_162 K_163 m_164 T2 q_165
      replace T1 := T1.keep K_163 nin0 nin0
      refine Road.goto 101 109 b0_d101 rfl ?_
      refine Road.astore 109 #[.val (.int p0), .val (.int p1), .val (.int p2), .val (.int p3), .val (.int c1), .val (.int c2), .val (.int c3), .val (.int c4), .val (.int f1), .val (.int (1 : Int32)), .val (.int w), .val (.ref s1), .val (.ref s2), .unset, .unset, .unset, .unset, .unset, .unset, .unset, .unset, .unset] b0_d109 rfl ?_
      exact Road.Go.weaken (σ' := σ_162) (fun _ q => q) (ce' := 4) (sl' := 10) (by decide) (by decide) (J111 h_161 σ_162 s1 d1 s2 d2 f1 1 w cs1 [] e1 (Or.inr ⟨rfl, rfl⟩) e3 T1 T2)
  have J77 : ∀ (h : Heap) (τ : Addr → Prop) (f1 f2 w : Int32), (f1 = 0 ∨ f1 = 1) → (f2 = 0 ∨ f2 = 1) → (w = 0 ∨ w = 1 ∨ w = 2) → Road.Go l Z a0 consts_1 n0 true b0 D (fun v h2 _ => v = some (.int 1)) h τ 0 0 77 #[.val (.int p0), .val (.int p1), .val (.int p2), .val (.int p3), .val (.int c1), .val (.int c2), .val (.int c3), .val (.int c4), .val (.int f1), .val (.int f2), .val (.int w), .unset, .unset, .unset, .unset, .unset, .unset, .unset, .unset, .unset, .unset, .unset] [] := by
    intro h τ f1 f2 w e1 e2 e3
    rcases e1 with rfl | rfl
    · skip
      refine Road.iload 77 b0_d77 rfl ?_
      refine Road.if_eq 79 87 b0_d79 rfl (fun hc79 => ?_) (fun q => absurd q (by decide))
      refine Road.iload 87 b0_d87 rfl ?_
      refine Road.callS (B' := bVal) 89 (argsL := [(.int c1)]) (rest := []) 0 b0_d89 (wI hw 9 rfl) (wI hw 10 rfl) (wI hw 2 rfl) (wI hw 11 rfl) (by decide) (cVal l Z a0 hw n0 hEW c1 h τ latc1 cp Hc hcp) (lenOf bVal_pd rfl) rfl rfl rfl (by decide) (by decide) (ce' := 2) (sl' := 5) rfl rfl (by decide) (by decide) ?_
      rintro _ h_167 σ_168 m_169 ⟨s1, d1, rfl, -, -, K_170, T1⟩
      refine Road.astore 92 #[.val (.int p0), .val (.int p1), .val (.int p2), .val (.int p3), .val (.int c1), .val (.int c2), .val (.int c3), .val (.int c4), .val (.int (0 : Int32)), .val (.int f2), .val (.int w), .val (.ref s1), .unset, .unset, .unset, .unset, .unset, .unset, .unset, .unset, .unset, .unset] b0_d92 rfl ?_
      exact Road.Go.weaken (σ' := σ_168) (fun _ q => q) (ce' := 2) (sl' := 5) (by decide) (by decide) (J94 h_167 σ_168 s1 d1 0 f2 w [c1] (Or.inl ⟨rfl, rfl⟩) e2 e3 T1)
    · skip
      refine Road.iload 77 b0_d77 rfl ?_
      refine Road.if_eq 79 87 b0_d79 rfl (fun q => absurd q (by decide)) (fun hc79 => ?_)
      refine Road.ldcS 82 "" [] 0 b0_d82 (wI hw 1 rfl) wS (List.mem_of_getElem? (i := 2) rfl) (by decide) (by decide +kernel) (by decide) (by decide) (by decide) (ce' := 2) (sl' := 4) rfl rfl (by decide) (by decide) ?_
      intro s1 d1 h_171 σ_172 K_173 m_174 T1 q_175
      refine Road.goto 84 92 b0_d84 rfl ?_
      refine Road.astore 92 #[.val (.int p0), .val (.int p1), .val (.int p2), .val (.int p3), .val (.int c1), .val (.int c2), .val (.int c3), .val (.int c4), .val (.int (1 : Int32)), .val (.int f2), .val (.int w), .val (.ref s1), .unset, .unset, .unset, .unset, .unset, .unset, .unset, .unset, .unset, .unset] b0_d92 rfl ?_
      exact Road.Go.weaken (σ' := σ_172) (fun _ q => q) (ce' := 2) (sl' := 5) (by decide) (by decide) (J94 h_171 σ_172 s1 d1 1 f2 w [] (Or.inr ⟨rfl, rfl⟩) e2 e3 T1)
  refine Road.iloadN 41 b0_d41 rfl ?_
  refine Road.iconst 42 (1 : Int32) b0_d42 rfl ?_
  refine Road.iand 43 b0_d43 ?_
  refine Road.if_eq 44 51 b0_d44 rfl (fun hc44 => ?_) (fun hc44 => ?_)
  · skip
    refine Road.iconst 51 (0 : Int32) b0_d51 rfl ?_
    refine Road.istore 52 #[.val (.int p0), .val (.int p1), .val (.int p2), .val (.int p3), .val (.int c1), .val (.int c2), .val (.int c3), .val (.int c4), .val (.int (0 : Int32)), .unset, .unset, .unset, .unset, .unset, .unset, .unset, .unset, .unset, .unset, .unset, .unset, .unset] b0_d52 rfl ?_
    refine Road.iloadN 54 b0_d54 rfl ?_
    refine Road.iconst 55 (2 : Int32) b0_d55 rfl ?_
    refine Road.iand 56 b0_d56 ?_
    refine Road.if_eq 57 64 b0_d57 rfl (fun hc57 => ?_) (fun hc57 => ?_)
    · skip
      refine Road.iconst 64 (0 : Int32) b0_d64 rfl ?_
      refine Road.istore 65 #[.val (.int p0), .val (.int p1), .val (.int p2), .val (.int p3), .val (.int c1), .val (.int c2), .val (.int c3), .val (.int c4), .val (.int (0 : Int32)), .val (.int (0 : Int32)), .unset, .unset, .unset, .unset, .unset, .unset, .unset, .unset, .unset, .unset, .unset, .unset] b0_d65 rfl ?_
      refine Road.iloadN 67 b0_d67 rfl ?_
      refine Road.iconst 68 (2 : Int32) b0_d68 rfl ?_
      refine Road.iushr 69 b0_d69 ?_
      refine Road.ldcI 70 (v := (1073741823 : Int32)) b0_d70 (wI hw 0 rfl) ?_
      refine Road.iand 72 b0_d72 ?_
      refine Road.iconst 73 (3 : Int32) b0_d73 rfl ?_
      refine Road.irem 74 b0_d74 (by decide) ?_
      refine Road.nameI ?_
      intro w hw_
      have e3 : w = 0 ∨ w = 1 ∨ w = 2 := by rw [hw_]; exact Road.rem3 _
      refine Road.istore 75 #[.val (.int p0), .val (.int p1), .val (.int p2), .val (.int p3), .val (.int c1), .val (.int c2), .val (.int c3), .val (.int c4), .val (.int (0 : Int32)), .val (.int (0 : Int32)), .val (.int w), .unset, .unset, .unset, .unset, .unset, .unset, .unset, .unset, .unset, .unset, .unset] b0_d75 rfl ?_
      exact J77 h0 σ 0 0 w (by simp) (by simp) e3
    · skip
      refine Road.iconst 60 (1 : Int32) b0_d60 rfl ?_
      refine Road.goto 61 65 b0_d61 rfl ?_
      refine Road.istore 65 #[.val (.int p0), .val (.int p1), .val (.int p2), .val (.int p3), .val (.int c1), .val (.int c2), .val (.int c3), .val (.int c4), .val (.int (0 : Int32)), .val (.int (1 : Int32)), .unset, .unset, .unset, .unset, .unset, .unset, .unset, .unset, .unset, .unset, .unset, .unset] b0_d65 rfl ?_
      refine Road.iloadN 67 b0_d67 rfl ?_
      refine Road.iconst 68 (2 : Int32) b0_d68 rfl ?_
      refine Road.iushr 69 b0_d69 ?_
      refine Road.ldcI 70 (v := (1073741823 : Int32)) b0_d70 (wI hw 0 rfl) ?_
      refine Road.iand 72 b0_d72 ?_
      refine Road.iconst 73 (3 : Int32) b0_d73 rfl ?_
      refine Road.irem 74 b0_d74 (by decide) ?_
      refine Road.nameI ?_
      intro w hw_
      have e3 : w = 0 ∨ w = 1 ∨ w = 2 := by rw [hw_]; exact Road.rem3 _
      refine Road.istore 75 #[.val (.int p0), .val (.int p1), .val (.int p2), .val (.int p3), .val (.int c1), .val (.int c2), .val (.int c3), .val (.int c4), .val (.int (0 : Int32)), .val (.int (1 : Int32)), .val (.int w), .unset, .unset, .unset, .unset, .unset, .unset, .unset, .unset, .unset, .unset, .unset] b0_d75 rfl ?_
      exact J77 h0 σ 0 1 w (by simp) (by simp) e3
  · skip
    refine Road.iconst 47 (1 : Int32) b0_d47 rfl ?_
    refine Road.goto 48 52 b0_d48 rfl ?_
    refine Road.istore 52 #[.val (.int p0), .val (.int p1), .val (.int p2), .val (.int p3), .val (.int c1), .val (.int c2), .val (.int c3), .val (.int c4), .val (.int (1 : Int32)), .unset, .unset, .unset, .unset, .unset, .unset, .unset, .unset, .unset, .unset, .unset, .unset, .unset] b0_d52 rfl ?_
    refine Road.iloadN 54 b0_d54 rfl ?_
    refine Road.iconst 55 (2 : Int32) b0_d55 rfl ?_
    refine Road.iand 56 b0_d56 ?_
    refine Road.if_eq 57 64 b0_d57 rfl (fun hc57 => ?_) (fun hc57 => ?_)
    · skip
      refine Road.iconst 64 (0 : Int32) b0_d64 rfl ?_
      refine Road.istore 65 #[.val (.int p0), .val (.int p1), .val (.int p2), .val (.int p3), .val (.int c1), .val (.int c2), .val (.int c3), .val (.int c4), .val (.int (1 : Int32)), .val (.int (0 : Int32)), .unset, .unset, .unset, .unset, .unset, .unset, .unset, .unset, .unset, .unset, .unset, .unset] b0_d65 rfl ?_
      refine Road.iloadN 67 b0_d67 rfl ?_
      refine Road.iconst 68 (2 : Int32) b0_d68 rfl ?_
      refine Road.iushr 69 b0_d69 ?_
      refine Road.ldcI 70 (v := (1073741823 : Int32)) b0_d70 (wI hw 0 rfl) ?_
      refine Road.iand 72 b0_d72 ?_
      refine Road.iconst 73 (3 : Int32) b0_d73 rfl ?_
      refine Road.irem 74 b0_d74 (by decide) ?_
      refine Road.nameI ?_
      intro w hw_
      have e3 : w = 0 ∨ w = 1 ∨ w = 2 := by rw [hw_]; exact Road.rem3 _
      refine Road.istore 75 #[.val (.int p0), .val (.int p1), .val (.int p2), .val (.int p3), .val (.int c1), .val (.int c2), .val (.int c3), .val (.int c4), .val (.int (1 : Int32)), .val (.int (0 : Int32)), .val (.int w), .unset, .unset, .unset, .unset, .unset, .unset, .unset, .unset, .unset, .unset, .unset] b0_d75 rfl ?_
      exact J77 h0 σ 1 0 w (by simp) (by simp) e3
    · skip
      refine Road.iconst 60 (1 : Int32) b0_d60 rfl ?_
      refine Road.goto 61 65 b0_d61 rfl ?_
      refine Road.istore 65 #[.val (.int p0), .val (.int p1), .val (.int p2), .val (.int p3), .val (.int c1), .val (.int c2), .val (.int c3), .val (.int c4), .val (.int (1 : Int32)), .val (.int (1 : Int32)), .unset, .unset, .unset, .unset, .unset, .unset, .unset, .unset, .unset, .unset, .unset, .unset] b0_d65 rfl ?_
      refine Road.iloadN 67 b0_d67 rfl ?_
      refine Road.iconst 68 (2 : Int32) b0_d68 rfl ?_
      refine Road.iushr 69 b0_d69 ?_
      refine Road.ldcI 70 (v := (1073741823 : Int32)) b0_d70 (wI hw 0 rfl) ?_
      refine Road.iand 72 b0_d72 ?_
      refine Road.iconst 73 (3 : Int32) b0_d73 rfl ?_
      refine Road.irem 74 b0_d74 (by decide) ?_
      refine Road.nameI ?_
      intro w hw_
      have e3 : w = 0 ∨ w = 1 ∨ w = 2 := by rw [hw_]; exact Road.rem3 _
      refine Road.istore 75 #[.val (.int p0), .val (.int p1), .val (.int p2), .val (.int p3), .val (.int c1), .val (.int c2), .val (.int c3), .val (.int c4), .val (.int (1 : Int32)), .val (.int (1 : Int32)), .val (.int w), .unset, .unset, .unset, .unset, .unset, .unset, .unset, .unset, .unset, .unset, .unset] b0_d75 rfl ?_
      exact J77 h0 σ 1 1 w (by simp) (by simp) e3
set_option maxHeartbeats 40000000 in
theorem comes_1 {Post : Tables → Env → Array Value → State → Outcome → State → Prop} (hpost : ∀ tb e args s v u, (limb_1_1.after args s (.returned v) u = true ∧ limb_1_2.after args s (.returned v) u = true ∧ True) → ReturnedEndW s (.returned v) u (Jvm.fieldLocs frame_1_writes args s ++ Jvm.arrayLocs frame_1_arrays args s ++ Jvm.staticLocs frame_1_statics s) 80 11456 → Post tb e args s (.returned v) u) :
    ArmFor flags0 classFile x code maxLocals ret World_1 tables_1 room_1 Calls_1 rest_1 Pre_1 Post := by
  intro l hfl _ _ p e ha hc hk s m args below hf hA hF happ hP
  obtain ⟨hcalls, hrest, hpre⟩ := hP
  obtain ⟨-, -, -, hnamed, -, -, -, hat⟩ := (Spec.applies_iff hf).mp happ
  obtain ⟨hg, hn⟩ := and_e (Cond.before_iff.mp (show (Jvm.Cond.and given_1 narrow_1).before args s = true from hpre))
  obtain ⟨h1, hr1⟩ := and_e hg
  obtain ⟨g0, hr2⟩ := and_e hr1
  obtain ⟨g1, hr3⟩ := and_e hr2
  obtain ⟨g2, hr4⟩ := and_e hr3
  have g3 := hr4
  obtain ⟨w0, w1, w2, w3, rfl⟩ : ∃ w0 w1 w2 w3 : Value, args = #[w0, w1, w2, w3] := by
    have hs : args.size = 4 := by simpa [Cond.value, given_1] using h1
    obtain ⟨L⟩ := args
    match L, hs with
    | [w0, w1, w2, w3], _ => exact ⟨w0, w1, w2, w3, rfl⟩
  obtain ⟨p0, ev0⟩ := is_v g0
  obtain rfl : w0 = (.int p0) := Option.some.inj ev0
  obtain ⟨p1, ev1⟩ := is_v g1
  obtain rfl : w1 = (.int p1) := Option.some.inj ev1
  obtain ⟨p2, ev2⟩ := is_v g2
  obtain rfl : w2 = (.int p2) := Option.some.inj ev2
  obtain ⟨p3, ev3⟩ := is_v g3
  obtain rfl : w3 = (.int p3) := Option.some.inj ev3
  have hw := fun d (hd : d ∈ tables_1) => atoms_spec (ws := Jvm.Cond.code x code maxLocals ret :: tables_1) hat d (List.mem_cons_of_mem _ hd)
  obtain ⟨hsets, hown0⟩ := atoms_of _ (rest_1_c_eq ▸ (show rest_1_c.before _ s = true from hrest))
  have hfit : Fit s := fun {y c} hc i hi => by
    obtain ⟨ha, rfl⟩ := Array.getElem?_eq_some_iff.mp hc
    have q := List.all_eq_true.mp ((Array.all_eq_true_iff_forall_mem.mp hF) _ (Array.getElem_mem ha)) i (List.mem_range.mpr hi)
    simpa [Array.getElem?_eq_getElem hi] using q
  have hcw := hsets _ (List.mem_of_getElem? (i := 2) rfl)
  have n5 := not_v (Cond.before_iff.mp hcw)
  obtain ⟨cp, e10⟩ := is_v (Cond.before_iff.mp (hsets _ (List.mem_of_getElem? (i := 1) rfl)))
  have Hc : Sta s s.heap "java/lang/String" "COMPACT_STRINGS" "Z" (.int cp) := Sta.start e10 (Or.inl (hsets _ (List.mem_of_getElem? (i := 0) rfl)))
  have hcp : ¬ (cp = (0 : Int32)) := gotF (Cond.eq_ints e10 (Term.int_eval (0))) n5
  have hEW : EW s _ consts_1 := (EW.cons (wI hw 134 rfl) (by decide) (EW.cons (wI hw 172 rfl) (by decide) (EW.cons (wI hw 1 rfl) (by decide) (EW.cons (wI hw 247 rfl) (by decide) (EW.cons (wI hw 245 rfl) (by decide) EW.nil)))))
  have hCH : CHv s consts_1 s.vm s.heap := CHv.start hEW (fun q hq => hcalls.2.2.1 q hq) hcw (wI hw 4 rfl) (wI hw 3 rfl)
  obtain ⟨o1, eo1⟩ := exa_v (Cond.before_iff.mp (hsets _ (List.mem_of_getElem? (i := 12) rfl)))
  have HO := Sta.start eo1 (Or.inl (hsets _ (List.mem_of_getElem? (i := 11) rfl)))
  have AO : Road.Ary s s.heap o1 .byte Road.OnesL := Road.Ary.boot eo1 (Cond.before_iff.mp (hsets _ (List.mem_of_getElem? (i := 12) rfl))) (wI hw 4 rfl) (Cond.before_iff.mp (hsets _ (List.mem_of_getElem? (i := 13) rfl))) (by decide) (Cond.before_iff.mp (hsets _ (List.mem_of_getElem? (i := 14) rfl))) Road.ones_boot
  obtain ⟨o2, eo2⟩ := exa_v (Cond.before_iff.mp (hsets _ (List.mem_of_getElem? (i := 17) rfl)))
  have HT := Sta.start eo2 (Or.inl (hsets _ (List.mem_of_getElem? (i := 16) rfl)))
  have AT : Road.Ary s s.heap o2 .byte Road.TensL := Road.Ary.boot eo2 (Cond.before_iff.mp (hsets _ (List.mem_of_getElem? (i := 17) rfl))) (wI hw 4 rfl) (Cond.before_iff.mp (hsets _ (List.mem_of_getElem? (i := 18) rfl))) (by decide) (Cond.before_iff.mp (hsets _ (List.mem_of_getElem? (i := 19) rfl))) Road.tens_boot
  obtain ⟨us, _, eus, -⟩ := Term.length_spec (Road.eq_int_of (Cond.before_iff.mp (hsets _ (List.mem_of_getElem? (i := 29) rfl))))
  have Su : Sta s s.heap "java/lang/Throwable" "UNASSIGNED_STACK" "[Ljava/lang/StackTraceElement;" (.ref us) := Sta.start eus (Or.inl (hsets _ (List.mem_of_getElem? (i := 26) rfl)))
  obtain ⟨spa, esp⟩ := exa_v (Cond.before_iff.mp (hsets _ (List.mem_of_getElem? (i := 33) rfl)))
  have Sp : Sta s s.heap "java/lang/Throwable" "SUPPRESSED_SENTINEL" "Ljava/util/List;" (.ref spa) := Sta.start esp (Or.inl (hsets _ (List.mem_of_getElem? (i := 31) rfl)))
  have hl : l.stackTraces = true := by unfold Launch.stackTraces; rw [hfl]; decide
  obtain ⟨n, o, z1, z2, z3, v, L, rfl, hQ, N, -, -, hE⟩ := law l s _ hw s.heap.size hEW p0 p1 p2 p3 s.heap (fun _ => False) cp Hc hcp o1 o2 HO AO HT AT hl us Su (.ref spa) rfl Sp tables_1 p e ha hc hk s m _ below hf ((Spec.applies_iff_loose hf).mp happ).1 ⟨rfl, State.Warmed39.refl s, rfl, hCH, Old.start s, fun _ q => q.elim⟩ (fun _ => ⟨MethodsKnown_of_tablesKnown hcalls.2.1, FramesKnown_of_framesKnown hcalls.1 hf⟩)
  have hQ : v = some (.int 1) := hQ
  subst hQ
  refine ⟨n, _, z1, z2, z3, hpost _ _ _ _ _ _ ⟨Cond.after_iff.mpr rfl, Cond.after_iff.mpr (eq_i res_at (Term.int_eval (1)) rfl), trivial⟩ ⟨hE.1, hE.2.1, hE.2.2.1, (hE.2.2.2.sift fun y hy => Or.inr (N y hy)).mono (by decide) (by decide)⟩⟩
theorem main_1_1 : Claimed_1_1 := comes_1 fun _ _ _ _ _ _ h hF => ⟨h.1, hF⟩
theorem main_1_2 : Claimed_1_2 := comes_1 fun _ _ _ _ _ _ h hF => ⟨h.2.1, hF⟩
end Jvm.Pilot.@@N@@
namespace Jvm.Pilot.@@N@@
open Jvm Jvm.ClassFile Sem Op Lib Jvm.Free Jvm.Stand Jvm.Pilot.@@N@@.Jvm.D
/-! MADE BY PROGRAM (witnessworld.py) out of the Statement's table words and the real class files: 45 classes; the members and pool entries that the words name. The judged class is class 1, her method 1. -/
namespace start1
open Jvm.ClassFile
def u (s : String) : CpInfo := .utf8 (stringToUtf16 s)
/-- a pool by its gaps: so many unusable entries, then the entry; so many at the end -/
def gap : Nat → List CpInfo → List CpInfo
  | 0, r => r
  | n + 1, r => .unusable :: gap n r
def poolList (es : List (Nat × CpInfo)) (last : Nat) : List CpInfo := es.foldr (fun e r => gap e.1 (e.2 :: r)) (gap last [])
def pool (es : List (Nat × CpInfo)) (last : Nat) : Array CpInfo := ⟨poolList es last⟩
def fileOf (pool : Array CpInfo) (this : Nat) (attrs : Array Attribute := #[]) (ms : Array MethodInfo := #[]) (fl : Nat := 33) (sup : Nat := 0) (ifs : Array Nat := #[]) (fds : Array FieldInfo := #[]) : ClassFile where
  minorVersion := 0
  majorVersion := 65
  constantPool := pool
  accessFlags := fl
  thisClass := this
  superClass := sup
  interfaces := ifs
  fields := fds
  methods := ms
  attributes := attrs
def plain (name : String) (sup : Option ClassId) : Class where
  name := name
  kind := .ordinary
  loader := none
  accessFlags := 33
  super := sup
  interfaces := #[]
  cf := none
  fields := #[]
  methods := #[]
  instanceTypes := #[]
  staticTypes := #[]
  resolved := #[]
  callSites := []
  init := .initialized
  statics := none
  mirror := none

def pool0 : Array CpInfo := pool [(5, u "<init>"), (0, u "()V"), (1, .class_ 10), (1, u "java/lang/Object"), (7, u "()Ljava/lang/String;"), (18, u "toString"), (58, u "clone"), (0, u "()Ljava/lang/Object;")] 26

def k0c0 : Code := { maxStack := 0, maxLocals := 1, code := object_method_1_code, exceptionTable := #[], attributes := #[] }
def k0m0 : Method := { name := "<init>", desc := "()V", sig := { parameters := [], returnType := none }, accessFlags := 1, code := some k0c0 }
def k0m1 : Method := { name := "clone", desc := "()Ljava/lang/Object;", sig := { parameters := [], returnType := some (.object "java/lang/Object") }, accessFlags := 260, code := none }
def k0c2 : Code := { maxStack := 2, maxLocals := 1, code := ⟨#[0xbb, 0x00, 0x01, 0x59, 0xb7, 0x00, 0x03, 0x2a, 0xb6, 0x00, 0x07, 0xb6, 0x00, 0x0d, 0xb6, 0x00, 0x13, 0x12, 0x17, 0xb6, 0x00, 0x13, 0x2a, 0xb6, 0x00, 0x19, 0xb8, 0x00, 0x1d, 0xb6, 0x00, 0x13, 0xb6, 0x00, 0x23, 0xb0]⟩, exceptionTable := #[], attributes := #[] }
def k0m2 : Method := { name := "toString", desc := "()Ljava/lang/String;", sig := { parameters := [], returnType := some (.object "java/lang/String") }, accessFlags := 1, code := some k0c2 }
/-- java/lang/Object -/
def k0 : Class := { plain "java/lang/Object" none with
  accessFlags := 33
  interfaces := #[]
  cf := some (fileOf pool0 8 #[] #[{ accessFlags := 1, nameIndex := 5, descriptorIndex := 6, attributes := #[] }, { accessFlags := 260, nameIndex := 96, descriptorIndex := 97, attributes := #[] }, { accessFlags := 1, nameIndex := 37, descriptorIndex := 18, attributes := #[] }] 33 0 #[] #[])
  fields := #[]
  methods := #[k0m0, k0m1, k0m2]
  instanceTypes := #[]
  staticTypes := #[]
  resolved := Array.replicate 124 none
  statics := none }

def pool1 : Array CpInfo := pool [(2, .class_ 4), (1, u "java/lang/Object"), (0, u "<init>"), (0, u "()V"), (0, .integer 1073741823), (0, .string 9), (0, u ""), (0, .methodref 11 12), (0, .class_ 13), (0, .nameAndType 14 15), (0, u "java/lang/String"), (0, u "valueOf"), (0, u "(C)Ljava/lang/String;"), (0, .methodref 11 17), (0, .nameAndType 5 18), (0, u "([C)V"), (0, .methodref 20 21), (0, .class_ 22), (0, .nameAndType 23 24), (0, u "com/example/gridtally/gridtally/engine/OriginRefuseSecondPinLaw"), (0, u "decLen"), (0, u "(I)I"), (0, .methodref 20 26), (0, .nameAndType 27 28), (0, u "putInt"), (0, u "([CII)I"), (0, .methodref 20 30), (0, .nameAndType 31 32), (0, u "putFirstIsAt"), (0, u "([CI)I"), (0, .class_ 34), (0, u "com/example/gridtally/gridtally/engine/Origin"), (0, .methodref 33 36), (0, .nameAndType 5 37), (0, u "(Ljava/lang/String;I)V"), (0, .methodref 33 39), (0, .nameAndType 40 41), (0, u "refuseSecond"), (0, u "(Ljava/lang/String;Lcom/example/gridtally/gridtally/engine/Origin;)Lcom/example/gridtally/gridtally/engine/RefusedInputException;"), (0, .methodref 43 44), (0, .class_ 45), (0, .nameAndType 46 47), (0, u "com/example/gridtally/gridtally/engine/RefusedInputException"), (0, u "getMessage"), (0, u "()Ljava/lang/String;"), (0, .methodref 11 49), (0, .nameAndType 50 51), (0, u "equals"), (0, u "(Ljava/lang/Object;)Z"), (0, .long 10), (1, .long 100), (1, .long 1000), (1, .long 10000), (1, .long 100000), (1, .long 1000000), (1, .long 10000000), (1, .long 100000000), (1, .long 1000000000), (1, .methodref 20 71), (0, .nameAndType 72 73), (0, u "digits"), (0, u "(J)I"), (0, .methodref 20 75), (0, .nameAndType 76 77), (0, u "dig"), (0, u "(J)C"), (2, u "law"), (0, u "(IIII)Z")] 5

def k1m0 : Method := { name := "<init>", desc := "()V", sig := { parameters := [], returnType := none }, accessFlags := 2, code := none }
def k1c1 : Code := { maxStack := 6, maxLocals := 22, code := code, exceptionTable := #[], attributes := #[] }
def k1m1 : Method := { name := "law", desc := "(IIII)Z", sig := { parameters := [.int, .int, .int, .int], returnType := some .boolean }, accessFlags := 9, code := some k1c1 }
def k1c2 : Code := { maxStack := 4, maxLocals := 2, code := method_3_code, exceptionTable := #[], attributes := #[] }
def k1m2 : Method := { name := "digits", desc := "(J)I", sig := { parameters := [.long], returnType := some .int }, accessFlags := 10, code := some k1c2 }
def k1c3 : Code := { maxStack := 4, maxLocals := 4, code := method_4_code, exceptionTable := #[], attributes := #[] }
def k1m3 : Method := { name := "decLen", desc := "(I)I", sig := { parameters := [.int], returnType := some .int }, accessFlags := 10, code := some k1c3 }
def k1c4 : Code := { maxStack := 5, maxLocals := 2, code := method_5_code, exceptionTable := #[], attributes := #[] }
def k1m4 : Method := { name := "dig", desc := "(J)C", sig := { parameters := [.long], returnType := some .char }, accessFlags := 10, code := some k1c4 }
def k1c5 : Code := { maxStack := 6, maxLocals := 6, code := method_6_code, exceptionTable := #[], attributes := #[] }
def k1m5 : Method := { name := "putInt", desc := "([CII)I", sig := { parameters := [(.array .char), .int, .int], returnType := some .int }, accessFlags := 10, code := some k1c5 }
def k1c6 : Code := { maxStack := 3, maxLocals := 2, code := method_7_code, exceptionTable := #[], attributes := #[] }
def k1m6 : Method := { name := "putFirstIsAt", desc := "([CI)I", sig := { parameters := [(.array .char), .int], returnType := some .int }, accessFlags := 10, code := some k1c6 }
/-- com/example/gridtally/gridtally/engine/OriginRefuseSecondPinLaw -/
def k1 : Class := { plain "com/example/gridtally/gridtally/engine/OriginRefuseSecondPinLaw" (some 0) with
  accessFlags := 49
  interfaces := #[]
  cf := some (fileOf pool1 20 #[] #[{ accessFlags := 2, nameIndex := 5, descriptorIndex := 6, attributes := #[] }, { accessFlags := 9, nameIndex := 80, descriptorIndex := 81, attributes := #[] }, { accessFlags := 10, nameIndex := 72, descriptorIndex := 73, attributes := #[] }, { accessFlags := 10, nameIndex := 23, descriptorIndex := 24, attributes := #[] }, { accessFlags := 10, nameIndex := 76, descriptorIndex := 77, attributes := #[] }, { accessFlags := 10, nameIndex := 27, descriptorIndex := 28, attributes := #[] }, { accessFlags := 10, nameIndex := 31, descriptorIndex := 32, attributes := #[] }] 49 2 #[] #[])
  fields := #[]
  methods := #[k1m0, k1m1, k1m2, k1m3, k1m4, k1m5, k1m6]
  instanceTypes := #[]
  staticTypes := #[]
  resolved := Array.replicate 87 none
  statics := none }

def pool2 : Array CpInfo := pool [(1, .class_ 2), (0, u "java/io/Serializable"), (0, .class_ 4), (0, u "java/lang/Object")] 2

/-- java/io/Serializable -/
def k2 : Class := { plain "java/io/Serializable" (some 0) with
  accessFlags := 1537
  interfaces := #[]
  cf := some (fileOf pool2 1 #[] #[] 1537 3 #[] #[])
  fields := #[]
  methods := #[]
  instanceTypes := #[]
  staticTypes := #[]
  resolved := Array.replicate 7 none
  statics := none }

def pool3 : Array CpInfo := pool [(1, .class_ 2), (0, u "java/lang/Comparable"), (0, .class_ 4), (0, u "java/lang/Object")] 7

/-- java/lang/Comparable -/
def k3 : Class := { plain "java/lang/Comparable" (some 0) with
  accessFlags := 1537
  interfaces := #[]
  cf := some (fileOf pool3 1 #[] #[] 1537 3 #[] #[])
  fields := #[]
  methods := #[]
  instanceTypes := #[]
  staticTypes := #[]
  resolved := Array.replicate 12 none
  statics := none }

def pool4 : Array CpInfo := pool [(2, .class_ 4), (1, u "java/lang/CharSequence"), (42, .class_ 48), (0, u "java/lang/CharSequence$1CodePointIterator"), (10, .class_ 60), (0, u "java/lang/CharSequence$1CharIterator"), (5, .class_ 67), (0, u "java/lang/Object")] 63

/-- java/lang/CharSequence -/
def k4 : Class := { plain "java/lang/CharSequence" (some 0) with
  accessFlags := 1537
  interfaces := #[]
  cf := some (fileOf pool4 2 #[.nestMembers #[47, 59]] #[] 1537 66 #[] #[])
  fields := #[]
  methods := #[]
  instanceTypes := #[]
  staticTypes := #[]
  resolved := Array.replicate 131 none
  statics := none }

def pool5 : Array CpInfo := pool [(1, .class_ 2), (0, u "java/lang/constant/Constable"), (0, .class_ 4), (0, u "java/lang/Object")] 6

/-- java/lang/constant/Constable -/
def k5 : Class := { plain "java/lang/constant/Constable" (some 0) with
  accessFlags := 1537
  interfaces := #[]
  cf := some (fileOf pool5 1 #[] #[] 1537 3 #[] #[])
  fields := #[]
  methods := #[]
  instanceTypes := #[]
  staticTypes := #[]
  resolved := Array.replicate 11 none
  statics := none }

def pool6 : Array CpInfo := pool [(1, .class_ 2), (0, u "java/lang/constant/ConstantDesc"), (0, .class_ 4), (0, u "java/lang/Object")] 32

/-- java/lang/constant/ConstantDesc -/
def k6 : Class := { plain "java/lang/constant/ConstantDesc" (some 0) with
  accessFlags := 1537
  interfaces := #[]
  cf := some (fileOf pool6 1 #[] #[] 1537 3 #[] #[])
  fields := #[]
  methods := #[]
  instanceTypes := #[]
  staticTypes := #[]
  resolved := Array.replicate 37 none
  statics := none }

def pool7 : Array CpInfo := pool [(1, .methodref 2 3), (0, .class_ 4), (0, .nameAndType 5 6), (0, u "java/lang/Object"), (0, u "<init>"), (0, u "()V"), (2, .fieldref 10 11), (0, .class_ 12), (0, .nameAndType 13 14), (0, u "java/lang/String"), (0, u "value"), (0, u "[B"), (0, .fieldref 10 16), (0, .nameAndType 17 18), (0, u "coder"), (0, u "B"), (2, u "hash"), (0, u "I"), (2, u "hashIsZero"), (0, u "Z"), (0, .methodref 10 28), (0, .nameAndType 5 29), (0, u "([CIILjava/lang/Void;)V"), (8, .fieldref 10 39), (0, .nameAndType 40 26), (0, u "COMPACT_STRINGS"), (1, .class_ 44), (1, u "java/lang/StringUTF16"), (0, u "compress"), (1, .methodref 42 48), (0, .nameAndType 49 50), (0, u "coderFromArrayLen"), (0, u "([BI)B"), (2, u "toBytes"), (0, .methodref 55 56), (0, .class_ 57), (0, .nameAndType 58 59), (0, u "java/util/Arrays"), (0, u "copyOfRange"), (0, u "([BII)[B"), (47, .class_ 109), (1, u "java/lang/StringLatin1"), (32, u "()Z"), (34, .methodref 42 178), (0, .nameAndType 45 179), (0, u "([CII)[B"), (13, .class_ 195), (1, u "java/lang/System"), (13, .methodref 10 210), (0, .nameAndType 5 211), (0, u "([BB)V"), (0, .methodref 193 213), (0, .nameAndType 214 215), (0, u "arraycopy"), (0, u "(Ljava/lang/Object;ILjava/lang/Object;II)V"), (118, u "()I"), (0, .methodref 10 336), (0, .nameAndType 17 337), (0, u "()B"), (2, u "()[B"), (28, u "(C)Z"), (92, .nameAndType 463 464), (0, u "toString"), (0, u "()Ljava/lang/String;"), (24, .methodref 10 490), (0, .nameAndType 5 491), (0, u "(Ljava/lang/AbstractStringBuilder;Ljava/lang/Void;)V"), (1, .nameAndType 494 142), (0, u "isLatin1"), (11, .nameAndType 507 334), (0, u "length"), (24, u "getBytes"), (8, .methodref 107 542), (0, .nameAndType 543 544), (0, u "equals"), (0, u "([B[B)Z"), (4, .methodref 550 506), (0, .class_ 551), (0, u "java/lang/AbstractStringBuilder"), (0, .methodref 550 553), (0, .nameAndType 554 340), (0, u "getValue"), (18, u "(Ljava/lang/Object;)Z"), (1, .class_ 576), (0, u "java/lang/CharSequence"), (22, u "CASE_INSENSITIVE_ORDER"), (0, u "Ljava/util/Comparator;"), (181, u "valueOf"), (0, u "(C)Ljava/lang/String;"), (24, u "(Ljava/lang/Object;)Ljava/lang/String;"), (12, u "([BIB)V"), (185, .methodref 2 462), (2, u "([C)V"), (4, .methodref 107 1016), (0, .nameAndType 1017 369), (0, u "canEncode"), (0, .methodref 107 1019), (0, .nameAndType 53 1020), (0, u "(C)[B"), (26, .methodref 550 493), (53, u "serialPersistentFields"), (0, u "[Ljava/io/ObjectStreamField;"), (0, .class_ 1104), (0, u "java/lang/String$CaseInsensitiveComparator"), (1, .class_ 1107), (0, u "java/io/Serializable"), (0, .class_ 1109), (0, u "java/lang/Comparable"), (0, .class_ 1111), (0, u "java/lang/constant/Constable"), (0, .class_ 1113), (0, u "java/lang/constant/ConstantDesc"), (2, u "serialVersionUID"), (0, u "J"), (3, u "REPL"), (0, u "C"), (2, u "LATIN1"), (1, u "UTF16"), (105, u "(Ljava/lang/StringBuilder;)V")] 217

def k7m0 : Method := { name := "<init>", desc := "()V", sig := { parameters := [], returnType := none }, accessFlags := 1, code := none }
def k7c1 : Code := { maxStack := 5, maxLocals := 2, code := jdk_42_method_3_code, exceptionTable := #[], attributes := #[] }
def k7m1 : Method := { name := "<init>", desc := "([C)V", sig := { parameters := [(.array .char)], returnType := none }, accessFlags := 1, code := some k7c1 }
def k7c2 : Code := { maxStack := 3, maxLocals := 2, code := jdk_42_method_53_code, exceptionTable := #[], attributes := #[] }
def k7m2 : Method := { name := "<init>", desc := "(Ljava/lang/StringBuilder;)V", sig := { parameters := [(.object "java/lang/StringBuilder")], returnType := none }, accessFlags := 1, code := some k7c2 }
def k7c3 : Code := { maxStack := 2, maxLocals := 1, code := jdk_42_method_54_code, exceptionTable := #[], attributes := #[] }
def k7m3 : Method := { name := "length", desc := "()I", sig := { parameters := [], returnType := some .int }, accessFlags := 1, code := some k7c3 }
def k7c4 : Code := { maxStack := 2, maxLocals := 3, code := jdk_42_method_66_code, exceptionTable := #[], attributes := #[] }
def k7m4 : Method := { name := "equals", desc := "(Ljava/lang/Object;)Z", sig := { parameters := [(.object "java/lang/Object")], returnType := some .boolean }, accessFlags := 1, code := some k7c4 }
def k7c5 : Code := { maxStack := 1, maxLocals := 1, code := jdk_42_method_133_code, exceptionTable := #[], attributes := #[] }
def k7m5 : Method := { name := "valueOf", desc := "(Ljava/lang/Object;)Ljava/lang/String;", sig := { parameters := [(.object "java/lang/Object")], returnType := some (.object "java/lang/String") }, accessFlags := 9, code := some k7c5 }
def k7c6 : Code := { maxStack := 4, maxLocals := 1, code := jdk_42_method_139_code, exceptionTable := #[], attributes := #[] }
def k7m6 : Method := { name := "valueOf", desc := "(C)Ljava/lang/String;", sig := { parameters := [.char], returnType := some (.object "java/lang/String") }, accessFlags := 9, code := some k7c6 }
def k7c7 : Code := { maxStack := 5, maxLocals := 4, code := jdk_42_method_147_code, exceptionTable := #[], attributes := #[] }
def k7m7 : Method := { name := "getBytes", desc := "([BIB)V", sig := { parameters := [(.array .byte), .int, .byte], returnType := none }, accessFlags := 0, code := some k7c7 }
def k7c8 : Code := { maxStack := 4, maxLocals := 6, code := jdk_42_method_149_code, exceptionTable := #[], attributes := #[] }
def k7m8 : Method := { name := "<init>", desc := "([CIILjava/lang/Void;)V", sig := { parameters := [(.array .char), .int, .int, (.object "java/lang/Void")], returnType := none }, accessFlags := 2, code := some k7c8 }
def k7c9 : Code := { maxStack := 5, maxLocals := 5, code := jdk_42_method_150_code, exceptionTable := #[], attributes := #[] }
def k7m9 : Method := { name := "<init>", desc := "(Ljava/lang/AbstractStringBuilder;Ljava/lang/Void;)V", sig := { parameters := [(.object "java/lang/AbstractStringBuilder"), (.object "java/lang/Void")], returnType := none }, accessFlags := 0, code := some k7c9 }
def k7c10 : Code := { maxStack := 2, maxLocals := 3, code := jdk_42_method_151_code, exceptionTable := #[], attributes := #[] }
def k7m10 : Method := { name := "<init>", desc := "([BB)V", sig := { parameters := [(.array .byte), .byte], returnType := none }, accessFlags := 0, code := some k7c10 }
def k7c11 : Code := { maxStack := 1, maxLocals := 1, code := jdk_42_method_152_code, exceptionTable := #[], attributes := #[] }
def k7m11 : Method := { name := "coder", desc := "()B", sig := { parameters := [], returnType := some .byte }, accessFlags := 0, code := some k7c11 }
/-- java/lang/String -/
def k7 : Class := { plain "java/lang/String" (some 0) with
  accessFlags := 49
  interfaces := #[2, 3, 4, 5, 6]
  cf := some (fileOf pool7 10 #[.nestMembers #[1103]] #[{ accessFlags := 1, nameIndex := 5, descriptorIndex := 6, attributes := #[] }, { accessFlags := 1, nameIndex := 5, descriptorIndex := 1010, attributes := #[] }, { accessFlags := 1, nameIndex := 5, descriptorIndex := 1233, attributes := #[] }, { accessFlags := 1, nameIndex := 507, descriptorIndex := 334, attributes := #[] }, { accessFlags := 1, nameIndex := 543, descriptorIndex := 573, attributes := #[] }, { accessFlags := 9, nameIndex := 782, descriptorIndex := 808, attributes := #[] }, { accessFlags := 9, nameIndex := 782, descriptorIndex := 783, attributes := #[] }, { accessFlags := 0, nameIndex := 532, descriptorIndex := 821, attributes := #[] }, { accessFlags := 2, nameIndex := 5, descriptorIndex := 29, attributes := #[] }, { accessFlags := 0, nameIndex := 5, descriptorIndex := 491, attributes := #[] }, { accessFlags := 0, nameIndex := 5, descriptorIndex := 211, attributes := #[] }, { accessFlags := 0, nameIndex := 17, descriptorIndex := 337, attributes := #[] }] 49 2 #[1106, 1108, 575, 1110, 1112] #[{ accessFlags := 18, nameIndex := 13, descriptorIndex := 14, attributes := #[] }, { accessFlags := 18, nameIndex := 17, descriptorIndex := 18, attributes := #[] }, { accessFlags := 2, nameIndex := 21, descriptorIndex := 22, attributes := #[] }, { accessFlags := 2, nameIndex := 25, descriptorIndex := 26, attributes := #[] }, { accessFlags := 26, nameIndex := 1116, descriptorIndex := 1117, attributes := #[] }, { accessFlags := 24, nameIndex := 40, descriptorIndex := 26, attributes := #[] }, { accessFlags := 26, nameIndex := 1101, descriptorIndex := 1102, attributes := #[] }, { accessFlags := 26, nameIndex := 1121, descriptorIndex := 1122, attributes := #[] }, { accessFlags := 25, nameIndex := 599, descriptorIndex := 600, attributes := #[] }, { accessFlags := 24, nameIndex := 1125, descriptorIndex := 18, attributes := #[] }, { accessFlags := 24, nameIndex := 1127, descriptorIndex := 18, attributes := #[] }])
  fields := #[{ name := "value", type := (.array .byte), accessFlags := 18, slot := 0, constantValue := 0 }, { name := "coder", type := .byte, accessFlags := 18, slot := 1, constantValue := 0 }, { name := "hash", type := .int, accessFlags := 2, slot := 2, constantValue := 0 }, { name := "hashIsZero", type := .boolean, accessFlags := 2, slot := 3, constantValue := 0 }, { name := "serialVersionUID", type := .long, accessFlags := 26, slot := 0, constantValue := 0 }, { name := "COMPACT_STRINGS", type := .boolean, accessFlags := 24, slot := 1, constantValue := 0 }, { name := "serialPersistentFields", type := (.array (.object "java/io/ObjectStreamField")), accessFlags := 26, slot := 2, constantValue := 0 }, { name := "REPL", type := .char, accessFlags := 26, slot := 3, constantValue := 0 }, { name := "CASE_INSENSITIVE_ORDER", type := (.object "java/util/Comparator"), accessFlags := 25, slot := 4, constantValue := 0 }, { name := "LATIN1", type := .byte, accessFlags := 24, slot := 5, constantValue := 0 }, { name := "UTF16", type := .byte, accessFlags := 24, slot := 6, constantValue := 0 }]
  methods := #[k7m0, k7m1, k7m2, k7m3, k7m4, k7m5, k7m6, k7m7, k7m8, k7m9, k7m10, k7m11]
  instanceTypes := #[(.array .byte), .byte, .int, .boolean]
  staticTypes := #[.long, .boolean, (.array (.object "java/io/ObjectStreamField")), .char, (.object "java/util/Comparator"), .byte, .byte]
  resolved := Array.replicate 1451 none
  statics := some 0 }

def pool8 : Array CpInfo := pool [(4, .class_ 6), (1, u "java/lang/Object"), (0, u "<init>"), (0, u "()V"), (5, .class_ 16), (1, u "java/lang/StringLatin1"), (73, u "canEncode"), (14, u "(C)Z"), (15, u "$assertionsDisabled"), (0, u "Z"), (98, .class_ 223), (1, u "java/lang/StringLatin1$LinesSpliterator"), (57, u "equals"), (0, u "([B[B)Z"), (97, u "toBytes"), (1, u "(C)[B"), (7, .class_ 391), (0, u "java/lang/StringLatin1$CharsSpliterator")] 3

def k8m0 : Method := { name := "<init>", desc := "()V", sig := { parameters := [], returnType := none }, accessFlags := 0, code := none }
def k8c1 : Code := { maxStack := 2, maxLocals := 1, code := jdk_43_method_3_code, exceptionTable := #[], attributes := #[] }
def k8m1 : Method := { name := "canEncode", desc := "(C)Z", sig := { parameters := [.char], returnType := some .boolean }, accessFlags := 9, code := some k8c1 }
def k8c2 : Code := { maxStack := 3, maxLocals := 3, code := jdk_43_method_13_code, exceptionTable := #[], attributes := #[] }
def k8m2 : Method := { name := "equals", desc := "([B[B)Z", sig := { parameters := [(.array .byte), (.array .byte)], returnType := some .boolean }, accessFlags := 9, code := some k8c2 }
def k8c3 : Code := { maxStack := 4, maxLocals := 1, code := jdk_43_method_46_code, exceptionTable := #[], attributes := #[] }
def k8m3 : Method := { name := "toBytes", desc := "(C)[B", sig := { parameters := [.char], returnType := some (.array .byte) }, accessFlags := 9, code := some k8c3 }
/-- java/lang/StringLatin1 -/
def k8 : Class := { plain "java/lang/StringLatin1" (some 0) with
  accessFlags := 48
  interfaces := #[]
  cf := some (fileOf pool8 14 #[.nestMembers #[390, 221]] #[{ accessFlags := 0, nameIndex := 7, descriptorIndex := 8, attributes := #[] }, { accessFlags := 9, nameIndex := 90, descriptorIndex := 105, attributes := #[] }, { accessFlags := 9, nameIndex := 281, descriptorIndex := 282, attributes := #[] }, { accessFlags := 9, nameIndex := 380, descriptorIndex := 382, attributes := #[] }] 48 4 #[] #[{ accessFlags := 4120, nameIndex := 121, descriptorIndex := 122, attributes := #[] }])
  fields := #[{ name := "$assertionsDisabled", type := .boolean, accessFlags := 4120, slot := 0, constantValue := 0 }]
  methods := #[k8m0, k8m1, k8m2, k8m3]
  instanceTypes := #[]
  staticTypes := #[.boolean]
  resolved := Array.replicate 395 none
  statics := none }

def pool9 : Array CpInfo := pool [(1, .methodref 2 3), (0, .class_ 4), (0, .nameAndType 5 6), (0, u "java/lang/Object"), (0, u "<init>"), (0, u "()V"), (0, .class_ 8), (0, u "java/lang/Record")] 13

def k9c0 : Code := { maxStack := 1, maxLocals := 1, code := jdk_30_method_1_code, exceptionTable := #[], attributes := #[] }
def k9m0 : Method := { name := "<init>", desc := "()V", sig := { parameters := [], returnType := none }, accessFlags := 4, code := some k9c0 }
/-- java/lang/Record -/
def k9 : Class := { plain "java/lang/Record" (some 0) with
  accessFlags := 1057
  interfaces := #[]
  cf := some (fileOf pool9 7 #[] #[{ accessFlags := 4, nameIndex := 5, descriptorIndex := 6, attributes := #[] }] 1057 2 #[] #[])
  fields := #[]
  methods := #[k9m0]
  instanceTypes := #[]
  staticTypes := #[]
  resolved := Array.replicate 22 none
  statics := none }

def pool10 : Array CpInfo := pool [(1, .methodref 2 3), (0, .class_ 4), (0, .nameAndType 5 6), (0, u "java/lang/Record"), (0, u "<init>"), (0, u "()V"), (0, .fieldref 8 9), (0, .class_ 10), (0, .nameAndType 11 12), (0, u "com/example/gridtally/gridtally/engine/Origin"), (0, u "file"), (0, u "Ljava/lang/String;"), (0, .fieldref 8 14), (0, .nameAndType 15 16), (0, u "line"), (0, u "I"), (0, .class_ 18), (0, u "com/example/gridtally/gridtally/engine/RefusedInputException"), (0, .methodref 17 20), (0, .nameAndType 5 21), (0, u "(Ljava/lang/String;ILjava/lang/String;)V"), (0, .class_ 23), (0, u "java/lang/StringBuilder"), (0, .methodref 22 3), (0, .methodref 22 26), (0, .nameAndType 27 28), (0, u "append"), (0, u "(Ljava/lang/String;)Ljava/lang/StringBuilder;"), (0, .string 30), (0, u "; the first is at "), (0, .methodref 22 32), (0, .nameAndType 27 33), (0, u "(Ljava/lang/Object;)Ljava/lang/StringBuilder;"), (0, .methodref 22 35), (0, .nameAndType 36 37), (0, u "toString"), (0, u "()Ljava/lang/String;"), (0, .methodref 8 39), (0, .nameAndType 40 41), (0, u "refuse"), (0, u "(Ljava/lang/String;)Lcom/example/gridtally/gridtally/engine/RefusedInputException;"), (0, .string 43), (0, u ":"), (0, .methodref 22 45), (0, .nameAndType 27 46), (0, u "(I)Ljava/lang/StringBuilder;"), (8, u "(Ljava/lang/String;I)V"), (3, u "refuseSecond"), (0, u "(Ljava/lang/String;Lcom/example/gridtally/gridtally/engine/Origin;)Lcom/example/gridtally/gridtally/engine/RefusedInputException;")] 23

def k10c0 : Code := { maxStack := 2, maxLocals := 3, code := prog_5_method_1_code, exceptionTable := #[], attributes := #[] }
def k10m0 : Method := { name := "<init>", desc := "(Ljava/lang/String;I)V", sig := { parameters := [(.object "java/lang/String"), .int], returnType := none }, accessFlags := 1, code := some k10c0 }
def k10c1 : Code := { maxStack := 5, maxLocals := 2, code := prog_5_method_2_code, exceptionTable := #[], attributes := #[] }
def k10m1 : Method := { name := "refuse", desc := "(Ljava/lang/String;)Lcom/example/gridtally/gridtally/engine/RefusedInputException;", sig := { parameters := [(.object "java/lang/String")], returnType := some (.object "com/example/gridtally/gridtally/engine/RefusedInputException") }, accessFlags := 1, code := some k10c1 }
def k10c2 : Code := { maxStack := 3, maxLocals := 3, code := prog_5_method_3_code, exceptionTable := #[], attributes := #[] }
def k10m2 : Method := { name := "refuseSecond", desc := "(Ljava/lang/String;Lcom/example/gridtally/gridtally/engine/Origin;)Lcom/example/gridtally/gridtally/engine/RefusedInputException;", sig := { parameters := [(.object "java/lang/String"), (.object "com/example/gridtally/gridtally/engine/Origin")], returnType := some (.object "com/example/gridtally/gridtally/engine/RefusedInputException") }, accessFlags := 1, code := some k10c2 }
def k10c3 : Code := { maxStack := 2, maxLocals := 1, code := prog_5_method_4_code, exceptionTable := #[], attributes := #[] }
def k10m3 : Method := { name := "toString", desc := "()Ljava/lang/String;", sig := { parameters := [], returnType := some (.object "java/lang/String") }, accessFlags := 1, code := some k10c3 }
/-- com/example/gridtally/gridtally/engine/Origin -/
def k10 : Class := { plain "com/example/gridtally/gridtally/engine/Origin" (some 9) with
  accessFlags := 49
  interfaces := #[]
  cf := some (fileOf pool10 8 #[] #[{ accessFlags := 1, nameIndex := 5, descriptorIndex := 55, attributes := #[] }, { accessFlags := 1, nameIndex := 40, descriptorIndex := 41, attributes := #[] }, { accessFlags := 1, nameIndex := 59, descriptorIndex := 60, attributes := #[] }, { accessFlags := 1, nameIndex := 36, descriptorIndex := 37, attributes := #[] }] 49 2 #[] #[{ accessFlags := 18, nameIndex := 11, descriptorIndex := 12, attributes := #[] }, { accessFlags := 18, nameIndex := 15, descriptorIndex := 16, attributes := #[] }])
  fields := #[{ name := "file", type := (.object "java/lang/String"), accessFlags := 18, slot := 0, constantValue := 0 }, { name := "line", type := .int, accessFlags := 18, slot := 1, constantValue := 0 }]
  methods := #[k10m0, k10m1, k10m2, k10m3]
  instanceTypes := #[(.object "java/lang/String"), .int]
  staticTypes := #[]
  resolved := Array.replicate 84 none
  statics := none }

def pool11 : Array CpInfo := pool [(1, .class_ 2), (0, u "java/lang/Appendable"), (0, .class_ 4), (0, u "java/lang/Object")] 9

/-- java/lang/Appendable -/
def k11 : Class := { plain "java/lang/Appendable" (some 0) with
  accessFlags := 1537
  interfaces := #[]
  cf := some (fileOf pool11 1 #[] #[] 1537 3 #[] #[])
  fields := #[]
  methods := #[]
  instanceTypes := #[]
  staticTypes := #[]
  resolved := Array.replicate 14 none
  statics := none }

def pool12 : Array CpInfo := pool [(1, .class_ 2), (0, u "java/lang/String"), (0, .methodref 4 5), (0, .class_ 6), (0, .nameAndType 7 8), (0, u "java/lang/Object"), (0, u "<init>"), (0, u "()V"), (1, .class_ 12), (1, u "java/lang/AbstractStringBuilder"), (0, u "EMPTYVALUE"), (0, u "[B"), (0, .fieldref 10 16), (0, .nameAndType 17 14), (0, u "value"), (0, .fieldref 1 19), (0, .nameAndType 20 21), (0, u "COMPACT_STRINGS"), (0, u "Z"), (0, .fieldref 10 23), (0, .nameAndType 24 25), (0, u "coder"), (0, u "B"), (6, .methodref 1 33), (0, .nameAndType 34 35), (0, u "length"), (0, u "()I"), (0, .class_ 37), (0, u "java/lang/Integer"), (1, .integer 2147483647), (0, .methodref 1 41), (0, .nameAndType 24 42), (0, u "()B"), (2, u "append"), (0, u "(Ljava/lang/String;)Ljava/lang/AbstractStringBuilder;"), (1, .class_ 49), (0, u "java/lang/CharSequence"), (19, u "(Ljava/lang/String;)V"), (5, u "maybeLatin1"), (3, .fieldref 10 80), (0, .nameAndType 81 82), (0, u "count"), (0, u "I"), (0, .methodref 10 84), (0, .nameAndType 85 86), (0, u "isLatin1"), (0, u "()Z"), (13, .methodref 10 101), (0, .nameAndType 102 103), (0, u "ensureCapacityInternal"), (0, u "(I)V"), (0, .methodref 10 105), (0, .nameAndType 106 107), (0, u "newCapacity"), (0, u "(I)I"), (0, .methodref 109 110), (0, .class_ 111), (0, .nameAndType 112 113), (0, u "java/util/Arrays"), (0, u "copyOf"), (0, u "([BI)[B"), (0, .methodref 115 116), (0, .class_ 117), (0, .nameAndType 118 119), (0, u "jdk/internal/util/ArraysSupport"), (0, u "newLength"), (0, u "(III)I"), (68, u "getChars"), (19, .methodref 10 209), (0, .nameAndType 210 211), (0, u "putStringAt"), (0, u "(ILjava/lang/String;)V"), (5, u "inflateIfNeededFor"), (2, .nameAndType 221 222), (0, u "getBytes"), (0, u "([BIB)V"), (22, .methodref 36 246), (0, .nameAndType 247 107), (0, u "stringSize"), (0, .methodref 36 249), (0, .nameAndType 188 250), (0, u "(II[B)I"), (146, .methodref 10 398), (0, .nameAndType 217 69), (0, .methodref 1 220), (3, u "()[B"), (40, .class_ 445), (0, u "java/lang/Appendable"), (65, u "(I)Ljava/lang/AbstractStringBuilder;"), (40, u "getValue")] 56

def k12m0 : Method := { name := "<init>", desc := "()V", sig := { parameters := [], returnType := none }, accessFlags := 0, code := none }
def k12c1 : Code := { maxStack := 2, maxLocals := 2, code := jdk_68_method_2_code, exceptionTable := #[], attributes := #[] }
def k12m1 : Method := { name := "<init>", desc := "(I)V", sig := { parameters := [.int], returnType := none }, accessFlags := 0, code := some k12c1 }
def k12c2 : Code := { maxStack := 1, maxLocals := 1, code := jdk_68_method_6_code, exceptionTable := #[], attributes := #[] }
def k12m2 : Method := { name := "length", desc := "()I", sig := { parameters := [], returnType := some .int }, accessFlags := 1, code := some k12c2 }
def k12c3 : Code := { maxStack := 4, maxLocals := 3, code := jdk_68_method_9_code, exceptionTable := #[], attributes := #[] }
def k12m3 : Method := { name := "ensureCapacityInternal", desc := "(I)V", sig := { parameters := [.int], returnType := none }, accessFlags := 2, code := some k12c3 }
def k12c4 : Code := { maxStack := 5, maxLocals := 6, code := jdk_68_method_10_code, exceptionTable := #[], attributes := #[] }
def k12m4 : Method := { name := "newCapacity", desc := "(I)I", sig := { parameters := [.int], returnType := some .int }, accessFlags := 2, code := some k12c4 }
def k12c5 : Code := { maxStack := 3, maxLocals := 3, code := jdk_68_method_22_code, exceptionTable := #[], attributes := #[] }
def k12m5 : Method := { name := "append", desc := "(Ljava/lang/String;)Ljava/lang/AbstractStringBuilder;", sig := { parameters := [(.object "java/lang/String")], returnType := some (.object "java/lang/AbstractStringBuilder") }, accessFlags := 1, code := some k12c5 }
def k12c6 : Code := { maxStack := 4, maxLocals := 4, code := jdk_68_method_32_code, exceptionTable := #[], attributes := #[] }
def k12m6 : Method := { name := "append", desc := "(I)Ljava/lang/AbstractStringBuilder;", sig := { parameters := [.int], returnType := some (.object "java/lang/AbstractStringBuilder") }, accessFlags := 1, code := some k12c6 }
def k12c7 : Code := { maxStack := 1, maxLocals := 1, code := jdk_68_method_64_code, exceptionTable := #[], attributes := #[] }
def k12m7 : Method := { name := "getValue", desc := "()[B", sig := { parameters := [], returnType := some (.array .byte) }, accessFlags := 16, code := some k12c7 }
def k12c8 : Code := { maxStack := 1, maxLocals := 1, code := jdk_68_method_68_code, exceptionTable := #[], attributes := #[] }
def k12m8 : Method := { name := "isLatin1", desc := "()Z", sig := { parameters := [], returnType := some .boolean }, accessFlags := 16, code := some k12c8 }
def k12c9 : Code := { maxStack := 2, maxLocals := 2, code := jdk_68_method_71_code, exceptionTable := #[], attributes := #[] }
def k12m9 : Method := { name := "inflateIfNeededFor", desc := "(Ljava/lang/String;)V", sig := { parameters := [(.object "java/lang/String")], returnType := none }, accessFlags := 2, code := some k12c9 }
def k12c10 : Code := { maxStack := 4, maxLocals := 3, code := jdk_68_method_73_code, exceptionTable := #[], attributes := #[] }
def k12m10 : Method := { name := "putStringAt", desc := "(ILjava/lang/String;)V", sig := { parameters := [.int, (.object "java/lang/String")], returnType := none }, accessFlags := 2, code := some k12c10 }
/-- java/lang/AbstractStringBuilder -/
def k12 : Class := { plain "java/lang/AbstractStringBuilder" (some 0) with
  accessFlags := 1056
  interfaces := #[11, 4]
  cf := some (fileOf pool12 10 #[] #[{ accessFlags := 0, nameIndex := 7, descriptorIndex := 8, attributes := #[] }, { accessFlags := 0, nameIndex := 7, descriptorIndex := 103, attributes := #[] }, { accessFlags := 1, nameIndex := 34, descriptorIndex := 35, attributes := #[] }, { accessFlags := 2, nameIndex := 102, descriptorIndex := 103, attributes := #[] }, { accessFlags := 2, nameIndex := 106, descriptorIndex := 107, attributes := #[] }, { accessFlags := 1, nameIndex := 45, descriptorIndex := 46, attributes := #[] }, { accessFlags := 1, nameIndex := 45, descriptorIndex := 511, attributes := #[] }, { accessFlags := 16, nameIndex := 552, descriptorIndex := 403, attributes := #[] }, { accessFlags := 16, nameIndex := 85, descriptorIndex := 86, attributes := #[] }, { accessFlags := 2, nameIndex := 217, descriptorIndex := 69, attributes := #[] }, { accessFlags := 2, nameIndex := 210, descriptorIndex := 211, attributes := #[] }] 1056 4 #[444, 48] #[{ accessFlags := 0, nameIndex := 17, descriptorIndex := 14, attributes := #[] }, { accessFlags := 0, nameIndex := 24, descriptorIndex := 25, attributes := #[] }, { accessFlags := 0, nameIndex := 75, descriptorIndex := 21, attributes := #[] }, { accessFlags := 0, nameIndex := 81, descriptorIndex := 82, attributes := #[] }, { accessFlags := 26, nameIndex := 13, descriptorIndex := 14, attributes := #[] }])
  fields := #[{ name := "value", type := (.array .byte), accessFlags := 0, slot := 0, constantValue := 0 }, { name := "coder", type := .byte, accessFlags := 0, slot := 1, constantValue := 0 }, { name := "maybeLatin1", type := .boolean, accessFlags := 0, slot := 2, constantValue := 0 }, { name := "count", type := .int, accessFlags := 0, slot := 3, constantValue := 0 }, { name := "EMPTYVALUE", type := (.array .byte), accessFlags := 26, slot := 0, constantValue := 0 }]
  methods := #[k12m0, k12m1, k12m2, k12m3, k12m4, k12m5, k12m6, k12m7, k12m8, k12m9, k12m10]
  instanceTypes := #[(.array .byte), .byte, .boolean, .int]
  staticTypes := #[(.array .byte)]
  resolved := Array.replicate 609 none
  statics := none }

def pool13 : Array CpInfo := pool [(1, .methodref 2 3), (0, .class_ 4), (0, .nameAndType 5 6), (0, u "java/lang/AbstractStringBuilder"), (0, u "<init>"), (0, u "(I)V"), (10, .methodref 18 19), (0, .class_ 20), (0, .nameAndType 21 22), (0, u "java/lang/String"), (0, u "valueOf"), (0, u "(Ljava/lang/Object;)Ljava/lang/String;"), (0, .methodref 24 25), (0, .class_ 26), (0, .nameAndType 27 28), (0, u "java/lang/StringBuilder"), (0, u "append"), (0, u "(Ljava/lang/String;)Ljava/lang/StringBuilder;"), (0, .methodref 2 30), (0, .nameAndType 27 31), (0, u "(Ljava/lang/String;)Ljava/lang/AbstractStringBuilder;"), (21, .methodref 2 54), (0, .nameAndType 27 55), (0, u "(I)Ljava/lang/AbstractStringBuilder;"), (81, .methodref 18 138), (0, .nameAndType 5 139), (0, u "(Ljava/lang/StringBuilder;)V"), (5, u "()V"), (10, u "()I"), (111, u "(I)Ljava/lang/StringBuilder;"), (38, u "(Ljava/lang/Object;)Ljava/lang/StringBuilder;"), (35, .methodref 2 344), (0, .nameAndType 345 156), (0, u "length"), (3, .class_ 350), (0, u "java/lang/Appendable"), (0, .class_ 352), (0, u "java/io/Serializable"), (0, .class_ 354), (0, u "java/lang/Comparable"), (0, .class_ 356), (0, u "java/lang/CharSequence"), (0, u "serialVersionUID"), (0, u "J"), (40, u "toString"), (0, u "()Ljava/lang/String;")] 21

def k13c0 : Code := { maxStack := 2, maxLocals := 1, code := jdk_67_method_1_code, exceptionTable := #[], attributes := #[] }
def k13m0 : Method := { name := "<init>", desc := "()V", sig := { parameters := [], returnType := none }, accessFlags := 1, code := some k13c0 }
def k13c1 : Code := { maxStack := 2, maxLocals := 2, code := jdk_67_method_6_code, exceptionTable := #[], attributes := #[] }
def k13m1 : Method := { name := "append", desc := "(Ljava/lang/Object;)Ljava/lang/StringBuilder;", sig := { parameters := [(.object "java/lang/Object")], returnType := some (.object "java/lang/StringBuilder") }, accessFlags := 1, code := some k13c1 }
def k13c2 : Code := { maxStack := 2, maxLocals := 2, code := jdk_67_method_7_code, exceptionTable := #[], attributes := #[] }
def k13m2 : Method := { name := "append", desc := "(Ljava/lang/String;)Ljava/lang/StringBuilder;", sig := { parameters := [(.object "java/lang/String")], returnType := some (.object "java/lang/StringBuilder") }, accessFlags := 1, code := some k13c2 }
def k13c3 : Code := { maxStack := 2, maxLocals := 2, code := jdk_67_method_15_code, exceptionTable := #[], attributes := #[] }
def k13m3 : Method := { name := "append", desc := "(I)Ljava/lang/StringBuilder;", sig := { parameters := [.int], returnType := some (.object "java/lang/StringBuilder") }, accessFlags := 1, code := some k13c3 }
def k13c4 : Code := { maxStack := 3, maxLocals := 1, code := jdk_67_method_42_code, exceptionTable := #[], attributes := #[] }
def k13m4 : Method := { name := "toString", desc := "()Ljava/lang/String;", sig := { parameters := [], returnType := some (.object "java/lang/String") }, accessFlags := 1, code := some k13c4 }
def k13c5 : Code := { maxStack := 1, maxLocals := 1, code := jdk_67_method_93_code, exceptionTable := #[], attributes := #[] }
def k13m5 : Method := { name := "length", desc := "()I", sig := { parameters := [], returnType := some .int }, accessFlags := 4161, code := some k13c5 }
/-- java/lang/StringBuilder -/
def k13 : Class := { plain "java/lang/StringBuilder" (some 12) with
  accessFlags := 49
  interfaces := #[11, 2, 3, 4]
  cf := some (fileOf pool13 24 #[] #[{ accessFlags := 1, nameIndex := 5, descriptorIndex := 145, attributes := #[] }, { accessFlags := 1, nameIndex := 27, descriptorIndex := 307, attributes := #[] }, { accessFlags := 1, nameIndex := 27, descriptorIndex := 28, attributes := #[] }, { accessFlags := 1, nameIndex := 27, descriptorIndex := 268, attributes := #[] }, { accessFlags := 1, nameIndex := 399, descriptorIndex := 400, attributes := #[] }, { accessFlags := 4161, nameIndex := 345, descriptorIndex := 156, attributes := #[] }] 49 2 #[349, 351, 353, 355] #[{ accessFlags := 24, nameIndex := 357, descriptorIndex := 358, attributes := #[] }])
  fields := #[{ name := "serialVersionUID", type := .long, accessFlags := 24, slot := 0, constantValue := 0 }]
  methods := #[k13m0, k13m1, k13m2, k13m3, k13m4, k13m5]
  instanceTypes := #[(.array .byte), .byte, .boolean, .int]
  staticTypes := #[.long]
  resolved := Array.replicate 422 none
  statics := none }

def pool14 : Array CpInfo := pool [(2, .class_ 4), (1, u "java/lang/Object"), (0, u "<init>"), (0, u "()V"), (1, .class_ 10), (1, u "java/lang/System"), (0, u "allowSecurityManager"), (0, u "I"), (16, u "cons"), (0, u "Ljava/io/Console;"), (77, .class_ 110), (1, u "java/lang/System$CallersHolder"), (43, u "initialErrStream"), (0, u "Ljava/io/PrintStream;"), (19, u "security"), (0, u "Ljava/lang/SecurityManager;"), (31, .class_ 209), (0, u "java/lang/System$1"), (7, u "props"), (0, u "Ljava/util/Properties;"), (2, u "lineSeparator"), (0, u "Ljava/lang/String;"), (96, .class_ 321), (1, u "java/lang/System$LoggerFinder"), (5, .class_ 328), (0, u "java/lang/System$Logger"), (67, u "err"), (2, u "out"), (91, u "notSupportedJnuEncoding"), (15, u "in"), (17, u "initialIn"), (0, u "Ljava/io/InputStream;"), (35, u "bootLayer"), (0, u "Ljava/lang/ModuleLayer;"), (99, .class_ 664), (0, u "java/lang/System$2"), (9, u "NEVER"), (2, u "MAYBE"), (49, u "arraycopy"), (0, u "(Ljava/lang/Object;ILjava/lang/Object;II)V"), (72, .class_ 802), (0, u "java/lang/System$Logger$Level")] 31

def k14m0 : Method := { name := "<init>", desc := "()V", sig := { parameters := [], returnType := none }, accessFlags := 2, code := none }
def k14m1 : Method := { name := "arraycopy", desc := "(Ljava/lang/Object;ILjava/lang/Object;II)V", sig := { parameters := [(.object "java/lang/Object"), .int, (.object "java/lang/Object"), .int, .int], returnType := none }, accessFlags := 265, code := none }
/-- java/lang/System -/
def k14 : Class := { plain "java/lang/System" (some 0) with
  accessFlags := 49
  interfaces := #[]
  cf := some (fileOf pool14 8 #[.nestMembers #[319, 327, 801, 108, 663, 208]] #[{ accessFlags := 2, nameIndex := 5, descriptorIndex := 6, attributes := #[] }, { accessFlags := 265, nameIndex := 727, descriptorIndex := 728, attributes := #[] }] 49 2 #[] #[{ accessFlags := 25, nameIndex := 507, descriptorIndex := 526, attributes := #[] }, { accessFlags := 25, nameIndex := 399, descriptorIndex := 155, attributes := #[] }, { accessFlags := 25, nameIndex := 396, descriptorIndex := 155, attributes := #[] }, { accessFlags := 10, nameIndex := 525, descriptorIndex := 526, attributes := #[] }, { accessFlags := 26, nameIndex := 674, descriptorIndex := 12, attributes := #[] }, { accessFlags := 26, nameIndex := 677, descriptorIndex := 12, attributes := #[] }, { accessFlags := 10, nameIndex := 11, descriptorIndex := 12, attributes := #[] }, { accessFlags := 74, nameIndex := 175, descriptorIndex := 176, attributes := #[] }, { accessFlags := 10, nameIndex := 491, descriptorIndex := 222, attributes := #[] }, { accessFlags := 74, nameIndex := 29, descriptorIndex := 30, attributes := #[] }, { accessFlags := 74, nameIndex := 154, descriptorIndex := 155, attributes := #[] }, { accessFlags := 10, nameIndex := 217, descriptorIndex := 218, attributes := #[] }, { accessFlags := 10, nameIndex := 221, descriptorIndex := 222, attributes := #[] }, { accessFlags := 8, nameIndex := 562, descriptorIndex := 563, attributes := #[] }])
  fields := #[{ name := "in", type := (.object "java/io/InputStream"), accessFlags := 25, slot := 0, constantValue := 0 }, { name := "out", type := (.object "java/io/PrintStream"), accessFlags := 25, slot := 1, constantValue := 0 }, { name := "err", type := (.object "java/io/PrintStream"), accessFlags := 25, slot := 2, constantValue := 0 }, { name := "initialIn", type := (.object "java/io/InputStream"), accessFlags := 10, slot := 3, constantValue := 0 }, { name := "NEVER", type := .int, accessFlags := 26, slot := 4, constantValue := 0 }, { name := "MAYBE", type := .int, accessFlags := 26, slot := 5, constantValue := 0 }, { name := "allowSecurityManager", type := .int, accessFlags := 10, slot := 6, constantValue := 0 }, { name := "security", type := (.object "java/lang/SecurityManager"), accessFlags := 74, slot := 7, constantValue := 0 }, { name := "notSupportedJnuEncoding", type := (.object "java/lang/String"), accessFlags := 10, slot := 8, constantValue := 0 }, { name := "cons", type := (.object "java/io/Console"), accessFlags := 74, slot := 9, constantValue := 0 }, { name := "initialErrStream", type := (.object "java/io/PrintStream"), accessFlags := 74, slot := 10, constantValue := 0 }, { name := "props", type := (.object "java/util/Properties"), accessFlags := 10, slot := 11, constantValue := 0 }, { name := "lineSeparator", type := (.object "java/lang/String"), accessFlags := 10, slot := 12, constantValue := 0 }, { name := "bootLayer", type := (.object "java/lang/ModuleLayer"), accessFlags := 8, slot := 13, constantValue := 0 }]
  methods := #[k14m0, k14m1]
  instanceTypes := #[]
  staticTypes := #[(.object "java/io/InputStream"), (.object "java/io/PrintStream"), (.object "java/io/PrintStream"), (.object "java/io/InputStream"), .int, .int, .int, (.object "java/lang/SecurityManager"), (.object "java/lang/String"), (.object "java/io/Console"), (.object "java/io/PrintStream"), (.object "java/util/Properties"), (.object "java/lang/String"), (.object "java/lang/ModuleLayer")]
  resolved := Array.replicate 834 none
  statics := none }

def pool15 : Array CpInfo := pool [(9, u "<init>"), (6, .class_ 18), (1, u "java/lang/Object"), (0, u "()V"), (1, .class_ 23), (1, u "jdk/internal/util/ArraysSupport"), (0, u "LOG2_ARRAY_LONG_INDEX_SCALE"), (0, u "I"), (2, u "U"), (0, u "Ljdk/internal/misc/Unsafe;"), (8, u "BIG_ENDIAN"), (0, u "Z"), (8, u "LOG2_BYTE_BIT_SIZE"), (4, u "LOG2_ARRAY_INT_INDEX_SCALE"), (54, u "JLA"), (0, u "Ljdk/internal/access/JavaLangAccess;"), (11, u "LOG2_ARRAY_BOOLEAN_INDEX_SCALE"), (9, u "LOG2_ARRAY_BYTE_INDEX_SCALE"), (5, u "LOG2_ARRAY_CHAR_INDEX_SCALE"), (5, u "LOG2_ARRAY_SHORT_INDEX_SCALE"), (18, u "LOG2_ARRAY_FLOAT_INDEX_SCALE"), (24, u "LOG2_ARRAY_DOUBLE_INDEX_SCALE"), (6, .methodref 195 196), (0, .class_ 197), (0, .nameAndType 198 199), (0, u "java/lang/Math"), (0, u "max"), (0, u "(II)I"), (0, .integer 2147483639), (76, u "T_BOOLEAN"), (2, u "T_CHAR"), (1, u "T_FLOAT"), (1, u "T_DOUBLE"), (1, u "T_BYTE"), (1, u "T_SHORT"), (1, u "T_INT"), (1, u "T_LONG"), (1, u "SOFT_MAX_ARRAY_LENGTH"), (56, u "newLength"), (0, u "(III)I")] 25

def k15m0 : Method := { name := "<init>", desc := "()V", sig := { parameters := [], returnType := none }, accessFlags := 2, code := none }
def k15c1 : Code := { maxStack := 3, maxLocals := 4, code := jdk_48_method_27_code, exceptionTable := #[], attributes := #[] }
def k15m1 : Method := { name := "newLength", desc := "(III)I", sig := { parameters := [.int, .int, .int], returnType := some .int }, accessFlags := 9, code := some k15c1 }
/-- jdk/internal/util/ArraysSupport -/
def k15 : Class := { plain "jdk/internal/util/ArraysSupport" (some 0) with
  accessFlags := 33
  interfaces := #[]
  cf := some (fileOf pool15 21 #[] #[{ accessFlags := 2, nameIndex := 9, descriptorIndex := 19, attributes := #[] }, { accessFlags := 9, nameIndex := 351, descriptorIndex := 352, attributes := #[] }] 33 16 #[] #[{ accessFlags := 24, nameIndex := 28, descriptorIndex := 29, attributes := #[] }, { accessFlags := 26, nameIndex := 38, descriptorIndex := 39, attributes := #[] }, { accessFlags := 25, nameIndex := 121, descriptorIndex := 25, attributes := #[] }, { accessFlags := 25, nameIndex := 131, descriptorIndex := 25, attributes := #[] }, { accessFlags := 25, nameIndex := 137, descriptorIndex := 25, attributes := #[] }, { accessFlags := 25, nameIndex := 143, descriptorIndex := 25, attributes := #[] }, { accessFlags := 25, nameIndex := 53, descriptorIndex := 25, attributes := #[] }, { accessFlags := 25, nameIndex := 24, descriptorIndex := 25, attributes := #[] }, { accessFlags := 25, nameIndex := 162, descriptorIndex := 25, attributes := #[] }, { accessFlags := 25, nameIndex := 187, descriptorIndex := 25, attributes := #[] }, { accessFlags := 26, nameIndex := 48, descriptorIndex := 25, attributes := #[] }, { accessFlags := 25, nameIndex := 277, descriptorIndex := 25, attributes := #[] }, { accessFlags := 25, nameIndex := 280, descriptorIndex := 25, attributes := #[] }, { accessFlags := 25, nameIndex := 282, descriptorIndex := 25, attributes := #[] }, { accessFlags := 25, nameIndex := 284, descriptorIndex := 25, attributes := #[] }, { accessFlags := 25, nameIndex := 286, descriptorIndex := 25, attributes := #[] }, { accessFlags := 25, nameIndex := 288, descriptorIndex := 25, attributes := #[] }, { accessFlags := 25, nameIndex := 290, descriptorIndex := 25, attributes := #[] }, { accessFlags := 25, nameIndex := 292, descriptorIndex := 25, attributes := #[] }, { accessFlags := 26, nameIndex := 108, descriptorIndex := 109, attributes := #[] }, { accessFlags := 25, nameIndex := 294, descriptorIndex := 25, attributes := #[] }])
  fields := #[{ name := "U", type := (.object "jdk/internal/misc/Unsafe"), accessFlags := 24, slot := 0, constantValue := 0 }, { name := "BIG_ENDIAN", type := .boolean, accessFlags := 26, slot := 1, constantValue := 0 }, { name := "LOG2_ARRAY_BOOLEAN_INDEX_SCALE", type := .int, accessFlags := 25, slot := 2, constantValue := 0 }, { name := "LOG2_ARRAY_BYTE_INDEX_SCALE", type := .int, accessFlags := 25, slot := 3, constantValue := 0 }, { name := "LOG2_ARRAY_CHAR_INDEX_SCALE", type := .int, accessFlags := 25, slot := 4, constantValue := 0 }, { name := "LOG2_ARRAY_SHORT_INDEX_SCALE", type := .int, accessFlags := 25, slot := 5, constantValue := 0 }, { name := "LOG2_ARRAY_INT_INDEX_SCALE", type := .int, accessFlags := 25, slot := 6, constantValue := 0 }, { name := "LOG2_ARRAY_LONG_INDEX_SCALE", type := .int, accessFlags := 25, slot := 7, constantValue := 0 }, { name := "LOG2_ARRAY_FLOAT_INDEX_SCALE", type := .int, accessFlags := 25, slot := 8, constantValue := 0 }, { name := "LOG2_ARRAY_DOUBLE_INDEX_SCALE", type := .int, accessFlags := 25, slot := 9, constantValue := 0 }, { name := "LOG2_BYTE_BIT_SIZE", type := .int, accessFlags := 26, slot := 10, constantValue := 0 }, { name := "T_BOOLEAN", type := .int, accessFlags := 25, slot := 11, constantValue := 0 }, { name := "T_CHAR", type := .int, accessFlags := 25, slot := 12, constantValue := 0 }, { name := "T_FLOAT", type := .int, accessFlags := 25, slot := 13, constantValue := 0 }, { name := "T_DOUBLE", type := .int, accessFlags := 25, slot := 14, constantValue := 0 }, { name := "T_BYTE", type := .int, accessFlags := 25, slot := 15, constantValue := 0 }, { name := "T_SHORT", type := .int, accessFlags := 25, slot := 16, constantValue := 0 }, { name := "T_INT", type := .int, accessFlags := 25, slot := 17, constantValue := 0 }, { name := "T_LONG", type := .int, accessFlags := 25, slot := 18, constantValue := 0 }, { name := "JLA", type := (.object "jdk/internal/access/JavaLangAccess"), accessFlags := 26, slot := 19, constantValue := 0 }, { name := "SOFT_MAX_ARRAY_LENGTH", type := .int, accessFlags := 25, slot := 20, constantValue := 0 }]
  methods := #[k15m0, k15m1]
  instanceTypes := #[]
  staticTypes := #[(.object "jdk/internal/misc/Unsafe"), .boolean, .int, .int, .int, .int, .int, .int, .int, .int, .int, .int, .int, .int, .int, .int, .int, .int, .int, (.object "jdk/internal/access/JavaLangAccess"), .int]
  resolved := Array.replicate 378 none
  statics := none }

def pool16 : Array CpInfo := pool [(1, .class_ 2), (0, u "java/lang/Math"), (1, .class_ 6), (1, u "java/lang/Object"), (0, u "<init>"), (0, u "()V"), (89, .class_ 100), (1, u "java/lang/Math$RandomNumberGeneratorHolder"), (71, u "negativeZeroFloatBits"), (0, u "J"), (2, u "negativeZeroDoubleBits"), (21, u "max"), (2, u "min"), (43, u "$assertionsDisabled"), (0, u "Z"), (88, u "(II)I"), (2, u "twoToTheDoubleScaleDown"), (0, u "D"), (4, u "twoToTheDoubleScaleUp"), (9, u "E"), (3, u "PI"), (2, u "TAU"), (2, u "DEGREES_TO_RADIANS"), (0, u "RADIANS_TO_DEGREES")] 94

def k16m0 : Method := { name := "<init>", desc := "()V", sig := { parameters := [], returnType := none }, accessFlags := 2, code := none }
def k16c1 : Code := { maxStack := 2, maxLocals := 2, code := jdk_29_method_65_code, exceptionTable := #[], attributes := #[] }
def k16m1 : Method := { name := "max", desc := "(II)I", sig := { parameters := [.int, .int], returnType := some .int }, accessFlags := 9, code := some k16c1 }
def k16c2 : Code := { maxStack := 2, maxLocals := 2, code := jdk_29_method_69_code, exceptionTable := #[], attributes := #[] }
def k16m2 : Method := { name := "min", desc := "(II)I", sig := { parameters := [.int, .int], returnType := some .int }, accessFlags := 9, code := some k16c2 }
/-- java/lang/Math -/
def k16 : Class := { plain "java/lang/Math" (some 0) with
  accessFlags := 49
  interfaces := #[]
  cf := some (fileOf pool16 1 #[.nestMembers #[98]] #[{ accessFlags := 2, nameIndex := 7, descriptorIndex := 8, attributes := #[] }, { accessFlags := 9, nameIndex := 198, descriptorIndex := 335, attributes := #[] }, { accessFlags := 9, nameIndex := 201, descriptorIndex := 335, attributes := #[] }] 49 4 #[] #[{ accessFlags := 25, nameIndex := 354, descriptorIndex := 339, attributes := #[] }, { accessFlags := 25, nameIndex := 358, descriptorIndex := 339, attributes := #[] }, { accessFlags := 25, nameIndex := 361, descriptorIndex := 339, attributes := #[] }, { accessFlags := 26, nameIndex := 364, descriptorIndex := 339, attributes := #[] }, { accessFlags := 26, nameIndex := 365, descriptorIndex := 339, attributes := #[] }, { accessFlags := 26, nameIndex := 172, descriptorIndex := 173, attributes := #[] }, { accessFlags := 26, nameIndex := 176, descriptorIndex := 173, attributes := #[] }, { accessFlags := 8, nameIndex := 344, descriptorIndex := 339, attributes := #[] }, { accessFlags := 8, nameIndex := 338, descriptorIndex := 339, attributes := #[] }, { accessFlags := 4120, nameIndex := 245, descriptorIndex := 246, attributes := #[] }])
  fields := #[{ name := "E", type := .double, accessFlags := 25, slot := 0, constantValue := 0 }, { name := "PI", type := .double, accessFlags := 25, slot := 1, constantValue := 0 }, { name := "TAU", type := .double, accessFlags := 25, slot := 2, constantValue := 0 }, { name := "DEGREES_TO_RADIANS", type := .double, accessFlags := 26, slot := 3, constantValue := 0 }, { name := "RADIANS_TO_DEGREES", type := .double, accessFlags := 26, slot := 4, constantValue := 0 }, { name := "negativeZeroFloatBits", type := .long, accessFlags := 26, slot := 5, constantValue := 0 }, { name := "negativeZeroDoubleBits", type := .long, accessFlags := 26, slot := 6, constantValue := 0 }, { name := "twoToTheDoubleScaleUp", type := .double, accessFlags := 8, slot := 7, constantValue := 0 }, { name := "twoToTheDoubleScaleDown", type := .double, accessFlags := 8, slot := 8, constantValue := 0 }, { name := "$assertionsDisabled", type := .boolean, accessFlags := 4120, slot := 9, constantValue := 0 }]
  methods := #[k16m0, k16m1, k16m2]
  instanceTypes := #[]
  staticTypes := #[.double, .double, .double, .double, .double, .long, .long, .double, .double, .boolean]
  resolved := Array.replicate 460 none
  statics := none }

def pool17 : Array CpInfo := pool [(2, .class_ 4), (1, u "java/lang/Object"), (0, u "<init>"), (0, u "()V"), (7, .class_ 16), (1, u "java/util/Arrays"), (57, .class_ 76), (1, u "java/util/Arrays$NaturalOrder"), (32, u "()Ljava/lang/Object;"), (3, .class_ 115), (1, u "java/util/Arrays$LegacyMergeSort"), (1, u "Z"), (10, .nameAndType 129 109), (0, u "clone"), (9, u "copyOfRange"), (10, .methodref 151 152), (0, .class_ 153), (0, .nameAndType 154 155), (0, u "java/lang/System"), (0, u "arraycopy"), (0, u "(Ljava/lang/Object;ILjava/lang/Object;II)V"), (146, u "copyOf"), (1, .methodref 305 306), (0, .class_ 307), (0, .nameAndType 308 309), (0, u "java/lang/Math"), (0, u "min"), (0, u "(II)I"), (0, .methodref 311 128), (0, .class_ 312), (0, u "[B"), (26, .methodref 14 340), (0, .nameAndType 341 342), (0, u "copyOfRangeByte"), (0, u "([BII)[B"), (0, .methodref 14 344), (0, .nameAndType 345 346), (0, u "checkLength"), (0, u "(II)V"), (28, .class_ 376), (0, u "java/util/Arrays$ArrayList"), (68, u "$assertionsDisabled"), (269, u "MIN_ARRAY_SORT_GRAN"), (0, u "I"), (2, u "INSERTIONSORT_THRESHOLD"), (149, u "([BI)[B"), (105, .class_ 976), (0, u "java/util/Arrays$ArrayItr")] 52

def k17m0 : Method := { name := "<init>", desc := "()V", sig := { parameters := [], returnType := none }, accessFlags := 2, code := none }
def k17c1 : Code := { maxStack := 6, maxLocals := 3, code := jdk_65_method_121_code, exceptionTable := #[], attributes := #[] }
def k17m1 : Method := { name := "copyOf", desc := "([BI)[B", sig := { parameters := [(.array .byte), .int], returnType := some (.array .byte) }, accessFlags := 9, code := some k17c1 }
def k17c2 : Code := { maxStack := 4, maxLocals := 2, code := jdk_65_method_131_code, exceptionTable := #[], attributes := #[] }
def k17m2 : Method := { name := "checkLength", desc := "(II)V", sig := { parameters := [.int, .int], returnType := none }, accessFlags := 10, code := some k17c2 }
def k17c3 : Code := { maxStack := 3, maxLocals := 3, code := jdk_65_method_132_code, exceptionTable := #[], attributes := #[] }
def k17m3 : Method := { name := "copyOfRange", desc := "([BII)[B", sig := { parameters := [(.array .byte), .int, .int], returnType := some (.array .byte) }, accessFlags := 9, code := some k17c3 }
def k17c4 : Code := { maxStack := 6, maxLocals := 5, code := jdk_65_method_133_code, exceptionTable := #[], attributes := #[] }
def k17m4 : Method := { name := "copyOfRangeByte", desc := "([BII)[B", sig := { parameters := [(.array .byte), .int, .int], returnType := some (.array .byte) }, accessFlags := 10, code := some k17c4 }
/-- java/util/Arrays -/
def k17 : Class := { plain "java/util/Arrays" (some 0) with
  accessFlags := 49
  interfaces := #[]
  cf := some (fileOf pool17 14 #[.nestMembers #[975, 375, 113, 74]] #[{ accessFlags := 2, nameIndex := 5, descriptorIndex := 6, attributes := #[] }, { accessFlags := 9, nameIndex := 302, descriptorIndex := 869, attributes := #[] }, { accessFlags := 10, nameIndex := 345, descriptorIndex := 346, attributes := #[] }, { accessFlags := 9, nameIndex := 139, descriptorIndex := 342, attributes := #[] }, { accessFlags := 10, nameIndex := 341, descriptorIndex := 342, attributes := #[] }] 49 2 #[] #[{ accessFlags := 26, nameIndex := 715, descriptorIndex := 716, attributes := #[] }, { accessFlags := 26, nameIndex := 719, descriptorIndex := 716, attributes := #[] }, { accessFlags := 4120, nameIndex := 445, descriptorIndex := 117, attributes := #[] }])
  fields := #[{ name := "MIN_ARRAY_SORT_GRAN", type := .int, accessFlags := 26, slot := 0, constantValue := 0 }, { name := "INSERTIONSORT_THRESHOLD", type := .int, accessFlags := 26, slot := 1, constantValue := 0 }, { name := "$assertionsDisabled", type := .boolean, accessFlags := 4120, slot := 2, constantValue := 0 }]
  methods := #[k17m0, k17m1, k17m2, k17m3, k17m4]
  instanceTypes := #[]
  staticTypes := #[.int, .int, .boolean]
  resolved := Array.replicate 1029 none
  statics := none }

def pool18 : Array CpInfo := pool [(2, .class_ 4), (1, u "java/lang/Object"), (0, u "<init>"), (0, u "()V"), (1, .class_ 10), (1, u "java/lang/Number"), (2, .class_ 14), (0, u "java/io/Serializable"), (0, u "serialVersionUID"), (0, u "J")] 20

def k18m0 : Method := { name := "<init>", desc := "()V", sig := { parameters := [], returnType := none }, accessFlags := 1, code := none }
/-- java/lang/Number -/
def k18 : Class := { plain "java/lang/Number" (some 0) with
  accessFlags := 1057
  interfaces := #[2]
  cf := some (fileOf pool18 8 #[] #[{ accessFlags := 1, nameIndex := 5, descriptorIndex := 6, attributes := #[] }] 1057 2 #[13] #[{ accessFlags := 26, nameIndex := 15, descriptorIndex := 16, attributes := #[] }])
  fields := #[{ name := "serialVersionUID", type := .long, accessFlags := 26, slot := 0, constantValue := 0 }]
  methods := #[k18m0]
  instanceTypes := #[]
  staticTypes := #[.long]
  resolved := Array.replicate 37 none
  statics := none }

def pool19 : Array CpInfo := pool [(1, .class_ 2), (0, u "java/lang/Integer"), (16, u "digits"), (0, u "[C"), (33, u "(I)I"), (19, u "stringSize"), (2, u "getChars"), (0, u "(II[B)I"), (4, .fieldref 1 84), (0, .nameAndType 85 86), (0, u "DigitOnes"), (0, u "[B"), (0, .fieldref 1 88), (0, .nameAndType 89 86), (0, u "DigitTens"), (99, .class_ 190), (0, u "java/lang/Integer$IntegerCache"), (3, u "I"), (8, .class_ 204), (0, u "java/lang/Number"), (2, u "value"), (94, u "TYPE"), (0, u "Ljava/lang/Class;"), (0, .class_ 305), (0, u "java/lang/Comparable"), (0, .class_ 307), (0, u "java/lang/constant/Constable"), (0, .class_ 309), (0, u "java/lang/constant/ConstantDesc"), (0, u "MIN_VALUE"), (1, u "MAX_VALUE"), (3, u "SIZE"), (1, u "BYTES"), (1, u "serialVersionUID"), (0, u "J")] 131

def k19c0 : Code := { maxStack := 4, maxLocals := 7, code := jdk_33_method_12_code, exceptionTable := #[], attributes := #[] }
def k19m0 : Method := { name := "getChars", desc := "(II[B)I", sig := { parameters := [.int, .int, (.array .byte)], returnType := some .int }, accessFlags := 8, code := some k19c0 }
def k19c1 : Code := { maxStack := 2, maxLocals := 4, code := jdk_33_method_13_code, exceptionTable := #[], attributes := #[] }
def k19m1 : Method := { name := "stringSize", desc := "(I)I", sig := { parameters := [.int], returnType := some .int }, accessFlags := 8, code := some k19c1 }
/-- java/lang/Integer -/
def k19 : Class := { plain "java/lang/Integer" (some 18) with
  accessFlags := 49
  interfaces := #[3, 5, 6]
  cf := some (fileOf pool19 1 #[.nestMembers #[189]] #[{ accessFlags := 8, nameIndex := 77, descriptorIndex := 78, attributes := #[] }, { accessFlags := 8, nameIndex := 74, descriptorIndex := 54, attributes := #[] }] 49 203 #[304, 306, 308] #[{ accessFlags := 25, nameIndex := 310, descriptorIndex := 194, attributes := #[] }, { accessFlags := 25, nameIndex := 312, descriptorIndex := 194, attributes := #[] }, { accessFlags := 25, nameIndex := 302, descriptorIndex := 303, attributes := #[] }, { accessFlags := 24, nameIndex := 19, descriptorIndex := 20, attributes := #[] }, { accessFlags := 24, nameIndex := 89, descriptorIndex := 86, attributes := #[] }, { accessFlags := 24, nameIndex := 85, descriptorIndex := 86, attributes := #[] }, { accessFlags := 18, nameIndex := 207, descriptorIndex := 194, attributes := #[] }, { accessFlags := 25, nameIndex := 316, descriptorIndex := 194, attributes := #[] }, { accessFlags := 25, nameIndex := 318, descriptorIndex := 194, attributes := #[] }, { accessFlags := 26, nameIndex := 320, descriptorIndex := 321, attributes := #[] }])
  fields := #[{ name := "MIN_VALUE", type := .int, accessFlags := 25, slot := 0, constantValue := 0 }, { name := "MAX_VALUE", type := .int, accessFlags := 25, slot := 1, constantValue := 0 }, { name := "TYPE", type := (.object "java/lang/Class"), accessFlags := 25, slot := 2, constantValue := 0 }, { name := "digits", type := (.array .char), accessFlags := 24, slot := 3, constantValue := 0 }, { name := "DigitTens", type := (.array .byte), accessFlags := 24, slot := 4, constantValue := 0 }, { name := "DigitOnes", type := (.array .byte), accessFlags := 24, slot := 5, constantValue := 0 }, { name := "value", type := .int, accessFlags := 18, slot := 0, constantValue := 0 }, { name := "SIZE", type := .int, accessFlags := 25, slot := 6, constantValue := 0 }, { name := "BYTES", type := .int, accessFlags := 25, slot := 7, constantValue := 0 }, { name := "serialVersionUID", type := .long, accessFlags := 26, slot := 8, constantValue := 0 }]
  methods := #[k19m0, k19m1]
  instanceTypes := #[.int]
  staticTypes := #[.int, .int, (.object "java/lang/Class"), (.array .char), (.array .byte), (.array .byte), .int, .int, .long]
  resolved := Array.replicate 453 none
  statics := some 1 }

def pool20 : Array CpInfo := pool [(1, .methodref 2 3), (0, .class_ 4), (0, .nameAndType 5 6), (0, u "java/lang/Object"), (0, u "<init>"), (0, u "()V"), (0, .fieldref 8 9), (0, .class_ 10), (0, .nameAndType 11 12), (0, u "java/lang/Throwable"), (0, u "cause"), (0, u "Ljava/lang/Throwable;"), (0, .fieldref 8 14), (0, .nameAndType 15 16), (0, u "UNASSIGNED_STACK"), (0, u "[Ljava/lang/StackTraceElement;"), (0, .fieldref 8 18), (0, .nameAndType 19 16), (0, u "stackTrace"), (0, .fieldref 8 21), (0, .nameAndType 22 23), (0, u "SUPPRESSED_SENTINEL"), (0, u "Ljava/util/List;"), (0, .fieldref 8 25), (0, .nameAndType 26 23), (0, u "suppressedExceptions"), (0, .methodref 8 28), (0, .nameAndType 29 30), (0, u "fillInStackTrace"), (0, u "()Ljava/lang/Throwable;"), (0, .fieldref 8 32), (0, .nameAndType 33 34), (0, u "detailMessage"), (0, u "Ljava/lang/String;"), (3, u "()Ljava/lang/String;"), (2, u "getMessage"), (51, .class_ 94), (0, u "java/lang/Throwable$WrappedPrintStream"), (6, .class_ 103), (1, u "java/lang/Throwable$PrintStreamOrWriter"), (61, u "$assertionsDisabled"), (0, u "Z"), (26, .class_ 194), (0, u "java/lang/Throwable$WrappedPrintWriter"), (3, .fieldref 8 199), (0, .nameAndType 200 201), (0, u "backtrace"), (0, u "Ljava/lang/Object;"), (0, .methodref 8 203), (0, .nameAndType 29 204), (0, u "(I)Ljava/lang/Throwable;"), (6, u "depth"), (0, u "I"), (10, u "(Ljava/lang/String;)V"), (45, .class_ 271), (1, u "java/lang/Throwable$SentinelHolder"), (32, u "EMPTY_THROWABLE_ARRAY"), (0, u "[Ljava/lang/Throwable;"), (12, .class_ 319), (0, u "java/io/Serializable"), (0, u "serialVersionUID"), (0, u "J"), (5, u "NULL_CAUSE_MESSAGE"), (0, u "SELF_SUPPRESSION_MESSAGE"), (0, u "CAUSE_CAPTION"), (0, u "SUPPRESSED_CAPTION")] 73

def k20c0 : Code := { maxStack := 2, maxLocals := 1, code := jdk_78_method_1_code, exceptionTable := #[], attributes := #[] }
def k20m0 : Method := { name := "<init>", desc := "()V", sig := { parameters := [], returnType := none }, accessFlags := 1, code := some k20c0 }
def k20c1 : Code := { maxStack := 2, maxLocals := 2, code := jdk_78_method_2_code, exceptionTable := #[], attributes := #[] }
def k20m1 : Method := { name := "<init>", desc := "(Ljava/lang/String;)V", sig := { parameters := [(.object "java/lang/String")], returnType := none }, accessFlags := 1, code := some k20c1 }
def k20c2 : Code := { maxStack := 1, maxLocals := 1, code := jdk_78_method_6_code, exceptionTable := #[], attributes := #[] }
def k20m2 : Method := { name := "getMessage", desc := "()Ljava/lang/String;", sig := { parameters := [], returnType := some (.object "java/lang/String") }, accessFlags := 1, code := some k20c2 }
def k20c3 : Code := { maxStack := 2, maxLocals := 1, code := ⟨#[0x2a, 0xb4, 0x00, 0x11, 0xc7, 0x00, 0x0a, 0x2a, 0xb4, 0x00, 0xc6, 0xc6, 0x00, 0x10, 0x2a, 0x03, 0xb6, 0x00, 0xca, 0x57, 0x2a, 0xb2, 0x00, 0x0d, 0xb5, 0x00, 0x11, 0x2a, 0xb0]⟩, exceptionTable := #[], attributes := #[] }
def k20m3 : Method := { name := "fillInStackTrace", desc := "()Ljava/lang/Throwable;", sig := { parameters := [], returnType := some (.object "java/lang/Throwable") }, accessFlags := 33, code := some k20c3 }
def k20m4 : Method := { name := "fillInStackTrace", desc := "(I)Ljava/lang/Throwable;", sig := { parameters := [.int], returnType := some (.object "java/lang/Throwable") }, accessFlags := 258, code := none }
/-- java/lang/Throwable -/
def k20 : Class := { plain "java/lang/Throwable" (some 0) with
  accessFlags := 33
  interfaces := #[2]
  cf := some (fileOf pool20 8 #[.nestMembers #[193, 93, 101, 269]] #[{ accessFlags := 1, nameIndex := 5, descriptorIndex := 6, attributes := #[] }, { accessFlags := 1, nameIndex := 5, descriptorIndex := 223, attributes := #[] }, { accessFlags := 1, nameIndex := 41, descriptorIndex := 38, attributes := #[] }, { accessFlags := 33, nameIndex := 29, descriptorIndex := 30, attributes := #[] }, { accessFlags := 258, nameIndex := 29, descriptorIndex := 204, attributes := #[] }] 33 2 #[318] #[{ accessFlags := 26, nameIndex := 320, descriptorIndex := 321, attributes := #[] }, { accessFlags := 130, nameIndex := 200, descriptorIndex := 201, attributes := #[] }, { accessFlags := 2, nameIndex := 33, descriptorIndex := 34, attributes := #[] }, { accessFlags := 26, nameIndex := 15, descriptorIndex := 16, attributes := #[] }, { accessFlags := 2, nameIndex := 11, descriptorIndex := 12, attributes := #[] }, { accessFlags := 2, nameIndex := 19, descriptorIndex := 16, attributes := #[] }, { accessFlags := 130, nameIndex := 211, descriptorIndex := 212, attributes := #[] }, { accessFlags := 26, nameIndex := 22, descriptorIndex := 23, attributes := #[] }, { accessFlags := 2, nameIndex := 26, descriptorIndex := 23, attributes := #[] }, { accessFlags := 26, nameIndex := 327, descriptorIndex := 34, attributes := #[] }, { accessFlags := 26, nameIndex := 328, descriptorIndex := 34, attributes := #[] }, { accessFlags := 26, nameIndex := 329, descriptorIndex := 34, attributes := #[] }, { accessFlags := 26, nameIndex := 330, descriptorIndex := 34, attributes := #[] }, { accessFlags := 26, nameIndex := 304, descriptorIndex := 305, attributes := #[] }, { accessFlags := 4120, nameIndex := 165, descriptorIndex := 166, attributes := #[] }])
  fields := #[{ name := "serialVersionUID", type := .long, accessFlags := 26, slot := 0, constantValue := 0 }, { name := "backtrace", type := (.object "java/lang/Object"), accessFlags := 130, slot := 0, constantValue := 0 }, { name := "detailMessage", type := (.object "java/lang/String"), accessFlags := 2, slot := 1, constantValue := 0 }, { name := "UNASSIGNED_STACK", type := (.array (.object "java/lang/StackTraceElement")), accessFlags := 26, slot := 1, constantValue := 0 }, { name := "cause", type := (.object "java/lang/Throwable"), accessFlags := 2, slot := 2, constantValue := 0 }, { name := "stackTrace", type := (.array (.object "java/lang/StackTraceElement")), accessFlags := 2, slot := 3, constantValue := 0 }, { name := "depth", type := .int, accessFlags := 130, slot := 4, constantValue := 0 }, { name := "SUPPRESSED_SENTINEL", type := (.object "java/util/List"), accessFlags := 26, slot := 2, constantValue := 0 }, { name := "suppressedExceptions", type := (.object "java/util/List"), accessFlags := 2, slot := 5, constantValue := 0 }, { name := "NULL_CAUSE_MESSAGE", type := (.object "java/lang/String"), accessFlags := 26, slot := 3, constantValue := 0 }, { name := "SELF_SUPPRESSION_MESSAGE", type := (.object "java/lang/String"), accessFlags := 26, slot := 4, constantValue := 0 }, { name := "CAUSE_CAPTION", type := (.object "java/lang/String"), accessFlags := 26, slot := 5, constantValue := 0 }, { name := "SUPPRESSED_CAPTION", type := (.object "java/lang/String"), accessFlags := 26, slot := 6, constantValue := 0 }, { name := "EMPTY_THROWABLE_ARRAY", type := (.array (.object "java/lang/Throwable")), accessFlags := 26, slot := 7, constantValue := 0 }, { name := "$assertionsDisabled", type := .boolean, accessFlags := 4120, slot := 8, constantValue := 0 }]
  methods := #[k20m0, k20m1, k20m2, k20m3, k20m4]
  instanceTypes := #[(.object "java/lang/Object"), (.object "java/lang/String"), (.object "java/lang/Throwable"), (.array (.object "java/lang/StackTraceElement")), .int, (.object "java/util/List")]
  staticTypes := #[.long, (.array (.object "java/lang/StackTraceElement")), (.object "java/util/List"), (.object "java/lang/String"), (.object "java/lang/String"), (.object "java/lang/String"), (.object "java/lang/String"), (.array (.object "java/lang/Throwable")), .boolean]
  resolved := Array.replicate 404 none
  statics := some 2 }

def pool21 : Array CpInfo := pool [(2, .class_ 4), (1, u "java/lang/Throwable"), (0, u "<init>"), (0, u "()V"), (0, .methodref 2 8), (0, .nameAndType 5 9), (0, u "(Ljava/lang/String;)V"), (9, .class_ 20), (0, u "java/lang/Exception"), (0, u "serialVersionUID"), (0, u "J")] 17

def k21m0 : Method := { name := "<init>", desc := "()V", sig := { parameters := [], returnType := none }, accessFlags := 1, code := none }
def k21c1 : Code := { maxStack := 2, maxLocals := 2, code := jdk_59_method_2_code, exceptionTable := #[], attributes := #[] }
def k21m1 : Method := { name := "<init>", desc := "(Ljava/lang/String;)V", sig := { parameters := [(.object "java/lang/String")], returnType := none }, accessFlags := 1, code := some k21c1 }
/-- java/lang/Exception -/
def k21 : Class := { plain "java/lang/Exception" (some 20) with
  accessFlags := 33
  interfaces := #[]
  cf := some (fileOf pool21 19 #[] #[{ accessFlags := 1, nameIndex := 5, descriptorIndex := 6, attributes := #[] }, { accessFlags := 1, nameIndex := 5, descriptorIndex := 9, attributes := #[] }] 33 2 #[] #[{ accessFlags := 24, nameIndex := 21, descriptorIndex := 22, attributes := #[] }])
  fields := #[{ name := "serialVersionUID", type := .long, accessFlags := 24, slot := 0, constantValue := 0 }]
  methods := #[k21m0, k21m1]
  instanceTypes := #[(.object "java/lang/Object"), (.object "java/lang/String"), (.object "java/lang/Throwable"), (.array (.object "java/lang/StackTraceElement")), .int, (.object "java/util/List")]
  staticTypes := #[.long]
  resolved := Array.replicate 40 none
  statics := none }

def pool22 : Array CpInfo := pool [(1, .class_ 2), (0, u "java/lang/StringBuilder"), (0, .methodref 1 4), (0, .nameAndType 5 6), (0, u "<init>"), (0, u "()V"), (0, .methodref 1 8), (0, .nameAndType 9 10), (0, u "append"), (0, u "(Ljava/lang/String;)Ljava/lang/StringBuilder;"), (0, .string 12), (0, u ": "), (0, .methodref 1 14), (0, .nameAndType 15 16), (0, u "toString"), (0, u "()Ljava/lang/String;"), (0, .methodref 18 19), (0, .class_ 20), (0, .nameAndType 5 21), (0, u "java/lang/Exception"), (0, u "(Ljava/lang/String;)V"), (0, .string 23), (0, u ":"), (0, .methodref 1 25), (0, .nameAndType 9 26), (0, u "(I)Ljava/lang/StringBuilder;"), (0, .class_ 28), (0, u "com/example/gridtally/gridtally/engine/RefusedInputException"), (0, u "serialVersionUID"), (0, u "J"), (6, u "(Ljava/lang/String;ILjava/lang/String;)V")] 2

def k22c0 : Code := { maxStack := 3, maxLocals := 4, code := prog_8_method_2_code, exceptionTable := #[], attributes := #[] }
def k22m0 : Method := { name := "<init>", desc := "(Ljava/lang/String;ILjava/lang/String;)V", sig := { parameters := [(.object "java/lang/String"), .int, (.object "java/lang/String")], returnType := none }, accessFlags := 1, code := some k22c0 }
/-- com/example/gridtally/gridtally/engine/RefusedInputException -/
def k22 : Class := { plain "com/example/gridtally/gridtally/engine/RefusedInputException" (some 21) with
  accessFlags := 49
  interfaces := #[]
  cf := some (fileOf pool22 27 #[] #[{ accessFlags := 1, nameIndex := 5, descriptorIndex := 37, attributes := #[] }] 49 18 #[] #[{ accessFlags := 26, nameIndex := 29, descriptorIndex := 30, attributes := #[] }])
  fields := #[{ name := "serialVersionUID", type := .long, accessFlags := 26, slot := 0, constantValue := 0 }]
  methods := #[k22m0]
  instanceTypes := #[(.object "java/lang/Object"), (.object "java/lang/String"), (.object "java/lang/Throwable"), (.array (.object "java/lang/StackTraceElement")), .int, (.object "java/util/List")]
  staticTypes := #[.long]
  resolved := Array.replicate 40 none
  statics := none }

def pool23 : Array CpInfo := pool [(6, .class_ 8), (1, u "java/lang/Object"), (0, u "<init>"), (0, u "()V"), (1, .class_ 14), (1, u "java/lang/StringUTF16"), (31, u "$assertionsDisabled"), (0, u "Z"), (13, u "HI_BYTE_SHIFT"), (0, u "I"), (2, u "LO_BYTE_SHIFT"), (49, .methodref 12 116), (0, .nameAndType 117 118), (0, u "compress"), (0, u "([CI[BII)I"), (3, u "([CII)[B"), (138, u "coderFromArrayLen"), (0, u "([BI)B"), (106, .class_ 371), (1, u "java/lang/StringUTF16$LinesSpliterator"), (58, u "MAX_LENGTH"), (196, .class_ 628), (0, u "java/lang/StringUTF16$CodePointsSpliterator"), (0, .class_ 630), (0, u "java/lang/StringUTF16$CharsSpliterator")] 4

def k23m0 : Method := { name := "<init>", desc := "()V", sig := { parameters := [], returnType := none }, accessFlags := 0, code := none }
def k23c1 : Code := { maxStack := 2, maxLocals := 2, code := jdk_52_method_15_code, exceptionTable := #[], attributes := #[] }
def k23m1 : Method := { name := "coderFromArrayLen", desc := "([BI)B", sig := { parameters := [(.array .byte), .int], returnType := some .byte }, accessFlags := 8, code := some k23c1 }
def k23c2 : Code := { maxStack := 5, maxLocals := 6, code := jdk_52_method_16_code, exceptionTable := #[], attributes := #[] }
def k23m2 : Method := { name := "compress", desc := "([CII)[B", sig := { parameters := [(.array .char), .int, .int], returnType := some (.array .byte) }, accessFlags := 9, code := some k23c2 }
def k23c3 : Code := { maxStack := 3, maxLocals := 7, code := jdk_52_method_21_code, exceptionTable := #[], attributes := #[] }
def k23m3 : Method := { name := "compress", desc := "([CI[BII)I", sig := { parameters := [(.array .char), .int, (.array .byte), .int, .int], returnType := some .int }, accessFlags := 9, code := some k23c3 }
/-- java/lang/StringUTF16 -/
def k23 : Class := { plain "java/lang/StringUTF16" (some 0) with
  accessFlags := 48
  interfaces := #[]
  cf := some (fileOf pool23 12 #[.nestMembers #[627, 629, 369]] #[{ accessFlags := 0, nameIndex := 9, descriptorIndex := 10, attributes := #[] }, { accessFlags := 8, nameIndex := 261, descriptorIndex := 262, attributes := #[] }, { accessFlags := 9, nameIndex := 117, descriptorIndex := 122, attributes := #[] }, { accessFlags := 9, nameIndex := 117, descriptorIndex := 118, attributes := #[] }] 48 6 #[] #[{ accessFlags := 26, nameIndex := 61, descriptorIndex := 62, attributes := #[] }, { accessFlags := 26, nameIndex := 65, descriptorIndex := 62, attributes := #[] }, { accessFlags := 24, nameIndex := 430, descriptorIndex := 62, attributes := #[] }, { accessFlags := 4120, nameIndex := 46, descriptorIndex := 47, attributes := #[] }])
  fields := #[{ name := "HI_BYTE_SHIFT", type := .int, accessFlags := 26, slot := 0, constantValue := 0 }, { name := "LO_BYTE_SHIFT", type := .int, accessFlags := 26, slot := 1, constantValue := 0 }, { name := "MAX_LENGTH", type := .int, accessFlags := 24, slot := 2, constantValue := 0 }, { name := "$assertionsDisabled", type := .boolean, accessFlags := 4120, slot := 3, constantValue := 0 }]
  methods := #[k23m0, k23m1, k23m2, k23m3]
  instanceTypes := #[]
  staticTypes := #[.int, .int, .int, .boolean]
  resolved := Array.replicate 635 none
  statics := none }

def pool24 : Array CpInfo := pool [(1, .class_ 2), (0, u "java/lang/Cloneable"), (0, .class_ 4), (0, u "java/lang/Object")] 2

/-- java/lang/Cloneable -/
def k24 : Class := { plain "java/lang/Cloneable" (some 0) with
  accessFlags := 1537
  interfaces := #[]
  cf := some (fileOf pool24 1 #[] #[] 1537 3 #[] #[])
  fields := #[]
  methods := #[]
  instanceTypes := #[]
  staticTypes := #[]
  resolved := Array.replicate 7 none
  statics := none }

def pool25 : Array CpInfo := pool [(2, .class_ 4), (1, u "java/lang/Object"), (0, u "<init>"), (0, u "()V"), (17, .class_ 26), (1, u "jdk/internal/util/Preconditions"), (28, .class_ 56), (0, u "jdk/internal/util/Preconditions$4"), (57, .class_ 115), (0, u "jdk/internal/util/Preconditions$1"), (7, u "SIOOBE_FORMATTER"), (0, u "Ljava/util/function/BiFunction;"), (0, .class_ 126), (0, u "jdk/internal/util/Preconditions$2"), (3, u "AIOOBE_FORMATTER"), (0, .class_ 132), (0, u "jdk/internal/util/Preconditions$3"), (3, u "IOOBE_FORMATTER")] 57

def k25m0 : Method := { name := "<init>", desc := "()V", sig := { parameters := [], returnType := none }, accessFlags := 1, code := none }
/-- jdk/internal/util/Preconditions -/
def k25 : Class := { plain "jdk/internal/util/Preconditions" (some 0) with
  accessFlags := 33
  interfaces := #[]
  cf := some (fileOf pool25 24 #[.nestMembers #[55, 131, 125, 114]] #[{ accessFlags := 1, nameIndex := 5, descriptorIndex := 6, attributes := #[] }] 33 2 #[] #[{ accessFlags := 25, nameIndex := 123, descriptorIndex := 124, attributes := #[] }, { accessFlags := 25, nameIndex := 130, descriptorIndex := 124, attributes := #[] }, { accessFlags := 25, nameIndex := 136, descriptorIndex := 124, attributes := #[] }])
  fields := #[{ name := "SIOOBE_FORMATTER", type := (.object "java/util/function/BiFunction"), accessFlags := 25, slot := 0, constantValue := 0 }, { name := "AIOOBE_FORMATTER", type := (.object "java/util/function/BiFunction"), accessFlags := 25, slot := 1, constantValue := 0 }, { name := "IOOBE_FORMATTER", type := (.object "java/util/function/BiFunction"), accessFlags := 25, slot := 2, constantValue := 0 }]
  methods := #[k25m0]
  instanceTypes := #[]
  staticTypes := #[(.object "java/util/function/BiFunction"), (.object "java/util/function/BiFunction"), (.object "java/util/function/BiFunction")]
  resolved := Array.replicate 194 none
  statics := some 3 }

def pool26 : Array CpInfo := pool [(2, .class_ 4), (1, u "java/lang/Object"), (0, u "<init>"), (0, u "()V"), (12, .class_ 20), (0, u "java/util/Collections"), (63, u "r"), (0, u "Ljava/util/Random;"), (80, .class_ 167), (0, u "java/util/Collections$UnmodifiableCollection"), (6, .class_ 175), (0, u "java/util/Collections$UnmodifiableSequencedCollection"), (6, .class_ 183), (0, u "java/util/Collections$UnmodifiableSet"), (6, .class_ 191), (0, u "java/util/Collections$UnmodifiableSequencedSet"), (6, .class_ 199), (0, u "java/util/Collections$UnmodifiableSortedSet"), (6, .class_ 207), (0, u "java/util/Collections$UnmodifiableNavigableSet"), (4, .class_ 213), (0, u "java/util/Collections$UnmodifiableList"), (1, .class_ 216), (0, u "java/util/Collections$UnmodifiableRandomAccessList"), (6, .class_ 224), (0, u "java/util/Collections$UnmodifiableMap"), (6, .class_ 232), (0, u "java/util/Collections$UnmodifiableSequencedMap"), (4, .class_ 238), (0, u "java/util/Collections$UnmodifiableSortedMap"), (6, .class_ 246), (0, u "java/util/Collections$UnmodifiableNavigableMap"), (3, .class_ 251), (0, u "java/util/Collections$SynchronizedCollection"), (4, .class_ 257), (0, u "java/util/Collections$SynchronizedSet"), (4, .class_ 263), (0, u "java/util/Collections$SynchronizedSortedSet"), (1, .class_ 266), (0, u "java/util/Collections$SynchronizedNavigableSet"), (1, .class_ 269), (0, u "java/util/Collections$SynchronizedRandomAccessList"), (1, .class_ 272), (0, u "java/util/Collections$SynchronizedList"), (5, .class_ 279), (0, u "java/util/Collections$SynchronizedMap"), (1, .class_ 282), (0, u "java/util/Collections$SynchronizedSortedMap"), (1, .class_ 285), (0, u "java/util/Collections$SynchronizedNavigableMap"), (1, .class_ 288), (0, u "java/util/Collections$CheckedCollection"), (11, .class_ 301), (0, u "java/util/Collections$CheckedQueue"), (3, .class_ 306), (0, u "java/util/Collections$CheckedSet"), (3, .class_ 311), (0, u "java/util/Collections$CheckedSortedSet"), (3, .class_ 316), (0, u "java/util/Collections$CheckedNavigableSet"), (3, .class_ 321), (0, u "java/util/Collections$CheckedRandomAccessList"), (3, .class_ 326), (0, u "java/util/Collections$CheckedList"), (1, .class_ 329), (0, u "java/util/Collections$CheckedMap"), (3, .class_ 334), (0, u "java/util/Collections$CheckedSortedMap"), (3, .class_ 339), (0, u "java/util/Collections$CheckedNavigableMap"), (4, .class_ 346), (1, u "java/util/Collections$EmptyIterator"), (3, .class_ 352), (1, u "java/util/Collections$EmptyListIterator"), (2, .class_ 357), (1, u "java/util/Collections$EmptyEnumeration"), (4, u "EMPTY_SET"), (0, u "Ljava/util/Set;"), (6, u "EMPTY_LIST"), (0, u "Ljava/util/List;"), (2, u "EMPTY_MAP"), (0, u "Ljava/util/Map;"), (4, .class_ 381), (0, u "java/util/Collections$SingletonSet"), (2, .class_ 385), (0, u "java/util/Collections$1"), (1, .class_ 388), (0, u "java/util/Collections$2"), (1, .class_ 391), (0, u "java/util/Collections$SingletonList"), (1, .class_ 394), (0, u "java/util/Collections$SingletonMap"), (22, .class_ 418), (0, u "java/util/Collections$CopiesList"), (4, .class_ 425), (1, u "java/util/Collections$ReverseComparator"), (8, .class_ 435), (0, u "java/util/Collections$ReverseComparator2"), (6, .class_ 443), (0, u "java/util/Collections$3"), (25, .class_ 470), (0, u "java/util/Collections$SetFromMap"), (2, .class_ 474), (0, u "java/util/Collections$SequencedSetFromMap"), (3, .class_ 479), (0, u "java/util/Collections$AsLIFOQueue"), (11, .class_ 492), (0, u "java/util/Collections$EmptySet"), (1, .class_ 495), (0, u "java/util/Collections$EmptyList"), (1, .class_ 498), (0, u "java/util/Collections$EmptyMap"), (1, u "BINARYSEARCH_THRESHOLD"), (0, u "I"), (2, u "REVERSE_THRESHOLD"), (1, u "SHUFFLE_THRESHOLD"), (1, u "FILL_THRESHOLD"), (1, u "ROTATE_THRESHOLD"), (1, u "COPY_THRESHOLD"), (1, u "REPLACEALL_THRESHOLD"), (1, u "INDEXOFSUBLIST_THRESHOLD"), (333, .class_ 851), (0, u "java/util/Collections$CheckedMap$CheckedEntrySet"), (0, .class_ 853), (0, u "java/util/Collections$CheckedMap$CheckedEntrySet$CheckedEntry"), (0, .class_ 855), (0, u "java/util/Collections$CheckedMap$CheckedEntrySet$1"), (0, .class_ 857), (0, u "java/util/Collections$CheckedList$1"), (0, .class_ 859), (0, u "java/util/Collections$CheckedCollection$1"), (0, .class_ 861), (0, u "java/util/Collections$UnmodifiableNavigableMap$EmptyNavigableMap"), (0, .class_ 863), (0, u "java/util/Collections$UnmodifiableMap$UnmodifiableEntrySet"), (0, .class_ 865), (0, u "java/util/Collections$UnmodifiableMap$UnmodifiableEntrySet$UnmodifiableEntry"), (0, .class_ 867), (0, u "java/util/Collections$UnmodifiableMap$UnmodifiableEntrySet$UnmodifiableEntrySetSpliterator"), (0, .class_ 869), (0, u "java/util/Collections$UnmodifiableMap$UnmodifiableEntrySet$1"), (0, .class_ 871), (0, u "java/util/Collections$UnmodifiableList$1"), (0, .class_ 873), (0, u "java/util/Collections$UnmodifiableNavigableSet$EmptyNavigableSet"), (0, .class_ 875), (0, u "java/util/Collections$UnmodifiableCollection$1")] 57

def k26m0 : Method := { name := "<init>", desc := "()V", sig := { parameters := [], returnType := none }, accessFlags := 2, code := none }
/-- java/util/Collections -/
def k26 : Class := { plain "java/util/Collections" (some 0) with
  accessFlags := 33
  interfaces := #[]
  cf := some (fileOf pool26 19 #[.nestMembers #[478, 473, 469, 434, 423, 417, 393, 390, 380, 497, 494, 491, 355, 350, 344, 338, 333, 328, 850, 852, 854, 320, 325, 856, 315, 310, 305, 300, 287, 858, 284, 281, 278, 268, 271, 265, 262, 256, 250, 245, 860, 237, 231, 223, 862, 864, 866, 868, 215, 212, 870, 206, 872, 198, 190, 182, 174, 166, 874, 442, 387, 384]] #[{ accessFlags := 2, nameIndex := 5, descriptorIndex := 6, attributes := #[] }] 33 2 #[] #[{ accessFlags := 26, nameIndex := 500, descriptorIndex := 501, attributes := #[] }, { accessFlags := 26, nameIndex := 504, descriptorIndex := 501, attributes := #[] }, { accessFlags := 26, nameIndex := 506, descriptorIndex := 501, attributes := #[] }, { accessFlags := 26, nameIndex := 508, descriptorIndex := 501, attributes := #[] }, { accessFlags := 26, nameIndex := 510, descriptorIndex := 501, attributes := #[] }, { accessFlags := 26, nameIndex := 512, descriptorIndex := 501, attributes := #[] }, { accessFlags := 26, nameIndex := 514, descriptorIndex := 501, attributes := #[] }, { accessFlags := 26, nameIndex := 516, descriptorIndex := 501, attributes := #[] }, { accessFlags := 10, nameIndex := 84, descriptorIndex := 85, attributes := #[] }, { accessFlags := 25, nameIndex := 362, descriptorIndex := 363, attributes := #[] }, { accessFlags := 25, nameIndex := 370, descriptorIndex := 371, attributes := #[] }, { accessFlags := 25, nameIndex := 374, descriptorIndex := 375, attributes := #[] }])
  fields := #[{ name := "BINARYSEARCH_THRESHOLD", type := .int, accessFlags := 26, slot := 0, constantValue := 0 }, { name := "REVERSE_THRESHOLD", type := .int, accessFlags := 26, slot := 1, constantValue := 0 }, { name := "SHUFFLE_THRESHOLD", type := .int, accessFlags := 26, slot := 2, constantValue := 0 }, { name := "FILL_THRESHOLD", type := .int, accessFlags := 26, slot := 3, constantValue := 0 }, { name := "ROTATE_THRESHOLD", type := .int, accessFlags := 26, slot := 4, constantValue := 0 }, { name := "COPY_THRESHOLD", type := .int, accessFlags := 26, slot := 5, constantValue := 0 }, { name := "REPLACEALL_THRESHOLD", type := .int, accessFlags := 26, slot := 6, constantValue := 0 }, { name := "INDEXOFSUBLIST_THRESHOLD", type := .int, accessFlags := 26, slot := 7, constantValue := 0 }, { name := "r", type := (.object "java/util/Random"), accessFlags := 10, slot := 8, constantValue := 0 }, { name := "EMPTY_SET", type := (.object "java/util/Set"), accessFlags := 25, slot := 9, constantValue := 0 }, { name := "EMPTY_LIST", type := (.object "java/util/List"), accessFlags := 25, slot := 10, constantValue := 0 }, { name := "EMPTY_MAP", type := (.object "java/util/Map"), accessFlags := 25, slot := 11, constantValue := 0 }]
  methods := #[k26m0]
  instanceTypes := #[]
  staticTypes := #[.int, .int, .int, .int, .int, .int, .int, .int, (.object "java/util/Random"), (.object "java/util/Set"), (.object "java/util/List"), (.object "java/util/Map")]
  resolved := Array.replicate 933 none
  statics := some 4 }

def pool27 : Array CpInfo := pool [(8, .class_ 10), (1, u "java/lang/Iterable"), (24, .class_ 36), (0, u "java/lang/Object")] 25

/-- java/lang/Iterable -/
def k27 : Class := { plain "java/lang/Iterable" (some 0) with
  accessFlags := 1537
  interfaces := #[]
  cf := some (fileOf pool27 8 #[] #[] 1537 35 #[] #[])
  fields := #[]
  methods := #[]
  instanceTypes := #[]
  staticTypes := #[]
  resolved := Array.replicate 62 none
  statics := none }

def pool28 : Array CpInfo := pool [(10, .class_ 12), (1, u "java/util/Collection"), (47, .class_ 61), (0, u "java/lang/Object"), (0, .class_ 63), (0, u "java/lang/Iterable")] 51

/-- java/util/Collection -/
def k28 : Class := { plain "java/util/Collection" (some 0) with
  accessFlags := 1537
  interfaces := #[27]
  cf := some (fileOf pool28 10 #[] #[] 1537 60 #[62] #[])
  fields := #[]
  methods := #[]
  instanceTypes := #[]
  staticTypes := #[]
  resolved := Array.replicate 115 none
  statics := none }

def pool29 : Array CpInfo := pool [(2, .class_ 4), (1, u "java/lang/Object"), (0, u "<init>"), (0, u "()V"), (1, .class_ 10), (1, u "java/util/AbstractCollection"), (66, .class_ 78), (0, u "java/util/Collection")] 81

def k29m0 : Method := { name := "<init>", desc := "()V", sig := { parameters := [], returnType := none }, accessFlags := 4, code := none }
/-- java/util/AbstractCollection -/
def k29 : Class := { plain "java/util/AbstractCollection" (some 0) with
  accessFlags := 1057
  interfaces := #[28]
  cf := some (fileOf pool29 8 #[] #[{ accessFlags := 4, nameIndex := 5, descriptorIndex := 6, attributes := #[] }] 1057 2 #[77] #[])
  fields := #[]
  methods := #[k29m0]
  instanceTypes := #[]
  staticTypes := #[]
  resolved := Array.replicate 160 none
  statics := none }

def pool30 : Array CpInfo := pool [(8, .class_ 10), (1, u "java/util/SequencedCollection"), (15, .class_ 27), (0, u "java/lang/Object"), (0, .class_ 29), (0, u "java/util/Collection")] 27

/-- java/util/SequencedCollection -/
def k30 : Class := { plain "java/util/SequencedCollection" (some 0) with
  accessFlags := 1537
  interfaces := #[28]
  cf := some (fileOf pool30 8 #[] #[] 1537 26 #[28] #[])
  fields := #[]
  methods := #[]
  instanceTypes := #[]
  staticTypes := #[]
  resolved := Array.replicate 57 none
  statics := none }

def pool31 : Array CpInfo := pool [(8, .class_ 10), (1, u "java/util/List"), (92, .class_ 104), (0, u "java/lang/Object"), (15, .class_ 121), (0, u "java/util/SequencedCollection")] 129

/-- java/util/List -/
def k31 : Class := { plain "java/util/List" (some 0) with
  accessFlags := 1537
  interfaces := #[30]
  cf := some (fileOf pool31 8 #[] #[] 1537 103 #[120] #[])
  fields := #[]
  methods := #[]
  instanceTypes := #[]
  staticTypes := #[]
  resolved := Array.replicate 251 none
  statics := none }

def pool32 : Array CpInfo := pool [(2, .class_ 4), (1, u "java/util/AbstractCollection"), (0, u "<init>"), (0, u "()V"), (1, .class_ 10), (1, u "java/util/AbstractList"), (0, u "modCount"), (0, u "I"), (64, .class_ 78), (0, u "java/util/AbstractList$Itr"), (3, .class_ 83), (0, u "java/util/AbstractList$ListItr"), (9, .class_ 94), (0, u "java/util/AbstractList$RandomAccessSubList"), (3, .class_ 99), (0, u "java/util/AbstractList$SubList"), (33, .class_ 134), (0, u "java/util/List"), (73, .class_ 209), (0, u "java/util/AbstractList$SubList$1"), (0, .class_ 211), (0, u "java/util/AbstractList$RandomAccessSpliterator")] 6

def k32m0 : Method := { name := "<init>", desc := "()V", sig := { parameters := [], returnType := none }, accessFlags := 4, code := none }
/-- java/util/AbstractList -/
def k32 : Class := { plain "java/util/AbstractList" (some 29) with
  accessFlags := 1057
  interfaces := #[31]
  cf := some (fileOf pool32 8 #[.nestMembers #[93, 98, 208, 210, 82, 77]] #[{ accessFlags := 4, nameIndex := 5, descriptorIndex := 6, attributes := #[] }] 1057 2 #[133] #[{ accessFlags := 132, nameIndex := 11, descriptorIndex := 12, attributes := #[] }])
  fields := #[{ name := "modCount", type := .int, accessFlags := 132, slot := 0, constantValue := 0 }]
  methods := #[k32m0]
  instanceTypes := #[.int]
  staticTypes := #[]
  resolved := Array.replicate 218 none
  statics := none }

def pool33 : Array CpInfo := pool [(1, .class_ 2), (0, u "java/util/RandomAccess"), (0, .class_ 4), (0, u "java/lang/Object")] 2

/-- java/util/RandomAccess -/
def k33 : Class := { plain "java/util/RandomAccess" (some 0) with
  accessFlags := 1537
  interfaces := #[]
  cf := some (fileOf pool33 1 #[] #[] 1537 3 #[] #[])
  fields := #[]
  methods := #[]
  instanceTypes := #[]
  staticTypes := #[]
  resolved := Array.replicate 7 none
  statics := none }

def pool34 : Array CpInfo := pool [(2, .class_ 4), (1, u "java/util/AbstractList"), (0, u "<init>"), (0, u "()V"), (1, .class_ 10), (1, u "java/util/Collections"), (54, .class_ 66), (0, u "java/util/Collections$EmptyList"), (0, .class_ 68), (0, u "java/util/RandomAccess"), (0, .class_ 70), (0, u "java/io/Serializable"), (0, u "serialVersionUID"), (0, u "J")] 77

def k34m0 : Method := { name := "<init>", desc := "()V", sig := { parameters := [], returnType := none }, accessFlags := 2, code := none }
/-- java/util/Collections$EmptyList -/
def k34 : Class := { plain "java/util/Collections$EmptyList" (some 32) with
  accessFlags := 32
  interfaces := #[33, 2]
  cf := some (fileOf pool34 65 #[.nestHost 8] #[{ accessFlags := 2, nameIndex := 5, descriptorIndex := 6, attributes := #[] }] 32 2 #[67, 69] #[{ accessFlags := 26, nameIndex := 71, descriptorIndex := 72, attributes := #[] }])
  fields := #[{ name := "serialVersionUID", type := .long, accessFlags := 26, slot := 0, constantValue := 0 }]
  methods := #[k34m0]
  instanceTypes := #[.int]
  staticTypes := #[.long]
  resolved := Array.replicate 150 none
  statics := none }

def pool35 : Array CpInfo := pool [(2, .class_ 4), (1, u "java/lang/StackTraceElement"), (0, u "<init>"), (2, .class_ 10), (1, u "java/lang/Object"), (0, u "()V"), (2, u "format"), (0, u "B"), (2, u "classLoaderName"), (0, u "Ljava/lang/String;"), (2, u "moduleName"), (2, u "moduleVersion"), (12, u "declaringClass"), (4, u "methodName"), (2, u "fileName"), (2, u "lineNumber"), (0, u "I"), (65, u "declaringClassObject"), (0, u "Ljava/lang/Class;"), (33, .class_ 153), (1, u "java/lang/StackTraceElement$HashedModules"), (17, .class_ 172), (0, u "java/io/Serializable"), (0, u "NATIVE_METHOD"), (1, u "UNKNOWN_SOURCE"), (2, u "BUILTIN_CLASS_LOADER"), (1, u "JDK_NON_UPGRADEABLE_MODULE"), (1, u "serialVersionUID"), (0, u "J")] 51

def k35m0 : Method := { name := "<init>", desc := "()V", sig := { parameters := [], returnType := none }, accessFlags := 2, code := none }
/-- java/lang/StackTraceElement -/
def k35 : Class := { plain "java/lang/StackTraceElement" (some 0) with
  accessFlags := 49
  interfaces := #[2]
  cf := some (fileOf pool35 2 #[.nestMembers #[151]] #[{ accessFlags := 2, nameIndex := 5, descriptorIndex := 11, attributes := #[] }] 49 8 #[171] #[{ accessFlags := 26, nameIndex := 173, descriptorIndex := 19, attributes := #[] }, { accessFlags := 26, nameIndex := 175, descriptorIndex := 19, attributes := #[] }, { accessFlags := 130, nameIndex := 116, descriptorIndex := 117, attributes := #[] }, { accessFlags := 2, nameIndex := 18, descriptorIndex := 19, attributes := #[] }, { accessFlags := 2, nameIndex := 22, descriptorIndex := 19, attributes := #[] }, { accessFlags := 2, nameIndex := 25, descriptorIndex := 19, attributes := #[] }, { accessFlags := 2, nameIndex := 38, descriptorIndex := 19, attributes := #[] }, { accessFlags := 2, nameIndex := 43, descriptorIndex := 19, attributes := #[] }, { accessFlags := 2, nameIndex := 46, descriptorIndex := 19, attributes := #[] }, { accessFlags := 2, nameIndex := 49, descriptorIndex := 50, attributes := #[] }, { accessFlags := 2, nameIndex := 14, descriptorIndex := 15, attributes := #[] }, { accessFlags := 26, nameIndex := 178, descriptorIndex := 15, attributes := #[] }, { accessFlags := 26, nameIndex := 180, descriptorIndex := 15, attributes := #[] }, { accessFlags := 26, nameIndex := 182, descriptorIndex := 183, attributes := #[] }])
  fields := #[{ name := "NATIVE_METHOD", type := (.object "java/lang/String"), accessFlags := 26, slot := 0, constantValue := 0 }, { name := "UNKNOWN_SOURCE", type := (.object "java/lang/String"), accessFlags := 26, slot := 1, constantValue := 0 }, { name := "declaringClassObject", type := (.object "java/lang/Class"), accessFlags := 130, slot := 0, constantValue := 0 }, { name := "classLoaderName", type := (.object "java/lang/String"), accessFlags := 2, slot := 1, constantValue := 0 }, { name := "moduleName", type := (.object "java/lang/String"), accessFlags := 2, slot := 2, constantValue := 0 }, { name := "moduleVersion", type := (.object "java/lang/String"), accessFlags := 2, slot := 3, constantValue := 0 }, { name := "declaringClass", type := (.object "java/lang/String"), accessFlags := 2, slot := 4, constantValue := 0 }, { name := "methodName", type := (.object "java/lang/String"), accessFlags := 2, slot := 5, constantValue := 0 }, { name := "fileName", type := (.object "java/lang/String"), accessFlags := 2, slot := 6, constantValue := 0 }, { name := "lineNumber", type := .int, accessFlags := 2, slot := 7, constantValue := 0 }, { name := "format", type := .byte, accessFlags := 2, slot := 8, constantValue := 0 }, { name := "BUILTIN_CLASS_LOADER", type := .byte, accessFlags := 26, slot := 2, constantValue := 0 }, { name := "JDK_NON_UPGRADEABLE_MODULE", type := .byte, accessFlags := 26, slot := 3, constantValue := 0 }, { name := "serialVersionUID", type := .long, accessFlags := 26, slot := 4, constantValue := 0 }]
  methods := #[k35m0]
  instanceTypes := #[(.object "java/lang/Class"), (.object "java/lang/String"), (.object "java/lang/String"), (.object "java/lang/String"), (.object "java/lang/String"), (.object "java/lang/String"), (.object "java/lang/String"), .int, .byte]
  staticTypes := #[(.object "java/lang/String"), (.object "java/lang/String"), .byte, .byte, .long]
  resolved := Array.replicate 235 none
  statics := none }

/-- the primitive byte -/
def k36 : Class := { plain "byte" none with kind := .primitive 'B', accessFlags := 0x411 }
/-- [B -/
def k37 : Class := { plain "[B" (some 0) with kind := .array 36 .byte, interfaces := #[24, 2], accessFlags := 1041 }

/-- the primitive char -/
def k38 : Class := { plain "char" none with kind := .primitive 'C', accessFlags := 0x411 }
/-- [C -/
def k39 : Class := { plain "[C" (some 0) with kind := .array 38 .char, interfaces := #[24, 2], accessFlags := 1041 }

/-- the primitive int -/
def k40 : Class := { plain "int" none with kind := .primitive 'I', accessFlags := 0x411 }
/-- [I -/
def k41 : Class := { plain "[I" (some 0) with kind := .array 40 .int, interfaces := #[24, 2], accessFlags := 1041 }

/-- [Ljava/lang/Object; -/
def k42 : Class := { plain "[Ljava/lang/Object;" (some 0) with kind := .array 0 (.object "java/lang/Object"), interfaces := #[24, 2], accessFlags := 1041 }

/-- [Ljava/lang/StackTraceElement; -/
def k43 : Class := { plain "[Ljava/lang/StackTraceElement;" (some 0) with kind := .array 35 (.object "java/lang/StackTraceElement"), interfaces := #[24, 2], accessFlags := 1041 }

/-- [Ljava/lang/Throwable; -/
def k44 : Class := { plain "[Ljava/lang/Throwable;" (some 0) with kind := .array 20 (.object "java/lang/Throwable"), interfaces := #[24, 2], accessFlags := 1041 }

def heap : Heap := #[{ cls := 7, slots := #[.long 0, .int 1, .null, .int 0, .null, .int 0, .int 0], vm := .statics 7 },
  { cls := 19, slots := #[.int 0, .int 0, .null, .null, .ref 6, .ref 5, .int 0, .int 0, .long 0], vm := .statics 19 },
  { cls := 20, slots := #[.long 0, .ref 7, .ref 8, .null, .null, .null, .null, .ref 9, .int 1], vm := .statics 20 },
  { cls := 25, slots := #[.null, .null, .null], vm := .statics 25 },
  { cls := 26, slots := #[.int 0, .int 0, .int 0, .int 0, .int 0, .int 0, .int 0, .int 0, .null, .null, .ref 8, .null], vm := .statics 26 },
  { cls := 37, slots := #[.int 48, .int 49, .int 50, .int 51, .int 52, .int 53, .int 54, .int 55, .int 56, .int 57, .int 48, .int 49, .int 50, .int 51, .int 52, .int 53, .int 54, .int 55, .int 56, .int 57, .int 48, .int 49, .int 50, .int 51, .int 52, .int 53, .int 54, .int 55, .int 56, .int 57, .int 48, .int 49, .int 50, .int 51, .int 52, .int 53, .int 54, .int 55, .int 56, .int 57, .int 48, .int 49, .int 50, .int 51, .int 52, .int 53, .int 54, .int 55, .int 56, .int 57, .int 48, .int 49, .int 50, .int 51, .int 52, .int 53, .int 54, .int 55, .int 56, .int 57, .int 48, .int 49, .int 50, .int 51, .int 52, .int 53, .int 54, .int 55, .int 56, .int 57, .int 48, .int 49, .int 50, .int 51, .int 52, .int 53, .int 54, .int 55, .int 56, .int 57, .int 48, .int 49, .int 50, .int 51, .int 52, .int 53, .int 54, .int 55, .int 56, .int 57, .int 48, .int 49, .int 50, .int 51, .int 52, .int 53, .int 54, .int 55, .int 56, .int 57], vm := .none },
  { cls := 37, slots := #[.int 48, .int 48, .int 48, .int 48, .int 48, .int 48, .int 48, .int 48, .int 48, .int 48, .int 49, .int 49, .int 49, .int 49, .int 49, .int 49, .int 49, .int 49, .int 49, .int 49, .int 50, .int 50, .int 50, .int 50, .int 50, .int 50, .int 50, .int 50, .int 50, .int 50, .int 51, .int 51, .int 51, .int 51, .int 51, .int 51, .int 51, .int 51, .int 51, .int 51, .int 52, .int 52, .int 52, .int 52, .int 52, .int 52, .int 52, .int 52, .int 52, .int 52, .int 53, .int 53, .int 53, .int 53, .int 53, .int 53, .int 53, .int 53, .int 53, .int 53, .int 54, .int 54, .int 54, .int 54, .int 54, .int 54, .int 54, .int 54, .int 54, .int 54, .int 55, .int 55, .int 55, .int 55, .int 55, .int 55, .int 55, .int 55, .int 55, .int 55, .int 56, .int 56, .int 56, .int 56, .int 56, .int 56, .int 56, .int 56, .int 56, .int 56, .int 57, .int 57, .int 57, .int 57, .int 57, .int 57, .int 57, .int 57, .int 57, .int 57], vm := .none },
  { cls := 43, slots := #[], vm := .none },
  { cls := 34, slots := #[.int 0], vm := .none },
  { cls := 44, slots := #[], vm := .none }]
def classes : Array Class := #[k0, k1, k2, k3, k4, k5, k6, k7, k8, k9, k10, k11, k12, k13, k14, k15, k16, k17, k18, k19, k20, k21, k22, k23, k24, k25, k26, k27, k28, k29, k30, k31, k32, k33, k34, k35, k36, k37, k38, k39, k40, k41, k42, k43, k44]
def interned : List (Array UInt16 × Addr) := []
def slotsUsed : Nat := 241
def theMethod : MethodId := ⟨1, 1⟩
def args0 : Array Value := #[.int 5, .int 6, .int 7, .int 8]
def aboutOver (below : List Frame) : State where
  vm := { classes := classes, interned := interned.toArray }
  heap := heap
  slotsUsed := slotsUsed
  threads := #[{ frames := .invoking theMethod args0 :: below }]
def below0 : List Frame := [.native { method := ⟨0, 0⟩, args := #[] }]
def about1 : State := aboutOver below0
def p0 : Program := .bare "" "" ""
def e0 : Env := launch0.env 0 0 0
theorem w_frames : about1.frames = Frame.invoking theMethod args0 :: below0 := rfl
set_option maxRecDepth 65536 in
theorem w_args : argsFit about1.vm theMethod args0 = true := by decide +kernel
set_option maxRecDepth 65536 in
theorem w_heap : heapFits about1 = true := by decide +kernel
set_option maxRecDepth 65536 in
theorem w_runnable : about1.curStatus? = some .runnable := by decide +kernel
set_option maxRecDepth 65536 in
theorem w_alone : about1.alone = true := by decide +kernel
set_option maxRecDepth 65536 in
theorem w_named : about1.methodNamed? x = some theMethod := by decide +kernel
set_option maxRecDepth 65536 in
theorem w_hears : about1.hears theMethod below0 = true := by decide +kernel
set_option maxRecDepth 65536 in
theorem w_ripe : about1.ripe theMethod args0 below0 = true := by decide +kernel
theorem w_running : about1.status = .running := rfl
set_option maxRecDepth 65536 in
theorem w_room : about1.hasRoom e0.platform room_1 = true :=
  launch0.hasRoom_least _ room_1 (by decide +kernel) (by decide +kernel) (by decide +kernel) (by decide +kernel) (by decide +kernel) (by decide +kernel)
theorem allAtoms_all (ts : List Jvm.Cond) (a : Array Jvm.Value) (st : Jvm.State) : (allAtoms ts).before a st = ts.all (fun c => c.before a st) := by
  induction ts with
  | nil => rfl
  | cons c t ih =>
    show (Jvm.Cond.and c (allAtoms t)).before a st = _
    rw [Jvm.Cond.before_and, ih, List.all_cons]
def words1 : List Jvm.Cond := Jvm.Cond.code x code maxLocals ret :: tables_1
/-- a 'code' word, met by the world's own term for the bytes: nothing is compared byte by byte -/
theorem code_word {y : MethodName} {bytes : ByteArray} {mx : Nat} {rt : Option FieldType} {a : Array Value} {s : State} {m : MethodId} {meth : Method} {c : Code} (h1 : s.methodNamed? y = some m) (h2 : s.vm.method? m = some meth) (h3 : meth.code = some c) (h4 : c.code = bytes)
    (h5 : (c.maxLocals == mx && c.exceptionTable.isEmpty && decide (c.maxStack ≤ mostOperands) && decide (meth.sig.returnType = rt) && !meth.locks && decide (parseMethodDescriptor y.desc = some meth.sig)) = true) : (Jvm.Cond.code y bytes mx rt).before a s = true := by
  simp only [Bool.and_eq_true, beq_iff_eq, Bool.not_eq_true', decide_eq_true_eq] at h5
  obtain ⟨⟨⟨⟨⟨g1, g2⟩, g3⟩, g4⟩, g5⟩, g6⟩ := h5
  simp [Cond.before, Cond.holds, Cond.value, h1, h2, h3, h4, g1, g2, g3, g4, g5, g6]
def isCode : Jvm.Cond → Bool
  | .code _ _ _ _ => true
  | _ => false
theorem all_split {L : List Jvm.Cond} {P : Jvm.Cond → Bool} (h1 : L.all (fun c => isCode c || P c) = true) (h2 : ∀ c ∈ L.filter isCode, P c = true) : L.all P = true := by
  refine List.all_eq_true.mpr fun c hc => ?_
  have h := List.all_eq_true.mp h1 c hc
  rcases Bool.eq_false_or_eq_true (isCode c) with hi | hi
  · exact h2 c (List.mem_filter.mpr ⟨hc, hi⟩)
  · simpa [hi] using h
set_option maxRecDepth 65536 in
theorem w_c0 : (Jvm.Cond.code x code maxLocals ret).before args0 about1 = true := code_word (m := ⟨1, 1⟩) (meth := k1m1) (c := k1c1) (by decide +kernel) rfl rfl rfl (by decide +kernel)
set_option maxRecDepth 65536 in
theorem w_c1 : (Jvm.Cond.code ({ cls := "java/lang/String", name := "valueOf", desc := "(C)Ljava/lang/String;" } : Jvm.MethodName) jdk_42_method_139_code (1 : Nat) (Option.some (Jvm.ClassFile.FieldType.object "java/lang/String"))).before args0 about1 = true := code_word (m := ⟨7, 6⟩) (meth := k7m6) (c := k7c6) (by decide +kernel) rfl rfl rfl (by decide +kernel)
set_option maxRecDepth 65536 in
theorem w_c2 : (Jvm.Cond.code ({ cls := "java/lang/StringLatin1", name := "canEncode", desc := "(C)Z" } : Jvm.MethodName) jdk_43_method_3_code (1 : Nat) (Option.some Jvm.ClassFile.FieldType.boolean)).before args0 about1 = true := code_word (m := ⟨8, 1⟩) (meth := k8m1) (c := k8c1) (by decide +kernel) rfl rfl rfl (by decide +kernel)
set_option maxRecDepth 65536 in
theorem w_c3 : (Jvm.Cond.code ({ cls := "java/lang/StringLatin1", name := "toBytes", desc := "(C)[B" } : Jvm.MethodName) jdk_43_method_46_code (1 : Nat) (Option.some (Jvm.ClassFile.FieldType.array Jvm.ClassFile.FieldType.byte))).before args0 about1 = true := code_word (m := ⟨8, 3⟩) (meth := k8m3) (c := k8c3) (by decide +kernel) rfl rfl rfl (by decide +kernel)
set_option maxRecDepth 65536 in
theorem w_c4 : (Jvm.Cond.code ({ cls := "java/lang/String", name := "<init>", desc := "([BB)V" } : Jvm.MethodName) jdk_42_method_151_code (3 : Nat) (Option.none : Option Jvm.ClassFile.FieldType)).before args0 about1 = true := code_word (m := ⟨7, 10⟩) (meth := k7m10) (c := k7c10) (by decide +kernel) rfl rfl rfl (by decide +kernel)
set_option maxRecDepth 65536 in
theorem w_c5 : (Jvm.Cond.code ({ cls := "java/lang/Object", name := "<init>", desc := "()V" } : Jvm.MethodName) object_method_1_code (1 : Nat) (Option.none : Option Jvm.ClassFile.FieldType)).before args0 about1 = true := code_word (m := ⟨0, 0⟩) (meth := k0m0) (c := k0c0) (by decide +kernel) rfl rfl rfl (by decide +kernel)
set_option maxRecDepth 65536 in
theorem w_c6 : (Jvm.Cond.code ({ cls := "com/example/gridtally/gridtally/engine/OriginRefuseSecondPinLaw", name := "decLen", desc := "(I)I" } : Jvm.MethodName) method_4_code (4 : Nat) (Option.some Jvm.ClassFile.FieldType.int)).before args0 about1 = true := code_word (m := ⟨1, 3⟩) (meth := k1m3) (c := k1c3) (by decide +kernel) rfl rfl rfl (by decide +kernel)
set_option maxRecDepth 65536 in
theorem w_c7 : (Jvm.Cond.code ({ cls := "com/example/gridtally/gridtally/engine/OriginRefuseSecondPinLaw", name := "digits", desc := "(J)I" } : Jvm.MethodName) method_3_code (2 : Nat) (Option.some Jvm.ClassFile.FieldType.int)).before args0 about1 = true := code_word (m := ⟨1, 2⟩) (meth := k1m2) (c := k1c2) (by decide +kernel) rfl rfl rfl (by decide +kernel)
set_option maxRecDepth 65536 in
theorem w_c8 : (Jvm.Cond.code ({ cls := "com/example/gridtally/gridtally/engine/OriginRefuseSecondPinLaw", name := "putInt", desc := "([CII)I" } : Jvm.MethodName) method_6_code (6 : Nat) (Option.some Jvm.ClassFile.FieldType.int)).before args0 about1 = true := code_word (m := ⟨1, 5⟩) (meth := k1m5) (c := k1c5) (by decide +kernel) rfl rfl rfl (by decide +kernel)
set_option maxRecDepth 65536 in
theorem w_c9 : (Jvm.Cond.code ({ cls := "com/example/gridtally/gridtally/engine/OriginRefuseSecondPinLaw", name := "dig", desc := "(J)C" } : Jvm.MethodName) method_5_code (2 : Nat) (Option.some Jvm.ClassFile.FieldType.char)).before args0 about1 = true := code_word (m := ⟨1, 4⟩) (meth := k1m4) (c := k1c4) (by decide +kernel) rfl rfl rfl (by decide +kernel)
set_option maxRecDepth 65536 in
theorem w_c10 : (Jvm.Cond.code ({ cls := "com/example/gridtally/gridtally/engine/OriginRefuseSecondPinLaw", name := "putFirstIsAt", desc := "([CI)I" } : Jvm.MethodName) method_7_code (2 : Nat) (Option.some Jvm.ClassFile.FieldType.int)).before args0 about1 = true := code_word (m := ⟨1, 6⟩) (meth := k1m6) (c := k1c6) (by decide +kernel) rfl rfl rfl (by decide +kernel)
set_option maxRecDepth 65536 in
theorem w_c11 : (Jvm.Cond.code ({ cls := "com/example/gridtally/gridtally/engine/Origin", name := "<init>", desc := "(Ljava/lang/String;I)V" } : Jvm.MethodName) prog_5_method_1_code (3 : Nat) (Option.none : Option Jvm.ClassFile.FieldType)).before args0 about1 = true := code_word (m := ⟨10, 0⟩) (meth := k10m0) (c := k10c0) (by decide +kernel) rfl rfl rfl (by decide +kernel)
set_option maxRecDepth 65536 in
theorem w_c12 : (Jvm.Cond.code ({ cls := "java/lang/Record", name := "<init>", desc := "()V" } : Jvm.MethodName) jdk_30_method_1_code (1 : Nat) (Option.none : Option Jvm.ClassFile.FieldType)).before args0 about1 = true := code_word (m := ⟨9, 0⟩) (meth := k9m0) (c := k9c0) (by decide +kernel) rfl rfl rfl (by decide +kernel)
set_option maxRecDepth 65536 in
theorem w_c13 : (Jvm.Cond.code ({ cls := "com/example/gridtally/gridtally/engine/Origin", name := "refuseSecond", desc := "(Ljava/lang/String;Lcom/example/gridtally/gridtally/engine/Origin;)Lcom/example/gridtally/gridtally/engine/RefusedInputException;" } : Jvm.MethodName) prog_5_method_3_code (3 : Nat) (Option.some (Jvm.ClassFile.FieldType.object "com/example/gridtally/gridtally/engine/RefusedInputException"))).before args0 about1 = true := code_word (m := ⟨10, 2⟩) (meth := k10m2) (c := k10c2) (by decide +kernel) rfl rfl rfl (by decide +kernel)
set_option maxRecDepth 65536 in
theorem w_c14 : (Jvm.Cond.code ({ cls := "java/lang/StringBuilder", name := "<init>", desc := "()V" } : Jvm.MethodName) jdk_67_method_1_code (1 : Nat) (Option.none : Option Jvm.ClassFile.FieldType)).before args0 about1 = true := code_word (m := ⟨13, 0⟩) (meth := k13m0) (c := k13c0) (by decide +kernel) rfl rfl rfl (by decide +kernel)
set_option maxRecDepth 65536 in
theorem w_c15 : (Jvm.Cond.code ({ cls := "java/lang/AbstractStringBuilder", name := "<init>", desc := "(I)V" } : Jvm.MethodName) jdk_68_method_2_code (2 : Nat) (Option.none : Option Jvm.ClassFile.FieldType)).before args0 about1 = true := code_word (m := ⟨12, 1⟩) (meth := k12m1) (c := k12c1) (by decide +kernel) rfl rfl rfl (by decide +kernel)
set_option maxRecDepth 65536 in
theorem w_c16 : (Jvm.Cond.code ({ cls := "java/lang/StringBuilder", name := "append", desc := "(Ljava/lang/String;)Ljava/lang/StringBuilder;" } : Jvm.MethodName) jdk_67_method_7_code (2 : Nat) (Option.some (Jvm.ClassFile.FieldType.object "java/lang/StringBuilder"))).before args0 about1 = true := code_word (m := ⟨13, 2⟩) (meth := k13m2) (c := k13c2) (by decide +kernel) rfl rfl rfl (by decide +kernel)
set_option maxRecDepth 65536 in
theorem w_c17 : (Jvm.Cond.code ({ cls := "java/lang/AbstractStringBuilder", name := "append", desc := "(Ljava/lang/String;)Ljava/lang/AbstractStringBuilder;" } : Jvm.MethodName) jdk_68_method_22_code (3 : Nat) (Option.some (Jvm.ClassFile.FieldType.object "java/lang/AbstractStringBuilder"))).before args0 about1 = true := code_word (m := ⟨12, 5⟩) (meth := k12m5) (c := k12c5) (by decide +kernel) rfl rfl rfl (by decide +kernel)
set_option maxRecDepth 65536 in
theorem w_c18 : (Jvm.Cond.code ({ cls := "java/lang/String", name := "length", desc := "()I" } : Jvm.MethodName) jdk_42_method_54_code (1 : Nat) (Option.some Jvm.ClassFile.FieldType.int)).before args0 about1 = true := code_word (m := ⟨7, 3⟩) (meth := k7m3) (c := k7c3) (by decide +kernel) rfl rfl rfl (by decide +kernel)
set_option maxRecDepth 65536 in
theorem w_c19 : (Jvm.Cond.code ({ cls := "java/lang/String", name := "coder", desc := "()B" } : Jvm.MethodName) jdk_42_method_152_code (1 : Nat) (Option.some Jvm.ClassFile.FieldType.byte)).before args0 about1 = true := code_word (m := ⟨7, 11⟩) (meth := k7m11) (c := k7c11) (by decide +kernel) rfl rfl rfl (by decide +kernel)
set_option maxRecDepth 65536 in
theorem w_c20 : (Jvm.Cond.code ({ cls := "java/lang/AbstractStringBuilder", name := "ensureCapacityInternal", desc := "(I)V" } : Jvm.MethodName) jdk_68_method_9_code (3 : Nat) (Option.none : Option Jvm.ClassFile.FieldType)).before args0 about1 = true := code_word (m := ⟨12, 3⟩) (meth := k12m3) (c := k12c3) (by decide +kernel) rfl rfl rfl (by decide +kernel)
set_option maxRecDepth 65536 in
theorem w_c21 : (Jvm.Cond.code ({ cls := "java/lang/AbstractStringBuilder", name := "putStringAt", desc := "(ILjava/lang/String;)V" } : Jvm.MethodName) jdk_68_method_73_code (3 : Nat) (Option.none : Option Jvm.ClassFile.FieldType)).before args0 about1 = true := code_word (m := ⟨12, 10⟩) (meth := k12m10) (c := k12c10) (by decide +kernel) rfl rfl rfl (by decide +kernel)
set_option maxRecDepth 65536 in
theorem w_c22 : (Jvm.Cond.code ({ cls := "java/lang/AbstractStringBuilder", name := "inflateIfNeededFor", desc := "(Ljava/lang/String;)V" } : Jvm.MethodName) jdk_68_method_71_code (2 : Nat) (Option.none : Option Jvm.ClassFile.FieldType)).before args0 about1 = true := code_word (m := ⟨12, 9⟩) (meth := k12m9) (c := k12c9) (by decide +kernel) rfl rfl rfl (by decide +kernel)
set_option maxRecDepth 65536 in
theorem w_c23 : (Jvm.Cond.code ({ cls := "java/lang/String", name := "getBytes", desc := "([BIB)V" } : Jvm.MethodName) jdk_42_method_147_code (4 : Nat) (Option.none : Option Jvm.ClassFile.FieldType)).before args0 about1 = true := code_word (m := ⟨7, 7⟩) (meth := k7m7) (c := k7c7) (by decide +kernel) rfl rfl rfl (by decide +kernel)
set_option maxRecDepth 65536 in
theorem w_c24 : (Jvm.Cond.code ({ cls := "java/lang/AbstractStringBuilder", name := "newCapacity", desc := "(I)I" } : Jvm.MethodName) jdk_68_method_10_code (6 : Nat) (Option.some Jvm.ClassFile.FieldType.int)).before args0 about1 = true := code_word (m := ⟨12, 4⟩) (meth := k12m4) (c := k12c4) (by decide +kernel) rfl rfl rfl (by decide +kernel)
set_option maxRecDepth 65536 in
theorem w_c25 : (Jvm.Cond.code ({ cls := "jdk/internal/util/ArraysSupport", name := "newLength", desc := "(III)I" } : Jvm.MethodName) jdk_48_method_27_code (4 : Nat) (Option.some Jvm.ClassFile.FieldType.int)).before args0 about1 = true := code_word (m := ⟨15, 1⟩) (meth := k15m1) (c := k15c1) (by decide +kernel) rfl rfl rfl (by decide +kernel)
set_option maxRecDepth 65536 in
theorem w_c26 : (Jvm.Cond.code ({ cls := "java/lang/Math", name := "max", desc := "(II)I" } : Jvm.MethodName) jdk_29_method_65_code (2 : Nat) (Option.some Jvm.ClassFile.FieldType.int)).before args0 about1 = true := code_word (m := ⟨16, 1⟩) (meth := k16m1) (c := k16c1) (by decide +kernel) rfl rfl rfl (by decide +kernel)
set_option maxRecDepth 65536 in
theorem w_c27 : (Jvm.Cond.code ({ cls := "java/util/Arrays", name := "copyOf", desc := "([BI)[B" } : Jvm.MethodName) jdk_65_method_121_code (3 : Nat) (Option.some (Jvm.ClassFile.FieldType.array Jvm.ClassFile.FieldType.byte))).before args0 about1 = true := code_word (m := ⟨17, 1⟩) (meth := k17m1) (c := k17c1) (by decide +kernel) rfl rfl rfl (by decide +kernel)
set_option maxRecDepth 65536 in
theorem w_c28 : (Jvm.Cond.code ({ cls := "java/lang/Math", name := "min", desc := "(II)I" } : Jvm.MethodName) jdk_29_method_69_code (2 : Nat) (Option.some Jvm.ClassFile.FieldType.int)).before args0 about1 = true := code_word (m := ⟨16, 2⟩) (meth := k16m2) (c := k16c2) (by decide +kernel) rfl rfl rfl (by decide +kernel)
set_option maxRecDepth 65536 in
theorem w_c29 : (Jvm.Cond.code ({ cls := "java/lang/StringBuilder", name := "append", desc := "(Ljava/lang/Object;)Ljava/lang/StringBuilder;" } : Jvm.MethodName) jdk_67_method_6_code (2 : Nat) (Option.some (Jvm.ClassFile.FieldType.object "java/lang/StringBuilder"))).before args0 about1 = true := code_word (m := ⟨13, 1⟩) (meth := k13m1) (c := k13c1) (by decide +kernel) rfl rfl rfl (by decide +kernel)
set_option maxRecDepth 65536 in
theorem w_c30 : (Jvm.Cond.code ({ cls := "java/lang/String", name := "valueOf", desc := "(Ljava/lang/Object;)Ljava/lang/String;" } : Jvm.MethodName) jdk_42_method_133_code (1 : Nat) (Option.some (Jvm.ClassFile.FieldType.object "java/lang/String"))).before args0 about1 = true := code_word (m := ⟨7, 5⟩) (meth := k7m5) (c := k7c5) (by decide +kernel) rfl rfl rfl (by decide +kernel)
set_option maxRecDepth 65536 in
theorem w_c31 : (Jvm.Cond.code ({ cls := "com/example/gridtally/gridtally/engine/Origin", name := "toString", desc := "()Ljava/lang/String;" } : Jvm.MethodName) prog_5_method_4_code (1 : Nat) (Option.some (Jvm.ClassFile.FieldType.object "java/lang/String"))).before args0 about1 = true := code_word (m := ⟨10, 3⟩) (meth := k10m3) (c := k10c3) (by decide +kernel) rfl rfl rfl (by decide +kernel)
set_option maxRecDepth 65536 in
theorem w_c32 : (Jvm.Cond.code ({ cls := "java/lang/StringBuilder", name := "append", desc := "(I)Ljava/lang/StringBuilder;" } : Jvm.MethodName) jdk_67_method_15_code (2 : Nat) (Option.some (Jvm.ClassFile.FieldType.object "java/lang/StringBuilder"))).before args0 about1 = true := code_word (m := ⟨13, 3⟩) (meth := k13m3) (c := k13c3) (by decide +kernel) rfl rfl rfl (by decide +kernel)
set_option maxRecDepth 65536 in
theorem w_c33 : (Jvm.Cond.code ({ cls := "java/lang/AbstractStringBuilder", name := "append", desc := "(I)Ljava/lang/AbstractStringBuilder;" } : Jvm.MethodName) jdk_68_method_32_code (4 : Nat) (Option.some (Jvm.ClassFile.FieldType.object "java/lang/AbstractStringBuilder"))).before args0 about1 = true := code_word (m := ⟨12, 6⟩) (meth := k12m6) (c := k12c6) (by decide +kernel) rfl rfl rfl (by decide +kernel)
set_option maxRecDepth 65536 in
theorem w_c34 : (Jvm.Cond.code ({ cls := "java/lang/Integer", name := "stringSize", desc := "(I)I" } : Jvm.MethodName) jdk_33_method_13_code (4 : Nat) (Option.some Jvm.ClassFile.FieldType.int)).before args0 about1 = true := code_word (m := ⟨19, 1⟩) (meth := k19m1) (c := k19c1) (by decide +kernel) rfl rfl rfl (by decide +kernel)
set_option maxRecDepth 65536 in
theorem w_c35 : (Jvm.Cond.code ({ cls := "java/lang/AbstractStringBuilder", name := "isLatin1", desc := "()Z" } : Jvm.MethodName) jdk_68_method_68_code (1 : Nat) (Option.some Jvm.ClassFile.FieldType.boolean)).before args0 about1 = true := code_word (m := ⟨12, 8⟩) (meth := k12m8) (c := k12c8) (by decide +kernel) rfl rfl rfl (by decide +kernel)
set_option maxRecDepth 65536 in
theorem w_c36 : (Jvm.Cond.code ({ cls := "java/lang/Integer", name := "getChars", desc := "(II[B)I" } : Jvm.MethodName) jdk_33_method_12_code (7 : Nat) (Option.some Jvm.ClassFile.FieldType.int)).before args0 about1 = true := code_word (m := ⟨19, 0⟩) (meth := k19m0) (c := k19c0) (by decide +kernel) rfl rfl rfl (by decide +kernel)
set_option maxRecDepth 65536 in
theorem w_c37 : (Jvm.Cond.code ({ cls := "java/lang/StringBuilder", name := "toString", desc := "()Ljava/lang/String;" } : Jvm.MethodName) jdk_67_method_42_code (1 : Nat) (Option.some (Jvm.ClassFile.FieldType.object "java/lang/String"))).before args0 about1 = true := code_word (m := ⟨13, 4⟩) (meth := k13m4) (c := k13c4) (by decide +kernel) rfl rfl rfl (by decide +kernel)
set_option maxRecDepth 65536 in
theorem w_c38 : (Jvm.Cond.code ({ cls := "java/lang/String", name := "<init>", desc := "(Ljava/lang/StringBuilder;)V" } : Jvm.MethodName) jdk_42_method_53_code (2 : Nat) (Option.none : Option Jvm.ClassFile.FieldType)).before args0 about1 = true := code_word (m := ⟨7, 2⟩) (meth := k7m2) (c := k7c2) (by decide +kernel) rfl rfl rfl (by decide +kernel)
set_option maxRecDepth 65536 in
theorem w_c39 : (Jvm.Cond.code ({ cls := "java/lang/String", name := "<init>", desc := "(Ljava/lang/AbstractStringBuilder;Ljava/lang/Void;)V" } : Jvm.MethodName) jdk_42_method_150_code (5 : Nat) (Option.none : Option Jvm.ClassFile.FieldType)).before args0 about1 = true := code_word (m := ⟨7, 9⟩) (meth := k7m9) (c := k7c9) (by decide +kernel) rfl rfl rfl (by decide +kernel)
set_option maxRecDepth 65536 in
theorem w_c40 : (Jvm.Cond.code ({ cls := "java/lang/AbstractStringBuilder", name := "getValue", desc := "()[B" } : Jvm.MethodName) jdk_68_method_64_code (1 : Nat) (Option.some (Jvm.ClassFile.FieldType.array Jvm.ClassFile.FieldType.byte))).before args0 about1 = true := code_word (m := ⟨12, 7⟩) (meth := k12m7) (c := k12c7) (by decide +kernel) rfl rfl rfl (by decide +kernel)
set_option maxRecDepth 65536 in
theorem w_c41 : (Jvm.Cond.code ({ cls := "java/lang/StringBuilder", name := "length", desc := "()I" } : Jvm.MethodName) jdk_67_method_93_code (1 : Nat) (Option.some Jvm.ClassFile.FieldType.int)).before args0 about1 = true := code_word (m := ⟨13, 5⟩) (meth := k13m5) (c := k13c5) (by decide +kernel) rfl rfl rfl (by decide +kernel)
set_option maxRecDepth 65536 in
theorem w_c42 : (Jvm.Cond.code ({ cls := "java/lang/AbstractStringBuilder", name := "length", desc := "()I" } : Jvm.MethodName) jdk_68_method_6_code (1 : Nat) (Option.some Jvm.ClassFile.FieldType.int)).before args0 about1 = true := code_word (m := ⟨12, 2⟩) (meth := k12m2) (c := k12c2) (by decide +kernel) rfl rfl rfl (by decide +kernel)
set_option maxRecDepth 65536 in
theorem w_c43 : (Jvm.Cond.code ({ cls := "java/util/Arrays", name := "copyOfRange", desc := "([BII)[B" } : Jvm.MethodName) jdk_65_method_132_code (3 : Nat) (Option.some (Jvm.ClassFile.FieldType.array Jvm.ClassFile.FieldType.byte))).before args0 about1 = true := code_word (m := ⟨17, 3⟩) (meth := k17m3) (c := k17c3) (by decide +kernel) rfl rfl rfl (by decide +kernel)
set_option maxRecDepth 65536 in
theorem w_c44 : (Jvm.Cond.code ({ cls := "java/util/Arrays", name := "copyOfRangeByte", desc := "([BII)[B" } : Jvm.MethodName) jdk_65_method_133_code (5 : Nat) (Option.some (Jvm.ClassFile.FieldType.array Jvm.ClassFile.FieldType.byte))).before args0 about1 = true := code_word (m := ⟨17, 4⟩) (meth := k17m4) (c := k17c4) (by decide +kernel) rfl rfl rfl (by decide +kernel)
set_option maxRecDepth 65536 in
theorem w_c45 : (Jvm.Cond.code ({ cls := "java/util/Arrays", name := "checkLength", desc := "(II)V" } : Jvm.MethodName) jdk_65_method_131_code (2 : Nat) (Option.none : Option Jvm.ClassFile.FieldType)).before args0 about1 = true := code_word (m := ⟨17, 2⟩) (meth := k17m2) (c := k17c2) (by decide +kernel) rfl rfl rfl (by decide +kernel)
set_option maxRecDepth 65536 in
theorem w_c46 : (Jvm.Cond.code ({ cls := "com/example/gridtally/gridtally/engine/Origin", name := "refuse", desc := "(Ljava/lang/String;)Lcom/example/gridtally/gridtally/engine/RefusedInputException;" } : Jvm.MethodName) prog_5_method_2_code (2 : Nat) (Option.some (Jvm.ClassFile.FieldType.object "com/example/gridtally/gridtally/engine/RefusedInputException"))).before args0 about1 = true := code_word (m := ⟨10, 1⟩) (meth := k10m1) (c := k10c1) (by decide +kernel) rfl rfl rfl (by decide +kernel)
set_option maxRecDepth 65536 in
theorem w_c47 : (Jvm.Cond.code ({ cls := "com/example/gridtally/gridtally/engine/RefusedInputException", name := "<init>", desc := "(Ljava/lang/String;ILjava/lang/String;)V" } : Jvm.MethodName) prog_8_method_2_code (4 : Nat) (Option.none : Option Jvm.ClassFile.FieldType)).before args0 about1 = true := code_word (m := ⟨22, 0⟩) (meth := k22m0) (c := k22c0) (by decide +kernel) rfl rfl rfl (by decide +kernel)
set_option maxRecDepth 65536 in
theorem w_c48 : (Jvm.Cond.code ({ cls := "java/lang/Exception", name := "<init>", desc := "(Ljava/lang/String;)V" } : Jvm.MethodName) jdk_59_method_2_code (2 : Nat) (Option.none : Option Jvm.ClassFile.FieldType)).before args0 about1 = true := code_word (m := ⟨21, 1⟩) (meth := k21m1) (c := k21c1) (by decide +kernel) rfl rfl rfl (by decide +kernel)
set_option maxRecDepth 65536 in
theorem w_c49 : (Jvm.Cond.code ({ cls := "java/lang/Throwable", name := "<init>", desc := "(Ljava/lang/String;)V" } : Jvm.MethodName) jdk_78_method_2_code (2 : Nat) (Option.none : Option Jvm.ClassFile.FieldType)).before args0 about1 = true := code_word (m := ⟨20, 1⟩) (meth := k20m1) (c := k20c1) (by decide +kernel) rfl rfl rfl (by decide +kernel)
set_option maxRecDepth 65536 in
theorem w_c50 : (Jvm.Cond.code ({ cls := "java/lang/Throwable", name := "<init>", desc := "()V" } : Jvm.MethodName) jdk_78_method_1_code (1 : Nat) (Option.none : Option Jvm.ClassFile.FieldType)).before args0 about1 = true := code_word (m := ⟨20, 0⟩) (meth := k20m0) (c := k20c0) (by decide +kernel) rfl rfl rfl (by decide +kernel)
set_option maxRecDepth 65536 in
theorem w_c51 : (Jvm.Cond.code ({ cls := "java/lang/String", name := "<init>", desc := "([C)V" } : Jvm.MethodName) jdk_42_method_3_code (2 : Nat) (Option.none : Option Jvm.ClassFile.FieldType)).before args0 about1 = true := code_word (m := ⟨7, 1⟩) (meth := k7m1) (c := k7c1) (by decide +kernel) rfl rfl rfl (by decide +kernel)
set_option maxRecDepth 65536 in
theorem w_c52 : (Jvm.Cond.code ({ cls := "java/lang/String", name := "<init>", desc := "([CIILjava/lang/Void;)V" } : Jvm.MethodName) jdk_42_method_149_code (6 : Nat) (Option.none : Option Jvm.ClassFile.FieldType)).before args0 about1 = true := code_word (m := ⟨7, 8⟩) (meth := k7m8) (c := k7c8) (by decide +kernel) rfl rfl rfl (by decide +kernel)
set_option maxRecDepth 65536 in
theorem w_c53 : (Jvm.Cond.code ({ cls := "java/lang/StringUTF16", name := "compress", desc := "([CII)[B" } : Jvm.MethodName) jdk_52_method_16_code (6 : Nat) (Option.some (Jvm.ClassFile.FieldType.array Jvm.ClassFile.FieldType.byte))).before args0 about1 = true := code_word (m := ⟨23, 2⟩) (meth := k23m2) (c := k23c2) (by decide +kernel) rfl rfl rfl (by decide +kernel)
set_option maxRecDepth 65536 in
theorem w_c54 : (Jvm.Cond.code ({ cls := "java/lang/StringUTF16", name := "compress", desc := "([CI[BII)I" } : Jvm.MethodName) jdk_52_method_21_code (7 : Nat) (Option.some Jvm.ClassFile.FieldType.int)).before args0 about1 = true := code_word (m := ⟨23, 3⟩) (meth := k23m3) (c := k23c3) (by decide +kernel) rfl rfl rfl (by decide +kernel)
set_option maxRecDepth 65536 in
theorem w_c55 : (Jvm.Cond.code ({ cls := "java/lang/StringUTF16", name := "coderFromArrayLen", desc := "([BI)B" } : Jvm.MethodName) jdk_52_method_15_code (2 : Nat) (Option.some Jvm.ClassFile.FieldType.byte)).before args0 about1 = true := code_word (m := ⟨23, 1⟩) (meth := k23m1) (c := k23c1) (by decide +kernel) rfl rfl rfl (by decide +kernel)
set_option maxRecDepth 65536 in
theorem w_c56 : (Jvm.Cond.code ({ cls := "java/lang/Throwable", name := "getMessage", desc := "()Ljava/lang/String;" } : Jvm.MethodName) jdk_78_method_6_code (1 : Nat) (Option.some (Jvm.ClassFile.FieldType.object "java/lang/String"))).before args0 about1 = true := code_word (m := ⟨20, 2⟩) (meth := k20m2) (c := k20c2) (by decide +kernel) rfl rfl rfl (by decide +kernel)
set_option maxRecDepth 65536 in
theorem w_c57 : (Jvm.Cond.code ({ cls := "java/lang/String", name := "equals", desc := "(Ljava/lang/Object;)Z" } : Jvm.MethodName) jdk_42_method_66_code (3 : Nat) (Option.some Jvm.ClassFile.FieldType.boolean)).before args0 about1 = true := code_word (m := ⟨7, 4⟩) (meth := k7m4) (c := k7c4) (by decide +kernel) rfl rfl rfl (by decide +kernel)
set_option maxRecDepth 65536 in
theorem w_c58 : (Jvm.Cond.code ({ cls := "java/lang/StringLatin1", name := "equals", desc := "([B[B)Z" } : Jvm.MethodName) jdk_43_method_13_code (3 : Nat) (Option.some Jvm.ClassFile.FieldType.boolean)).before args0 about1 = true := code_word (m := ⟨8, 2⟩) (meth := k8m2) (c := k8c2) (by decide +kernel) rfl rfl rfl (by decide +kernel)
def codes1 : List Jvm.Cond := [Jvm.Cond.code x code maxLocals ret, Jvm.Cond.code ({ cls := "java/lang/String", name := "valueOf", desc := "(C)Ljava/lang/String;" } : Jvm.MethodName) jdk_42_method_139_code (1 : Nat) (Option.some (Jvm.ClassFile.FieldType.object "java/lang/String")), Jvm.Cond.code ({ cls := "java/lang/StringLatin1", name := "canEncode", desc := "(C)Z" } : Jvm.MethodName) jdk_43_method_3_code (1 : Nat) (Option.some Jvm.ClassFile.FieldType.boolean), Jvm.Cond.code ({ cls := "java/lang/StringLatin1", name := "toBytes", desc := "(C)[B" } : Jvm.MethodName) jdk_43_method_46_code (1 : Nat) (Option.some (Jvm.ClassFile.FieldType.array Jvm.ClassFile.FieldType.byte)), Jvm.Cond.code ({ cls := "java/lang/String", name := "<init>", desc := "([BB)V" } : Jvm.MethodName) jdk_42_method_151_code (3 : Nat) (Option.none : Option Jvm.ClassFile.FieldType), Jvm.Cond.code ({ cls := "java/lang/Object", name := "<init>", desc := "()V" } : Jvm.MethodName) object_method_1_code (1 : Nat) (Option.none : Option Jvm.ClassFile.FieldType), Jvm.Cond.code ({ cls := "com/example/gridtally/gridtally/engine/OriginRefuseSecondPinLaw", name := "decLen", desc := "(I)I" } : Jvm.MethodName) method_4_code (4 : Nat) (Option.some Jvm.ClassFile.FieldType.int), Jvm.Cond.code ({ cls := "com/example/gridtally/gridtally/engine/OriginRefuseSecondPinLaw", name := "digits", desc := "(J)I" } : Jvm.MethodName) method_3_code (2 : Nat) (Option.some Jvm.ClassFile.FieldType.int), Jvm.Cond.code ({ cls := "com/example/gridtally/gridtally/engine/OriginRefuseSecondPinLaw", name := "putInt", desc := "([CII)I" } : Jvm.MethodName) method_6_code (6 : Nat) (Option.some Jvm.ClassFile.FieldType.int), Jvm.Cond.code ({ cls := "com/example/gridtally/gridtally/engine/OriginRefuseSecondPinLaw", name := "dig", desc := "(J)C" } : Jvm.MethodName) method_5_code (2 : Nat) (Option.some Jvm.ClassFile.FieldType.char), Jvm.Cond.code ({ cls := "com/example/gridtally/gridtally/engine/OriginRefuseSecondPinLaw", name := "putFirstIsAt", desc := "([CI)I" } : Jvm.MethodName) method_7_code (2 : Nat) (Option.some Jvm.ClassFile.FieldType.int), Jvm.Cond.code ({ cls := "com/example/gridtally/gridtally/engine/Origin", name := "<init>", desc := "(Ljava/lang/String;I)V" } : Jvm.MethodName) prog_5_method_1_code (3 : Nat) (Option.none : Option Jvm.ClassFile.FieldType), Jvm.Cond.code ({ cls := "java/lang/Record", name := "<init>", desc := "()V" } : Jvm.MethodName) jdk_30_method_1_code (1 : Nat) (Option.none : Option Jvm.ClassFile.FieldType), Jvm.Cond.code ({ cls := "com/example/gridtally/gridtally/engine/Origin", name := "refuseSecond", desc := "(Ljava/lang/String;Lcom/example/gridtally/gridtally/engine/Origin;)Lcom/example/gridtally/gridtally/engine/RefusedInputException;" } : Jvm.MethodName) prog_5_method_3_code (3 : Nat) (Option.some (Jvm.ClassFile.FieldType.object "com/example/gridtally/gridtally/engine/RefusedInputException")), Jvm.Cond.code ({ cls := "java/lang/StringBuilder", name := "<init>", desc := "()V" } : Jvm.MethodName) jdk_67_method_1_code (1 : Nat) (Option.none : Option Jvm.ClassFile.FieldType), Jvm.Cond.code ({ cls := "java/lang/AbstractStringBuilder", name := "<init>", desc := "(I)V" } : Jvm.MethodName) jdk_68_method_2_code (2 : Nat) (Option.none : Option Jvm.ClassFile.FieldType), Jvm.Cond.code ({ cls := "java/lang/StringBuilder", name := "append", desc := "(Ljava/lang/String;)Ljava/lang/StringBuilder;" } : Jvm.MethodName) jdk_67_method_7_code (2 : Nat) (Option.some (Jvm.ClassFile.FieldType.object "java/lang/StringBuilder")), Jvm.Cond.code ({ cls := "java/lang/AbstractStringBuilder", name := "append", desc := "(Ljava/lang/String;)Ljava/lang/AbstractStringBuilder;" } : Jvm.MethodName) jdk_68_method_22_code (3 : Nat) (Option.some (Jvm.ClassFile.FieldType.object "java/lang/AbstractStringBuilder")), Jvm.Cond.code ({ cls := "java/lang/String", name := "length", desc := "()I" } : Jvm.MethodName) jdk_42_method_54_code (1 : Nat) (Option.some Jvm.ClassFile.FieldType.int), Jvm.Cond.code ({ cls := "java/lang/String", name := "coder", desc := "()B" } : Jvm.MethodName) jdk_42_method_152_code (1 : Nat) (Option.some Jvm.ClassFile.FieldType.byte), Jvm.Cond.code ({ cls := "java/lang/AbstractStringBuilder", name := "ensureCapacityInternal", desc := "(I)V" } : Jvm.MethodName) jdk_68_method_9_code (3 : Nat) (Option.none : Option Jvm.ClassFile.FieldType), Jvm.Cond.code ({ cls := "java/lang/AbstractStringBuilder", name := "putStringAt", desc := "(ILjava/lang/String;)V" } : Jvm.MethodName) jdk_68_method_73_code (3 : Nat) (Option.none : Option Jvm.ClassFile.FieldType), Jvm.Cond.code ({ cls := "java/lang/AbstractStringBuilder", name := "inflateIfNeededFor", desc := "(Ljava/lang/String;)V" } : Jvm.MethodName) jdk_68_method_71_code (2 : Nat) (Option.none : Option Jvm.ClassFile.FieldType), Jvm.Cond.code ({ cls := "java/lang/String", name := "getBytes", desc := "([BIB)V" } : Jvm.MethodName) jdk_42_method_147_code (4 : Nat) (Option.none : Option Jvm.ClassFile.FieldType), Jvm.Cond.code ({ cls := "java/lang/AbstractStringBuilder", name := "newCapacity", desc := "(I)I" } : Jvm.MethodName) jdk_68_method_10_code (6 : Nat) (Option.some Jvm.ClassFile.FieldType.int), Jvm.Cond.code ({ cls := "jdk/internal/util/ArraysSupport", name := "newLength", desc := "(III)I" } : Jvm.MethodName) jdk_48_method_27_code (4 : Nat) (Option.some Jvm.ClassFile.FieldType.int), Jvm.Cond.code ({ cls := "java/lang/Math", name := "max", desc := "(II)I" } : Jvm.MethodName) jdk_29_method_65_code (2 : Nat) (Option.some Jvm.ClassFile.FieldType.int), Jvm.Cond.code ({ cls := "java/util/Arrays", name := "copyOf", desc := "([BI)[B" } : Jvm.MethodName) jdk_65_method_121_code (3 : Nat) (Option.some (Jvm.ClassFile.FieldType.array Jvm.ClassFile.FieldType.byte)), Jvm.Cond.code ({ cls := "java/lang/Math", name := "min", desc := "(II)I" } : Jvm.MethodName) jdk_29_method_69_code (2 : Nat) (Option.some Jvm.ClassFile.FieldType.int), Jvm.Cond.code ({ cls := "java/lang/StringBuilder", name := "append", desc := "(Ljava/lang/Object;)Ljava/lang/StringBuilder;" } : Jvm.MethodName) jdk_67_method_6_code (2 : Nat) (Option.some (Jvm.ClassFile.FieldType.object "java/lang/StringBuilder")), Jvm.Cond.code ({ cls := "java/lang/String", name := "valueOf", desc := "(Ljava/lang/Object;)Ljava/lang/String;" } : Jvm.MethodName) jdk_42_method_133_code (1 : Nat) (Option.some (Jvm.ClassFile.FieldType.object "java/lang/String")), Jvm.Cond.code ({ cls := "com/example/gridtally/gridtally/engine/Origin", name := "toString", desc := "()Ljava/lang/String;" } : Jvm.MethodName) prog_5_method_4_code (1 : Nat) (Option.some (Jvm.ClassFile.FieldType.object "java/lang/String")), Jvm.Cond.code ({ cls := "java/lang/StringBuilder", name := "append", desc := "(I)Ljava/lang/StringBuilder;" } : Jvm.MethodName) jdk_67_method_15_code (2 : Nat) (Option.some (Jvm.ClassFile.FieldType.object "java/lang/StringBuilder")), Jvm.Cond.code ({ cls := "java/lang/AbstractStringBuilder", name := "append", desc := "(I)Ljava/lang/AbstractStringBuilder;" } : Jvm.MethodName) jdk_68_method_32_code (4 : Nat) (Option.some (Jvm.ClassFile.FieldType.object "java/lang/AbstractStringBuilder")), Jvm.Cond.code ({ cls := "java/lang/Integer", name := "stringSize", desc := "(I)I" } : Jvm.MethodName) jdk_33_method_13_code (4 : Nat) (Option.some Jvm.ClassFile.FieldType.int), Jvm.Cond.code ({ cls := "java/lang/AbstractStringBuilder", name := "isLatin1", desc := "()Z" } : Jvm.MethodName) jdk_68_method_68_code (1 : Nat) (Option.some Jvm.ClassFile.FieldType.boolean), Jvm.Cond.code ({ cls := "java/lang/Integer", name := "getChars", desc := "(II[B)I" } : Jvm.MethodName) jdk_33_method_12_code (7 : Nat) (Option.some Jvm.ClassFile.FieldType.int), Jvm.Cond.code ({ cls := "java/lang/StringBuilder", name := "toString", desc := "()Ljava/lang/String;" } : Jvm.MethodName) jdk_67_method_42_code (1 : Nat) (Option.some (Jvm.ClassFile.FieldType.object "java/lang/String")), Jvm.Cond.code ({ cls := "java/lang/String", name := "<init>", desc := "(Ljava/lang/StringBuilder;)V" } : Jvm.MethodName) jdk_42_method_53_code (2 : Nat) (Option.none : Option Jvm.ClassFile.FieldType), Jvm.Cond.code ({ cls := "java/lang/String", name := "<init>", desc := "(Ljava/lang/AbstractStringBuilder;Ljava/lang/Void;)V" } : Jvm.MethodName) jdk_42_method_150_code (5 : Nat) (Option.none : Option Jvm.ClassFile.FieldType), Jvm.Cond.code ({ cls := "java/lang/AbstractStringBuilder", name := "getValue", desc := "()[B" } : Jvm.MethodName) jdk_68_method_64_code (1 : Nat) (Option.some (Jvm.ClassFile.FieldType.array Jvm.ClassFile.FieldType.byte)), Jvm.Cond.code ({ cls := "java/lang/StringBuilder", name := "length", desc := "()I" } : Jvm.MethodName) jdk_67_method_93_code (1 : Nat) (Option.some Jvm.ClassFile.FieldType.int), Jvm.Cond.code ({ cls := "java/lang/AbstractStringBuilder", name := "length", desc := "()I" } : Jvm.MethodName) jdk_68_method_6_code (1 : Nat) (Option.some Jvm.ClassFile.FieldType.int), Jvm.Cond.code ({ cls := "java/util/Arrays", name := "copyOfRange", desc := "([BII)[B" } : Jvm.MethodName) jdk_65_method_132_code (3 : Nat) (Option.some (Jvm.ClassFile.FieldType.array Jvm.ClassFile.FieldType.byte)), Jvm.Cond.code ({ cls := "java/util/Arrays", name := "copyOfRangeByte", desc := "([BII)[B" } : Jvm.MethodName) jdk_65_method_133_code (5 : Nat) (Option.some (Jvm.ClassFile.FieldType.array Jvm.ClassFile.FieldType.byte)), Jvm.Cond.code ({ cls := "java/util/Arrays", name := "checkLength", desc := "(II)V" } : Jvm.MethodName) jdk_65_method_131_code (2 : Nat) (Option.none : Option Jvm.ClassFile.FieldType), Jvm.Cond.code ({ cls := "com/example/gridtally/gridtally/engine/Origin", name := "refuse", desc := "(Ljava/lang/String;)Lcom/example/gridtally/gridtally/engine/RefusedInputException;" } : Jvm.MethodName) prog_5_method_2_code (2 : Nat) (Option.some (Jvm.ClassFile.FieldType.object "com/example/gridtally/gridtally/engine/RefusedInputException")), Jvm.Cond.code ({ cls := "com/example/gridtally/gridtally/engine/RefusedInputException", name := "<init>", desc := "(Ljava/lang/String;ILjava/lang/String;)V" } : Jvm.MethodName) prog_8_method_2_code (4 : Nat) (Option.none : Option Jvm.ClassFile.FieldType), Jvm.Cond.code ({ cls := "java/lang/Exception", name := "<init>", desc := "(Ljava/lang/String;)V" } : Jvm.MethodName) jdk_59_method_2_code (2 : Nat) (Option.none : Option Jvm.ClassFile.FieldType), Jvm.Cond.code ({ cls := "java/lang/Throwable", name := "<init>", desc := "(Ljava/lang/String;)V" } : Jvm.MethodName) jdk_78_method_2_code (2 : Nat) (Option.none : Option Jvm.ClassFile.FieldType), Jvm.Cond.code ({ cls := "java/lang/Throwable", name := "<init>", desc := "()V" } : Jvm.MethodName) jdk_78_method_1_code (1 : Nat) (Option.none : Option Jvm.ClassFile.FieldType), Jvm.Cond.code ({ cls := "java/lang/String", name := "<init>", desc := "([C)V" } : Jvm.MethodName) jdk_42_method_3_code (2 : Nat) (Option.none : Option Jvm.ClassFile.FieldType), Jvm.Cond.code ({ cls := "java/lang/String", name := "<init>", desc := "([CIILjava/lang/Void;)V" } : Jvm.MethodName) jdk_42_method_149_code (6 : Nat) (Option.none : Option Jvm.ClassFile.FieldType), Jvm.Cond.code ({ cls := "java/lang/StringUTF16", name := "compress", desc := "([CII)[B" } : Jvm.MethodName) jdk_52_method_16_code (6 : Nat) (Option.some (Jvm.ClassFile.FieldType.array Jvm.ClassFile.FieldType.byte)), Jvm.Cond.code ({ cls := "java/lang/StringUTF16", name := "compress", desc := "([CI[BII)I" } : Jvm.MethodName) jdk_52_method_21_code (7 : Nat) (Option.some Jvm.ClassFile.FieldType.int), Jvm.Cond.code ({ cls := "java/lang/StringUTF16", name := "coderFromArrayLen", desc := "([BI)B" } : Jvm.MethodName) jdk_52_method_15_code (2 : Nat) (Option.some Jvm.ClassFile.FieldType.byte), Jvm.Cond.code ({ cls := "java/lang/Throwable", name := "getMessage", desc := "()Ljava/lang/String;" } : Jvm.MethodName) jdk_78_method_6_code (1 : Nat) (Option.some (Jvm.ClassFile.FieldType.object "java/lang/String")), Jvm.Cond.code ({ cls := "java/lang/String", name := "equals", desc := "(Ljava/lang/Object;)Z" } : Jvm.MethodName) jdk_42_method_66_code (3 : Nat) (Option.some Jvm.ClassFile.FieldType.boolean), Jvm.Cond.code ({ cls := "java/lang/StringLatin1", name := "equals", desc := "([B[B)Z" } : Jvm.MethodName) jdk_43_method_13_code (3 : Nat) (Option.some Jvm.ClassFile.FieldType.boolean)]
set_option maxRecDepth 65536 in
theorem codes_eq : words1.filter isCode = codes1 := rfl
theorem w_codes : ∀ c ∈ words1.filter isCode, c.before args0 about1 = true := by
  rw [codes_eq]
  intro c hc
  simp only [codes1, List.mem_cons, List.not_mem_nil, or_false] at hc
  rcases hc with rfl | rfl | rfl | rfl | rfl | rfl | rfl | rfl | rfl | rfl | rfl | rfl | rfl | rfl | rfl | rfl | rfl | rfl | rfl | rfl | rfl | rfl | rfl | rfl | rfl | rfl | rfl | rfl | rfl | rfl | rfl | rfl | rfl | rfl | rfl | rfl | rfl | rfl | rfl | rfl | rfl | rfl | rfl | rfl | rfl | rfl | rfl | rfl | rfl | rfl | rfl | rfl | rfl | rfl | rfl | rfl | rfl | rfl | rfl
  · exact w_c0
  · exact w_c1
  · exact w_c2
  · exact w_c3
  · exact w_c4
  · exact w_c5
  · exact w_c6
  · exact w_c7
  · exact w_c8
  · exact w_c9
  · exact w_c10
  · exact w_c11
  · exact w_c12
  · exact w_c13
  · exact w_c14
  · exact w_c15
  · exact w_c16
  · exact w_c17
  · exact w_c18
  · exact w_c19
  · exact w_c20
  · exact w_c21
  · exact w_c22
  · exact w_c23
  · exact w_c24
  · exact w_c25
  · exact w_c26
  · exact w_c27
  · exact w_c28
  · exact w_c29
  · exact w_c30
  · exact w_c31
  · exact w_c32
  · exact w_c33
  · exact w_c34
  · exact w_c35
  · exact w_c36
  · exact w_c37
  · exact w_c38
  · exact w_c39
  · exact w_c40
  · exact w_c41
  · exact w_c42
  · exact w_c43
  · exact w_c44
  · exact w_c45
  · exact w_c46
  · exact w_c47
  · exact w_c48
  · exact w_c49
  · exact w_c50
  · exact w_c51
  · exact w_c52
  · exact w_c53
  · exact w_c54
  · exact w_c55
  · exact w_c56
  · exact w_c57
  · exact w_c58
set_option maxRecDepth 65536 in
theorem w_t1 : (words1.take 24).all (fun c => isCode c || c.before args0 about1) = true := by decide +kernel
set_option maxRecDepth 65536 in
theorem w_t2 : ((words1.drop 24).take 24).all (fun c => isCode c || c.before args0 about1) = true := by decide +kernel
set_option maxRecDepth 65536 in
theorem w_t3 : (((words1.drop 24).drop 24).take 24).all (fun c => isCode c || c.before args0 about1) = true := by decide +kernel
set_option maxRecDepth 65536 in
theorem w_t4 : ((((words1.drop 24).drop 24).drop 24).take 24).all (fun c => isCode c || c.before args0 about1) = true := by decide +kernel
set_option maxRecDepth 65536 in
theorem w_t5 : (((((words1.drop 24).drop 24).drop 24).drop 24).take 24).all (fun c => isCode c || c.before args0 about1) = true := by decide +kernel
set_option maxRecDepth 65536 in
theorem w_t6 : ((((((words1.drop 24).drop 24).drop 24).drop 24).drop 24).take 24).all (fun c => isCode c || c.before args0 about1) = true := by decide +kernel
set_option maxRecDepth 65536 in
theorem w_t7 : (((((((words1.drop 24).drop 24).drop 24).drop 24).drop 24).drop 24).take 24).all (fun c => isCode c || c.before args0 about1) = true := by decide +kernel
set_option maxRecDepth 65536 in
theorem w_t8 : ((((((((words1.drop 24).drop 24).drop 24).drop 24).drop 24).drop 24).drop 24).take 24).all (fun c => isCode c || c.before args0 about1) = true := by decide +kernel
set_option maxRecDepth 65536 in
theorem w_t9 : (((((((((words1.drop 24).drop 24).drop 24).drop 24).drop 24).drop 24).drop 24).drop 24).take 24).all (fun c => isCode c || c.before args0 about1) = true := by decide +kernel
set_option maxRecDepth 65536 in
theorem w_t10 : ((((((((((words1.drop 24).drop 24).drop 24).drop 24).drop 24).drop 24).drop 24).drop 24).drop 24).take 24).all (fun c => isCode c || c.before args0 about1) = true := by decide +kernel
set_option maxRecDepth 65536 in
theorem w_t11 : (((((((((((words1.drop 24).drop 24).drop 24).drop 24).drop 24).drop 24).drop 24).drop 24).drop 24).drop 24).take 24).all (fun c => isCode c || c.before args0 about1) = true := by decide +kernel
set_option maxRecDepth 65536 in
theorem w_t12 : ((((((((((((words1.drop 24).drop 24).drop 24).drop 24).drop 24).drop 24).drop 24).drop 24).drop 24).drop 24).drop 24).take 24).all (fun c => isCode c || c.before args0 about1) = true := by decide +kernel
set_option maxRecDepth 65536 in
theorem w_t13 : (((((((((((((words1.drop 24).drop 24).drop 24).drop 24).drop 24).drop 24).drop 24).drop 24).drop 24).drop 24).drop 24).drop 24).take 24).all (fun c => isCode c || c.before args0 about1) = true := by decide +kernel
set_option maxRecDepth 65536 in
theorem w_t14 : ((((((((((((((words1.drop 24).drop 24).drop 24).drop 24).drop 24).drop 24).drop 24).drop 24).drop 24).drop 24).drop 24).drop 24).drop 24).take 24).all (fun c => isCode c || c.before args0 about1) = true := by decide +kernel
set_option maxRecDepth 65536 in
theorem w_t15 : ((((((((((((((words1.drop 24).drop 24).drop 24).drop 24).drop 24).drop 24).drop 24).drop 24).drop 24).drop 24).drop 24).drop 24).drop 24).drop 24).all (fun c => isCode c || c.before args0 about1) = true := by decide +kernel
theorem w_tables : (allAtoms (Jvm.Cond.code x code maxLocals ret :: tables_1)).before args0 about1 = true := by
  rw [allAtoms_all]
  show words1.all (fun c => c.before args0 about1) = true
  refine all_split ?_ w_codes
  rw [← List.take_append_drop 24 words1, List.all_append, w_t1, ← List.take_append_drop 24 (words1.drop 24), List.all_append, w_t2, ← List.take_append_drop 24 ((words1.drop 24).drop 24), List.all_append, w_t3, ← List.take_append_drop 24 (((words1.drop 24).drop 24).drop 24), List.all_append, w_t4, ← List.take_append_drop 24 ((((words1.drop 24).drop 24).drop 24).drop 24), List.all_append, w_t5, ← List.take_append_drop 24 (((((words1.drop 24).drop 24).drop 24).drop 24).drop 24), List.all_append, w_t6, ← List.take_append_drop 24 ((((((words1.drop 24).drop 24).drop 24).drop 24).drop 24).drop 24), List.all_append, w_t7, ← List.take_append_drop 24 (((((((words1.drop 24).drop 24).drop 24).drop 24).drop 24).drop 24).drop 24), List.all_append, w_t8, ← List.take_append_drop 24 ((((((((words1.drop 24).drop 24).drop 24).drop 24).drop 24).drop 24).drop 24).drop 24), List.all_append, w_t9, ← List.take_append_drop 24 (((((((((words1.drop 24).drop 24).drop 24).drop 24).drop 24).drop 24).drop 24).drop 24).drop 24), List.all_append, w_t10, ← List.take_append_drop 24 ((((((((((words1.drop 24).drop 24).drop 24).drop 24).drop 24).drop 24).drop 24).drop 24).drop 24).drop 24), List.all_append, w_t11, ← List.take_append_drop 24 (((((((((((words1.drop 24).drop 24).drop 24).drop 24).drop 24).drop 24).drop 24).drop 24).drop 24).drop 24).drop 24), List.all_append, w_t12, ← List.take_append_drop 24 ((((((((((((words1.drop 24).drop 24).drop 24).drop 24).drop 24).drop 24).drop 24).drop 24).drop 24).drop 24).drop 24).drop 24), List.all_append, w_t13, ← List.take_append_drop 24 (((((((((((((words1.drop 24).drop 24).drop 24).drop 24).drop 24).drop 24).drop 24).drop 24).drop 24).drop 24).drop 24).drop 24).drop 24), List.all_append, w_t14, w_t15]
  rfl
set_option maxRecDepth 65536 in
theorem w_rest : rest_1_c.before args0 about1 = true := by decide +kernel
set_option maxRecDepth 65536 in
theorem w_case : (Jvm.Cond.and given_1 narrow_1).before args0 about1 = true := by decide +kernel
set_option maxRecDepth 65536 in
theorem w_consts : constsHeld consts_1 about1 := Jvm.Lit.constsHeldB_iff.mp (by decide +kernel)
theorem w_applies : (headSpec (Jvm.Cond.code x code maxLocals ret :: tables_1) room_1).applies x e0.platform about1 = true :=
  (Spec.applies_iff w_frames).mpr ⟨w_running, w_runnable, w_alone, w_named, w_hears, w_ripe, w_room, w_tables⟩
theorem atStart : AtStart classFile x code maxLocals ret World_1 tables_1 room_1 Calls_1 rest_1 Pre_1 launch0 p0 e0 about1 theMethod args0 below0 :=
  ⟨lists_1, trivial, launch0.admits_env _ _ _, launch0.least_env, fairChoices_fair.cas, fairChoices_fair.clock, w_frames, w_args, w_heap, w_applies, ⟨(by decide +kernel : framesKnown about1 = true), ⟨(by decide +kernel : tablesKnown about1 = true), ⟨w_consts, trivial⟩⟩⟩, w_rest, w_case⟩
end start1
theorem witness_1 : WitnessClaimed_1 := ⟨start1.p0, start1.e0, start1.about1, start1.theMethod, start1.args0, start1.below0, start1.atStart⟩
end Jvm.Pilot.@@N@@
