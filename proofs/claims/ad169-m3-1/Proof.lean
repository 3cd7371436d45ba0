import JvmDerived
import JvmDerived.Pilot.@@N@@Statement
import JvmDerived.Pilot.@@N@@Code
set_option linter.unusedVariables false
set_option linter.unusedSimpArgs false
@@BLOCK:TracedD.lean.txt@@
namespace Jvm.Road
open Jvm Jvm.ClassFile Sem Op Lib Jvm.Free Jvm.Stand Jvm.LawKit Jvm.RoadKit Bundle
/-! THE ROAD LAYER: one goal 'Go' for a walk, every step a law 'Go next -> Go here'; a callee's summary 'Con'. -/
abbrev Bdy : Type := MethodName × ByteArray × Nat × Option FieldType × Room
abbrev Bdy.y (B : Bdy) : MethodName := B.1
abbrev Bdy.bs (B : Bdy) : ByteArray := B.2.1
abbrev Bdy.ml (B : Bdy) : Nat := B.2.2.1
abbrev Bdy.rt (B : Bdy) : Option FieldType := B.2.2.2.1
abbrev Bdy.rm (B : Bdy) : Room := B.2.2.2.2
abbrev Dyn : Type := Program × Env × State × MethodId × Array Value × List Frame × Method × Code
abbrev Dyn.p (D : Dyn) : Program := D.1
abbrev Dyn.e (D : Dyn) : Env := D.2.1
abbrev Dyn.s (D : Dyn) : State := D.2.2.1
abbrev Dyn.m (D : Dyn) : MethodId := D.2.2.2.1
abbrev Dyn.args (D : Dyn) : Array Value := D.2.2.2.2.1
abbrev Dyn.bl (D : Dyn) : List Frame := D.2.2.2.2.2.1
abbrev Dyn.meth (D : Dyn) : Method := D.2.2.2.2.2.2.1
abbrev Dyn.c (D : Dyn) : Code := D.2.2.2.2.2.2.2
/-- a cell that this law's run has made and that no constant of EL stands for: it may be written -/
def Own (Z : State) (EL : List (String × Nat)) (n0 : Nat) (vm : Vm) (h : Heap) (x : Addr) : Prop := Safe Z EL vm h x ∧ n0 ≤ x ∧ x < h.size
def Ok (B : Bdy) (D : Dyn) : Prop := D.p.tables.exec = Jvm.exec ∧ D.c.code = B.bs ∧ D.c.maxLocals = B.ml ∧ D.meth.sig.returnType = B.rt ∧ D.meth.locks = false ∧ D.meth.name = B.y.name
def Inv (l : Launch) (Z : State) (EL : List (String × Nat)) (n0 : Nat) (kn : Bool) (B : Bdy) (D : Dyn) (h : Heap) (σ : Addr → Prop) (ce sl : Nat) (T : State) (vm0 : Vm) : Prop :=
  ∃ (k0 : Nat) (locs : List Loc), Stand D.p l D.e B.rm (D.s.setVm vm0) D.m D.args D.bl D.meth D.c T locs ce sl ∧ T.heap = h ∧ D.s.Since vm0 k0 ∧ k0 ≤ h.size ∧ Z.Warmed39 vm0 ∧ vm0.findClass B.y.cls = some D.m.cls ∧
    CHr Z EL D.s.vm D.s.heap vm0 h ∧ Fr n0 locs ∧ Old Z n0 h ∧ (∀ x, σ x → Own Z EL n0 vm0 h x) ∧ (kn = true → vm0.MethodsKnown ∧ vm0.FramesKnown D.bl)
abbrev Post : Type := Option Value → Heap → (Addr → Prop) → Prop
def Ends (Z : State) (EL : List (String × Nat)) (n0 : Nat) (B : Bdy) (D : Dyn) (Q : Post) (t0 : State) : Prop :=
  ∃ s₂ o, Steps D.p.tables D.e D.bl t0 s₂ ∧ s₂.status = .running ∧ Ended s₂ D.bl o ∧
    ∃ v L, o = .returned v ∧ Q v s₂.heap (Own Z EL n0 s₂.vm s₂.heap) ∧ Fr n0 L ∧ CHr Z EL D.s.vm D.s.heap s₂.vm s₂.heap ∧ Old Z n0 s₂.heap ∧ ReturnedEndW D.s o s₂ L B.rm.cells B.rm.slots
def Go (l : Launch) (Z : State) (a0 : Array Value) (EL : List (String × Nat)) (n0 : Nat) (kn : Bool) (B : Bdy) (D : Dyn) (Q : Post) (h : Heap) (σ : Addr → Prop) (ce sl : Nat) (pc : Nat) (Ls : Array Slot) (st : List Value) : Prop :=
  Ok B D → EW Z a0 EL → ∀ (T : State) (vm0 : Vm), Inv l Z EL n0 kn B D h σ ce sl T vm0 → Ends Z EL n0 B D Q (T.setTop (mkF D.m pc Ls st))
/-- what is asked of a callee -/
def Con (l : Launch) (Z : State) (EL : List (String × Nat)) (n0 : Nat) (kn : Bool) (B : Bdy) (ws : List Jvm.Cond) (σ : Addr → Prop) (as : Array Value) (h : Heap) (Q : Post) : Prop :=
  MetFree l B.y (head1 (Jvm.Cond.code B.y B.bs B.ml B.rt :: ws) B.rm)
    (fun a U => a = as ∧ Z.Warmed39 U.vm ∧ U.heap = h ∧ CHv Z EL U.vm h ∧ Old Z n0 h ∧ ∀ x, σ x → Own Z EL n0 U.vm h x)
    (fun _ _ bl s _ => kn = true → s.vm.MethodsKnown ∧ s.vm.FramesKnown bl)
    (fun _ U o U' => ∃ v L, o = .returned v ∧ Q v U'.heap (Own Z EL n0 U'.vm U'.heap) ∧ Fr n0 L ∧ CHr Z EL U.vm U.heap U'.vm U'.heap ∧ Old Z n0 U'.heap ∧ ReturnedEndW U o U' L B.rm.cells B.rm.slots)
def push : Option Value → List Value → List Value
  | some v, r => v :: r
  | none, r => r
theorem push_eq (v : Option Value) (r : List Value) : v.toList ++ r = push v r := by cases v <;> rfl
section Laws
variable {l : Launch} {Z : State} {a0 : Array Value} {EL : List (String × Nat)} {n0 : Nat} {kn : Bool} {B : Bdy} {D : Dyn} {Q : Post} {h h' : Heap} {σ : Addr → Prop} {ce sl : Nat} {Ls : Array Slot} {st : List Value}
theorem Con.of {ws : List Jvm.Cond} (hpn : plainFor B.y = true) (hEW : EW Z a0 EL) {as : Array Value} (Ls0 : Array Slot) (hef : ∀ m, entryFrame m as B.ml = mkF m 0 Ls0 [])
    (body : ∀ D : Dyn, D.s.heap = h → Go l Z a0 EL n0 kn B D Q h σ 0 0 0 Ls0 []) : Con l Z EL n0 kn B ws σ as h Q := by
  refine MetFree.of_bodySF hpn hisR ?_
  intro p e s m args below meth c s₁ Bd hml hP hK
  obtain ⟨rfl, hZ, hh, hC, hO, hσ⟩ := hP
  have hnm := (name_of_methodNamed Bd.named Bd.method).1
  have hown := findClass_of_methodNamed Bd.named
  have X0 : Stand p l e B.rm s m args below meth c s₁ [] 0 0 := Stand.of_body Bd
  have e0 : s₁.heap = h := by rw [← hh, Bd.state]; rfl
  obtain ⟨s2, o, st, hr, he, r⟩ := body (p, e, s, m, args, below, meth, c) hh ⟨Bd.exec, Bd.bytes, hml, Bd.returns, Bd.notSynchronized, hnm⟩ hEW s₁ s.vm
    ⟨0, [], X0, e0, (State.WarmedH.refl s).since 0, Nat.zero_le _, hZ, hown, by subst hh; exact CHr.refl hC, Fr.nil n0, hO, hσ, hK⟩
  exact ⟨s2, o, castTop (hef m) st, hr, he, r⟩
/-- one plain step -/
theorem Go.step {pc pc' : Nat} {Ls' : Array Slot} {st' : List Value} (k : ∀ T, At T D.m D.c D.bl → D.p.tables.exec = Jvm.exec → D.c.code = B.bs → ∀ t, Steps D.p.tables D.e D.bl (T.setTop (mkF D.m pc' Ls' st')) t → Steps D.p.tables D.e D.bl (T.setTop (mkF D.m pc Ls st)) t)
    (r : Go l Z a0 EL n0 kn B D Q h σ ce sl pc' Ls' st') : Go l Z a0 EL n0 kn B D Q h σ ce sl pc Ls st := by
  intro ok ew T vm0 I
  obtain ⟨s2, o, q, rest⟩ := r ok ew T vm0 I
  obtain ⟨k0, locs, X, -⟩ := I
  exact ⟨s2, o, k T X.here ok.1 ok.2.1 _ q, rest⟩
/-- fewer permissions, more room taken: what was shown serves -/
theorem Go.weaken {pc : Nat} {σ' : Addr → Prop} {ce' sl' : Nat} (hσ : ∀ x, σ' x → σ x) (hc : ce ≤ ce') (hs : sl ≤ sl') (r : Go l Z a0 EL n0 kn B D Q h σ' ce' sl' pc Ls st) : Go l Z a0 EL n0 kn B D Q h σ ce sl pc Ls st := by
  intro ok ew T vm0 I
  obtain ⟨k0, locs, X, h1, h2, h3, h4, h5, h6, h7, h8, h9, h10⟩ := I
  exact r ok ew T vm0 ⟨k0, locs, X.mono hc hs, h1, h2, h3, h4, h5, h6, h7, h8, fun x q => h9 x (hσ x q), h10⟩
/-- facts that the walk bears -/
theorem Go.old {pc : Nat} (r : Old Z n0 h → Go l Z a0 EL n0 kn B D Q h σ ce sl pc Ls st) : Go l Z a0 EL n0 kn B D Q h σ ce sl pc Ls st := by
  intro ok ew T vm0 I
  refine r ?_ ok ew T vm0 I
  obtain ⟨k0, locs, X, h1, h2, h3, h4, h5, h6, h7, h8, h9, h10⟩ := I
  exact h8
end Laws
end Jvm.Road
namespace Jvm.Road
open Jvm Jvm.ClassFile Sem Op Lib Jvm.Free Jvm.Stand Jvm.LawKit Jvm.RoadKit Bundle
theorem Go.ownAll {l : Launch} {Z : State} {a0 : Array Value} {EL : List (String × Nat)} {n0 : Nat} {kn : Bool} {B : Bdy} {D : Dyn} {Q : Post} {h : Heap} {σ : Addr → Prop} {ce sl : Nat} {Ls : Array Slot} {st : List Value} {pc : Nat}
    (r : (∀ x, σ x → n0 ≤ x ∧ x < h.size) → Go l Z a0 EL n0 kn B D Q h σ ce sl pc Ls st) : Go l Z a0 EL n0 kn B D Q h σ ce sl pc Ls st := by
  intro ok ew T vm0 I
  refine r ?_ ok ew T vm0 I
  obtain ⟨k0, locs, X, h1, h2, h3, h4, h5, h6, h7, h8, h9, h10⟩ := I
  exact fun x hx => (h9 x hx).2
theorem keep_more {h h' : Heap} {ws : List Addr} (K : Keep h h' []) : Keep h h' ws := ⟨K.1, fun x c q _ => K.2.1 x c q nin0, K.2.2⟩
end Jvm.Road
namespace Jvm.Road
open Jvm Jvm.ClassFile Sem Op Lib Jvm.Free Jvm.Stand Jvm.LawKit Jvm.RoadKit Bundle
theorem laid0 : Jvm.Sym.laidSlots [] = [] := rfl
theorem laid1 {v : Value} {vs : List Value} {L : List Slot} (hc : v.category = 1) (h : Jvm.Sym.laidSlots vs = L) : Jvm.Sym.laidSlots (v :: vs) = .val v :: L := by
  rw [Jvm.Sym.laidSlots, hc, h]; rfl
theorem laid2 {v : Value} {vs : List Value} {L : List Slot} (hc : v.category = 2) (h : Jvm.Sym.laidSlots vs = L) : Jvm.Sym.laidSlots (v :: vs) = .val v :: .second :: L := by
  rw [Jvm.Sym.laidSlots, hc, h]; rfl
theorem ent {m : MethodId} {args : Array Value} {n k : Nat} {Ls : Array Slot} {L : List Slot} (h : Jvm.Sym.laidSlots args.toList = L) (hk : n - L.length = k) (hL : L ++ List.replicate k .unset = Ls.toList) : entryFrame m args n = mkF m 0 Ls [] := by
  have : argsToLocals args n = Ls := Array.toList_inj.mp (by rw [Jvm.Sym.argsToLocals_toList, h, hk]; exact hL)
  unfold entryFrame
  rw [this]
end Jvm.Road
namespace Jvm.Road
open Jvm Jvm.ClassFile Sem Op Lib Jvm.Free Jvm.Stand Jvm.LawKit Jvm.RoadKit Bundle
/-- what i2c leaves -/
abbrev chr (x : Int32) : Int32 := x.toUInt32.toUInt16.toUInt32.toInt32
section Plain
variable {l : Launch} {Z : State} {a0 : Array Value} {EL : List (String × Nat)} {n0 : Nat} {kn : Bool} {B : Bdy} {D : Dyn} {Q : Post} {h : Heap} {σ : Addr → Prop} {ce sl : Nat} {Ls : Array Slot} {st : List Value}
theorem aload (pc : Nat) {k : Nat} {v : Value} (hd : decode B.bs pc = .ok (.aload k, 2)) (hl : Ls[k]? = some (.val v))  (r : Go l Z a0 EL n0 kn B D Q h σ ce sl (pc + 2) Ls (v :: st)) (hv : v.isRef = true := by rfl) : Go l Z a0 EL n0 kn B D Q h σ ce sl pc Ls st :=
  Go.step (fun T hA hx hb t q => XS.aload hA hx rfl (Jvm.hb hb hd) hl hv q) r
theorem aloadN (pc : Nat) {k : Fin 4} {v : Value} (hd : decode B.bs pc = .ok (.aload_n k, 1)) (hl : Ls[k.val]? = some (.val v))  (r : Go l Z a0 EL n0 kn B D Q h σ ce sl (pc + 1) Ls (v :: st)) (hv : v.isRef = true := by rfl) : Go l Z a0 EL n0 kn B D Q h σ ce sl pc Ls st :=
  Go.step (fun T hA hx hb t q => XS.aloadN hA hx rfl (Jvm.hb hb hd) hl hv q) r
theorem iload (pc : Nat) {k : Nat} {v : Int32} (hd : decode B.bs pc = .ok (.iload k, 2)) (hl : Ls[k]? = some (.val (.int v))) (r : Go l Z a0 EL n0 kn B D Q h σ ce sl (pc + 2) Ls (.int v :: st))  : Go l Z a0 EL n0 kn B D Q h σ ce sl pc Ls st :=
  Go.step (fun T hA hx hb t q => XS.iload hA hx rfl (Jvm.hb hb hd) hl q) r
theorem iloadN (pc : Nat) {k : Fin 4} {v : Int32} (hd : decode B.bs pc = .ok (.iload_n k, 1)) (hl : Ls[k.val]? = some (.val (.int v))) (r : Go l Z a0 EL n0 kn B D Q h σ ce sl (pc + 1) Ls (.int v :: st))  : Go l Z a0 EL n0 kn B D Q h σ ce sl pc Ls st :=
  Go.step (fun T hA hx hb t q => XS.iloadN hA hx rfl (Jvm.hb hb hd) hl q) r
theorem lload (pc : Nat) {k : Nat} {v : Int64} (hd : decode B.bs pc = .ok (.lload k, 2)) (hl : Ls[k]? = some (.val (.long v))) (r : Go l Z a0 EL n0 kn B D Q h σ ce sl (pc + 2) Ls (.long v :: st))  : Go l Z a0 EL n0 kn B D Q h σ ce sl pc Ls st :=
  Go.step (fun T hA hx hb t q => XT.lload hA hx rfl (Jvm.hb hb hd) hl q) r
theorem lloadN (pc : Nat) {k : Fin 4} {v : Int64} (hd : decode B.bs pc = .ok (.lload_n k, 1)) (hl : Ls[k.val]? = some (.val (.long v))) (r : Go l Z a0 EL n0 kn B D Q h σ ce sl (pc + 1) Ls (.long v :: st))  : Go l Z a0 EL n0 kn B D Q h σ ce sl pc Ls st :=
  Go.step (fun T hA hx hb t q => XT.lloadN hA hx rfl (Jvm.hb hb hd) hl q) r
theorem iconst (pc : Nat) {i : Int} (v : Int32) (hd : decode B.bs pc = .ok (.iconst i, 1)) (hv : Int32.ofInt i = v) (r : Go l Z a0 EL n0 kn B D Q h σ ce sl (pc + 1) Ls (.int v :: st))  : Go l Z a0 EL n0 kn B D Q h σ ce sl pc Ls st :=
  Go.step (fun T hA hx hb t q => XT.iconstV hA hx rfl v (Jvm.hb hb hd) hv q) r
theorem bipush (pc : Nat) {i : Int} (v : Int32) (hd : decode B.bs pc = .ok (.bipush i, 2)) (hv : (Int8.ofInt i).toInt32 = v) (r : Go l Z a0 EL n0 kn B D Q h σ ce sl (pc + 2) Ls (.int v :: st))  : Go l Z a0 EL n0 kn B D Q h σ ce sl pc Ls st :=
  Go.step (fun T hA hx hb t q => XT.bipushV hA hx rfl v (Jvm.hb hb hd) hv q) r
theorem sipush (pc : Nat) {i : Int} (v : Int32) (hd : decode B.bs pc = .ok (.sipush i, 3)) (hv : (Int16.ofInt i).toInt32 = v) (r : Go l Z a0 EL n0 kn B D Q h σ ce sl (pc + 3) Ls (.int v :: st))  : Go l Z a0 EL n0 kn B D Q h σ ce sl pc Ls st :=
  Go.step (fun T hA hx hb t q => XT.sipushV hA hx rfl v (Jvm.hb hb hd) hv q) r
theorem lconst (pc : Nat) {k : Fin 2} (v : Int64) (hd : decode B.bs pc = .ok (.lconst k, 1)) (hv : Int64.ofNat k = v) (r : Go l Z a0 EL n0 kn B D Q h σ ce sl (pc + 1) Ls (.long v :: st))  : Go l Z a0 EL n0 kn B D Q h σ ce sl pc Ls st :=
  Go.step (fun T hA hx hb t q => XT.lconstV hA hx rfl v (Jvm.hb hb hd) hv q) r
theorem aconstNull (pc : Nat)  (hd : decode B.bs pc = .ok (.aconst_null, 1))  (r : Go l Z a0 EL n0 kn B D Q h σ ce sl (pc + 1) Ls (.null :: st))  : Go l Z a0 EL n0 kn B D Q h σ ce sl pc Ls st :=
  Go.step (fun T hA hx hb t q => XS.aconstNull hA hx rfl (Jvm.hb hb hd) q) r
theorem iadd (pc : Nat) {x y : Int32} (hd : decode B.bs pc = .ok (.iadd, 1))  (r : Go l Z a0 EL n0 kn B D Q h σ ce sl (pc + 1) Ls (.int (x + y) :: st))  : Go l Z a0 EL n0 kn B D Q h σ ce sl pc Ls (.int y :: .int x :: st) :=
  Go.step (fun T hA hx hb t q => XS.iadd hA hx rfl (Jvm.hb hb hd) rfl q) r
theorem isub (pc : Nat) {x y : Int32} (hd : decode B.bs pc = .ok (.isub, 1))  (r : Go l Z a0 EL n0 kn B D Q h σ ce sl (pc + 1) Ls (.int (x - y) :: st))  : Go l Z a0 EL n0 kn B D Q h σ ce sl pc Ls (.int y :: .int x :: st) :=
  Go.step (fun T hA hx hb t q => XS.isub hA hx rfl (Jvm.hb hb hd) rfl q) r
theorem iand (pc : Nat) {x y : Int32} (hd : decode B.bs pc = .ok (.iand, 1))  (r : Go l Z a0 EL n0 kn B D Q h σ ce sl (pc + 1) Ls (.int (x &&& y) :: st))  : Go l Z a0 EL n0 kn B D Q h σ ce sl pc Ls (.int y :: .int x :: st) :=
  Go.step (fun T hA hx hb t q => XS.iand hA hx rfl (Jvm.hb hb hd) rfl q) r
theorem imul (pc : Nat) {x y : Int32} (hd : decode B.bs pc = .ok (.imul, 1))  (r : Go l Z a0 EL n0 kn B D Q h σ ce sl (pc + 1) Ls (.int (x * y) :: st))  : Go l Z a0 EL n0 kn B D Q h σ ce sl pc Ls (.int y :: .int x :: st) :=
  Go.step (fun T hA hx hb t q => XS.imul hA hx rfl (Jvm.hb hb hd) rfl q) r
theorem ixor (pc : Nat) {x y : Int32} (hd : decode B.bs pc = .ok (.ixor, 1))  (r : Go l Z a0 EL n0 kn B D Q h σ ce sl (pc + 1) Ls (.int (x ^^^ y) :: st))  : Go l Z a0 EL n0 kn B D Q h σ ce sl pc Ls (.int y :: .int x :: st) :=
  Go.step (fun T hA hx hb t q => XT.ixor hA hx rfl (Jvm.hb hb hd) rfl q) r
theorem ior (pc : Nat) {x y : Int32} (hd : decode B.bs pc = .ok (.ior, 1))  (r : Go l Z a0 EL n0 kn B D Q h σ ce sl (pc + 1) Ls (.int (x ||| y) :: st))  : Go l Z a0 EL n0 kn B D Q h σ ce sl pc Ls (.int y :: .int x :: st) :=
  Go.step (fun T hA hx hb t q => XT.ior hA hx rfl (Jvm.hb hb hd) rfl q) r
theorem ishl (pc : Nat) {x y : Int32} (hd : decode B.bs pc = .ok (.ishl, 1))  (r : Go l Z a0 EL n0 kn B D Q h σ ce sl (pc + 1) Ls (.int (x <<< (y &&& 31)) :: st))  : Go l Z a0 EL n0 kn B D Q h σ ce sl pc Ls (.int y :: .int x :: st) :=
  Go.step (fun T hA hx hb t q => XT.ishl hA hx rfl (Jvm.hb hb hd) rfl q) r
theorem ishr (pc : Nat) {x y : Int32} (hd : decode B.bs pc = .ok (.ishr, 1))  (r : Go l Z a0 EL n0 kn B D Q h σ ce sl (pc + 1) Ls (.int (x >>> (y &&& 31)) :: st))  : Go l Z a0 EL n0 kn B D Q h σ ce sl pc Ls (.int y :: .int x :: st) :=
  Go.step (fun T hA hx hb t q => XT.ishr hA hx rfl (Jvm.hb hb hd) rfl q) r
theorem iushr (pc : Nat) {x y : Int32} (hd : decode B.bs pc = .ok (.iushr, 1))  (r : Go l Z a0 EL n0 kn B D Q h σ ce sl (pc + 1) Ls (.int (XT.ushr x y) :: st))  : Go l Z a0 EL n0 kn B D Q h σ ce sl pc Ls (.int y :: .int x :: st) :=
  Go.step (fun T hA hx hb t q => XT.iushr hA hx rfl (Jvm.hb hb hd) rfl q) r
theorem idiv (pc : Nat) {x y : Int32} (hd : decode B.bs pc = .ok (.idiv, 1)) (hy : y ≠ 0) (r : Go l Z a0 EL n0 kn B D Q h σ ce sl (pc + 1) Ls (.int (x / y) :: st))  : Go l Z a0 EL n0 kn B D Q h σ ce sl pc Ls (.int y :: .int x :: st) :=
  Go.step (fun T hA hx hb t q => XS.idiv hA hx rfl (Jvm.hb hb hd) rfl hy q) r
theorem irem (pc : Nat) {x y : Int32} (hd : decode B.bs pc = .ok (.irem, 1)) (hy : y ≠ 0) (r : Go l Z a0 EL n0 kn B D Q h σ ce sl (pc + 1) Ls (.int (x % y) :: st))  : Go l Z a0 EL n0 kn B D Q h σ ce sl pc Ls (.int y :: .int x :: st) :=
  Go.step (fun T hA hx hb t q => XS.irem hA hx rfl (Jvm.hb hb hd) rfl hy (by rw [irem_eq_mod]; exact q)) r
theorem ineg (pc : Nat) {x : Int32} (hd : decode B.bs pc = .ok (.ineg, 1))  (r : Go l Z a0 EL n0 kn B D Q h σ ce sl (pc + 1) Ls (.int (-x) :: st))  : Go l Z a0 EL n0 kn B D Q h σ ce sl pc Ls (.int x :: st) :=
  Go.step (fun T hA hx hb t q => XS.ineg hA hx rfl (Jvm.hb hb hd) rfl q) r
theorem ladd (pc : Nat) {x y : Int64} (hd : decode B.bs pc = .ok (.ladd, 1))  (r : Go l Z a0 EL n0 kn B D Q h σ ce sl (pc + 1) Ls (.long (x + y) :: st))  : Go l Z a0 EL n0 kn B D Q h σ ce sl pc Ls (.long y :: .long x :: st) :=
  Go.step (fun T hA hx hb t q => XT.ladd hA hx rfl (Jvm.hb hb hd) rfl q) r
theorem lsub (pc : Nat) {x y : Int64} (hd : decode B.bs pc = .ok (.lsub, 1))  (r : Go l Z a0 EL n0 kn B D Q h σ ce sl (pc + 1) Ls (.long (x - y) :: st))  : Go l Z a0 EL n0 kn B D Q h σ ce sl pc Ls (.long y :: .long x :: st) :=
  Go.step (fun T hA hx hb t q => XT.lsub hA hx rfl (Jvm.hb hb hd) rfl q) r
theorem land (pc : Nat) {x y : Int64} (hd : decode B.bs pc = .ok (.land, 1))  (r : Go l Z a0 EL n0 kn B D Q h σ ce sl (pc + 1) Ls (.long (x &&& y) :: st))  : Go l Z a0 EL n0 kn B D Q h σ ce sl pc Ls (.long y :: .long x :: st) :=
  Go.step (fun T hA hx hb t q => XT.land hA hx rfl (Jvm.hb hb hd) rfl q) r
theorem lmul (pc : Nat) {x y : Int64} (hd : decode B.bs pc = .ok (.lmul, 1))  (r : Go l Z a0 EL n0 kn B D Q h σ ce sl (pc + 1) Ls (.long (x * y) :: st))  : Go l Z a0 EL n0 kn B D Q h σ ce sl pc Ls (.long y :: .long x :: st) :=
  Go.step (fun T hA hx hb t q => XT.lmul hA hx rfl (Jvm.hb hb hd) rfl q) r
theorem lxor (pc : Nat) {x y : Int64} (hd : decode B.bs pc = .ok (.lxor, 1))  (r : Go l Z a0 EL n0 kn B D Q h σ ce sl (pc + 1) Ls (.long (x ^^^ y) :: st))  : Go l Z a0 EL n0 kn B D Q h σ ce sl pc Ls (.long y :: .long x :: st) :=
  Go.step (fun T hA hx hb t q => XT.lxor hA hx rfl (Jvm.hb hb hd) rfl q) r
theorem lor (pc : Nat) {x y : Int64} (hd : decode B.bs pc = .ok (.lor, 1))  (r : Go l Z a0 EL n0 kn B D Q h σ ce sl (pc + 1) Ls (.long (x ||| y) :: st))  : Go l Z a0 EL n0 kn B D Q h σ ce sl pc Ls (.long y :: .long x :: st) :=
  Go.step (fun T hA hx hb t q => XT.lor hA hx rfl (Jvm.hb hb hd) rfl q) r
theorem lushr (pc : Nat) {x : Int64} {y : Int32} (hd : decode B.bs pc = .ok (.lushr, 1))  (r : Go l Z a0 EL n0 kn B D Q h σ ce sl (pc + 1) Ls (.long (XT.ushrL x y) :: st))  : Go l Z a0 EL n0 kn B D Q h σ ce sl pc Ls (.int y :: .long x :: st) :=
  Go.step (fun T hA hx hb t q => XT.lushr hA hx rfl (Jvm.hb hb hd) rfl q) r
theorem ldiv (pc : Nat) {x y : Int64} (hd : decode B.bs pc = .ok (.ldiv, 1)) (hy : y ≠ 0) (r : Go l Z a0 EL n0 kn B D Q h σ ce sl (pc + 1) Ls (.long (x / y) :: st))  : Go l Z a0 EL n0 kn B D Q h σ ce sl pc Ls (.long y :: .long x :: st) :=
  Go.step (fun T hA hx hb t q => XT.ldiv hA hx rfl (Jvm.hb hb hd) rfl hy q) r
theorem lrem (pc : Nat) {x y : Int64} (hd : decode B.bs pc = .ok (.lrem, 1)) (hy : y ≠ 0) (r : Go l Z a0 EL n0 kn B D Q h σ ce sl (pc + 1) Ls (.long (x - (x / y) * y) :: st))  : Go l Z a0 EL n0 kn B D Q h σ ce sl pc Ls (.long y :: .long x :: st) :=
  Go.step (fun T hA hx hb t q => XT.lrem hA hx rfl (Jvm.hb hb hd) rfl hy q) r
theorem lneg (pc : Nat) {x : Int64} (hd : decode B.bs pc = .ok (.lneg, 1))  (r : Go l Z a0 EL n0 kn B D Q h σ ce sl (pc + 1) Ls (.long (-x) :: st))  : Go l Z a0 EL n0 kn B D Q h σ ce sl pc Ls (.long x :: st) :=
  Go.step (fun T hA hx hb t q => XT.lneg hA hx rfl (Jvm.hb hb hd) rfl q) r
theorem i2l (pc : Nat) {x : Int32} (hd : decode B.bs pc = .ok (.i2l, 1))  (r : Go l Z a0 EL n0 kn B D Q h σ ce sl (pc + 1) Ls (.long x.toInt64 :: st))  : Go l Z a0 EL n0 kn B D Q h σ ce sl pc Ls (.int x :: st) :=
  Go.step (fun T hA hx hb t q => XT.i2l hA hx rfl (Jvm.hb hb hd) rfl q) r
theorem l2i (pc : Nat) {x : Int64} (hd : decode B.bs pc = .ok (.l2i, 1))  (r : Go l Z a0 EL n0 kn B D Q h σ ce sl (pc + 1) Ls (.int x.toInt32 :: st))  : Go l Z a0 EL n0 kn B D Q h σ ce sl pc Ls (.long x :: st) :=
  Go.step (fun T hA hx hb t q => XT.l2i hA hx rfl (Jvm.hb hb hd) rfl q) r
theorem i2b (pc : Nat) {x : Int32} (hd : decode B.bs pc = .ok (.i2b, 1))  (r : Go l Z a0 EL n0 kn B D Q h σ ce sl (pc + 1) Ls (.int x.toInt8.toInt32 :: st))  : Go l Z a0 EL n0 kn B D Q h σ ce sl pc Ls (.int x :: st) :=
  Go.step (fun T hA hx hb t q => XT.i2b hA hx rfl (Jvm.hb hb hd) rfl q) r
theorem i2c (pc : Nat) {x : Int32} (hd : decode B.bs pc = .ok (.i2c, 1))  (r : Go l Z a0 EL n0 kn B D Q h σ ce sl (pc + 1) Ls (.int (chr x) :: st))  : Go l Z a0 EL n0 kn B D Q h σ ce sl pc Ls (.int x :: st) :=
  Go.step (fun T hA hx hb t q => XT.i2c hA hx rfl (Jvm.hb hb hd) rfl q) r
theorem lcmp (pc : Nat) {x y : Int64} (hd : decode B.bs pc = .ok (.lcmp, 1))  (r : Go l Z a0 EL n0 kn B D Q h σ ce sl (pc + 1) Ls (.int (XT.cmpL x y) :: st))  : Go l Z a0 EL n0 kn B D Q h σ ce sl pc Ls (.long y :: .long x :: st) :=
  Go.step (fun T hA hx hb t q => XT.lcmp hA hx rfl (Jvm.hb hb hd) rfl q) r
theorem dup (pc : Nat) {v : Value} (hd : decode B.bs pc = .ok (.dup, 1))  (r : Go l Z a0 EL n0 kn B D Q h σ ce sl (pc + 1) Ls (v :: v :: st)) (hc : v.category = 1 := by rfl) : Go l Z a0 EL n0 kn B D Q h σ ce sl pc Ls (v :: st) :=
  Go.step (fun T hA hx hb t q => XS.dup hA hx rfl (Jvm.hb hb hd) rfl hc q) r
theorem dupX1 (pc : Nat) {v w : Value} (hd : decode B.bs pc = .ok (.dup_x1, 1))   (r : Go l Z a0 EL n0 kn B D Q h σ ce sl (pc + 1) Ls (v :: w :: v :: st)) (hc : v.category = 1 := by rfl) (hw : w.category = 1 := by rfl) : Go l Z a0 EL n0 kn B D Q h σ ce sl pc Ls (v :: w :: st) :=
  Go.step (fun T hA hx hb t q => XT.dupX1 hA hx rfl (Jvm.hb hb hd) rfl hc hw q) r
theorem pop (pc : Nat) {v : Value} (hd : decode B.bs pc = .ok (.pop, 1))  (r : Go l Z a0 EL n0 kn B D Q h σ ce sl (pc + 1) Ls st) (hc : v.category = 1 := by rfl) : Go l Z a0 EL n0 kn B D Q h σ ce sl pc Ls (v :: st) :=
  Go.step (fun T hA hx hb t q => XT.pop hA hx rfl (Jvm.hb hb hd) rfl hc q) r
theorem istore (pc : Nat) {k : Nat} {x : Int32} (l' : Array Slot) (hd : decode B.bs pc = .ok (.istore k, 2)) (hl : storeLocals Ls k (.int x) = some l') (r : Go l Z a0 EL n0 kn B D Q h σ ce sl (pc + 2) l' st)  : Go l Z a0 EL n0 kn B D Q h σ ce sl pc Ls (.int x :: st) :=
  Go.step (fun T hA hx hb t q => XS.istore hA hx rfl (Jvm.hb hb hd) rfl hl q) r
theorem istoreN (pc : Nat) {k : Fin 4} {x : Int32} (l' : Array Slot) (hd : decode B.bs pc = .ok (.istore_n k, 1)) (hl : storeLocals Ls k.val (.int x) = some l') (r : Go l Z a0 EL n0 kn B D Q h σ ce sl (pc + 1) l' st)  : Go l Z a0 EL n0 kn B D Q h σ ce sl pc Ls (.int x :: st) :=
  Go.step (fun T hA hx hb t q => XS.istoreN hA hx rfl (Jvm.hb hb hd) rfl hl q) r
theorem lstore (pc : Nat) {k : Nat} {x : Int64} (l' : Array Slot) (hd : decode B.bs pc = .ok (.lstore k, 2)) (hl : storeLocals Ls k (.long x) = some l') (r : Go l Z a0 EL n0 kn B D Q h σ ce sl (pc + 2) l' st)  : Go l Z a0 EL n0 kn B D Q h σ ce sl pc Ls (.long x :: st) :=
  Go.step (fun T hA hx hb t q => XT.lstore hA hx rfl (Jvm.hb hb hd) rfl hl q) r
theorem lstoreN (pc : Nat) {k : Fin 4} {x : Int64} (l' : Array Slot) (hd : decode B.bs pc = .ok (.lstore_n k, 1)) (hl : storeLocals Ls k.val (.long x) = some l') (r : Go l Z a0 EL n0 kn B D Q h σ ce sl (pc + 1) l' st)  : Go l Z a0 EL n0 kn B D Q h σ ce sl pc Ls (.long x :: st) :=
  Go.step (fun T hA hx hb t q => XT.lstoreN hA hx rfl (Jvm.hb hb hd) rfl hl q) r
theorem astore (pc : Nat) {k : Nat} {v : Value} (l' : Array Slot) (hd : decode B.bs pc = .ok (.astore k, 2)) (hl : storeLocals Ls k v = some l')  (r : Go l Z a0 EL n0 kn B D Q h σ ce sl (pc + 2) l' st) (hv : v.isRef = true := by rfl) : Go l Z a0 EL n0 kn B D Q h σ ce sl pc Ls (v :: st) :=
  Go.step (fun T hA hx hb t q => XS.astore hA hx rfl (Jvm.hb hb hd) rfl hv hl q) r
theorem astoreN (pc : Nat) {k : Fin 4} {v : Value} (l' : Array Slot) (hd : decode B.bs pc = .ok (.astore_n k, 1)) (hl : storeLocals Ls k.val v = some l')  (r : Go l Z a0 EL n0 kn B D Q h σ ce sl (pc + 1) l' st) (hv : v.isRef = true := by rfl) : Go l Z a0 EL n0 kn B D Q h σ ce sl pc Ls (v :: st) :=
  Go.step (fun T hA hx hb t q => XS.astoreN hA hx rfl (Jvm.hb hb hd) rfl hv hl q) r
theorem iinc (pc : Nat) {k : Nat} {c : Int} {x : Int32} (v : Int32) (l' : Array Slot) (hd : decode B.bs pc = .ok (.iinc k c, 3)) (hv : Int32.ofInt c = v) (hl : Ls[k]? = some (.val (.int x))) (hl' : storeLocals Ls k (.int (x + v)) = some l') (r : Go l Z a0 EL n0 kn B D Q h σ ce sl (pc + 3) l' st)  : Go l Z a0 EL n0 kn B D Q h σ ce sl pc Ls st :=
  Go.step (fun T hA hx hb t q => XT.iincV hA hx rfl v (Jvm.hb hb hd) hv hl hl' q) r
theorem goto (pc : Nat) (tgt : Nat) {o : Int} (hd : decode B.bs pc = .ok (.goto o, 3)) (ht : (pc : Int) + o = (tgt : Int)) (r : Go l Z a0 EL n0 kn B D Q h σ ce sl tgt Ls st) : Go l Z a0 EL n0 kn B D Q h σ ce sl pc Ls st :=
  Go.step (fun T hA hx hb t q => XS.goto hA hx rfl (pc0 := pc) (pc' := tgt) rfl (Jvm.hb hb hd) (by rw [ht]; exact Int.natCast_nonneg _) (by rw [ht]; rfl) q) r
theorem icmp_eq (pc : Nat) (tgt : Nat) {o : Int} {x y : Int32} (hd : decode B.bs pc = .ok (.if_icmp .eq o, 3)) (ht : (pc : Int) + o = (tgt : Int)) (yes : x = y → Go l Z a0 EL n0 kn B D Q h σ ce sl tgt Ls st) (no : ¬ (x = y) → Go l Z a0 EL n0 kn B D Q h σ ce sl (pc + 3) Ls st) : Go l Z a0 EL n0 kn B D Q h σ ce sl pc Ls (.int y :: .int x :: st) := by
  by_cases c : x = y
  · exact Go.step (fun T hA hx hb t q => XS.icmpYes hA hx rfl (pc0 := pc) (pc' := tgt) rfl (Jvm.hb hb hd) rfl (XT.ii_eq_t c) (by rw [ht]; exact Int.natCast_nonneg _) (by rw [ht]; rfl) q) (yes c)
  · exact Go.step (fun T hA hx hb t q => XS.icmpNo hA hx rfl (Jvm.hb hb hd) rfl (XT.ii_eq_f c) q) (no c)
theorem icmp_ne (pc : Nat) (tgt : Nat) {o : Int} {x y : Int32} (hd : decode B.bs pc = .ok (.if_icmp .ne o, 3)) (ht : (pc : Int) + o = (tgt : Int)) (yes : ¬ (x = y) → Go l Z a0 EL n0 kn B D Q h σ ce sl tgt Ls st) (no : x = y → Go l Z a0 EL n0 kn B D Q h σ ce sl (pc + 3) Ls st) : Go l Z a0 EL n0 kn B D Q h σ ce sl pc Ls (.int y :: .int x :: st) := by
  by_cases c : x = y
  · exact Go.step (fun T hA hx hb t q => XS.icmpNo hA hx rfl (Jvm.hb hb hd) rfl (XT.ii_ne_f c) q) (no c)
  · exact Go.step (fun T hA hx hb t q => XS.icmpYes hA hx rfl (pc0 := pc) (pc' := tgt) rfl (Jvm.hb hb hd) rfl (XT.ii_ne_t c) (by rw [ht]; exact Int.natCast_nonneg _) (by rw [ht]; rfl) q) (yes c)
theorem icmp_lt (pc : Nat) (tgt : Nat) {o : Int} {x y : Int32} (hd : decode B.bs pc = .ok (.if_icmp .lt o, 3)) (ht : (pc : Int) + o = (tgt : Int)) (yes : x < y → Go l Z a0 EL n0 kn B D Q h σ ce sl tgt Ls st) (no : ¬ (x < y) → Go l Z a0 EL n0 kn B D Q h σ ce sl (pc + 3) Ls st) : Go l Z a0 EL n0 kn B D Q h σ ce sl pc Ls (.int y :: .int x :: st) := by
  by_cases c : x < y
  · exact Go.step (fun T hA hx hb t q => XS.icmpYes hA hx rfl (pc0 := pc) (pc' := tgt) rfl (Jvm.hb hb hd) rfl (XT.ii_lt_t c) (by rw [ht]; exact Int.natCast_nonneg _) (by rw [ht]; rfl) q) (yes c)
  · exact Go.step (fun T hA hx hb t q => XS.icmpNo hA hx rfl (Jvm.hb hb hd) rfl (XT.ii_lt_f c) q) (no c)
theorem icmp_ge (pc : Nat) (tgt : Nat) {o : Int} {x y : Int32} (hd : decode B.bs pc = .ok (.if_icmp .ge o, 3)) (ht : (pc : Int) + o = (tgt : Int)) (yes : ¬ (x < y) → Go l Z a0 EL n0 kn B D Q h σ ce sl tgt Ls st) (no : x < y → Go l Z a0 EL n0 kn B D Q h σ ce sl (pc + 3) Ls st) : Go l Z a0 EL n0 kn B D Q h σ ce sl pc Ls (.int y :: .int x :: st) := by
  by_cases c : x < y
  · exact Go.step (fun T hA hx hb t q => XS.icmpNo hA hx rfl (Jvm.hb hb hd) rfl (XT.ii_ge_f c) q) (no c)
  · exact Go.step (fun T hA hx hb t q => XS.icmpYes hA hx rfl (pc0 := pc) (pc' := tgt) rfl (Jvm.hb hb hd) rfl (XT.ii_ge_t c) (by rw [ht]; exact Int.natCast_nonneg _) (by rw [ht]; rfl) q) (yes c)
theorem icmp_gt (pc : Nat) (tgt : Nat) {o : Int} {x y : Int32} (hd : decode B.bs pc = .ok (.if_icmp .gt o, 3)) (ht : (pc : Int) + o = (tgt : Int)) (yes : y < x → Go l Z a0 EL n0 kn B D Q h σ ce sl tgt Ls st) (no : ¬ (y < x) → Go l Z a0 EL n0 kn B D Q h σ ce sl (pc + 3) Ls st) : Go l Z a0 EL n0 kn B D Q h σ ce sl pc Ls (.int y :: .int x :: st) := by
  by_cases c : y < x
  · exact Go.step (fun T hA hx hb t q => XS.icmpYes hA hx rfl (pc0 := pc) (pc' := tgt) rfl (Jvm.hb hb hd) rfl (XT.ii_gt_t c) (by rw [ht]; exact Int.natCast_nonneg _) (by rw [ht]; rfl) q) (yes c)
  · exact Go.step (fun T hA hx hb t q => XS.icmpNo hA hx rfl (Jvm.hb hb hd) rfl (XT.ii_gt_f c) q) (no c)
theorem icmp_le (pc : Nat) (tgt : Nat) {o : Int} {x y : Int32} (hd : decode B.bs pc = .ok (.if_icmp .le o, 3)) (ht : (pc : Int) + o = (tgt : Int)) (yes : ¬ (y < x) → Go l Z a0 EL n0 kn B D Q h σ ce sl tgt Ls st) (no : y < x → Go l Z a0 EL n0 kn B D Q h σ ce sl (pc + 3) Ls st) : Go l Z a0 EL n0 kn B D Q h σ ce sl pc Ls (.int y :: .int x :: st) := by
  by_cases c : y < x
  · exact Go.step (fun T hA hx hb t q => XS.icmpNo hA hx rfl (Jvm.hb hb hd) rfl (XT.ii_le_f c) q) (no c)
  · exact Go.step (fun T hA hx hb t q => XS.icmpYes hA hx rfl (pc0 := pc) (pc' := tgt) rfl (Jvm.hb hb hd) rfl (XT.ii_le_t c) (by rw [ht]; exact Int.natCast_nonneg _) (by rw [ht]; rfl) q) (yes c)
theorem if_eq (pc : Nat) (tgt : Nat) {o : Int} {x : Int32} (hd : decode B.bs pc = .ok (.ifCond .eq o, 3)) (ht : (pc : Int) + o = (tgt : Int)) (yes : x = 0 → Go l Z a0 EL n0 kn B D Q h σ ce sl tgt Ls st) (no : ¬ (x = 0) → Go l Z a0 EL n0 kn B D Q h σ ce sl (pc + 3) Ls st) : Go l Z a0 EL n0 kn B D Q h σ ce sl pc Ls (.int x :: st) := by
  by_cases c : x = 0
  · exact Go.step (fun T hA hx hb t q => XS.ifYes hA hx rfl (pc0 := pc) (pc' := tgt) rfl (Jvm.hb hb hd) rfl (XT.i0_eq_t c) (by rw [ht]; exact Int.natCast_nonneg _) (by rw [ht]; rfl) q) (yes c)
  · exact Go.step (fun T hA hx hb t q => XS.ifNo hA hx rfl (Jvm.hb hb hd) rfl (XT.i0_eq_f c) q) (no c)
theorem if_ne (pc : Nat) (tgt : Nat) {o : Int} {x : Int32} (hd : decode B.bs pc = .ok (.ifCond .ne o, 3)) (ht : (pc : Int) + o = (tgt : Int)) (yes : ¬ (x = 0) → Go l Z a0 EL n0 kn B D Q h σ ce sl tgt Ls st) (no : x = 0 → Go l Z a0 EL n0 kn B D Q h σ ce sl (pc + 3) Ls st) : Go l Z a0 EL n0 kn B D Q h σ ce sl pc Ls (.int x :: st) := by
  by_cases c : x = 0
  · exact Go.step (fun T hA hx hb t q => XS.ifNo hA hx rfl (Jvm.hb hb hd) rfl (XT.i0_ne_f c) q) (no c)
  · exact Go.step (fun T hA hx hb t q => XS.ifYes hA hx rfl (pc0 := pc) (pc' := tgt) rfl (Jvm.hb hb hd) rfl (XT.i0_ne_t c) (by rw [ht]; exact Int.natCast_nonneg _) (by rw [ht]; rfl) q) (yes c)
theorem if_lt (pc : Nat) (tgt : Nat) {o : Int} {x : Int32} (hd : decode B.bs pc = .ok (.ifCond .lt o, 3)) (ht : (pc : Int) + o = (tgt : Int)) (yes : x < 0 → Go l Z a0 EL n0 kn B D Q h σ ce sl tgt Ls st) (no : ¬ (x < 0) → Go l Z a0 EL n0 kn B D Q h σ ce sl (pc + 3) Ls st) : Go l Z a0 EL n0 kn B D Q h σ ce sl pc Ls (.int x :: st) := by
  by_cases c : x < 0
  · exact Go.step (fun T hA hx hb t q => XS.ifYes hA hx rfl (pc0 := pc) (pc' := tgt) rfl (Jvm.hb hb hd) rfl (XT.i0_lt_t c) (by rw [ht]; exact Int.natCast_nonneg _) (by rw [ht]; rfl) q) (yes c)
  · exact Go.step (fun T hA hx hb t q => XS.ifNo hA hx rfl (Jvm.hb hb hd) rfl (XT.i0_lt_f c) q) (no c)
theorem if_ge (pc : Nat) (tgt : Nat) {o : Int} {x : Int32} (hd : decode B.bs pc = .ok (.ifCond .ge o, 3)) (ht : (pc : Int) + o = (tgt : Int)) (yes : ¬ (x < 0) → Go l Z a0 EL n0 kn B D Q h σ ce sl tgt Ls st) (no : x < 0 → Go l Z a0 EL n0 kn B D Q h σ ce sl (pc + 3) Ls st) : Go l Z a0 EL n0 kn B D Q h σ ce sl pc Ls (.int x :: st) := by
  by_cases c : x < 0
  · exact Go.step (fun T hA hx hb t q => XS.ifNo hA hx rfl (Jvm.hb hb hd) rfl (XT.i0_ge_f c) q) (no c)
  · exact Go.step (fun T hA hx hb t q => XS.ifYes hA hx rfl (pc0 := pc) (pc' := tgt) rfl (Jvm.hb hb hd) rfl (XT.i0_ge_t c) (by rw [ht]; exact Int.natCast_nonneg _) (by rw [ht]; rfl) q) (yes c)
theorem if_gt (pc : Nat) (tgt : Nat) {o : Int} {x : Int32} (hd : decode B.bs pc = .ok (.ifCond .gt o, 3)) (ht : (pc : Int) + o = (tgt : Int)) (yes : 0 < x → Go l Z a0 EL n0 kn B D Q h σ ce sl tgt Ls st) (no : ¬ (0 < x) → Go l Z a0 EL n0 kn B D Q h σ ce sl (pc + 3) Ls st) : Go l Z a0 EL n0 kn B D Q h σ ce sl pc Ls (.int x :: st) := by
  by_cases c : 0 < x
  · exact Go.step (fun T hA hx hb t q => XS.ifYes hA hx rfl (pc0 := pc) (pc' := tgt) rfl (Jvm.hb hb hd) rfl (XT.i0_gt_t c) (by rw [ht]; exact Int.natCast_nonneg _) (by rw [ht]; rfl) q) (yes c)
  · exact Go.step (fun T hA hx hb t q => XS.ifNo hA hx rfl (Jvm.hb hb hd) rfl (XT.i0_gt_f c) q) (no c)
theorem if_le (pc : Nat) (tgt : Nat) {o : Int} {x : Int32} (hd : decode B.bs pc = .ok (.ifCond .le o, 3)) (ht : (pc : Int) + o = (tgt : Int)) (yes : ¬ (0 < x) → Go l Z a0 EL n0 kn B D Q h σ ce sl tgt Ls st) (no : 0 < x → Go l Z a0 EL n0 kn B D Q h σ ce sl (pc + 3) Ls st) : Go l Z a0 EL n0 kn B D Q h σ ce sl pc Ls (.int x :: st) := by
  by_cases c : 0 < x
  · exact Go.step (fun T hA hx hb t q => XS.ifNo hA hx rfl (Jvm.hb hb hd) rfl (XT.i0_le_f c) q) (no c)
  · exact Go.step (fun T hA hx hb t q => XS.ifYes hA hx rfl (pc0 := pc) (pc' := tgt) rfl (Jvm.hb hb hd) rfl (XT.i0_le_t c) (by rw [ht]; exact Int.natCast_nonneg _) (by rw [ht]; rfl) q) (yes c)
theorem ifl_eq (pc : Nat) (tgt : Nat) {o : Int} {x y : Int64} (hd : decode B.bs pc = .ok (.ifCond .eq o, 3)) (ht : (pc : Int) + o = (tgt : Int)) (yes : x = y → Go l Z a0 EL n0 kn B D Q h σ ce sl tgt Ls st) (no : ¬ (x = y) → Go l Z a0 EL n0 kn B D Q h σ ce sl (pc + 3) Ls st) : Go l Z a0 EL n0 kn B D Q h σ ce sl pc Ls (.int (XT.cmpL x y) :: st) := by
  by_cases c : x = y
  · exact Go.step (fun T hA hx hb t q => XS.ifYes hA hx rfl (pc0 := pc) (pc' := tgt) rfl (Jvm.hb hb hd) rfl (XT.ll_eq_t c) (by rw [ht]; exact Int.natCast_nonneg _) (by rw [ht]; rfl) q) (yes c)
  · exact Go.step (fun T hA hx hb t q => XS.ifNo hA hx rfl (Jvm.hb hb hd) rfl (XT.ll_eq_f c) q) (no c)
theorem ifl_ne (pc : Nat) (tgt : Nat) {o : Int} {x y : Int64} (hd : decode B.bs pc = .ok (.ifCond .ne o, 3)) (ht : (pc : Int) + o = (tgt : Int)) (yes : ¬ (x = y) → Go l Z a0 EL n0 kn B D Q h σ ce sl tgt Ls st) (no : x = y → Go l Z a0 EL n0 kn B D Q h σ ce sl (pc + 3) Ls st) : Go l Z a0 EL n0 kn B D Q h σ ce sl pc Ls (.int (XT.cmpL x y) :: st) := by
  by_cases c : x = y
  · exact Go.step (fun T hA hx hb t q => XS.ifNo hA hx rfl (Jvm.hb hb hd) rfl (XT.ll_ne_f c) q) (no c)
  · exact Go.step (fun T hA hx hb t q => XS.ifYes hA hx rfl (pc0 := pc) (pc' := tgt) rfl (Jvm.hb hb hd) rfl (XT.ll_ne_t c) (by rw [ht]; exact Int.natCast_nonneg _) (by rw [ht]; rfl) q) (yes c)
theorem ifl_lt (pc : Nat) (tgt : Nat) {o : Int} {x y : Int64} (hd : decode B.bs pc = .ok (.ifCond .lt o, 3)) (ht : (pc : Int) + o = (tgt : Int)) (yes : x < y → Go l Z a0 EL n0 kn B D Q h σ ce sl tgt Ls st) (no : ¬ (x < y) → Go l Z a0 EL n0 kn B D Q h σ ce sl (pc + 3) Ls st) : Go l Z a0 EL n0 kn B D Q h σ ce sl pc Ls (.int (XT.cmpL x y) :: st) := by
  by_cases c : x < y
  · exact Go.step (fun T hA hx hb t q => XS.ifYes hA hx rfl (pc0 := pc) (pc' := tgt) rfl (Jvm.hb hb hd) rfl (XT.ll_lt_t c) (by rw [ht]; exact Int.natCast_nonneg _) (by rw [ht]; rfl) q) (yes c)
  · exact Go.step (fun T hA hx hb t q => XS.ifNo hA hx rfl (Jvm.hb hb hd) rfl (XT.ll_lt_f c) q) (no c)
theorem ifl_ge (pc : Nat) (tgt : Nat) {o : Int} {x y : Int64} (hd : decode B.bs pc = .ok (.ifCond .ge o, 3)) (ht : (pc : Int) + o = (tgt : Int)) (yes : ¬ (x < y) → Go l Z a0 EL n0 kn B D Q h σ ce sl tgt Ls st) (no : x < y → Go l Z a0 EL n0 kn B D Q h σ ce sl (pc + 3) Ls st) : Go l Z a0 EL n0 kn B D Q h σ ce sl pc Ls (.int (XT.cmpL x y) :: st) := by
  by_cases c : x < y
  · exact Go.step (fun T hA hx hb t q => XS.ifNo hA hx rfl (Jvm.hb hb hd) rfl (XT.ll_ge_f c) q) (no c)
  · exact Go.step (fun T hA hx hb t q => XS.ifYes hA hx rfl (pc0 := pc) (pc' := tgt) rfl (Jvm.hb hb hd) rfl (XT.ll_ge_t c) (by rw [ht]; exact Int.natCast_nonneg _) (by rw [ht]; rfl) q) (yes c)
theorem ifl_gt (pc : Nat) (tgt : Nat) {o : Int} {x y : Int64} (hd : decode B.bs pc = .ok (.ifCond .gt o, 3)) (ht : (pc : Int) + o = (tgt : Int)) (yes : y < x → Go l Z a0 EL n0 kn B D Q h σ ce sl tgt Ls st) (no : ¬ (y < x) → Go l Z a0 EL n0 kn B D Q h σ ce sl (pc + 3) Ls st) : Go l Z a0 EL n0 kn B D Q h σ ce sl pc Ls (.int (XT.cmpL x y) :: st) := by
  by_cases c : y < x
  · exact Go.step (fun T hA hx hb t q => XS.ifYes hA hx rfl (pc0 := pc) (pc' := tgt) rfl (Jvm.hb hb hd) rfl (XT.ll_gt_t c) (by rw [ht]; exact Int.natCast_nonneg _) (by rw [ht]; rfl) q) (yes c)
  · exact Go.step (fun T hA hx hb t q => XS.ifNo hA hx rfl (Jvm.hb hb hd) rfl (XT.ll_gt_f c) q) (no c)
theorem ifl_le (pc : Nat) (tgt : Nat) {o : Int} {x y : Int64} (hd : decode B.bs pc = .ok (.ifCond .le o, 3)) (ht : (pc : Int) + o = (tgt : Int)) (yes : ¬ (y < x) → Go l Z a0 EL n0 kn B D Q h σ ce sl tgt Ls st) (no : y < x → Go l Z a0 EL n0 kn B D Q h σ ce sl (pc + 3) Ls st) : Go l Z a0 EL n0 kn B D Q h σ ce sl pc Ls (.int (XT.cmpL x y) :: st) := by
  by_cases c : y < x
  · exact Go.step (fun T hA hx hb t q => XS.ifNo hA hx rfl (Jvm.hb hb hd) rfl (XT.ll_le_f c) q) (no c)
  · exact Go.step (fun T hA hx hb t q => XS.ifYes hA hx rfl (pc0 := pc) (pc' := tgt) rfl (Jvm.hb hb hd) rfl (XT.ll_le_t c) (by rw [ht]; exact Int.natCast_nonneg _) (by rw [ht]; rfl) q) (yes c)
theorem ifnull (pc : Nat) (tgt : Nat) {o : Int} {v : Value} (hr : v.isRef = true) (hd : decode B.bs pc = .ok (.ifnull o, 3)) (ht : (pc : Int) + o = (tgt : Int)) (yes : v = .null → Go l Z a0 EL n0 kn B D Q h σ ce sl tgt Ls st) (no : ¬ (v = .null) → Go l Z a0 EL n0 kn B D Q h σ ce sl (pc + 3) Ls st) : Go l Z a0 EL n0 kn B D Q h σ ce sl pc Ls (v :: st) := by
  by_cases c : v = .null
  · exact Go.step (fun T hA hx hb t q => XT.nullYes hA hx rfl (pc0 := pc) (pc' := tgt) rfl (Jvm.hb hb hd) rfl c (by rw [ht]; exact Int.natCast_nonneg _) (by rw [ht]; rfl) q) (yes c)
  · exact Go.step (fun T hA hx hb t q => XT.nullNo hA hx rfl (Jvm.hb hb hd) rfl hr c q) (no c)
theorem ifnonnull (pc : Nat) (tgt : Nat) {o : Int} {v : Value} (hr : v.isRef = true) (hd : decode B.bs pc = .ok (.ifnonnull o, 3)) (ht : (pc : Int) + o = (tgt : Int)) (yes : ¬ (v = .null) → Go l Z a0 EL n0 kn B D Q h σ ce sl tgt Ls st) (no : v = .null → Go l Z a0 EL n0 kn B D Q h σ ce sl (pc + 3) Ls st) : Go l Z a0 EL n0 kn B D Q h σ ce sl pc Ls (v :: st) := by
  by_cases c : v = .null
  · exact Go.step (fun T hA hx hb t q => XT.nonnullNo hA hx rfl (Jvm.hb hb hd) rfl c q) (no c)
  · exact Go.step (fun T hA hx hb t q => XT.nonnullYes hA hx rfl (pc0 := pc) (pc' := tgt) rfl (Jvm.hb hb hd) rfl hr c (by rw [ht]; exact Int.natCast_nonneg _) (by rw [ht]; rfl) q) (yes c)
theorem acmp_eq (pc : Nat) (tgt : Nat) {o : Int} {v w : Value} (hv : v.isRef = true) (hw : w.isRef = true) (hd : decode B.bs pc = .ok (.if_acmp .eq o, 3)) (ht : (pc : Int) + o = (tgt : Int)) (yes : v = w → Go l Z a0 EL n0 kn B D Q h σ ce sl tgt Ls st) (no : ¬ (v = w) → Go l Z a0 EL n0 kn B D Q h σ ce sl (pc + 3) Ls st) : Go l Z a0 EL n0 kn B D Q h σ ce sl pc Ls (w :: v :: st) := by
  by_cases c : v = w
  · exact Go.step (fun T hA hx hb t q => XT.acmpYes hA hx rfl (pc0 := pc) (pc' := tgt) rfl (Jvm.hb hb hd) rfl hv hw (XT.aa_eq_t c) (by rw [ht]; exact Int.natCast_nonneg _) (by rw [ht]; rfl) q) (yes c)
  · exact Go.step (fun T hA hx hb t q => XT.acmpNo hA hx rfl (Jvm.hb hb hd) rfl hv hw (XT.aa_eq_f c) q) (no c)
theorem acmp_ne (pc : Nat) (tgt : Nat) {o : Int} {v w : Value} (hv : v.isRef = true) (hw : w.isRef = true) (hd : decode B.bs pc = .ok (.if_acmp .ne o, 3)) (ht : (pc : Int) + o = (tgt : Int)) (yes : ¬ (v = w) → Go l Z a0 EL n0 kn B D Q h σ ce sl tgt Ls st) (no : v = w → Go l Z a0 EL n0 kn B D Q h σ ce sl (pc + 3) Ls st) : Go l Z a0 EL n0 kn B D Q h σ ce sl pc Ls (w :: v :: st) := by
  by_cases c : v = w
  · exact Go.step (fun T hA hx hb t q => XT.acmpNo hA hx rfl (Jvm.hb hb hd) rfl hv hw (XT.aa_ne_f c) q) (no c)
  · exact Go.step (fun T hA hx hb t q => XT.acmpYes hA hx rfl (pc0 := pc) (pc' := tgt) rfl (Jvm.hb hb hd) rfl hv hw (XT.aa_ne_t c) (by rw [ht]; exact Int.natCast_nonneg _) (by rw [ht]; rfl) q) (yes c)
end Plain
end Jvm.Road
namespace Jvm.Road
open Jvm Jvm.ClassFile Sem Op Lib Jvm.Free Jvm.Stand Jvm.LawKit Jvm.RoadKit Bundle
section Facts
variable {Z : State} {h h' : Heap} {a b : Addr} {ty : FieldType} {vs : List Value} {ws : List Addr}
/-- the array at a holds just these values -/
def Ary (Z : State) (h : Heap) (a : Addr) (ty : FieldType) (vs : List Value) : Prop := ∃ c : Cell, Arr Z h a c ty ∧ c.slots.toList = vs ∧ vs.length < 2147483648 ∧ ∀ v ∈ vs, fits ty v = true
theorem Ary.keep (F : Ary Z h a ty vs) (K : Keep h h' ws) (q : a ∉ ws) : Ary Z h' a ty vs := by
  obtain ⟨c, A, r⟩ := F; exact ⟨c, ⟨K.2.1 a c A.1 q, A.2⟩, r⟩
theorem Ary.lt (F : Ary Z h a ty vs) : a < h.size := by obtain ⟨c, A, -⟩ := F; exact A.lt
theorem Ary.small (F : Ary Z h a ty vs) : vs.length < 2147483648 := by obtain ⟨c, A, -, q, -⟩ := F; exact q
theorem Ary.fit (F : Ary Z h a ty vs) : ∀ v ∈ vs, fits ty v = true := by obtain ⟨c, A, -, -, q⟩ := F; exact q
theorem Ary.wr {i : Nat} {v : Value} (F : Ary Z h a ty vs) (W : Wr h h' a i v) (hv : fits ty v = true) : Ary Z h' a ty (vs.set i v) := by
  obtain ⟨c, A, e, q, f⟩ := F
  refine ⟨_, Arr.same W A, ?_, by rw [List.length_set]; exact q, fun u hu => ?_⟩
  · show (c.slots.setIfInBounds i v).toList = _
    rw [Array.toList_setIfInBounds, e]
  · rcases List.mem_or_eq_of_mem_set hu with r | r
    · exact f u r
    · exact r ▸ hv
theorem ix_of {j : Int32} {i : Nat} (hj : j.toInt = (i : Int)) : ¬ j < 0 ∧ j.toNatClampNeg = i := by
  refine ⟨?_, ?_⟩
  · simp only [Int32.lt_iff_toInt_lt, hj, Int32.reduceToInt]; omega
  · simp only [Int32.toNatClampNeg, hj]; omega
theorem Ary.inb {c : Cell} {j : Int32} {i : Nat} (e : c.slots.toList = vs) (hj : j.toInt = (i : Int)) (hi : i < vs.length) : ¬ (j < 0 ∨ c.slots.size ≤ j.toNatClampNeg) := by
  obtain ⟨q1, q2⟩ := ix_of hj
  rw [q2, ← Array.length_toList, e]
  intro q; rcases q with q | q
  · exact q1 q
  · omega
theorem Ary.of_arv {k : ClassId} {z : Int32} {d : Value} (F : Arv Z h a k ty z vs d) (hz : z.toNatClampNeg = vs.length) : Ary Z h a ty vs := by
  obtain ⟨c, A, -, S, hn, H, G⟩ := F
  have hsz : c.slots.size = vs.length := S.trans hz
  have e : c.slots.toList = vs := by
    apply List.ext_getElem?
    intro i
    by_cases hi : i < vs.length
    · have := H i (by rw [hsz]; exact hi)
      rw [Array.getElem?_toList, this, List.getD_eq_getElem?_getD, List.getElem?_eq_getElem hi]; rfl
    · rw [List.getElem?_eq_none (Nat.le_of_not_lt hi), List.getElem?_eq_none (by rw [Array.length_toList, hsz]; exact Nat.le_of_not_lt hi)]
  refine ⟨c, A, e, by have := Int32.toInt_lt z; simp only [Int32.toNatClampNeg] at hz; omega, fun v hv => ?_⟩
  obtain ⟨i, hi, rfl⟩ := List.getElem_of_mem hv
  have := G i (by rw [hsz]; exact hi)
  rwa [List.getD_eq_getElem?_getD, List.getElem?_eq_getElem hi] at this
def byt (c : Int32) : Value := .int c.toInt8.toInt32
abbrev SN : String := "java/lang/String"
/-- the object at a is a compact String of these chars, its bytes at b -/
def Str (Z : State) (h : Heap) (a b : Addr) (cs : List Int32) : Prop := Exa Z h a SN ∧ Fld Z h a SN "coder" "B" (.int 0) ∧ Fld Z h a SN "value" "[B" (.ref b) ∧ Ary Z h b .byte (cs.map byt) ∧ ∀ c ∈ cs, 0 ≤ c.toInt ∧ c.toInt < 256
theorem Str.keep {cs : List Int32} (F : Str Z h a b cs) (K : Keep h h' ws) (q : a ∉ ws) (q' : b ∉ ws) : Str Z h' a b cs := ⟨F.1.keep K, F.2.1.keep K q, F.2.2.1.keep K q, F.2.2.2.1.keep K q', F.2.2.2.2⟩
theorem Str.lt {cs : List Int32} (F : Str Z h a b cs) : a < h.size := F.1.lt
theorem Str.ltb {cs : List Int32} (F : Str Z h a b cs) : b < h.size := F.2.2.2.1.lt
theorem keep_ext (E : Ext h h') : Keep h h' [] := (Keep.refl h []).ext E
end Facts
section Heap
variable {l : Launch} {Z : State} {a0 : Array Value} {EL : List (String × Nat)} {n0 : Nat} {kn : Bool} {B : Bdy} {D : Dyn} {Q : Post} {h : Heap} {σ : Addr → Prop} {ce sl : Nat} {Ls : Array Slot} {st : List Value} {a : Addr}
theorem getfield (pc : Nat) {ix : Nat} {R0 O n d : String} {v : Value} (hd : decode B.bs pc = .ok (.getfield ix, 3)) (w : (Jvm.Cond.fieldLink B.y.cls ix R0 n d).before a0 Z = true) (via : Via Z R0 O n d) (F : Fld Z h a O n d v)
    (r : Go l Z a0 EL n0 kn B D Q h σ ce sl (pc + 3) Ls (v :: st)) : Go l Z a0 EL n0 kn B D Q h σ ce sl pc Ls (.ref a :: st) := by
  intro ok ew T vm0 I
  obtain ⟨k0, locs, X, h1, h2, h3, h4, h5, h6, h7, h8, h9, h10⟩ := I
  obtain ⟨T', X', e', s'⟩ := getF X ok.1 (s := D.s.setVm vm0) h4 h5 (host := "") (Or.inl w) via h1 F (g := mkF D.m pc Ls (.ref a :: st)) rfl rfl (Jvm.hb ok.2.1 hd)
  obtain ⟨s2, o, q, rest⟩ := r ok ew T' vm0 ⟨k0, locs, X', e', h2, h3, h4, h5, h6, h7, h8, h9, h10⟩
  exact ⟨s2, o, s' _ q, rest⟩
theorem own_wr {vm0 : Vm} {h' : Heap} {i : Nat} {v : Value} (W : Wr h h' a i v) (hC : CHv Z EL vm0 h) (ha : Own Z EL n0 vm0 h a) {x : Addr} (hx : Own Z EL n0 vm0 h x) : Own Z EL n0 vm0 h' x :=
  ⟨Safe.wr W ha.1 hC hx.1, hx.2.1, by rw [W.size]; exact hx.2.2⟩
/-- behind a write of one place -/
theorem wrote {pc pc' : Nat} {Ls' : Array Slot} {st' : List Value} {i : Nat} {v : Value} (hσ : σ a)
    (s : ∀ T vm0 locs, Stand D.p l D.e B.rm (D.s.setVm vm0) D.m D.args D.bl D.meth D.c T locs ce sl → T.heap = h → Z.Warmed39 vm0 → vm0.findClass B.y.cls = some D.m.cls → Ok B D →
      ∃ T' h', Stand D.p l D.e B.rm (D.s.setVm vm0) D.m D.args D.bl D.meth D.c T' (locs ++ [⟨a, i⟩]) ce sl ∧ T'.heap = h' ∧ Wr h h' a i v ∧ ∀ target, Steps D.p.tables D.e D.bl (T'.setTop (mkF D.m pc' Ls' st')) target → Steps D.p.tables D.e D.bl (T.setTop (mkF D.m pc Ls st)) target)
    (r : ∀ h', Wr h h' a i v → Keep h h' [a] → Go l Z a0 EL n0 kn B D Q h' σ ce sl pc' Ls' st') : Go l Z a0 EL n0 kn B D Q h σ ce sl pc Ls st := by
  intro ok ew T vm0 I
  obtain ⟨k0, locs, X, h1, h2, h3, h4, h5, h6, h7, h8, h9, h10⟩ := I
  obtain ⟨T', h', X', e', W, s'⟩ := s T vm0 locs X h1 h4 h5 ok
  have ha := h9 a hσ
  obtain ⟨s2, o, q, rest⟩ := r h' W (Keep.of_wr W) ok ew T' vm0 ⟨k0, _, X', e', h2, by rw [W.size]; exact h3, h4, h5, h6.trans (CHr.wr W ha.1 h6.1), h7.app fun y hy => by cases List.mem_singleton.mp hy; exact ha.2.1, h8.wr W ha.2.1, fun x hx => own_wr W h6.1 ha (h9 x hx), h10⟩
  exact ⟨s2, o, s' _ q, rest⟩
theorem putfield (pc : Nat) {ix : Nat} {R0 O n d C : String} {kk : Nat} {ty : FieldType} {v old : Value} (hd : decode B.bs pc = .ok (.putfield ix, 3)) (w : (Jvm.Cond.fieldLink B.y.cls ix R0 n d).before a0 Z = true) (via : Via Z R0 O n d) (F : Fld Z h a O n d old) (E : Exa Z h a C)
    (L : (Jvm.Cond.lays C O n d).before a0 Z = true ∨ ((Jvm.Cond.laysFinal C O n d).before a0 Z = true ∧ B.y.cls = O ∧ B.y.name = "<init>")) (wi : (Jvm.Cond.instantiable C kk).before a0 Z = true) (hty : parseFieldDescriptor d = some ty) (hn : narrow ty v = v) (hf : fits ty v = true) (hσ : σ a)
    (r : ∀ h', Wr h h' a (RoadKit.slotOf Z O n d) v → Keep h h' [a] → Go l Z a0 EL n0 kn B D Q h' σ ce sl (pc + 3) Ls st) : Go l Z a0 EL n0 kn B D Q h σ ce sl pc Ls (v :: .ref a :: st) :=
  wrote hσ (fun T vm0 locs X h1 h4 h5 ok => putF X ok.1 (s := D.s.setVm vm0) h4 h5 (host := "") (Or.inl w) via h1 F E (L.imp id fun q => ⟨q.1, q.2.1, ok.2.2.2.2.2.trans q.2.2⟩) wi hty hn hf (g := mkF D.m pc Ls (v :: .ref a :: st)) rfl rfl (Jvm.hb ok.2.1 hd)) r
theorem getstatic (pc : Nat) {ix : Nat} {R0 O n d : String} {v : Value} (hd : decode B.bs pc = .ok (.getstatic ix, 3)) (w : (Jvm.Cond.fieldLink B.y.cls ix R0 n d).before a0 Z = true) (via : Via Z R0 O n d) (F : Sta Z Z.heap O n d v)
    (r : Go l Z a0 EL n0 kn B D Q h σ ce sl (pc + 3) Ls (v :: st)) : Go l Z a0 EL n0 kn B D Q h σ ce sl pc Ls st := by
  intro ok ew T vm0 I
  obtain ⟨k0, locs, X, h1, h2, h3, h4, h5, h6, h7, h8, h9, h10⟩ := I
  obtain ⟨T', X', e', s'⟩ := getS X ok.1 (s := D.s.setVm vm0) h4 h5 (host := "") w via h1 (F.ext h8.2) (g := mkF D.m pc Ls st) rfl (Jvm.hb ok.2.1 hd)
  obtain ⟨s2, o, q, rest⟩ := r ok ew T' vm0 ⟨k0, locs, X', e', h2, h3, h4, h5, h6, h7, h8, h9, h10⟩
  exact ⟨s2, o, s' _ q, rest⟩
theorem own_new {vm0 : Vm} {h' : Heap} (E : Ext h h') (hC : CHv Z EL vm0 h) (hO : Old Z n0 h) (hlt : h.size < h'.size) : Own Z EL n0 vm0 h' h.size :=
  ⟨(Safe.new (Nat.le_refl _)).ext E hC, hO.1 ▸ hO.2.1, hlt⟩
/-- behind the making of one cell -/
theorem made {pc pc' ce' sl' : Nat} {Ls' : Array Slot} {st' : List Value} {P : Heap → Prop}
    (s : ∀ T vm0 locs, Stand D.p l D.e B.rm (D.s.setVm vm0) D.m D.args D.bl D.meth D.c T locs ce sl → T.heap = h → Z.Warmed39 vm0 → vm0.findClass B.y.cls = some D.m.cls → Ok B D →
      ∃ T' h', Stand D.p l D.e B.rm (D.s.setVm vm0) D.m D.args D.bl D.meth D.c T' locs ce' sl' ∧ T'.heap = h' ∧ Ext h h' ∧ h.size < h'.size ∧ P h' ∧ ∀ target, Steps D.p.tables D.e D.bl (T'.setTop (mkF D.m pc' Ls' st')) target → Steps D.p.tables D.e D.bl (T.setTop (mkF D.m pc Ls st)) target)
    (r : ∀ h' σ', Keep h h' [] → h.size < h'.size → (∀ x, σ x → σ' x) → σ' h.size → P h' → Go l Z a0 EL n0 kn B D Q h' σ' ce' sl' pc' Ls' st') : Go l Z a0 EL n0 kn B D Q h σ ce sl pc Ls st := by
  intro ok ew T vm0 I
  obtain ⟨k0, locs, X, h1, h2, h3, h4, h5, h6, h7, h8, h9, h10⟩ := I
  obtain ⟨T', h', X', e', E, hlt, hP, s'⟩ := s T vm0 locs X h1 h4 h5 ok
  obtain ⟨s2, o, q, rest⟩ := r h' (Own Z EL n0 vm0 h') (keep_ext E) hlt (fun x hx => ⟨(h9 x hx).1.ext E h6.1, (h9 x hx).2.1, Nat.lt_of_lt_of_le (h9 x hx).2.2 E.1⟩) (own_new E h6.1 h8 hlt) hP ok ew T' vm0
    ⟨k0, locs, X', e', h2, Nat.le_trans h3 E.1, h4, h5, h6.trans (CHr.ext E h6.1), h7, h8.ext E, fun x hx => hx, h10⟩
  exact ⟨s2, o, s' _ q, rest⟩
theorem new (pc : Nat) {ix : Nat} (C : String) {n : Nat} (hd : decode B.bs pc = .ok (.new ix, 3)) (w : (Jvm.Cond.classLink B.y.cls ix C).before a0 Z = true) (wi : (Jvm.Cond.instantiable C n).before a0 Z = true) (wz : (Jvm.Cond.initialized C).before a0 Z = true) {ce' sl' : Nat} (hce : ce + 1 = ce') (hsl : sl + n = sl') (hc : ce' ≤ B.rm.cells) (hs : sl' ≤ B.rm.slots)
    (r : ∀ a h' σ', a = h.size → Keep h h' [] → a < h'.size → (∀ x, σ x → σ' x) → σ' a → Exa Z h' a C → (∀ {O nm d : String} {ty : FieldType}, Laid Z a0 C O nm d → parseFieldDescriptor d = some ty → Fld Z h' a O nm d (defaultValue ty)) → (∃ cell : Cell, h'[a]? = some cell ∧ cell.vm = .none ∧ cell.monitor = {}) →
      Go l Z a0 EL n0 kn B D Q h' σ' ce' sl' (pc + 3) Ls (.ref a :: st)) : Go l Z a0 EL n0 kn B D Q h σ ce sl pc Ls st := by
  subst hce hsl
  exact made (P := fun h' => Exa Z h' h.size C ∧ (∀ {O nm d : String} {ty : FieldType}, Laid Z a0 C O nm d → parseFieldDescriptor d = some ty → Fld Z h' h.size O nm d (defaultValue ty)) ∧ (∃ cell : Cell, h'[h.size]? = some cell ∧ cell.vm = .none ∧ cell.monitor = {}))
    (fun T vm0 locs X h1 h4 h5 ok => by
      obtain ⟨T', h', X', e', E, A, Dd, M, s'⟩ := newO X ok.1 (s := D.s.setVm vm0) h4 h5 w wi wz h1 (g := mkF D.m pc Ls st) rfl (Jvm.hb ok.2.1 hd) hc hs
      exact ⟨T', h', X', e', E, A.lt, ⟨A, Dd, M⟩, s'⟩)
    (fun h' σ' K hlt m1 m2 P => r h.size h' σ' rfl K hlt m1 m2 P.1 P.2.1 P.2.2)
theorem newarray (pc : Nat) {aty : ArrayType} (ty : FieldType) (n cap : Nat) {z : Int32} (hd : decode B.bs pc = .ok (.newarray aty, 2)) (hty : newarray.typeOf aty = ty) (w : (Jvm.Cond.arrayClass ty).before a0 Z = true) (hz : z.toInt = (n : Int)) (hcap : n ≤ cap) (hb : cap * 8 ≤ 536870912) {ce' sl' : Nat} (hce : ce + 1 = ce') (hsl : sl + cap = sl') (hc : ce' ≤ B.rm.cells) (hs : sl' ≤ B.rm.slots)
    (r : ∀ a h' σ', a = h.size → Keep h h' [] → a < h'.size → (∀ x, σ x → σ' x) → σ' a → Ary Z h' a ty (List.replicate n (defaultValue ty)) → Go l Z a0 EL n0 kn B D Q h' σ' ce' sl' (pc + 2) Ls (.ref a :: st)) : Go l Z a0 EL n0 kn B D Q h σ ce sl pc Ls (.int z :: st) := by
  subst hce hsl
  exact made (P := fun h' => Ary Z h' h.size ty (List.replicate n (defaultValue ty)))
    (fun T vm0 locs X h1 h4 h5 ok => by
      subst hty
      obtain ⟨q1, q2⟩ := ix_of hz
      obtain ⟨T', h', cA, X', e', E, A, s'⟩ := newP X ok.1 (s := D.s.setVm vm0) h4 w h1 (g := mkF D.m pc Ls (.int z :: st)) rfl (Jvm.hb ok.2.1 hd) rfl q1 (cap := cap) (by rw [q2]; exact hcap) hb hc hs
      refine ⟨T', h', X', e', E, A.lt, ⟨_, A, ?_, ?_, ?_⟩, s'⟩
      · show (Array.replicate z.toNatClampNeg (defaultValue (newarray.typeOf aty))).toList = _
        rw [q2, Array.toList_replicate]
      · rw [List.length_replicate]; omega
      · intro v hv
        rw [(List.mem_replicate.mp hv).2]
        cases aty <;> rfl)
    (fun h' σ' K hlt m1 m2 P => r h.size h' σ' rfl K hlt m1 m2 P)
theorem plainX {pc pc' : Nat} {Ls' : Array Slot} {st' : List Value}
    (k : ∀ T vm0 locs, Stand D.p l D.e B.rm (D.s.setVm vm0) D.m D.args D.bl D.meth D.c T locs ce sl → T.heap = h → Z.Warmed39 vm0 → vm0.findClass B.y.cls = some D.m.cls → Ok B D → ∀ t, Steps D.p.tables D.e D.bl (T.setTop (mkF D.m pc' Ls' st')) t → Steps D.p.tables D.e D.bl (T.setTop (mkF D.m pc Ls st)) t)
    (r : Go l Z a0 EL n0 kn B D Q h σ ce sl pc' Ls' st') : Go l Z a0 EL n0 kn B D Q h σ ce sl pc Ls st := by
  intro ok ew T vm0 I
  obtain ⟨s2, o, q, rest⟩ := r ok ew T vm0 I
  obtain ⟨k0, locs, X, h1, h2, h3, h4, h5, -⟩ := I
  exact ⟨s2, o, k T vm0 locs X h1 h4 h5 ok _ q, rest⟩
theorem alen (pc : Nat) {ty : FieldType} {vs : List Value} {n : Nat} (z : Int32) (hd : decode B.bs pc = .ok (.arraylength, 1)) (A : Ary Z h a ty vs) (hn : vs.length = n) (hz : n.toInt32 = z) (r : Go l Z a0 EL n0 kn B D Q h σ ce sl (pc + 1) Ls (.int z :: st)) : Go l Z a0 EL n0 kn B D Q h σ ce sl pc Ls (.ref a :: st) :=
  plainX (fun T vm0 locs X h1 h4 h5 ok t q => by
    obtain ⟨c, A, e, -⟩ := A
    refine X.arraylength ok.1 (by rw [h1]; exact A.1) (State.isArrayOf_alike (T := D.s.setVm vm0) h4.alike A.2.1) (g := mkF D.m pc Ls (.ref a :: st)) rfl rfl (Jvm.hb ok.2.1 hd) t ?_
    rw [← Array.length_toList, e, hn, hz]; exact q) r
theorem caload (pc : Nat) {vs : List Value} {j : Int32} (i : Nat) {v : Value} (hd : decode B.bs pc = .ok (.caload, 1)) (A : Ary Z h a .char vs) (hj : j.toInt = (i : Int)) (hv : vs[i]? = some v) (r : Go l Z a0 EL n0 kn B D Q h σ ce sl (pc + 1) Ls (v :: st)) : Go l Z a0 EL n0 kn B D Q h σ ce sl pc Ls (.int j :: .ref a :: st) :=
  plainX (fun T vm0 locs X h1 h4 h5 ok t q => by
    obtain ⟨c, A, e, -⟩ := A
    have hi : i < vs.length := (List.getElem?_eq_some_iff.mp hv).1
    exact X.caload ok.1 (by rw [h1]; exact A.1) (State.isArrayOf_alike (T := D.s.setVm vm0) h4.alike A.2.1) A.2.2 (Ary.inb e hj hi) (by rw [(ix_of hj).2, ← Array.getElem?_toList, e]; exact hv) (g := mkF D.m pc Ls (.int j :: .ref a :: st)) rfl rfl (Jvm.hb ok.2.1 hd) t q) r
theorem baload (pc : Nat) {vs : List Value} {j : Int32} (i : Nat) {v : Value} (hd : decode B.bs pc = .ok (.baload, 1)) (A : Ary Z h a .byte vs) (hj : j.toInt = (i : Int)) (hv : vs[i]? = some v) (r : Go l Z a0 EL n0 kn B D Q h σ ce sl (pc + 1) Ls (v :: st)) : Go l Z a0 EL n0 kn B D Q h σ ce sl pc Ls (.int j :: .ref a :: st) :=
  plainX (fun T vm0 locs X h1 h4 h5 ok t q => by
    obtain ⟨c, A, e, -⟩ := A
    have hi : i < vs.length := (List.getElem?_eq_some_iff.mp hv).1
    exact X.baloadBytes ok.1 (by rw [h1]; exact A.1) (State.isArrayOf_alike (T := D.s.setVm vm0) h4.alike A.2.1) A.2.2 (Ary.inb e hj hi) (by rw [(ix_of hj).2, ← Array.getElem?_toList, e]; exact hv) (g := mkF D.m pc Ls (.int j :: .ref a :: st)) rfl rfl (Jvm.hb ok.2.1 hd) t q) r
theorem laload (pc : Nat) {vs : List Value} {j : Int32} (i : Nat) {v : Value} (hd : decode B.bs pc = .ok (.laload, 1)) (A : Ary Z h a .long vs) (hj : j.toInt = (i : Int)) (hv : vs[i]? = some v) (r : Go l Z a0 EL n0 kn B D Q h σ ce sl (pc + 1) Ls (v :: st)) : Go l Z a0 EL n0 kn B D Q h σ ce sl pc Ls (.int j :: .ref a :: st) :=
  plainX (fun T vm0 locs X h1 h4 h5 ok t q => by
    obtain ⟨c, A, e, -⟩ := A
    have hi : i < vs.length := (List.getElem?_eq_some_iff.mp hv).1
    exact X.laload ok.1 (by rw [h1]; exact A.1) (State.isArrayOf_alike (T := D.s.setVm vm0) h4.alike A.2.1) A.2.2 (Ary.inb e hj hi) (by rw [(ix_of hj).2, ← Array.getElem?_toList, e]; exact hv) (g := mkF D.m pc Ls (.int j :: .ref a :: st)) rfl rfl (Jvm.hb ok.2.1 hd) t q) r
theorem castore (pc : Nat) {vs : List Value} {j x : Int32} (i : Nat) (w : Int32) (hd : decode B.bs pc = .ok (.castore, 1)) (A : Ary Z h a .char vs) (hj : j.toInt = (i : Int)) (hi : i < vs.length) (hw : nar .char x = w) (hσ : σ a)
    (r : ∀ h', Keep h h' [a] → Ary Z h' a .char (vs.set i (.int w)) → Go l Z a0 EL n0 kn B D Q h' σ ce sl (pc + 1) Ls st) : Go l Z a0 EL n0 kn B D Q h σ ce sl pc Ls (.int x :: .int j :: .ref a :: st) :=
  wrote hσ (i := i) (v := .int w) (fun T vm0 locs X h1 h4 h5 ok => by
    subst hw
    obtain ⟨c, Ar, e, -⟩ := A
    have := stC X ok.1 (s := D.s.setVm vm0) h4 h1 Ar (Ary.inb e hj hi) (g := mkF D.m pc Ls (.int x :: .int j :: .ref a :: st)) rfl rfl (Jvm.hb ok.2.1 hd)
    rw [(ix_of hj).2] at this; exact this)
    (fun h' W K => r h' K (A.wr W (hw ▸ fits_nar_char x)))
theorem bastore (pc : Nat) {vs : List Value} {j x : Int32} (i : Nat) (w : Int32) (hd : decode B.bs pc = .ok (.bastore, 1)) (A : Ary Z h a .byte vs) (hj : j.toInt = (i : Int)) (hi : i < vs.length) (hw : nar .byte x = w) (hσ : σ a)
    (r : ∀ h', Keep h h' [a] → Ary Z h' a .byte (vs.set i (.int w)) → Go l Z a0 EL n0 kn B D Q h' σ ce sl (pc + 1) Ls st) : Go l Z a0 EL n0 kn B D Q h σ ce sl pc Ls (.int x :: .int j :: .ref a :: st) :=
  wrote hσ (i := i) (v := .int w) (fun T vm0 locs X h1 h4 h5 ok => by
    subst hw
    obtain ⟨c, Ar, e, -⟩ := A
    have := stB X ok.1 (s := D.s.setVm vm0) h4 h1 Ar (Ary.inb e hj hi) (g := mkF D.m pc Ls (.int x :: .int j :: .ref a :: st)) rfl rfl (Jvm.hb ok.2.1 hd)
    rw [(ix_of hj).2] at this; exact this)
    (fun h' W K => r h' K (A.wr W (hw ▸ fits_nar_byte x)))
theorem lastore (pc : Nat) {vs : List Value} {j : Int32} {x : Int64} (i : Nat) (hd : decode B.bs pc = .ok (.lastore, 1)) (A : Ary Z h a .long vs) (hj : j.toInt = (i : Int)) (hi : i < vs.length) (hσ : σ a)
    (r : ∀ h', Keep h h' [a] → Ary Z h' a .long (vs.set i (.long x)) → Go l Z a0 EL n0 kn B D Q h' σ ce sl (pc + 1) Ls st) : Go l Z a0 EL n0 kn B D Q h σ ce sl pc Ls (.long x :: .int j :: .ref a :: st) :=
  wrote hσ (i := i) (v := .long x) (fun T vm0 locs X h1 h4 h5 ok => by
    obtain ⟨c, Ar, e, -⟩ := A
    have := stJ X ok.1 (s := D.s.setVm vm0) h4 h1 Ar (Ary.inb e hj hi) (g := mkF D.m pc Ls (.long x :: .int j :: .ref a :: st)) rfl rfl (Jvm.hb ok.2.1 hd)
    rw [(ix_of hj).2] at this; exact this)
    (fun h' W K => r h' K (A.wr W rfl))
theorem ldcI (pc : Nat) {ix : Nat} {v : Int32} (hd : decode B.bs pc = .ok (.ldc ix, 2)) (w : (Jvm.Cond.constant B.y.cls ix v).before a0 Z = true) (r : Go l Z a0 EL n0 kn B D Q h σ ce sl (pc + 2) Ls (.int v :: st)) : Go l Z a0 EL n0 kn B D Q h σ ce sl pc Ls st :=
  plainX (fun T vm0 locs X h1 h4 h5 ok t q => X.ldcI ok.1 (own := B.y.cls) h5 (mv (s := D.s.setVm vm0) h4 w) (g := mkF D.m pc Ls st) rfl (Jvm.hb ok.2.1 hd) q) r
theorem ldc2J (pc : Nat) {ix : Nat} {v : Int64} (hd : decode B.bs pc = .ok (.ldc2_w ix, 3)) (w : (Jvm.Cond.constantLong B.y.cls ix v).before a0 Z = true) (r : Go l Z a0 EL n0 kn B D Q h σ ce sl (pc + 3) Ls (.long v :: st)) : Go l Z a0 EL n0 kn B D Q h σ ce sl pc Ls st :=
  plainX (fun T vm0 locs X h1 h4 h5 ok t q => X.ldc2J ok.1 (own := B.y.cls) h5 (mv (s := D.s.setVm vm0) h4 w) (g := mkF D.m pc Ls st) rfl (Jvm.hb ok.2.1 hd) q) r
end Heap
end Jvm.Road
namespace Jvm.Road
open Jvm Jvm.ClassFile Sem Op Lib Jvm.Free Jvm.Stand Jvm.LawKit Jvm.RoadKit Bundle
section Cast
variable {l : Launch} {Z : State} {a0 : Array Value} {EL : List (String × Nat)} {n0 : Nat} {kn : Bool} {B : Bdy} {D : Dyn} {Q : Post} {h : Heap} {σ : Addr → Prop} {ce sl : Nat} {Ls : Array Slot} {st : List Value} {a : Addr}
theorem instYes (pc : Nat) {ix : Nat} {K : String} (hd : decode B.bs pc = .ok (.instanceof ix, 3)) (w : (Jvm.Cond.classLink B.y.cls ix K).before a0 Z = true) (F : Ins Z h a K true) (r : Go l Z a0 EL n0 kn B D Q h σ ce sl (pc + 3) Ls (.int 1 :: st)) : Go l Z a0 EL n0 kn B D Q h σ ce sl pc Ls (.ref a :: st) := by
  intro ok ew T vm0 I
  obtain ⟨k0, locs, X, h1, h2, h3, h4, h5, h6, h7, h8, h9, h10⟩ := I
  obtain ⟨T', X', e', s'⟩ := instY X ok.1 (s := D.s.setVm vm0) h4 h5 w h1 F (g := mkF D.m pc Ls (.ref a :: st)) rfl rfl (Jvm.hb ok.2.1 hd)
  obtain ⟨s2, o, q, rest⟩ := r ok ew T' vm0 ⟨k0, locs, X', e', h2, h3, h4, h5, h6, h7, h8, h9, h10⟩
  exact ⟨s2, o, s' _ q, rest⟩
theorem castYes (pc : Nat) {ix : Nat} {K : String} (hd : decode B.bs pc = .ok (.checkcast ix, 3)) (w : (Jvm.Cond.classLink B.y.cls ix K).before a0 Z = true) (F : Ins Z h a K true) (r : Go l Z a0 EL n0 kn B D Q h σ ce sl (pc + 3) Ls (.ref a :: st)) : Go l Z a0 EL n0 kn B D Q h σ ce sl pc Ls (.ref a :: st) := by
  intro ok ew T vm0 I
  obtain ⟨k0, locs, X, h1, h2, h3, h4, h5, h6, h7, h8, h9, h10⟩ := I
  obtain ⟨T', X', e', s'⟩ := castY X ok.1 (s := D.s.setVm vm0) h4 h5 w h1 F (g := mkF D.m pc Ls (.ref a :: st)) rfl rfl (Jvm.hb ok.2.1 hd)
  obtain ⟨s2, o, q, rest⟩ := r ok ew T' vm0 ⟨k0, locs, X', e', h2, h3, h4, h5, h6, h7, h8, h9, h10⟩
  exact ⟨s2, o, s' _ q, rest⟩
end Cast
theorem Fld.uniq {Z : State} {h : Heap} {a : Addr} {C n d : String} {v w : Value} (F : Fld Z h a C n d v) (G : Fld Z h a C n d w) : v = w := by
  obtain ⟨c1, _, _, _, f1, a1, a2, -, -, -, -, a7⟩ := F
  obtain ⟨c2, _, _, _, f2, b1, b2, -, -, -, -, b7⟩ := G
  cases a1.symm.trans b1
  have q := a2.symm.trans b2
  simp only [Option.some.injEq, Prod.mk.injEq] at q
  obtain ⟨-, -, -, rfl⟩ := q
  exact Option.some.inj (a7.symm.trans b7)
theorem Ary.uniq {Z : State} {h : Heap} {a : Addr} {ty ty' : FieldType} {vs ws : List Value} (F : Ary Z h a ty vs) (G : Ary Z h a ty' ws) : vs = ws := by
  obtain ⟨c1, A1, e1, -⟩ := F
  obtain ⟨c2, A2, e2, -⟩ := G
  cases A1.1.symm.trans A2.1
  exact e1.symm.trans e2
end Jvm.Road
namespace Jvm.Road
open Jvm Jvm.ClassFile Sem Op Lib Jvm.Free Jvm.Stand Jvm.LawKit Jvm.RoadKit Bundle
section Clone
variable {l : Launch} {Z : State} {a0 : Array Value} {EL : List (String × Nat)} {n0 : Nat} {kn : Bool} {B : Bdy} {D : Dyn} {Q : Post} {h : Heap} {σ : Addr → Prop} {ce sl : Nat} {Ls : Array Slot} {st : List Value} {a : Addr}
theorem cloneArr (pc : Nat) {ix : Nat} {ad : String} {ty : FieldType} {vs : List Value} (W cap : Nat) (hd : decode B.bs pc = .ok (.invokevirtual ix, 3))
    (w1 : (Jvm.Cond.methodLink B.y.cls ix ⟨ad, "clone", "()Ljava/lang/Object;"⟩).before a0 Z = true) (w2 : (Jvm.Cond.sameMethod ad "java/lang/Object" "clone" "()Ljava/lang/Object;").before a0 Z = true) (w3 : (Jvm.Cond.native ⟨"java/lang/Object", "clone", "()Ljava/lang/Object;"⟩).before a0 Z = true)
    (w4 : (Jvm.Cond.instanceMethod ⟨"java/lang/Object", "clone", "()Ljava/lang/Object;"⟩).before a0 Z = true) (w5 : (Jvm.Cond.selects ad ⟨ad, "clone", "()Ljava/lang/Object;"⟩ ⟨"java/lang/Object", "clone", "()Ljava/lang/Object;"⟩).before a0 Z = true) (w6 : (Jvm.Cond.castable ad "java/lang/Cloneable").before a0 Z = true)
    (A : Ary Z h a ty vs) (E : Exa Z h a ad) (hW : (st.map fun v => v.category).sum = W) (hsz : Ls.size = B.ml) (hf : 1 ≤ B.rm.frames) (hl : W + 14 ≤ B.rm.locals) (hcap : vs.length ≤ cap) {ce' sl' : Nat} (hce : ce + 1 = ce') (hsl : sl + cap = sl') (hc : ce' ≤ B.rm.cells) (hs : sl' ≤ B.rm.slots)
    (r : ∀ b h' σ', b = h.size → Keep h h' [] → b < h'.size → (∀ x, σ x → σ' x) → σ' b → Ary Z h' b ty vs → Exa Z h' b ad → Go l Z a0 EL n0 kn B D Q h' σ' ce' sl' (pc + 3) Ls (.ref b :: st)) : Go l Z a0 EL n0 kn B D Q h σ ce sl pc Ls (.ref a :: st) := by
  subst hce hsl
  exact made (P := fun h' => Ary Z h' h.size ty vs ∧ Exa Z h' h.size ad)
    (fun T vm0 locs X h1 h4 h5 ok => by
      obtain ⟨cl, Ar, e, q, f⟩ := A
      obtain ⟨T', h', X', e', ex, A', E', s'⟩ := cloneA X ok.1 (s := D.s.setVm vm0) h4 h5 w1 w2 w3 w4 w5 w6 h1 Ar E (fitC_of Ar fun i hi v hv => f v (by rw [← e]; exact List.mem_of_getElem? (by rw [Array.getElem?_toList]; exact hv))) (g := mkF D.m pc Ls (.ref a :: st)) rfl (hsz.trans ok.2.2.1.symm) rfl (Jvm.hb ok.2.1 hd) hf (W := W) (cap := cap) (by show 2 * 0 + _ ≤ _; rw [hW]; omega) hl (by rw [← Array.length_toList, e]; exact hcap) hc hs
      exact ⟨T', h', X', e', ex, E'.lt, ⟨⟨_, A', e, q, f⟩, E'⟩, s'⟩)
    (fun h' σ' K hlt m1 m2 P => r h.size h' σ' rfl K hlt m1 m2 P.1 P.2)
theorem aaload (pc : Nat) {ty : FieldType} {vs : List Value} {j : Int32} (i : Nat) {v : Value} (hd : decode B.bs pc = .ok (.aaload, 1)) (A : Ary Z h a ty vs) (hty : ty.isReference = true) (hj : j.toInt = (i : Int)) (hv : vs[i]? = some v) (r : Go l Z a0 EL n0 kn B D Q h σ ce sl (pc + 1) Ls (v :: st)) : Go l Z a0 EL n0 kn B D Q h σ ce sl pc Ls (.int j :: .ref a :: st) :=
  plainX (fun T vm0 locs X h1 h4 h5 ok t q => by
    obtain ⟨c, A, e, -⟩ := A
    have hi : i < vs.length := (List.getElem?_eq_some_iff.mp hv).1
    exact X.aaload ok.1 (by rw [h1]; exact A.1) (State.isArrayOf_alike (T := D.s.setVm vm0) h4.alike A.2.1) hty A.2.2 (Ary.inb e hj hi) (by rw [(ix_of hj).2, ← Array.getElem?_toList, e]; exact hv) (g := mkF D.m pc Ls (.int j :: .ref a :: st)) rfl rfl (Jvm.hb ok.2.1 hd) t q) r
theorem instNull (pc : Nat) {ix : Nat} (hd : decode B.bs pc = .ok (.instanceof ix, 3)) (r : Go l Z a0 EL n0 kn B D Q h σ ce sl (pc + 3) Ls (.int 0 :: st)) : Go l Z a0 EL n0 kn B D Q h σ ce sl pc Ls (.null :: st) :=
  plainX (fun T vm0 locs X h1 h4 h5 ok t q => X.instanceofNull ok.1 (g := mkF D.m pc Ls (.null :: st)) rfl rfl (Jvm.hb ok.2.1 hd) t q) r
end Clone
end Jvm.Road
namespace Jvm.Road
open Jvm Jvm.ClassFile Sem Op Lib Jvm.Free Jvm.Stand Jvm.LawKit Jvm.RoadKit Bundle
section Ends
variable {l : Launch} {Z : State} {a0 : Array Value} {EL : List (String × Nat)} {n0 : Nat} {kn : Bool} {B : Bdy} {D : Dyn} {Q : Post} {h : Heap} {σ : Addr → Prop} {ce sl : Nat} {Ls : Array Slot} {st : List Value} {a : Addr}
theorem own_at {vm0 : Vm} {T : State} {locs : List Loc} (X : Stand D.p l D.e B.rm (D.s.setVm vm0) D.m D.args D.bl D.meth D.c T locs ce sl) (hZ : Z.Warmed39 vm0) (ew : EW Z a0 EL) (hC : CHv Z EL vm0 h) {x : Addr} (hx : Own Z EL n0 vm0 h x) : Own Z EL n0 T.vm h x :=
  ⟨(CHv.at X hZ ew hC).safe hx.2.2 hx.1, hx.2.1, hx.2.2⟩
/-- the end of a walk -/
theorem ended {pc : Nat} {v : Option Value} (hv : B.rt = none → v = none) (hc : ce ≤ B.rm.cells) (hs : sl ≤ B.rm.slots) (hq : ∀ σ', (∀ x, σ x → σ' x) → Q v h σ')
    (k : ∀ T vm0 locs fs, Stand D.p l D.e B.rm (D.s.setVm vm0) D.m D.args D.bl D.meth D.c T locs ce sl → Ok B D → (∀ (f : JFrame) (acts : List Action), f.method = D.m → f.locked = none → f.entered = [] → (doReturn D.e (T.setTop f) acts v).1 = T.setFrames fs) → Steps D.p.tables D.e D.bl (T.setTop (mkF D.m pc Ls st)) (T.setFrames fs)) :
    Go l Z a0 EL n0 kn B D Q h σ ce sl pc Ls st := by
  intro ok ew T vm0 I
  obtain ⟨k0, locs, X, h1, h2, h3, h4, h5, h6, h7, h8, h9, h10⟩ := I
  obtain ⟨fs, hr, hrun, hended, hE⟩ := X.leaveW h2 (by rw [h1]; exact h3) (v := v) (fun q => hv (ok.2.2.2.1.symm.trans q)) ok.2.2.2.2.1
  have hh : (T.setFrames fs).heap = h := h1
  refine ⟨T.setFrames fs, .returned v, k T vm0 locs fs X ok hr, hrun, hended, v, locs, rfl, ?_, h7, ?_, ?_, ⟨hE.1, hE.2.1, hE.2.2.1, hE.2.2.2.mono hc hs⟩⟩
  · rw [hh]; exact hq _ fun x hx => own_at X h4 ew h6.1 (h9 x hx)
  · rw [hh]; exact h6.trans (show CHr Z EL vm0 h T.vm h from CHv.at X h4 ew h6.1)
  · rw [hh]; exact h8
theorem ret (pc : Nat) (hd : decode B.bs pc = .ok (.return_, 1)) (hrt : B.rt = none) (hc : ce ≤ B.rm.cells) (hs : sl ≤ B.rm.slots) (hq : ∀ σ', (∀ x, σ x → σ' x) → Q none h σ') : Go l Z a0 EL n0 kn B D Q h σ ce sl pc Ls [] :=
  ended (fun _ => rfl) hc hs hq (fun T vm0 locs fs X ok hr => X.returnOut ok.1 (ok.2.2.2.1.trans hrt) (Jvm.hb ok.2.1 hd) hr)
theorem iret (pc : Nat) {x : Int32} {t : FieldType} (w : Int32) (hd : decode B.bs pc = .ok (.ireturn, 1)) (hrt : B.rt = some t) (ht : t = .boolean ∨ t = .byte ∨ t = .char ∨ t = .short) (hw : nar t x = w) (hc : ce ≤ B.rm.cells) (hs : sl ≤ B.rm.slots) (hq : ∀ σ', (∀ x, σ x → σ' x) → Q (some (.int w)) h σ') : Go l Z a0 EL n0 kn B D Q h σ ce sl pc Ls (.int x :: st) :=
  ended (fun q => by rw [hrt] at q; cases q) hc hs hq (fun T vm0 locs fs X ok hr => retN X ok.1 (t := t) (ok.2.2.2.1.trans hrt) ht (Jvm.hb ok.2.1 hd) (by rw [hw]; exact hr))
theorem iretI (pc : Nat) {x : Int32} (hd : decode B.bs pc = .ok (.ireturn, 1)) (hrt : B.rt = some .int) (hc : ce ≤ B.rm.cells) (hs : sl ≤ B.rm.slots) (hq : ∀ σ', (∀ x, σ x → σ' x) → Q (some (.int x)) h σ') : Go l Z a0 EL n0 kn B D Q h σ ce sl pc Ls (.int x :: st) :=
  ended (fun q => by rw [hrt] at q; cases q) hc hs hq (fun T vm0 locs fs X ok hr => retOut X ok.1 (t := .int) (ok.2.2.2.1.trans hrt) rfl (Or.inl ⟨rfl, Or.inl rfl, x, rfl⟩) (Jvm.hb ok.2.1 hd) hr)
theorem aret (pc : Nat) {v : Value} {t : FieldType} (hd : decode B.bs pc = .ok (.areturn, 1)) (hrt : B.rt = some t) (ht : t.isReference = true) (hv : v.isRef = true) (hc : ce ≤ B.rm.cells) (hs : sl ≤ B.rm.slots) (hq : ∀ σ', (∀ x, σ x → σ' x) → Q (some v) h σ') : Go l Z a0 EL n0 kn B D Q h σ ce sl pc Ls (v :: st) :=
  ended (fun q => by rw [hrt] at q; cases q) hc hs hq (fun T vm0 locs fs X ok hr => retOut X ok.1 (t := t) (ok.2.2.2.1.trans hrt) (by rcases ref_cases hv with rfl | ⟨_, rfl⟩ <;> cases t <;> first | rfl | (cases ht; done)) (Or.inr (Or.inr (Or.inr (Or.inr ⟨rfl, ht, hv⟩)))) (Jvm.hb ok.2.1 hd) hr)
/-- ldc of a String constant that is read -/
theorem ldcS (pc : Nat) {ix : Nat} (text : String) (cs : List Int32) (n : Nat) (hd : decode B.bs pc = .ok (.ldc ix, 2)) (w : (Jvm.Cond.stringLink B.y.cls ix text).before a0 Z = true) (wS : ∀ a ∈ Bundle.stringAtoms, a.before a0 Z = true) (hmem : (B.y.cls, ix) ∈ EL)
    (ht : ∀ c ∈ text.toList, c.toNat < 256) (hvs : text.toList.map (fun c => Value.int (Jvm.Lit.byteI c.toNat.toUInt16)) = cs.map byt) (hcs : ∀ c ∈ cs, 0 ≤ c.toInt ∧ c.toInt < 256) (hn : 4 * text.toList.length ≤ n) (hbig : n ≤ 536870912) {ce' sl' : Nat} (hce : ce + 2 = ce') (hsl : sl + (n + 4) = sl') (hc : ce' ≤ B.rm.cells) (hs : sl' ≤ B.rm.slots)
    (r : ∀ a b h' σ', Keep h h' [] → (∀ x, σ x → σ' x) → Str Z h' a b cs → (∀ x, σ' x → x ≠ a ∧ x ≠ b) → Go l Z a0 EL n0 kn B D Q h' σ' ce' sl' (pc + 2) Ls (.ref a :: st)) : Go l Z a0 EL n0 kn B D Q h σ ce sl pc Ls st := by
  subst hce hsl
  intro ok ew T vm0 I
  obtain ⟨k0, locs, X, h1, h2, h3, h4, h5, h6, h7, h8, h9, h10⟩ := I
  have hlen : (cs.map byt).length = text.toList.length := by rw [← hvs, List.length_map]
  have hsm : text.toList.length < 2147483648 := by omega
  have hz : (text.toList.length).toInt32.toInt = (text.toList.length : Int) := len_toInt hsm
  obtain ⟨q1, q2⟩ := ix_of hz
  obtain ⟨a, T', h', k1, b, k, X', e', E, hS', hk', hZ', ho', E1, E2, E3, E4, l1, l2, hCr, hL, hne, s'⟩ := ldcCH (s := D.s) X ok.1 h4 h5 w wS h1 h2 h3 ew hmem h6.1 (vs := cs.map byt) (z := (text.toList.length).toInt32) ⟨ht, hvs⟩ q1 (by rw [q2, hlen]) (g := mkF D.m pc Ls st) rfl (Jvm.hb ok.2.1 hd) hn hbig hc hs
  have hal : vm0.Alike T'.vm := by
    have z1 := h4.alike
    have z2 : Z.vm.Alike T'.vm := State.Warmed39.alike hZ'
    exact z1.symm.trans z2
  obtain ⟨s2, o, q, rest⟩ := r a b h' (Own Z EL n0 T'.vm h') (keep_ext E) (fun x hx => ⟨hCr.safe (h9 x hx).2.2 (h9 x hx).1, (h9 x hx).2.1, Nat.lt_of_lt_of_le (h9 x hx).2.2 E.1⟩) ⟨E1, E2, E3, Ary.of_arv E4 (by rw [q2, hlen]), hcs⟩ (fun x hx => hne x hx.1) ok ew T' T'.vm
    ⟨k1, locs, X', e', hS', hk', hZ', ho', h6.trans hCr, h7, h8.ext E, fun x hx => hx, fun z => ⟨(h10 z).1.alikeC hal, (h10 z).2.alikeC hal⟩⟩
  exact ⟨s2, o, s' _ q, rest⟩
end Ends
section Calls
variable {l : Launch} {Z : State} {a0 : Array Value} {EL : List (String × Nat)} {n0 : Nat} {kn : Bool} {B B' : Bdy} {D : Dyn} {Q Q' : Post} {h : Heap} {σ : Addr → Prop} {ce sl : Nat} {Ls : Array Slot} {st : List Value} {a : Addr}
theorem Con.back {R : Room} {p : Program} {e : Env} {below : List Frame} {s : State} {args : Array Value} {vm0 : Vm} {len W : Nat} {as : Array Value} (hM : Con l Z EL n0 kn B' [] σ as h Q') (hZ : Z.Warmed39 vm0) (wc : (Jvm.Cond.code B'.y B'.bs B'.ml B'.rt).before a0 Z = true) (wz : (Jvm.Cond.initialized B'.y.cls).before a0 Z = true)
    (hf : B'.rm.frames + 1 ≤ R.frames) (hl : W + (B'.ml + 11) + B'.rm.locals ≤ R.locals) (hEL : EW Z a0 EL) (H : CHv Z EL vm0 h) (hO : Old Z n0 h) (hσ : ∀ x, σ x → Own Z EL n0 vm0 h x) (hK : kn = true → vm0.MethodsKnown ∧ vm0.FramesKnown below) :
    BackS l R p e below (s.setVm vm0) args B'.y len W (fun A a => a = as ∧ A.U.heap = h ∧ A.cells + B'.rm.cells ≤ R.cells ∧ A.slots + B'.rm.slots ≤ R.slots)
      (fun A _ v Bp => ∃ L, (Q' v Bp.U.heap (Own Z EL n0 Bp.U.vm Bp.U.heap) ∧ Fr n0 L ∧ Old Z n0 Bp.U.heap) ∧ Bp.locs = A.locs ++ L ∧ Bp.cells = A.cells + B'.rm.cells ∧ Bp.slots = A.slots + B'.rm.slots ∧ CHr Z EL vm0 h Bp.U.vm Bp.U.heap) :=
  BackS.of_freeWG (bytes := B'.bs) (maxL := B'.ml) (ret := B'.rt) (E := fun _ first o t L k n => k = B'.rm.cells ∧ n = B'.rm.slots ∧ (∃ v, o = .returned v ∧ Q' v t.heap (Own Z EL n0 t.vm t.heap) ∧ Fr n0 L ∧ Old Z n0 t.heap) ∧ CHr Z EL first.vm first.heap t.vm t.heap) hM hf hl
    (fun m meth c A a Y hp => have hU : Z.Warmed39 A.U.vm := wtrans (s := s.setVm vm0) hZ Y.warmed
      ⟨by show (Cond.and _ .tt).before a A.U = true; rw [Cond.before_and, mv hU wc]; rfl, mv hU wc, mv hU wz, hp.2.2.1, hp.2.2.2⟩)
    (fun m meth c A a g mk Y hp => ⟨hp.1, wtrans (s := s.setVm vm0) hZ Y.warmed, hp.2.1, (CHv.at Y hZ hEL H).1, hO, fun x hx => ⟨(CHv.at Y hZ hEL H).safe (hσ x hx).2.2 (hσ x hx).1, (hσ x hx).2⟩⟩)
    (fun m meth c A a g mk Y _ hg hkn => known_frames Y hg (hK hkn).1 (hK hkn).2)
    (fun _ _ _ _ ⟨v, L, h1, h2, h3, h4, h5, h6⟩ => ⟨L, _, _, h6, rfl, rfl, ⟨v, h1, h2, h3, h5⟩, h4⟩)
    (fun m meth c A a g mk v t L k n Y hp _ _ ⟨e1, e2, ⟨v', e3, e4⟩, e5⟩ => by
      cases e3; subst e1 e2
      refine ⟨L, e4, rfl, rfl, rfl, (CHv.at Y hZ hEL H).trans ?_⟩
      rw [← hp.2.1]; exact e5)
/-- behind a call -/
theorem called {pc len : Nat} {rest : List Value} {as : Array Value} (W : Nat) (hM : Con l Z EL n0 kn B' [] σ as h Q') (wc : (Jvm.Cond.code B'.y B'.bs B'.ml B'.rt).before a0 Z = true) (wz : (Jvm.Cond.initialized B'.y.cls).before a0 Z = true)
    (hf : B'.rm.frames + 1 ≤ B.rm.frames) (hl : W + (B'.ml + 11) + B'.rm.locals ≤ B.rm.locals) (hc : ce + B'.rm.cells ≤ B.rm.cells) (hs : sl + B'.rm.slots ≤ B.rm.slots)
    (k : ∀ T vm0 locs, Stand D.p l D.e B.rm (D.s.setVm vm0) D.m D.args D.bl D.meth D.c T locs ce sl → T.heap = h → Z.Warmed39 vm0 → vm0.findClass B.y.cls = some D.m.cls → Ok B D →
      ∀ {Pre : Pt → Array Value → Prop} {Pst : Pt → Array Value → Option Value → Pt → Prop}, BackS l B.rm D.p D.e D.bl (D.s.setVm vm0) D.args B'.y len W Pre Pst → (∀ vm₁, (D.s.setVm vm0).WarmedH vm₁ → Pre ⟨T.setVm vm₁, locs, ce, sl⟩ as) →
      ∃ (v : Option Value) (vm₁ : Vm) (Bp : Pt), (D.s.setVm vm0).WarmedH vm₁ ∧ Stand D.p l D.e B.rm ((D.s.setVm vm0).setVm Bp.U.vm) D.m D.args D.bl D.meth D.c Bp.U Bp.locs Bp.cells Bp.slots ∧ (D.s.setVm vm0).Since Bp.U.vm Bp.U.heap.size ∧ T.heap.size ≤ Bp.U.heap.size ∧ Pst ⟨T.setVm vm₁, locs, ce, sl⟩ as v Bp ∧
        Steps D.p.tables D.e D.bl (T.setTop (mkF D.m pc Ls st)) (Bp.U.setTop (mkF D.m (pc + len) Ls (v.toList ++ rest))))
    (r : ∀ v h' σ', (∀ x, σ x → σ' x) → Q' v h' σ' → Go l Z a0 EL n0 kn B D Q h' σ' (ce + B'.rm.cells) (sl + B'.rm.slots) (pc + len) Ls (push v rest)) : Go l Z a0 EL n0 kn B D Q h σ ce sl pc Ls st := by
  intro ok ew T vm0 I
  obtain ⟨k0, locs, X, h1, h2, h3, h4, h5, h6, h7, h8, h9, h10⟩ := I
  obtain ⟨v, vm₁, ⟨U, Lc, kc, ks⟩, -, X', hS', hgr, ⟨L, ⟨hQ, hFr, hOld⟩, e1, e2, e3, hCr⟩, stp⟩ := k T vm0 locs X h1 h4 h5 ok (Con.back (s := D.s) hM h4 wc wz hf hl ew h6.1 h8 h9 h10) (fun vm₁ _ => ⟨rfl, h1, hc, hs⟩)
  dsimp only [Pt.U, Pt.locs, Pt.cells, Pt.slots] at X' hS' hgr hQ hOld e1 e2 e3 hCr stp
  subst e1 e2 e3
  obtain ⟨Y, hS2, hZ2, ho2⟩ := rebS h2 (by rw [← h1] at h3; exact h3) X' hS' hgr h4 h5
  have hal : vm0.Alike U.vm := hS'.1.alike
  rw [push_eq] at stp
  obtain ⟨s2, o, q, rest'⟩ := r v U.heap (Own Z EL n0 U.vm U.heap) (fun x hx => ⟨hCr.safe (h9 x hx).2.2 (h9 x hx).1, (h9 x hx).2.1, Nat.lt_of_lt_of_le (h9 x hx).2.2 (by rw [← h1]; exact hgr)⟩) hQ ok ew U U.vm
    ⟨U.heap.size, _, Y, rfl, hS2, Nat.le_refl _, hZ2, ho2, h6.trans hCr, h7.app hFr, hOld, fun x hx => hx, fun z => ⟨(h10 z).1.alikeC hal, (h10 z).2.alikeC hal⟩⟩
  exact ⟨s2, o, stp.trans q, rest'⟩
abbrev notMH (y : MethodName) : Prop := y.cls ≠ "java/lang/invoke/MethodHandle" ∧ y.cls ≠ "java/lang/invoke/VarHandle"
theorem callS (pc : Nat) {ix : Nat} {argsL rest : List Value} (W : Nat) (hd : decode B.bs pc = .ok (.invokestatic ix, 3)) (w1 : (Jvm.Cond.methodLink B.y.cls ix B'.y).before a0 Z = true) (w2 : (Jvm.Cond.static B'.y).before a0 Z = true) (w3 : (Jvm.Cond.initialized B'.y.cls).before a0 Z = true) (w4 : (Jvm.Cond.code B'.y B'.bs B'.ml B'.rt).before a0 Z = true) (hy : notMH B'.y)
    (hM : Con l Z EL n0 kn B' [] σ argsL.toArray h Q') (hlen : ∀ sig, parseMethodDescriptor B'.y.desc = some sig → argsL.length = sig.parameters.length) (hst : st = argsL.reverse ++ rest) (hW : (rest.map fun v => v.category).sum = W) (hsz : Ls.size = B.ml)
    (hf : B'.rm.frames + 1 ≤ B.rm.frames) (hl : W + (B'.ml + 11) + B'.rm.locals ≤ B.rm.locals) {ce' sl' : Nat} (hce : ce + B'.rm.cells = ce') (hsl : sl + B'.rm.slots = sl') (hc : ce' ≤ B.rm.cells) (hs : sl' ≤ B.rm.slots)
    (r : ∀ v h' σ', (∀ x, σ x → σ' x) → Q' v h' σ' → Go l Z a0 EL n0 kn B D Q h' σ' ce' sl' (pc + 3) Ls (push v rest)) : Go l Z a0 EL n0 kn B D Q h σ ce sl pc Ls st := by
  subst hce hsl
  exact called W hM w4 w3 hf hl hc hs (fun T vm0 locs X h1 h4 h5 ok {Pre Pst} hB hpre =>
    callSS X ok.1 (s := D.s.setVm vm0) h5 (mv (s := D.s.setVm vm0) h4 w1) (mv (s := D.s.setVm vm0) h4 w2) (mv (s := D.s.setVm vm0) h4 w3) (mv (s := D.s.setVm vm0) h4 w4) hy hB (g := mkF D.m pc Ls st) rfl (hsz.trans ok.2.2.1.symm) (argsL := argsL) (rest := rest) hlen hst (by show 2 * 0 + _ ≤ _; rw [hW]; omega) (Jvm.hb ok.2.1 hd) hpre) r
theorem callI (pc : Nat) {ix : Nat} {argsL rest : List Value} (W : Nat) (hd : decode B.bs pc = .ok (.invokespecial ix, 3)) (w1 : (Jvm.Cond.methodLink B.y.cls ix B'.y).before a0 Z = true) (w2 : (Jvm.Cond.instanceMethod B'.y).before a0 Z = true) (w3 : (Jvm.Cond.initialized B'.y.cls).before a0 Z = true) (w4 : (Jvm.Cond.code B'.y B'.bs B'.ml B'.rt).before a0 Z = true) (hi : B'.y.name = "<init>") (hrt : B'.rt = none) (hy : notMH B'.y)
    (hM : Con l Z EL n0 kn B' [] σ (.ref a :: argsL).toArray h Q') (hlen : ∀ sig, parseMethodDescriptor B'.y.desc = some sig → argsL.length = sig.parameters.length) (hst : st = argsL.reverse ++ .ref a :: rest) (hW : (rest.map fun v => v.category).sum = W) (hsz : Ls.size = B.ml)
    (hf : B'.rm.frames + 1 ≤ B.rm.frames) (hl : W + (B'.ml + 11) + B'.rm.locals ≤ B.rm.locals) {ce' sl' : Nat} (hce : ce + B'.rm.cells = ce') (hsl : sl + B'.rm.slots = sl') (hc : ce' ≤ B.rm.cells) (hs : sl' ≤ B.rm.slots)
    (r : ∀ v h' σ', (∀ x, σ x → σ' x) → Q' v h' σ' → Go l Z a0 EL n0 kn B D Q h' σ' ce' sl' (pc + 3) Ls (push v rest)) : Go l Z a0 EL n0 kn B D Q h σ ce sl pc Ls st := by
  subst hce hsl
  exact called W hM w4 w3 hf hl hc hs (fun T vm0 locs X h1 h4 h5 ok {Pre Pst} hB hpre =>
    X.specialBackS ok.1 hi (s := D.s.setVm vm0) h5 (mv (s := D.s.setVm vm0) h4 w1) (mv (s := D.s.setVm vm0) h4 w2) (bytes := B'.bs) (maxL := B'.ml) (mv (s := D.s.setVm vm0) h4 (hrt ▸ w4)) hy hB (g := mkF D.m pc Ls st) rfl (hsz.trans ok.2.2.1.symm) (Steps.refl _) (argsL := argsL) (rest := rest) hlen hst (by show 2 * 0 + _ ≤ _; rw [hW]; omega) (Jvm.hb ok.2.1 hd) hpre) r
theorem callV (pc : Nat) {ix : Nat} {y : MethodName} {argsL rest : List Value} (C : String) (W : Nat) (hd : decode B.bs pc = .ok (.invokevirtual ix, 3)) (w1 : (Jvm.Cond.methodLink B.y.cls ix y).before a0 Z = true) (w2 : (Jvm.Cond.declares y).before a0 Z = true) (nf : ∀ vm0, Z.Warmed39 vm0 → NotFace (D.s.setVm vm0) y) (w5 : (Jvm.Cond.selects C y B'.y).before a0 Z = true) (w6 : (Jvm.Cond.instanceMethod B'.y).before a0 Z = true) (w3 : (Jvm.Cond.initialized B'.y.cls).before a0 Z = true) (w4 : (Jvm.Cond.code B'.y B'.bs B'.ml B'.rt).before a0 Z = true) (hy : notMH y)
    (E : Exa Z h a C) (hM : Con l Z EL n0 kn B' [] σ (.ref a :: argsL).toArray h Q') (hlen : ∀ sig, parseMethodDescriptor y.desc = some sig → argsL.length = sig.parameters.length) (hst : st = argsL.reverse ++ .ref a :: rest) (hW : (rest.map fun v => v.category).sum = W) (hsz : Ls.size = B.ml)
    (hf : B'.rm.frames + 1 ≤ B.rm.frames) (hl : W + (B'.ml + 11) + B'.rm.locals ≤ B.rm.locals) {ce' sl' : Nat} (hce : ce + B'.rm.cells = ce') (hsl : sl + B'.rm.slots = sl') (hc : ce' ≤ B.rm.cells) (hs : sl' ≤ B.rm.slots)
    (r : ∀ v h' σ', (∀ x, σ x → σ' x) → Q' v h' σ' → Go l Z a0 EL n0 kn B D Q h' σ' ce' sl' (pc + 3) Ls (push v rest)) : Go l Z a0 EL n0 kn B D Q h σ ce sl pc Ls st := by
  subst hce hsl
  exact called W hM w4 w3 hf hl hc hs (fun T vm0 locs X h1 h4 h5 ok {Pre Pst} hB hpre => by
    obtain ⟨cq, kq, qa, qb, qc⟩ := isOf (s := D.s.setVm vm0) h4 h1 E
    exact X.virtualBackS ok.1 (s := D.s.setVm vm0) (C := C) h5 (mv (s := D.s.setVm vm0) h4 w1) (mv (s := D.s.setVm vm0) h4 w2) (nf vm0 h4) (mv (s := D.s.setVm vm0) h4 w5) (mv (s := D.s.setVm vm0) h4 w6) hy hB qa qc (g := mkF D.m pc Ls st) rfl (hsz.trans ok.2.2.1.symm) (Steps.refl _) (argsL := argsL) (rest := rest) hlen hst (by show 2 * 0 + _ ≤ _; rw [hW]; omega) (Jvm.hb ok.2.1 hd) hpre) r
/-- Object.<init> -/
theorem initObj (pc : Nat) {ix : Nat} (hd : decode B.bs pc = .ok (.invokespecial ix, 3)) (w1 : (Jvm.Cond.methodLink B.y.cls ix Lib.objectInit).before a0 Z = true) (w2 : (Jvm.Cond.instanceMethod Lib.objectInit).before a0 Z = true) (w3 : (Jvm.Cond.code Lib.objectInit ⟨#[0xb1]⟩ 1 none).before a0 Z = true) (W : Nat) (hW : (st.map fun v => v.category).sum = W) (hsz : Ls.size = B.ml) (hf : 1 ≤ B.rm.frames) (hl : W + 12 ≤ B.rm.locals)
    (r : Go l Z a0 EL n0 kn B D Q h σ ce sl (pc + 3) Ls st) : Go l Z a0 EL n0 kn B D Q h σ ce sl pc Ls (.ref a :: st) := by
  intro ok ew T vm0 I
  obtain ⟨k0, locs, X, h1, h2, h3, h4, h5, h6, h7, h8, h9, h10⟩ := I
  obtain ⟨T', X', e', s'⟩ := initO X ok.1 (s := D.s.setVm vm0) h4 h5 w1 w2 w3 h1 (g := mkF D.m pc Ls (.ref a :: st)) rfl (hsz.trans ok.2.2.1.symm) rfl (Jvm.hb ok.2.1 hd) hf (W := W) (by show 2 * 0 + _ ≤ _; rw [hW]; omega) hl
  obtain ⟨s2, o, q, rest⟩ := r ok ew T' vm0 ⟨k0, locs, X', e', h2, h3, h4, h5, h6, h7, h8, h9, h10⟩
  exact ⟨s2, o, s' _ q, rest⟩
end Calls
end Jvm.Road
namespace Jvm.Road
open Jvm Jvm.ClassFile Sem Op Lib Jvm.Free Jvm.Stand Jvm.LawKit Jvm.RoadKit Bundle
theorem n32 {i : Nat} (h : i < 2147483648) : i.toInt32.toInt = (i : Int) := len_toInt h
theorem succ32 (i : Nat) : i.toInt32 + 1 = (i + 1).toInt32 := (Int32.ofNat_add i 1).symm
theorem add32n (i j : Nat) : i.toInt32 + j.toInt32 = (i + j).toInt32 := (Int32.ofNat_add i j).symm
theorem lt32 {i j : Nat} (hi : i < 2147483648) (hj : j < 2147483648) : i.toInt32 < j.toInt32 ↔ i < j := by
  rw [Int32.lt_iff_toInt_lt, n32 hi, n32 hj]; omega
theorem eq32 {i j : Nat} (hi : i < 2147483648) (hj : j < 2147483648) : i.toInt32 = j.toInt32 ↔ i = j := by
  rw [← Int32.toInt_inj, n32 hi, n32 hj]; omega
/-- a slot that an int may be stored in -/
def W1 (w : Slot) : Prop := w = .unset ∨ ∃ v, w = .val (.int v)
theorem nar_byte (x : Int32) : nar .byte (Int8.toInt32 (Int32.toInt8 x)) = Int8.toInt32 (Int32.toInt8 x) := by simp [nar]
theorem nar_chr (x : Int32) : nar .char (chr x) = chr x := by simp only [nar, chr, UInt32.toUInt32_toInt32, UInt16.toUInt16_toUInt32]
theorem set_mid {α β : Type} (f : α → β) (cs : List α) (z : β) (k r : Nat) (hk : k < cs.length) : ((cs.take k).map f ++ List.replicate (r + 1) z).set k (f cs[k]) = (cs.take (k + 1)).map f ++ List.replicate r z := by
  have hl : ((cs.take k).map f).length = k := by simp; omega
  rw [List.set_append, if_neg (by omega), hl, Nat.sub_self, List.replicate_succ, List.set_cons_zero, List.take_succ_eq_append_getElem hk, List.map_append]
  simp
end Jvm.Road
namespace Jvm.Road
open Jvm Jvm.ClassFile Sem Op Lib Jvm.Free Jvm.Stand Jvm.LawKit Jvm.RoadKit Bundle
theorem narRef {t : FieldType} {v : Value} (ht : t.isReference = true) (hv : v.isRef = true) : narrow t v = v := by
  rcases ref_cases hv with rfl | ⟨_, rfl⟩ <;> cases t <;> first | rfl | (cases ht; done)
theorem fitRef {t : FieldType} {v : Value} (ht : t.isReference = true) (hv : v.isRef = true) : fits t v = true := by
  rcases ref_cases hv with rfl | ⟨_, rfl⟩ <;> cases t <;> first | rfl | (cases ht; done)
theorem and255 (x : Int32) : 0 ≤ (chr (x &&& 255)).toInt ∧ (chr (x &&& 255)).toInt < 256 := by
  rw [show chr (x &&& 255) = x &&& 255 from i2c_mask x]
  have h1 : (x &&& 255).toInt = ((x.toBitVec &&& 255#32).toInt) := rfl
  have h2 : (x.toBitVec &&& 255#32).toNat ≤ 255 := by rw [BitVec.toNat_and]; exact Nat.and_le_right
  have h3 : (x.toBitVec &&& 255#32).toInt = ((x.toBitVec &&& 255#32).toNat : Int) := BitVec.toInt_eq_toNat_of_lt (by omega)
  rw [h1, h3]; omega
end Jvm.Road
namespace Jvm.Road
open Jvm Jvm.ClassFile Sem Op Lib Jvm.Free Jvm.Stand Jvm.LawKit Jvm.RoadKit Bundle
theorem nameI {l : Launch} {Z : State} {a0 : Array Value} {EL : List (String × Nat)} {n0 : Nat} {kn : Bool} {B : Bdy} {D : Dyn} {Q : Post} {h : Heap} {σ : Addr → Prop} {ce sl : Nat} {Ls : Array Slot} {st : List Value} {pc : Nat} {x : Int32}
    (r : ∀ z, z = x → Go l Z a0 EL n0 kn B D Q h σ ce sl pc Ls (.int z :: st)) : Go l Z a0 EL n0 kn B D Q h σ ce sl pc Ls (.int x :: st) := r x rfl
theorem nameJ {l : Launch} {Z : State} {a0 : Array Value} {EL : List (String × Nat)} {n0 : Nat} {kn : Bool} {B : Bdy} {D : Dyn} {Q : Post} {h : Heap} {σ : Addr → Prop} {ce sl : Nat} {Ls : Array Slot} {st : List Value} {pc : Nat} {x : Int64}
    (r : ∀ z, z = x → Go l Z a0 EL n0 kn B D Q h σ ce sl pc Ls (.long z :: st)) : Go l Z a0 EL n0 kn B D Q h σ ce sl pc Ls (.long x :: st) := r x rfl
theorem and3 (x : Int32) : x &&& 3 = 0 ∨ x &&& 3 = 1 ∨ x &&& 3 = 2 ∨ x &&& 3 = 3 := by
  have h1 : (x &&& 3).toInt = ((x.toBitVec &&& 3#32).toInt) := rfl
  have h2 : (x.toBitVec &&& 3#32).toNat ≤ 3 := by rw [BitVec.toNat_and]; exact Nat.and_le_right
  have h3 : (x.toBitVec &&& 3#32).toInt = ((x.toBitVec &&& 3#32).toNat : Int) := BitVec.toInt_eq_toNat_of_lt (by omega)
  have h4 : (x &&& 3).toInt = 0 ∨ (x &&& 3).toInt = 1 ∨ (x &&& 3).toInt = 2 ∨ (x &&& 3).toInt = 3 := by rw [h1, h3]; omega
  rcases h4 with h | h | h | h
  · exact Or.inl (Int32.toInt_inj.mp h)
  · exact Or.inr (Or.inl (Int32.toInt_inj.mp h))
  · exact Or.inr (Or.inr (Or.inl (Int32.toInt_inj.mp h)))
  · exact Or.inr (Or.inr (Or.inr (Int32.toInt_inj.mp h)))
/-- a slot that a reference may be stored in -/
def W2 (w : Slot) : Prop := w = .unset ∨ ∃ v, w = .val (.ref v)
end Jvm.Road
namespace Jvm.Road
open Jvm Jvm.ClassFile Sem Op Lib Jvm.Free Jvm.Stand Jvm.LawKit Jvm.RoadKit Bundle
theorem shr0 (x : Int32) : x >>> ((0 : Int32) &&& 31) = x := by
  apply Int32.toBitVec_inj.mp; simp [Int32.toBitVec_shiftRight]
theorem lat_nat {c : Int32} (h : 0 ≤ c.toInt ∧ c.toInt < 256) : ∃ i : Fin 256, c = Int32.ofInt (i.1 : Int) := by
  refine ⟨⟨c.toInt.toNat, by omega⟩, ?_⟩
  apply Int32.toInt_inj.mp
  show c.toInt = (Int32.ofInt ((c.toInt.toNat : Nat) : Int)).toInt
  rw [Int.toNat_of_nonneg h.1, Int32.ofInt_toInt]
theorem byte_back {c : Int32} (h : 0 ≤ c.toInt ∧ c.toInt < 256) : nar .char (chr (Int8.toInt32 (Int32.toInt8 c) &&& 255)) = c := by
  obtain ⟨i, rfl⟩ := lat_nat h
  exact (by decide +kernel : ∀ i : Fin 256, nar .char (chr (Int8.toInt32 (Int32.toInt8 (Int32.ofInt (i.1 : Int))) &&& 255)) = Int32.ofInt (i.1 : Int)) i
theorem nar_lat {c : Int32} (h : 0 ≤ c.toInt ∧ c.toInt < 256) : nar .char c = c := by
  obtain ⟨i, rfl⟩ := lat_nat h
  exact (by decide +kernel : ∀ i : Fin 256, nar .char (Int32.ofInt (i.1 : Int)) = Int32.ofInt (i.1 : Int)) i
end Jvm.Road
namespace Jvm.Road
open Jvm Jvm.ClassFile Sem Op Lib Jvm.Free Jvm.Stand Jvm.LawKit Jvm.RoadKit Bundle
/-- an int's 32 bits as a number -/
def u32 (x : Int32) : Nat := x.toBitVec.toNat
theorem u32_lt (x : Int32) : u32 x < 4294967296 := x.toBitVec.isLt
theorem u32_inj {x y : Int32} (h : u32 x = u32 y) : x = y := Int32.toBitVec_inj.mp (BitVec.eq_of_toNat_eq h)
theorem toInt_u32 {x : Int32} (h : u32 x < 2147483648) : x.toInt = (u32 x : Int) := by
  show x.toBitVec.toInt = _
  exact BitVec.toInt_eq_toNat_of_lt (by show 2 * u32 x < 2 ^ 32; omega)
theorem u32_and (x y : Int32) : u32 (x &&& y) = u32 x &&& u32 y := BitVec.toNat_and ..
theorem u32_chr (x : Int32) : u32 (chr x) = u32 x % 65536 := by
  show ((x.toBitVec.setWidth 16).setWidth 32).toNat = _
  rw [BitVec.toNat_setWidth, BitVec.toNat_setWidth]
  show x.toBitVec.toNat % 65536 % 4294967296 = _
  show _ = x.toBitVec.toNat % 65536
  omega
theorem u32_ushr (x y : Int32) : u32 (XT.ushr x y) = u32 x >>> (u32 y % 32) := by
  show ((x.toBitVec >>> ((y &&& 31).toBitVec.umod 32#32)).toNat) = _
  have h : ((y &&& 31).toBitVec.umod 32#32).toNat = u32 y % 32 := by
    show (BitVec.umod (y.toBitVec &&& 31#32) 32#32).toNat = _
    rw [show (BitVec.umod (y.toBitVec &&& 31#32) 32#32) = (y.toBitVec &&& 31#32) % 32#32 from rfl, BitVec.toNat_umod, BitVec.toNat_and]
    show (u32 y &&& 31) % 32 = _
    rw [show (31 : Nat) = 2 ^ 5 - 1 from rfl, Nat.and_two_pow_sub_one_eq_mod]
    omega
  rw [← h]
  exact BitVec.toNat_ushiftRight ..
theorem and_mask (x : Nat) (k : Nat) : x &&& (2 ^ k - 1) = x % 2 ^ k := Nat.and_two_pow_sub_one_eq_mod x k
theorem u32_and255 (x : Int32) : u32 (x &&& 255) = u32 x % 256 := by rw [u32_and]; exact and_mask _ 8
theorem u32_and7 (x : Int32) : u32 (x &&& 7) = u32 x % 8 := by rw [u32_and]; exact and_mask _ 3
theorem u32_and3 (x : Int32) : u32 (x &&& 3) = u32 x % 4 := by rw [u32_and]; exact and_mask _ 2
theorem u32_and1 (x : Int32) : u32 (x &&& 1) = u32 x % 2 := by rw [u32_and]; exact and_mask _ 1
theorem chr_id {x : Int32} (h : u32 x < 65536) : chr x = x := u32_inj (by rw [u32_chr]; omega)
end Jvm.Road
namespace Jvm.Road
open Jvm Jvm.ClassFile Sem Op Lib Jvm.Free Jvm.Stand Jvm.LawKit Jvm.RoadKit Bundle
/-- the byte of a char, as an int -/
def bf (c : Int32) : Int32 := Int8.toInt32 (Int32.toInt8 c)
theorem bf_inj {c d : Int32} (hc : 0 ≤ c.toInt ∧ c.toInt < 256) (hd : 0 ≤ d.toInt ∧ d.toInt < 256) (h : bf c = bf d) : c = d := by
  rw [← byte_back hc, ← byte_back hd]
  show nar .char (chr (bf c &&& 255)) = nar .char (chr (bf d &&& 255))
  rw [h]
theorem bfs_inj : ∀ {cs ds : List Int32}, (∀ c ∈ cs, 0 ≤ c.toInt ∧ c.toInt < 256) → (∀ c ∈ ds, 0 ≤ c.toInt ∧ c.toInt < 256) → cs.map bf = ds.map bf → cs = ds
  | [], [], _, _, _ => rfl
  | [], d :: ds, _, _, h => by simp at h
  | c :: cs, [], _, _, h => by simp at h
  | c :: cs, d :: ds, h1, h2, h => by
    simp only [List.map_cons, List.cons.injEq] at h
    rw [bf_inj (h1 _ (by simp)) (h2 _ (by simp)) h.1, bfs_inj (fun x hx => h1 x (by simp [hx])) (fun x hx => h2 x (by simp [hx])) h.2]
theorem byts (cs : List Int32) : cs.map byt = (cs.map bf).map Value.int := by rw [List.map_map]; rfl
theorem ints_inj : ∀ {xs ys : List Int32}, xs.map Value.int = ys.map Value.int → xs = ys
  | [], [], _ => rfl
  | [], d :: ds, h => by simp at h
  | c :: cs, [], h => by simp at h
  | c :: cs, d :: ds, h => by
    simp only [List.map_cons, List.cons.injEq, Value.int.injEq] at h
    rw [h.1, ints_inj h.2]
theorem Str.uniq {Z : State} {h : Heap} {a b b' : Addr} {cs ds : List Int32} (S : Str Z h a b cs) (S' : Str Z h a b' ds) : cs = ds := by
  have e := Value.ref.inj (Fld.uniq S.2.2.1 S'.2.2.1)
  subst e
  have q := Ary.uniq S.2.2.2.1 S'.2.2.2.1
  rw [byts, byts] at q
  exact bfs_inj S.2.2.2.2 S'.2.2.2.2 (ints_inj q)
theorem take_ext {xs ys : List Int32} {k : Nat} (hk : k < xs.length) (hk' : k < ys.length) (h : xs.take k = ys.take k) (e : xs[k] = ys[k]) : xs.take (k + 1) = ys.take (k + 1) := by
  rw [List.take_succ_eq_append_getElem hk, List.take_succ_eq_append_getElem hk', h, e]
theorem u32_mask31 (x : Int32) : u32 (x &&& 2147483647) = u32 x % 2147483648 := by rw [u32_and]; exact and_mask _ 31
theorem rem_pos {x y : Int32} {n : Nat} (hx : u32 x < 2147483648) (hy : y.toInt = (n : Int)) (hn : 0 < n) : (x % y).toInt = ((u32 x % n : Nat) : Int) := by
  rw [Int32.toInt_mod, toInt_u32 hx, hy]
  rfl
theorem small_of {x : Int32} {n : Nat} {k : Nat} (h : x.toInt = ((k % n : Nat) : Int)) (hn : 0 < n) : ∃ i : Fin n, x = Int32.ofInt (i.1 : Int) := by
  refine ⟨⟨k % n, Nat.mod_lt _ hn⟩, ?_⟩
  have := congrArg Int32.ofInt h
  rwa [Int32.ofInt_toInt] at this
end Jvm.Road
namespace Jvm.Road
open Jvm Jvm.ClassFile Sem Op Lib Jvm.Free Jvm.Stand Jvm.LawKit Jvm.RoadKit Bundle Jvm.Free.Exc
section Exc
variable {l : Launch} {Z : State} {a0 : Array Value} {EL : List (String × Nat)} {n0 : Nat} {kn : Bool} {B : Bdy} {D : Dyn} {Q : Post} {h : Heap} {σ : Addr → Prop} {ce sl : Nat} {Ls : Array Slot} {st : List Value} {a : Addr}
/-- super(msg) of a Throwable, down a chain of constructors that only pass it on -/
theorem excInit (pc : Nat) {ix n : Nat} {rc : String} {links : List Link} {msg : Value} (W : Nat) (hd : decode B.bs pc = .ok (.invokespecial ix, 3)) (hok : linksOk 1 links = true)
    (w1 : (Jvm.Cond.methodLink B.y.cls ix (ctor 1 (headName links))).before a0 Z = true) (w2 : (Jvm.Cond.instanceMethod (ctor 1 (headName links))).before a0 Z = true) (wT : (chainTab 1 rc links).before a0 Z = true) (wi : (Jvm.Cond.instantiable rc n).before a0 Z = true) (r2 : ∀ d ∈ twoRefs, d.before a0 Z = true)
    (hl : l.stackTraces = true) (hkn : kn = true) (hO : Old Z n0 D.s.heap) (E : Exa Z h a rc) (N : Unt h a) (F1 : Fld Z h a tN "backtrace" obD .null) (F2 : Fld Z h a tN "detailMessage" msgD .null) (hmsg : msg.isRef = true) (hσ : σ a)
    (hW : (st.map fun v => v.category).sum = W) (hsz : Ls.size = B.ml) (hf : 4 + links.length ≤ B.rm.frames) (hlo : W + (56 + 14 * links.length) ≤ B.rm.locals) {ce' sl' : Nat} (hce : ce + 1 = ce') (hsl : sl + 2752 = sl') (hc : ce' ≤ B.rm.cells) (hs : sl' ≤ B.rm.slots)
    (r : ∀ h', Kp Z h h' a → Keep h h' [a] → Exa Z h' a rc → Unt h' a → Fld Z h' a tN "detailMessage" msgD msg → Fld Z h' a tN "cause" thD (.ref a) → Go l Z a0 EL n0 kn B D Q h' σ ce' sl' (pc + 3) Ls st) : Go l Z a0 EL n0 kn B D Q h σ ce sl pc Ls (msg :: .ref a :: st) := by
  subst hce hsl
  intro ok ew T vm0 I
  obtain ⟨k0, locs, X, h1, h2, h3, h4, h5, h6, h7, h8, h9, h10⟩ := I
  obtain ⟨T', h', X', e', K, E', N', M', C', -, s'⟩ := excL1 X ok.1 hl (s := D.s.setVm vm0) h4 h5 hok w1 w2 wT wi r2 (ThS.start.ext hO.2) (ThS.start.ext h8.2) (h10 hkn).1 (h10 hkn).2 h1 E N F1 F2 hmsg (g := mkF D.m pc Ls (msg :: .ref a :: st)) rfl (hsz.trans ok.2.2.1.symm) (rest := st) rfl (Jvm.hb ok.2.1 hd) hf (by show 2 * 0 + _ + _ ≤ _; rw [hW]; omega) hc hs
  have ha := h9 a hσ
  have K2 : Keep h h' [a] := keep_of_kp K
  have hsf : ∀ x ∈ [a], Safe Z EL vm0 h x := fun x hx => by cases List.mem_singleton.mp hx; exact ha.1
  obtain ⟨s2, o, q, rest⟩ := r h' K K2 E' N' M' C' ok ew T' vm0
    ⟨k0, _, X', e', h2, Nat.le_trans h3 K2.1, h4, h5, h6.trans (CHr.keep K2 hsf h6.1), Fr.six h7 ha.2.1, h8.keep K2 (fun x hx => by cases List.mem_singleton.mp hx; exact ha.2.1), fun x hx => ⟨Safe.keep K2 hsf h6.1 (h9 x hx).1, (h9 x hx).2.1, Nat.lt_of_lt_of_le (h9 x hx).2.2 K2.1⟩, h10⟩
  exact ⟨s2, o, s' _ q, rest⟩
end Exc
section Up
variable {l : Launch} {Z : State} {a0 : Array Value} {EL : List (String × Nat)} {n0 : Nat} {kn : Bool} {B B' : Bdy} {D : Dyn} {Q Q' : Post} {h : Heap} {σ : Addr → Prop} {ce sl : Nat} {Ls : Array Slot} {st : List Value} {a : Addr}
/-- invokevirtual whose entry names the method by a subclass of the one that declares it -/
theorem callU (pc : Nat) {ix : Nat} {y : MethodName} {argsL rest : List Value} (C owner : String) (W : Nat) (hd : decode B.bs pc = .ok (.invokevirtual ix, 3)) (w1 : (Jvm.Cond.methodLink B.y.cls ix y).before a0 Z = true) (w2 : (Jvm.Cond.sameMethod y.cls owner y.name y.desc).before a0 Z = true) (w2' : (Jvm.Cond.declares ⟨owner, y.name, y.desc⟩).before a0 Z = true) (hy : owner ≠ "java/lang/invoke/MethodHandle" ∧ owner ≠ "java/lang/invoke/VarHandle") (w5 : (Jvm.Cond.selects C y B'.y).before a0 Z = true) (w6 : (Jvm.Cond.instanceMethod B'.y).before a0 Z = true) (w3 : (Jvm.Cond.initialized B'.y.cls).before a0 Z = true) (w4 : (Jvm.Cond.code B'.y B'.bs B'.ml B'.rt).before a0 Z = true)
    (E : Exa Z h a C) (hM : Con l Z EL n0 kn B' [] σ (.ref a :: argsL).toArray h Q') (hlen : ∀ sig, parseMethodDescriptor y.desc = some sig → argsL.length = sig.parameters.length) (hst : st = argsL.reverse ++ .ref a :: rest) (hW : (rest.map fun v => v.category).sum = W) (hsz : Ls.size = B.ml)
    (hf : B'.rm.frames + 1 ≤ B.rm.frames) (hl : W + (B'.ml + 11) + B'.rm.locals ≤ B.rm.locals) {ce' sl' : Nat} (hce : ce + B'.rm.cells = ce') (hsl : sl + B'.rm.slots = sl') (hc : ce' ≤ B.rm.cells) (hs : sl' ≤ B.rm.slots)
    (r : ∀ v h' σ', (∀ x, σ x → σ' x) → Q' v h' σ' → Go l Z a0 EL n0 kn B D Q h' σ' ce' sl' (pc + 3) Ls (push v rest)) : Go l Z a0 EL n0 kn B D Q h σ ce sl pc Ls st := by
  subst hce hsl
  exact called W hM w4 w3 hf hl hc hs (fun T vm0 locs X h1 h4 h5 ok {Pre Pst} hB hpre => by
    obtain ⟨cq, kq, qa, qb, qc⟩ := isOf (s := D.s.setVm vm0) h4 h1 E
    exact X.virtualBackUpS ok.1 (s := D.s.setVm vm0) (C := C) h5 (mv (s := D.s.setVm vm0) h4 w1) (mv (s := D.s.setVm vm0) h4 w2) (mv (s := D.s.setVm vm0) h4 w2') hy (mv (s := D.s.setVm vm0) h4 w5) (mv (s := D.s.setVm vm0) h4 w6) hB qa qc (g := mkF D.m pc Ls st) rfl (hsz.trans ok.2.2.1.symm) (Steps.refl _) (argsL := argsL) (rest := rest) hlen hst (by show 2 * 0 + _ ≤ _; rw [hW]; omega) (Jvm.hb ok.2.1 hd) hpre) r
end Up
end Jvm.Road
namespace Jvm.Road
open Jvm Jvm.ClassFile Sem Op Lib Jvm.Free Jvm.Stand Jvm.LawKit Jvm.RoadKit Bundle
section Start
variable {Z : State} {a : Addr} {args : Array Value} {t b : Term} {ty : FieldType}
theorem eq_int_of {n : Int32} (h : (Cond.eq t (Term.int n)).value args Z none Z [] = some true) : t.eval args Z none [] Z = some (.int n) := by
  obtain ⟨x, y, q1, q2, -, k2⟩ := cmp_v (Or.inl h)
  cases q2
  obtain ⟨z, rfl⟩ := k2
  have := gotT (Cond.eq_ints q1 (Term.int_eval n)) h
  rw [← this]; exact q1
theorem eq_ref_of {q : Addr} (h : (Cond.eq t b).value args Z none Z [] = some true) (hb : b.eval args Z none [] Z = some (.ref q)) : t.eval args Z none [] Z = some (.ref q) := by
  obtain ⟨x, y, q1, q2, -, k2⟩ := cmp_v (Or.inl h)
  cases hb.symm.trans q2
  have := gotT (eq_R q1 hb k2.2 rfl) h
  rw [← this]; exact q1
theorem len_lt {v : Value} (h : (Term.length t).eval args Z none [] Z = some v) (ev : t.eval args Z none [] Z = some (.ref a)) : ∃ c, Z.arrayAt? a = some c ∧ c.slots.size < 2 ^ 31 ∧ v = .int c.slots.size.toInt32 := by
  obtain ⟨x, c, e1, e2, e3⟩ := Term.length_spec h
  cases ev.symm.trans e1
  refine ⟨c, e2, ?_, e3⟩
  by_cases q : c.slots.size < 2 ^ 31
  · exact q
  · simp [Term.eval, ev, e2, q] at h
theorem Ary.start {n : Int32} {vs : List Value} (ev : t.eval args Z none [] Z = some (.ref a)) (hx : (Cond.arrayOf t ty).value args Z none Z [] = some true)
    (hl : (Cond.eq (Term.length t) (Term.int n)).value args Z none Z [] = some true) (hn : n.toInt = vs.length)
    (he : ∀ i, i < vs.length → ∃ j : Int32, j.toInt = (i : Int) ∧ (Term.elem t (Term.int j)).eval args Z none [] Z = vs[i]?) (hf : ∀ v ∈ vs, fits ty v = true) : Ary Z Z.heap a ty vs := by
  obtain ⟨c, A⟩ := Arr.start ev hx
  obtain ⟨c', e1, e2, e3⟩ := len_lt (eq_int_of hl) ev
  have e4 : Z.heap[a]? = some c' := (arrayAt_spec e1).1
  cases A.1.symm.trans e4
  have e5 : c.slots.size = vs.length := by
    have : n.toInt = (c.slots.size : Int) := by
      injection e3 with q; rw [q]; exact len_toInt e2
    omega
  refine ⟨c, A, ?_, by omega, hf⟩
  apply List.ext_getElem?
  intro i
  by_cases hi : i < vs.length
  · obtain ⟨j, j1, j2⟩ := he i hi
    rw [List.getElem?_eq_getElem hi] at j2 ⊢
    have := (elem_in j2 ev (Term.int_eval j) A.1).2
    rw [(ix_of j1).2] at this
    rw [Array.getElem?_toList]; exact this
  · rw [List.getElem?_eq_none (Nat.le_of_not_lt hi), List.getElem?_eq_none (by rw [Array.length_toList, e5]; exact Nat.le_of_not_lt hi)]
end Start
end Jvm.Road
namespace Jvm.Road
open Jvm Jvm.ClassFile Sem Op Lib Jvm.Free Jvm.Stand Jvm.LawKit Jvm.RoadKit Bundle
section Copy
variable {l : Launch} {Z : State} {a0 : Array Value} {EL : List (String × Nat)} {n0 : Nat} {kn : Bool} {B : Bdy} {D : Dyn} {Q : Post} {h : Heap} {σ : Addr → Prop} {ce sl : Nat} {Ls : Array Slot} {st : List Value} {a b : Addr}
theorem arv_of {ty : FieldType} {vs : List Value} (A : Ary Z h a ty vs) : ∃ k, Arv Z h a k ty (Nat.toInt32 vs.length) vs .null ∧ (Nat.toInt32 vs.length).toNatClampNeg = vs.length := by
  obtain ⟨c, A, e, q, f⟩ := A
  have e1 : (Nat.toInt32 vs.length).toInt = vs.length := len_toInt q
  have e2 := ix_of e1
  have e3 : c.slots.size = vs.length := by rw [← Array.length_toList, e]
  refine ⟨_, ⟨c, A, rfl, e3.trans e2.2.symm, e2.1, fun i hi => ?_, fun i hi => ?_⟩, e2.2⟩
  · rw [← Array.getElem?_toList, e, List.getElem?_eq_getElem (by omega), List.getD_eq_getElem?_getD, List.getElem?_eq_getElem (by omega)]; rfl
  · rw [List.getD_eq_getElem?_getD, List.getElem?_eq_getElem (by omega)]; exact f _ (List.getElem_mem _)
theorem stretch_eq (vs : List Value) (i n : Nat) (h : i + n ≤ vs.length) : (List.range n).map (fun k => vs.getD (i + k) .null) = (vs.drop i).take n := by
  apply List.ext_getElem?
  intro k
  by_cases hk : k < n
  · rw [List.getElem?_map, List.getElem?_range hk, List.getElem?_take_of_lt hk, List.getElem?_drop, List.getElem?_eq_getElem (by omega)]
    simp [List.getD_eq_getElem?_getD, List.getElem?_eq_getElem (show i + k < vs.length by omega)]
  · rw [List.getElem?_eq_none (by simp; omega), List.getElem?_eq_none (by simp; omega)]
theorem acopy (pc : Nat) {ix : Nat} {ty : FieldType} {vs vd : List Value} {sp dp nn : Int32} (i j n W : Nat) (hd : decode B.bs pc = .ok (.invokestatic ix, 3))
    (w1 : (Jvm.Cond.methodLink B.y.cls ix Jvm.Stand.acN).before a0 Z = true) (w2 : (Jvm.Cond.native Jvm.Stand.acN).before a0 Z = true) (w3 : (Jvm.Cond.static Jvm.Stand.acN).before a0 Z = true) (w4 : (Jvm.Cond.initialized "java/lang/System").before a0 Z = true)
    (A : Ary Z h a ty vs) (Ab : Ary Z h b ty vd) (hr : refKind ty = false) (h1 : sp.toInt = (i : Int)) (h2 : dp.toInt = (j : Int)) (h3 : nn.toInt = (n : Int)) (h4 : i + n ≤ vs.length) (h5 : j + n ≤ vd.length) (hσ : σ b)
    (hW : (st.map fun v => v.category).sum = W) (hsz : Ls.size = B.ml) (hf : 1 ≤ B.rm.frames) (hl : W + 18 ≤ B.rm.locals)
    (r : ∀ h', Keep h h' [b] → Ary Z h' b ty (vd.take j ++ (vs.drop i).take n ++ vd.drop (j + n)) → Go l Z a0 EL n0 kn B D Q h' σ ce sl (pc + 3) Ls st) :
    Go l Z a0 EL n0 kn B D Q h σ ce sl pc Ls (.int nn :: .int dp :: .ref b :: .int sp :: .ref a :: st) := by
  intro ok ew T vm0 I
  obtain ⟨k0, locs, X, g1, g2, g3, g4, g5, g6, g7, g8, g9, g10⟩ := I
  obtain ⟨k1, A1, z1⟩ := arv_of A
  obtain ⟨k2, A2, z2⟩ := arv_of Ab
  have ha := g9 b hσ
  obtain ⟨s1, s1'⟩ := ix_of h1
  obtain ⟨s2, s2'⟩ := ix_of h2
  obtain ⟨s3, s3'⟩ := ix_of h3
  obtain ⟨T', h', L, X', e', N, K, A3, s'⟩ := cpA X ok.1 (s := D.s.setVm vm0) g4 g5 w1 w2 w3 w4 g1 A1 A2 (Or.inl ⟨rfl, hr⟩) (sp := sp) (dp := dp) (nn := nn) s1 s2 s3 (by rw [s1', s3', z1]; exact h4) (by rw [s2', s3', z2]; exact h5) rfl (by rw [s2', s3']; exact h5) g7 ha.2.1
    (g := mkF D.m pc Ls (.int nn :: .int dp :: .ref b :: .int sp :: .ref a :: st)) rfl (hsz.trans ok.2.2.1.symm) rfl (Jvm.hb ok.2.1 hd) hf (W := W) (by show 2 * 0 + _ ≤ _; rw [hW]; omega) (by show W + 18 ≤ _; exact hl)
  rw [s1', s2', s3', stretch_eq _ _ _ h4] at A3
  have hlen : (vd.take j ++ (vs.drop i).take n ++ vd.drop (j + n)).length = vd.length := by
    simp only [List.length_append, List.length_take, List.length_drop]; omega
  have hs : ∀ x ∈ [b], Safe Z EL vm0 h x := fun x hx => by cases List.mem_singleton.mp hx; exact ha.1
  obtain ⟨s2, o, q, rest⟩ := r h' K (Ary.of_arv A3 (by rw [z2, hlen])) ok ew T' vm0 ⟨k0, _, X', e', g2, Nat.le_trans g3 K.1, g4, g5, g6.trans (CHr.keep K hs g6.1), N, g8.keep K (fun x hx => by cases List.mem_singleton.mp hx; exact ha.2.1),
    fun x hx => ⟨Safe.keep K hs g6.1 (g9 x hx).1, (g9 x hx).2.1, Nat.lt_of_lt_of_le (g9 x hx).2.2 K.1⟩, g10⟩
  exact ⟨s2, o, s' _ q, rest⟩
end Copy
theorem shl0 (x : Int32) : x <<< ((0 : Int32) &&& 31) = x := by
  apply Int32.toBitVec_inj.mp; simp [Int32.toBitVec_shiftLeft]
theorem sub32n {i j : Nat} (h : j ≤ i) : i.toInt32 - j.toInt32 = (i - j).toInt32 := by
  have e : (i - j).toInt32 + j.toInt32 = i.toInt32 := by rw [add32n, Nat.sub_add_cancel h]
  rw [← e, Int32.add_sub_cancel]
theorem gsub {m N : Nat} (hm : m < 2147483648) (hN : N < 2147483648) : (0 : Int32) < m.toInt32 - N.toInt32 ↔ N < m := by
  by_cases h : N ≤ m
  · rw [sub32n h, show (0 : Int32) = (0 : Nat).toInt32 from rfl, lt32 (by omega) (by omega)]; omega
  · have e : m.toInt32 - N.toInt32 = -((N - m).toInt32) := by rw [← sub32n (show m ≤ N by omega), Int32.neg_sub]
    rw [e, Int32.lt_iff_toInt_lt]
    have : (-((N - m).toInt32)).toInt = -((N - m : Nat) : Int) := by
      rw [Int32.toInt_neg, n32 (by omega)]
      rw [Int.bmod_eq_of_le] <;> omega
    rw [this]
    have : (0 : Int32).toInt = 0 := rfl
    omega
abbrev SB : String := "java/lang/StringBuilder"
abbrev AB : String := "java/lang/AbstractStringBuilder"
/-- the StringBuilder at a holds these chars; its bytes at b, of which there are N -/
def Sb (Z : State) (h : Heap) (a b : Addr) (cs : List Int32) (N : Nat) : Prop := Exa Z h a SB ∧ Fld Z h a AB "coder" "B" (.int 0) ∧ Fld Z h a AB "value" "[B" (.ref b) ∧ Fld Z h a AB "count" "I" (.int (Nat.toInt32 cs.length)) ∧ (∃ r : List Value, Ary Z h b .byte (cs.map byt ++ r) ∧ cs.length + r.length = N) ∧ (∀ c ∈ cs, 0 ≤ c.toInt ∧ c.toInt < 256)
section Builder
variable {Z : State} {h h' : Heap} {a b : Addr} {cs : List Int32} {N : Nat} {ws : List Addr}
theorem Sb.keep (F : Sb Z h a b cs N) (K : Keep h h' ws) (q : a ∉ ws) (q' : b ∉ ws) : Sb Z h' a b cs N := by
  obtain ⟨f1, f2, f3, f4, ⟨r, f5, f6⟩, f7⟩ := F
  exact ⟨f1.keep K, f2.keep K q, f3.keep K q, f4.keep K q, ⟨r, f5.keep K q', f6⟩, f7⟩
theorem Sb.lt (F : Sb Z h a b cs N) : a < h.size := F.1.lt
theorem Sb.ltb (F : Sb Z h a b cs N) : b < h.size := by obtain ⟨_, _, _, _, ⟨r, f5, -⟩, _⟩ := F; exact f5.lt
theorem Sb.le (F : Sb Z h a b cs N) : cs.length ≤ N := by obtain ⟨_, _, _, _, ⟨r, -, f6⟩, _⟩ := F; omega
theorem Sb.small (F : Sb Z h a b cs N) : N < 2147483648 := by obtain ⟨_, _, _, _, ⟨r, f5, f6⟩, _⟩ := F; have := f5.small; simp only [List.length_append, List.length_map] at this; omega
theorem put_str (cs ds : List Int32) (r : List Value) (hl : ds.length ≤ r.length) : (cs.map byt ++ r).take cs.length ++ ((ds.map byt).drop 0).take ds.length ++ (cs.map byt ++ r).drop (cs.length + ds.length) = (cs ++ ds).map byt ++ r.drop ds.length := by
  have e1 : (cs.map byt).length = cs.length := List.length_map _
  have e2 : (ds.map byt).length = ds.length := List.length_map _
  rw [List.take_append_of_le_length (by omega), List.take_of_length_le (by omega), List.drop_zero, List.take_of_length_le (by omega), List.map_append, ← e1, ← List.drop_drop, List.drop_left]
theorem put_chr (cs : List Int32) (x : Int32) (r : List Value) (hl : 1 ≤ r.length) : (cs.map byt ++ r).set cs.length (byt x) = (cs ++ [x]).map byt ++ r.drop 1 := by
  have e1 : (cs.map byt).length = cs.length := List.length_map _
  cases r with
  | nil => simp at hl
  | cons v r => rw [List.set_append_right _ _ (by omega), e1, Nat.sub_self]; simp
theorem keep1 (K : Keep h h' [a]) : Keep h h' [a, b] := ⟨K.1, fun x c q r => K.2.1 x c q (fun z => r (by cases List.mem_singleton.mp z; simp)), K.2.2⟩
theorem keep2 {h2 : Heap} (K : Keep h h' [b]) (K' : Keep h' h2 [a]) : Keep h h2 [a, b] :=
  Keep.trans (ws := [a, b]) ⟨K.1, fun x c q r => K.2.1 x c q (fun z => r (by cases List.mem_singleton.mp z; simp)), K.2.2⟩ K' (by simp)
theorem keep2' {h2 : Heap} (K : Keep h h' [a]) (K' : Keep h' h2 [b]) : Keep h h2 [a, b] :=
  Keep.trans (ws := [a, b]) ⟨K.1, fun x c q r => K.2.1 x c q (fun z => r (by cases List.mem_singleton.mp z; simp)), K.2.2⟩ K' (by simp)
end Builder
end Jvm.Road

namespace Jvm.Road
open Jvm Jvm.ClassFile Sem Op Lib Jvm.Free Jvm.Stand Jvm.LawKit Jvm.RoadKit Bundle
theorem keep_sub {h h' : Heap} {ws ws' : List Addr} (K : Keep h h' ws) (q : ∀ x ∈ ws, x ∈ ws') : Keep h h' ws' := ⟨K.1, fun x c e n => K.2.1 x c e (fun z => n (q x z)), K.2.2⟩
end Jvm.Road
namespace Jvm.Road
open Jvm Jvm.ClassFile Sem Op Lib Jvm.Free Jvm.Stand Jvm.LawKit Jvm.RoadKit Bundle
/-- a method's class is no interface, by another method of the same class -/
theorem notFace_sib {args : Array Value} {s : State} {C : String} {x y z : MethodName} (hsel : (Jvm.Cond.selects C x y).before args s = true) (e : z.cls = y.cls) : NotFace s z := fun r0 h0 => by
  obtain ⟨c2, r2, m2, q1, q2, q3, q4, kP, hkP, hkPi⟩ := Cond.selects_spec hsel
  have e1 := findClass_of_methodNamed h0
  have e2 := findClass_of_methodNamed q3
  rw [e] at e1
  have e3 := Option.some.inj (e1.symm.trans e2)
  exact ⟨kP, by rw [e3]; exact hkP, hkPi⟩
theorem same_of {args : Array Value} {s : State} {y : MethodName} (hi : (Jvm.Cond.instanceMethod y).before args s = true) (nf : NotFace s y) (hy : y.cls ≠ "java/lang/invoke/MethodHandle" ∧ y.cls ≠ "java/lang/invoke/VarHandle") : (Jvm.Cond.sameMethod y.cls y.cls y.name y.desc).before args s = true := by
  obtain ⟨mk, meth, hnamed, -⟩ := Cond.instanceMethod_spec hi
  have h1 := findClass_of_methodNamed hnamed
  have h2 := State.methodFound?_of_named hnamed hy
  obtain ⟨kr, hk, hni⟩ := nf _ hnamed
  simp [Cond.before, Cond.holds, Cond.value, h1, h2, hnamed, hk, hni]
section Calls2
variable {l : Launch} {Z : State} {a0 : Array Value} {EL : List (String × Nat)} {n0 : Nat} {kn : Bool} {B B' : Bdy} {D : Dyn} {Q Q' : Post} {h : Heap} {σ : Addr → Prop} {ce sl : Nat} {Ls : Array Slot} {st : List Value} {a : Addr}
/-- a private method by invokevirtual -/
theorem callP (pc : Nat) {ix : Nat} {argsL rest : List Value} (C : String) (W : Nat) (hd : decode B.bs pc = .ok (.invokevirtual ix, 3)) (w1 : (Jvm.Cond.methodLink B.y.cls ix B'.y).before a0 Z = true) (w2 : (Jvm.Cond.privateMethod B'.y).before a0 Z = true) (w5 : (Jvm.Cond.selects C B'.y B'.y).before a0 Z = true) (w6 : (Jvm.Cond.instanceMethod B'.y).before a0 Z = true) (w3 : (Jvm.Cond.initialized B'.y.cls).before a0 Z = true) (w4 : (Jvm.Cond.code B'.y B'.bs B'.ml B'.rt).before a0 Z = true) (hy : notMH B'.y)
    (E : Exa Z h a C) (hM : Con l Z EL n0 kn B' [] σ (.ref a :: argsL).toArray h Q') (hlen : ∀ sig, parseMethodDescriptor B'.y.desc = some sig → argsL.length = sig.parameters.length) (hst : st = argsL.reverse ++ .ref a :: rest) (hW : (rest.map fun v => v.category).sum = W) (hsz : Ls.size = B.ml)
    (hf : B'.rm.frames + 1 ≤ B.rm.frames) (hl : W + (B'.ml + 11) + B'.rm.locals ≤ B.rm.locals) {ce' sl' : Nat} (hce : ce + B'.rm.cells = ce') (hsl : sl + B'.rm.slots = sl') (hc : ce' ≤ B.rm.cells) (hs : sl' ≤ B.rm.slots)
    (r : ∀ v h' σ', (∀ x, σ x → σ' x) → Q' v h' σ' → Go l Z a0 EL n0 kn B D Q h' σ' ce' sl' (pc + 3) Ls (push v rest)) : Go l Z a0 EL n0 kn B D Q h σ ce sl pc Ls st := by
  subst hce hsl
  refine called W hM w4 w3 hf hl hc hs (fun T vm0 locs X h1 h4 h5 ok {Pre Pst} hB hpre => ?_) r
  obtain ⟨mk, methM, hnamed, hmethM, hstM, habM⟩ := Cond.instanceMethod_spec (mv (s := D.s.setVm vm0) (args := D.args) h4 w6)
  obtain ⟨methM', cM, hmethM', -, -, -, -, -, -, hsigM⟩ := Cond.code_spec hnamed (mv (s := D.s.setVm vm0) (args := D.args) h4 w4)
  cases hmethM.symm.trans hmethM'
  obtain ⟨c2, r2, m2, -, -, q3, -, kP, hkP, hkPi⟩ := Cond.selects_spec (mv (s := D.s.setVm vm0) (args := D.args) h4 w5)
  cases hnamed.symm.trans q3
  have hpriv := Cond.privateMethod_at (mvP (s := D.s.setVm vm0) (args := D.args) h4 w2)
  obtain ⟨cell, k, hcell, -, -, hns, -⟩ := E
  have hselP : selectMethod D.e.platform (D.s.setVm vm0).vm cell.cls mk = .method mk := selectMethod_private hmethM (hpriv mk methM hnamed hmethM)
  obtain ⟨vm₁, X₁, hstep₁⟩ := X.invokevirtual ok.1 (s := D.s.setVm vm0) h5 (mv (s := D.s.setVm vm0) h4 w1) hnamed hmethM hstM hkP hkPi hy (a := a) (cell := cell) (by rw [h1]; exact hcell) (fun q e => by rw [e] at hns; cases hns) hselP hmethM habM hkP hkPi (g := mkF D.m pc Ls st) rfl (argsL := argsL) (rest := rest) (hlen _ hsigM) hst (Jvm.hb ok.2.1 hd)
  obtain ⟨v, Bp, X', hS, hgr, hpost, hsteps⟩ := hB D.m D.meth D.c ⟨T.setVm vm₁, locs, ce, sl⟩ { mkF D.m pc Ls st with stack := rest } (.invokevirtual ix) mk (.ref a :: argsL).toArray X₁ rfl (hsz.trans ok.2.2.1.symm) (Jvm.hb ok.2.1 hd) (by show 2 * 0 + _ ≤ _; rw [hW]; omega) (X₁.named hnamed) (hpre vm₁ X₁.warmed)
  exact ⟨v, vm₁, Bp, X₁.warmed, X', hS, hgr, hpost, (hstep₁ _ fun acts => by rw [doInvoke_state]; exact Steps.refl _).trans hsteps⟩
/-- super.m(..) -/
theorem callUp (pc : Nat) {ix : Nat} {argsL rest : List Value} (C : String) (W : Nat) (hd : decode B.bs pc = .ok (.invokespecial ix, 3)) (w1 : (Jvm.Cond.methodLink B.y.cls ix B'.y).before a0 Z = true) (nf : NotFace Z B'.y) (w6 : (Jvm.Cond.instanceMethod B'.y).before a0 Z = true) (w7 : (Jvm.Cond.superclass B.y.cls B'.y.cls).before a0 Z = true) (w3 : (Jvm.Cond.initialized B'.y.cls).before a0 Z = true) (w4 : (Jvm.Cond.code B'.y B'.bs B'.ml B'.rt).before a0 Z = true) (hn : B'.y.name ≠ "<init>") (hy : notMH B'.y)
    (E : Exa Z h a C) (hM : Con l Z EL n0 kn B' [] σ (.ref a :: argsL).toArray h Q') (hlen : ∀ sig, parseMethodDescriptor B'.y.desc = some sig → argsL.length = sig.parameters.length) (hst : st = argsL.reverse ++ .ref a :: rest) (hW : (rest.map fun v => v.category).sum = W) (hsz : Ls.size = B.ml)
    (hf : B'.rm.frames + 1 ≤ B.rm.frames) (hl : W + (B'.ml + 11) + B'.rm.locals ≤ B.rm.locals) {ce' sl' : Nat} (hce : ce + B'.rm.cells = ce') (hsl : sl + B'.rm.slots = sl') (hc : ce' ≤ B.rm.cells) (hs : sl' ≤ B.rm.slots)
    (r : ∀ v h' σ', (∀ x, σ x → σ' x) → Q' v h' σ' → Go l Z a0 EL n0 kn B D Q h' σ' ce' sl' (pc + 3) Ls (push v rest)) : Go l Z a0 EL n0 kn B D Q h σ ce sl pc Ls st := by
  subst hce hsl
  exact called W hM w4 w3 hf hl hc hs (fun T vm0 locs X h1 h4 h5 ok {Pre Pst} hB hpre =>
    superBackS X ok.1 (s := D.s.setVm vm0) h4 h5 w1 (same_of w6 nf hy) w6 w7 hn hB h1 (Ins.self E) (g := mkF D.m pc Ls st) rfl (hsz.trans ok.2.2.1.symm) w4 (argsL := argsL) (rest := rest) hlen hst (by show 2 * 0 + _ ≤ _; rw [hW]; omega) (Jvm.hb ok.2.1 hd) hpre) r
end Calls2
end Jvm.Road
namespace Jvm.Road
open Jvm Jvm.ClassFile Sem Op Lib Jvm.Free Jvm.Stand Jvm.LawKit Jvm.RoadKit Bundle
/-- a digit's char -/
def dc (k : Nat) : Int32 := Nat.toInt32 (48 + k)
def decN (n : Nat) : List Int32 := if n < 10 then [dc n] else decN (n / 10) ++ [dc (n % 10)]
termination_by n
theorem decN_lt {n : Nat} (h : n < 10) : decN n = [dc n] := by rw [decN, if_pos h]
theorem decN_ge {n : Nat} (h : 10 ≤ n) : decN n = decN (n / 10) ++ [dc (n % 10)] := by rw [decN, if_neg (by omega)]
theorem decN_100 {n : Nat} (h : 100 ≤ n) : decN n = decN (n / 100) ++ [dc (n % 100 / 10), dc (n % 100 % 10)] := by
  rw [decN_ge (by omega), decN_ge (show 10 ≤ n / 10 by omega), List.append_assoc, Nat.div_div_eq_div_mul, show n / 10 % 10 = n % 100 / 10 by omega, show n % 10 = n % 100 % 10 by omega]; rfl
theorem decN_len : ∀ (k n : Nat), n < 10 ^ (k + 1) → (k = 0 ∨ 10 ^ k ≤ n) → (decN n).length = k + 1
  | 0, n, h, _ => by rw [decN_lt (by simpa using h)]; rfl
  | k + 1, n, h, q => by
    have q : 10 ^ (k + 1) ≤ n := q.resolve_left (by omega)
    have e : 10 ^ (k + 1 + 1) = 10 ^ (k + 1) * 10 := Nat.pow_succ ..
    have e2 : 10 ^ (k + 1) = 10 ^ k * 10 := Nat.pow_succ ..
    have e3 : 0 < 10 ^ k := Nat.pow_pos (by omega)
    rw [decN_ge (by omega), List.length_append, decN_len k (n / 10) (by omega) (by by_cases hk : k = 0; exact Or.inl hk; exact Or.inr (by omega))]; rfl
theorem decN_pos (n : Nat) : 1 ≤ (decN n).length := by
  rw [decN]; split
  · simp
  · simp
theorem dc_int {k : Nat} (h : k < 10) : (dc k).toInt = 48 + k := by unfold dc; rw [n32 (by omega)]; omega
theorem decN_lat (n : Nat) : ∀ c ∈ decN n, 0 ≤ c.toInt ∧ c.toInt < 256 := by
  induction n using Nat.strongRecOn with
  | _ n ih =>
    intro c hc
    by_cases h : n < 10
    · rw [decN_lt h] at hc; cases List.mem_singleton.mp hc; rw [dc_int h]; omega
    · rw [decN_ge (by omega)] at hc
      rcases List.mem_append.mp hc with q | q
      · exact ih _ (by omega) c q
      · cases List.mem_singleton.mp q; rw [dc_int (by omega)]; omega
theorem decN_get : ∀ (n i : Nat) (hi : i < (decN n).length), (decN n)[i] = dc (n / 10 ^ ((decN n).length - 1 - i) % 10) := by
  intro n
  induction n using Nat.strongRecOn with
  | _ n ih =>
    intro i hi
    by_cases h : n < 10
    · simp only [decN_lt h, List.length_singleton] at hi ⊢
      have : i = 0 := by omega
      subst this
      simp [Nat.mod_eq_of_lt h]
    · have e := decN_ge (show 10 ≤ n by omega)
      have hl : (decN n).length = (decN (n / 10)).length + 1 := by rw [e, List.length_append]; rfl
      by_cases hk : i < (decN (n / 10)).length
      · have h1 : (decN n)[i] = (decN (n / 10))[i] := by simp only [e]; rw [List.getElem_append_left hk]
        rw [h1, ih _ (by omega) i hk, hl]
        have e2 : (decN (n / 10)).length + 1 - 1 - i = ((decN (n / 10)).length - 1 - i) + 1 := by omega
        rw [e2, Nat.pow_succ, Nat.mul_comm, Nat.div_div_eq_div_mul]
      · have hi2 : i = (decN (n / 10)).length := by omega
        have h1 : (decN n)[i] = dc (n % 10) := by simp only [e]; rw [List.getElem_append_right (by omega)]; simp [hi2]
        rw [h1, hl, hi2]; simp
/-- an int in decimal -/
def dec (x : Int32) : List Int32 := if x.toInt < 0 then 45 :: decN x.toInt.natAbs else decN x.toInt.natAbs
theorem dec_lat (x : Int32) : ∀ c ∈ dec x, 0 ≤ c.toInt ∧ c.toInt < 256 := by
  intro c hc; unfold dec at hc; split at hc
  · rcases List.mem_cons.mp hc with q | q
    · rw [q]; decide
    · exact decN_lat _ c q
  · exact decN_lat _ c hc
theorem set_last (U T : List Value) (v : Value) (P : Nat) (h : U.length = P + 1) : (U ++ T).set P v = U.take P ++ v :: T := by
  rw [List.set_append_left _ _ (by omega), List.set_eq_take_append_cons_drop, if_pos (by omega), List.drop_of_length_le (by omega), List.append_assoc]; rfl
theorem put_wr (cs ds : List Int32) (r : List Value) (hl : ds.length ≤ r.length) : (cs.map byt ++ r).take cs.length ++ (ds.map byt ++ (cs.map byt ++ r).drop (cs.length + ds.length)) = (cs ++ ds).map byt ++ r.drop ds.length := by
  have e1 : (cs.map byt).length = cs.length := List.length_map _
  rw [List.take_append_of_le_length (by omega), List.take_of_length_le (by omega), List.map_append, ← e1, ← List.drop_drop, List.drop_left, List.append_assoc]
def OnesL : List Value := (List.range 100).map fun i => byt (dc (i % 10))
def TensL : List Value := (List.range 100).map fun i => byt (dc (i / 10))
theorem ones_at {k : Nat} (h : k < 100) : OnesL[k]? = some (byt (dc (k % 10))) := by unfold OnesL; rw [List.getElem?_map, List.getElem?_range h]; rfl
theorem tens_at {k : Nat} (h : k < 100) : TensL[k]? = some (byt (dc (k / 10))) := by unfold TensL; rw [List.getElem?_map, List.getElem?_range h]; rfl
theorem byt_dc {k : Nat} (h : k < 10) : byt (dc k) = .int (dc k) := (by decide +kernel : ∀ i : Fin 10, byt (dc i.1) = .int (dc i.1)) ⟨k, h⟩
theorem nar_dc {k : Nat} (h : k < 10) : nar .byte (dc k) = dc k := (by decide +kernel : ∀ i : Fin 10, nar .byte (dc i.1) = dc i.1) ⟨k, h⟩
theorem div100 {x : Int32} {m : Nat} (hm : m ≤ 2147483648) (hx : x.toInt = -(m : Int)) : (x / 100).toInt = -((m / 100 : Nat) : Int) := by
  rw [Int32.toInt_div, hx, show (100 : Int32).toInt = 100 from rfl, Int.neg_tdiv]
  rw [show (m : Int).tdiv 100 = ((m / 100 : Nat) : Int) by rw [Int.tdiv_eq_ediv_of_nonneg (by omega)]; omega]
  rw [Int.bmod_eq_of_le] <;> omega
theorem rem100 {x : Int32} {m : Nat} (hm : m ≤ 2147483648) (hx : x.toInt = -(m : Int)) : (x / 100 * 100 - x).toInt = ((m % 100 : Nat) : Int) := by
  have h1 := div100 hm hx
  rw [Int32.toInt_sub, Int32.toInt_mul, h1, hx, show (100 : Int32).toInt = 100 from rfl]
  rw [Int.bmod_eq_of_le (n := -((m / 100 : Nat) : Int) * 100) (by omega) (by omega)]
  rw [Int.bmod_eq_of_le] <;> omega
theorem neg_int {x : Int32} {m : Nat} (hm : m < 2147483648) (hx : x.toInt = -(m : Int)) : (-x).toInt = (m : Int) := by
  rw [Int32.toInt_neg, hx, Int.bmod_eq_of_le] <;> omega
theorem neg_nat {x : Int32} (hx : 0 ≤ x.toInt) : (-x).toInt = -((x.toInt.natAbs : Nat) : Int) := by
  have := Int32.toInt_lt x
  rw [Int32.toInt_neg, Int.bmod_eq_of_le] <;> omega
theorem nat_le (x : Int32) : x.toInt.natAbs ≤ 2147483648 := by
  have := Int32.toInt_lt x; have := Int32.le_toInt x; omega
theorem lt0 (x : Int32) : x < 0 ↔ x.toInt < 0 := by rw [Int32.lt_iff_toInt_lt]; rfl
theorem pred32 (i : Nat) : (i + 1).toInt32 + (-1) = i.toInt32 := by rw [← succ32, Int32.add_assoc]; exact Int32.add_zero _
theorem decN_le : ∀ (k n : Nat), n < 10 ^ (k + 1) → (decN n).length ≤ k + 1
  | 0, n, h => by rw [decN_lt (by simpa using h)]; exact Nat.le_refl _
  | k + 1, n, h => by
    by_cases q : n < 10
    · rw [decN_lt q]; simp
    · have e : 10 ^ (k + 1 + 1) = 10 ^ (k + 1) * 10 := Nat.pow_succ ..
      rw [decN_ge (by omega), List.length_append]
      have := decN_le k (n / 10) (by omega)
      simp only [List.length_singleton]; omega
theorem dec_le (x : Int32) : (dec x).length ≤ 11 := by
  have h := decN_le 9 x.toInt.natAbs (by have := nat_le x; omega)
  unfold dec; split
  · rw [List.length_cons]; omega
  · omega
theorem dec_pos (x : Int32) : 1 ≤ (dec x).length := by
  unfold dec; split
  · simp
  · exact decN_pos _
def PWL : List Value := [.long 1, .long 10, .long 100, .long 1000, .long 10000, .long 100000, .long 1000000, .long 10000000, .long 100000000, .long 1000000000]
def pw (e : Nat) : Int64 := Int64.ofNat (10 ^ e)
theorem pw_at {e : Nat} (h : e < 10) : PWL[e]? = some (.long (pw e)) := (fun | 0 => rfl | 1 => rfl | 2 => rfl | 3 => rfl | 4 => rfl | 5 => rfl | 6 => rfl | 7 => rfl | 8 => rfl | 9 => rfl : ∀ i : Fin 10, PWL[i.1]? = some (.long (pw i.1))) ⟨e, h⟩
theorem pw_int {e : Nat} (h : e < 10) : (pw e).toInt = ((10 ^ e : Nat) : Int) := (by decide +kernel : ∀ i : Fin 10, (pw i.1).toInt = ((10 ^ i.1 : Nat) : Int)) ⟨e, h⟩
theorem pw_ne {e : Nat} (h : e < 10) : pw e ≠ 0 := (by decide +kernel : ∀ i : Fin 10, pw i.1 ≠ 0) ⟨e, h⟩
theorem ldiv_nat {v w : Int64} {m k : Nat} (hm : m ≤ 2147483648) (hk : 0 < k) (hv : v.toInt = (m : Int)) (hw : w.toInt = (k : Int)) : (v / w).toInt = ((m / k : Nat) : Int) := by
  have hle : m / k ≤ m := Nat.div_le_self m k
  rw [Int64.toInt_div, hv, hw, Int.tdiv_eq_ediv_of_nonneg (by omega), ← Int.natCast_ediv]
  generalize m / k = c at *
  rw [Int.bmod_eq_of_le] <;> omega
theorem lrem_nat {v : Int64} {m : Nat} (hm : m ≤ 2147483648) (hv : v.toInt = (m : Int)) : (v - v / 10 * 10).toInt = ((m % 10 : Nat) : Int) := by
  have h1 := ldiv_nat (w := 10) (k := 10) hm (by omega) hv rfl
  rw [Int64.toInt_sub, Int64.toInt_mul, h1, hv, show (10 : Int64).toInt = 10 from rfl]
  rw [Int.bmod_eq_of_le (n := ((m / 10 : Nat) : Int) * 10) (by omega) (by omega)]
  rw [Int.bmod_eq_of_le] <;> omega
theorem l2i_nat {v : Int64} {m : Nat} (hm : m < 2147483648) (hv : v.toInt = (m : Int)) : v.toInt32 = Nat.toInt32 m := by
  apply Int32.toInt_inj.mp
  rw [n32 hm, Int64.toInt_toInt32, hv, Int.bmod_eq_of_le] <;> omega
theorem digit_chr {k : Nat} (h : k < 10) : chr ((48 : Int32) + Nat.toInt32 k) = dc k := (by decide +kernel : ∀ i : Fin 10, chr ((48 : Int32) + Nat.toInt32 i.1) = dc i.1) ⟨k, h⟩
theorem digit_char {k : Nat} (h : k < 10) : nar .char (chr ((48 : Int32) + Nat.toInt32 k)) = dc k := (by decide +kernel : ∀ i : Fin 10, nar .char (chr ((48 : Int32) + Nat.toInt32 i.1)) = dc i.1) ⟨k, h⟩
theorem i2l_int (x : Int32) : (Int32.toInt64 x).toInt = x.toInt := Int32.toInt_toInt64 x
theorem lneg_nat {v : Int64} {m : Nat} (hm : m ≤ 2147483648) (hv : v.toInt = -(m : Int)) : (-v).toInt = (m : Int) := by
  rw [Int64.toInt_neg, hv, Int.bmod_eq_of_le] <;> omega
theorem decN_list (m : Nat) : decN m = (List.range (decN m).length).map (fun j => dc (m / 10 ^ ((decN m).length - 1 - j) % 10)) := by
  apply List.ext_getElem (by simp)
  intro i h1 h2
  rw [decN_get m i h1, List.getElem_map, List.getElem_range]
theorem nar_dcc {k : Nat} (h : k < 10) : nar .char (dc k) = dc k := (by decide +kernel : ∀ i : Fin 10, nar .char (dc i.1) = dc i.1) ⟨k, h⟩
theorem buf_set {pre : List Int32} {c : Int32} {r k : Nat} (h : k < r) : (pre.map Value.int ++ List.replicate (r - k) (Value.int 0)).set pre.length (Value.int c) = (pre ++ [c]).map Value.int ++ List.replicate (r - (k + 1)) (Value.int 0) := by
  have e1 : (pre.map Value.int).length = pre.length := List.length_map _
  rw [show r - k = (r - (k + 1)) + 1 from by omega, List.set_append_right _ _ (by omega), e1, Nat.sub_self, List.replicate_succ]; simp
theorem rem3 (x : Int32) : (x &&& 1073741823) % 3 = 0 ∨ (x &&& 1073741823) % 3 = 1 ∨ (x &&& 1073741823) % 3 = 2 := by
  have h1 : (x &&& 1073741823).toInt = ((x.toBitVec &&& 1073741823#32).toInt) := rfl
  have h2 : (x.toBitVec &&& 1073741823#32).toNat ≤ 1073741823 := by rw [BitVec.toNat_and]; exact Nat.and_le_right
  have h3 : (x &&& 1073741823).toInt = ((x.toBitVec &&& 1073741823#32).toNat : Int) := by rw [h1, BitVec.toInt_eq_toNat_of_lt (by omega)]
  have h4 : ((x &&& 1073741823) % 3).toInt = (x &&& 1073741823).toInt % 3 := by
    rw [Int32.toInt_mod, show (3 : Int32).toInt = 3 from rfl, Int.tmod_eq_emod_of_nonneg (by omega)]
  have h5 : ∀ k : Int32, ((x &&& 1073741823) % 3).toInt = k.toInt → (x &&& 1073741823) % 3 = k := fun k q => Int32.toInt_inj.mp q
  have e : (x &&& 1073741823).toInt % 3 = 0 ∨ (x &&& 1073741823).toInt % 3 = 1 ∨ (x &&& 1073741823).toInt % 3 = 2 := by omega
  rcases e with e | e | e
  · exact Or.inl (h5 0 (by rw [h4, e]; rfl))
  · exact Or.inr (Or.inl (h5 1 (by rw [h4, e]; rfl)))
  · exact Or.inr (Or.inr (h5 2 (by rw [h4, e]; rfl)))
end Jvm.Road
namespace Jvm.Road
open Jvm Jvm.ClassFile Sem Op Lib Jvm.Free Jvm.Stand Jvm.LawKit Jvm.RoadKit Bundle
section Boot
variable {Z : State} {a : Addr} {args a0 : Array Value}
theorem Ary.boot {C n d : String} {k : Int32} {vs : List Value} {body : Term} (ev : (Term.static C n d).eval args Z none [] Z = some (.ref a)) (hx : (Cond.exactly (Term.static C n d) "[B").value args Z none Z [] = some true)
    (wa : (Jvm.Cond.arrayClass .byte).before a0 Z = true) (hl : (Cond.eq (Term.length (Term.static C n d)) (Term.int k)).value args Z none Z [] = some true) (hn : k.toInt = vs.length)
    (hall : (Cond.all (Term.static C n d) (Cond.eq (Term.elem (Term.static C n d) (Term.index 0)) body)).value args Z none Z [] = some true)
    (hb : ∀ i, i < vs.length → ∃ w, vs[i]? = some (.int w) ∧ fits .byte (.int w) = true ∧ body.eval args Z none [i] Z = some (.int w)) : Ary Z Z.heap a .byte vs := by
  obtain ⟨c, e1, e2, e3⟩ := len_lt (eq_int_of hl) ev
  have e4 := (arrayAt_spec e1).1
  have e5 : c.slots.size = vs.length := by
    have : k.toInt = (c.slots.size : Int) := by
      injection e3 with q; rw [q]; exact len_toInt e2
    omega
  obtain ⟨cell, kk, g1, g2, g3, g4, -⟩ := Exa.start ev hx
  cases e4.symm.trans g1
  obtain ⟨cA, kA, comp, hfind, hk, hkind⟩ := Cond.arrayClass_spec wa
  have hfind : Z.vm.findClass "[B" = some cA := hfind
  cases g2.symm.trans hfind
  have A : Arr Z Z.heap a c .byte := ⟨e4, ⟨(fun q e => by rw [e] at g4; cases g4), kA, hk, comp, hkind⟩, arrayAt_known e1⟩
  have hat : ∀ i, i < vs.length → c.slots[i]? = vs[i]? ∧ ∃ w, vs[i]? = some (.int w) ∧ fits .byte (.int w) = true := fun i hi => by
    obtain ⟨w, w1, w2, w3⟩ := hb i hi
    have q := Cond.all_elim ev e1 hall i (by omega)
    obtain ⟨x, y, q1, q2, -, k2⟩ := cmp_v (Or.inl q)
    cases w3.symm.trans q2
    obtain ⟨z, rfl⟩ := k2
    have r := gotT (Cond.eq_ints q1 w3) q
    subst r
    have hj : (Term.index 0).eval args Z none [i] Z = some (.int (Nat.toInt32 i)) := rfl
    have ev' : (Term.static C n d).eval args Z none [i] Z = some (.ref a) := ev
    have := (elem_in q1 ev' hj e4).2
    rw [(ix_of (n32 (i := i) (by omega))).2] at this
    exact ⟨this.trans w1.symm, _, w1, w2⟩
  refine ⟨c, A, ?_, by omega, fun v hv => ?_⟩
  · apply List.ext_getElem?
    intro i
    by_cases hi : i < vs.length
    · rw [Array.getElem?_toList]; exact (hat i hi).1
    · rw [List.getElem?_eq_none (Nat.le_of_not_lt hi), List.getElem?_eq_none (by rw [Array.length_toList, e5]; exact Nat.le_of_not_lt hi)]
  · obtain ⟨i, hi, rfl⟩ := List.getElem_of_mem hv
    obtain ⟨-, w, w1, w2⟩ := hat i hi
    rw [List.getElem?_eq_getElem hi] at w1
    rw [Option.some.inj w1]; exact w2
theorem ones_boot : ∀ i, i < OnesL.length → ∃ w, OnesL[i]? = some (.int w) ∧ fits .byte (.int w) = true ∧ (Term.add (Term.int 48) (Term.rem (Term.index 0) (Term.int 10))).eval args Z none [i] Z = some (.int w) := fun i hi => by
  have hi : i < 100 := by simpa [OnesL] using hi
  refine ⟨dc (i % 10), by rw [ones_at hi, byt_dc (by omega)], (by decide +kernel : ∀ i : Fin 10, fits .byte (.int (dc i.1)) = true) ⟨i % 10, by omega⟩, ?_⟩
  simp only [Term.eval, List.getElem?_cons_zero, Option.map_some, Option.bind_eq_bind, Option.bind_some]
  have := (by decide +kernel : ∀ i : Fin 100, (48 : Int32) + (Nat.toInt32 i.1) % 10 = dc (i.1 % 10)) ⟨i, hi⟩
  simpa using this
theorem tens_boot : ∀ i, i < TensL.length → ∃ w, TensL[i]? = some (.int w) ∧ fits .byte (.int w) = true ∧ (Term.add (Term.int 48) (Term.div (Term.index 0) (Term.int 10))).eval args Z none [i] Z = some (.int w) := fun i hi => by
  have hi : i < 100 := by simpa [TensL] using hi
  refine ⟨dc (i / 10), by rw [tens_at hi, byt_dc (by omega)], (by decide +kernel : ∀ i : Fin 10, fits .byte (.int (dc i.1)) = true) ⟨i / 10, by omega⟩, ?_⟩
  simp only [Term.eval, List.getElem?_cons_zero, Option.map_some, Option.bind_eq_bind, Option.bind_some]
  have := (by decide +kernel : ∀ i : Fin 100, (48 : Int32) + (Nat.toInt32 i.1) / 10 = dc (i.1 / 10)) ⟨i, hi⟩
  simpa using this
end Boot
end Jvm.Road
namespace Jvm.Road
open Jvm Jvm.ClassFile Sem Op Lib Jvm.Free Jvm.Stand Jvm.LawKit Jvm.RoadKit Bundle
/-- the array at a is over the class C -/
def Ova (Z : State) (h : Heap) (a : Addr) (C : String) : Prop := ∃ cell : Cell, h[a]? = some cell ∧ Ovr Z cell.cls C
theorem Ova.keep {Z : State} {h h' : Heap} {a : Addr} {C : String} {ws : List Addr} (F : Ova Z h a C) (K : Keep h h' ws) : Ova Z h' a C := by
  obtain ⟨c, e, O⟩ := F
  obtain ⟨c', e', q, -⟩ := K.2.2 a c e
  exact ⟨c', e', by rw [q]; exact O⟩
section Refs
variable {l : Launch} {Z : State} {a0 : Array Value} {EL : List (String × Nat)} {n0 : Nat} {kn : Bool} {B B' : Bdy} {D : Dyn} {Q Q' : Post} {h : Heap} {σ : Addr → Prop} {ce sl : Nat} {Ls : Array Slot} {st : List Value} {a : Addr}
theorem anewarray (pc : Nat) {ix : Nat} (C : String) (n cap : Nat) {z : Int32} (hd : decode B.bs pc = .ok (.anewarray ix, 3)) (w1 : (Jvm.Cond.classLink B.y.cls ix C).before a0 Z = true) (w2 : (Jvm.Cond.arrayOver (.object C)).before a0 Z = true) (hz : z.toInt = (n : Int)) (hcap : n ≤ cap) (hb : cap * 8 ≤ 536870912) {ce' sl' : Nat} (hce : ce + 1 = ce') (hsl : sl + cap = sl') (hc : ce' ≤ B.rm.cells) (hs : sl' ≤ B.rm.slots)
    (r : ∀ a h' σ', a = h.size → Keep h h' [] → a < h'.size → (∀ x, σ x → σ' x) → σ' a → Ary Z h' a (.object C) (List.replicate n .null) → Ova Z h' a C → Go l Z a0 EL n0 kn B D Q h' σ' ce' sl' (pc + 3) Ls (.ref a :: st)) : Go l Z a0 EL n0 kn B D Q h σ ce sl pc Ls (.int z :: st) := by
  subst hce hsl
  exact made (P := fun h' => Ary Z h' h.size (.object C) (List.replicate n .null) ∧ Ova Z h' h.size C)
    (fun T vm0 locs X h1 h4 h5 ok => by
      obtain ⟨q1, q2⟩ := ix_of hz
      obtain ⟨T', h', cA, X', e', E, A, O, s'⟩ := newR X ok.1 (s := D.s.setVm vm0) h4 h5 w1 w2 h1 (g := mkF D.m pc Ls (.int z :: st)) rfl (Jvm.hb ok.2.1 hd) rfl q1 (cap := cap) (by rw [q2]; exact hcap) hb hc hs
      refine ⟨T', h', X', e', E, A.lt, ⟨⟨_, A, ?_, ?_, ?_⟩, ⟨_, A.1, O⟩⟩, s'⟩
      · show (Array.replicate z.toNatClampNeg (defaultValue (.object C))).toList = _
        rw [q2, Array.toList_replicate]; rfl
      · rw [List.length_replicate]; omega
      · intro v hv
        rw [(List.mem_replicate.mp hv).2]; rfl)
    (fun h' σ' K hlt m1 m2 P => r h.size h' σ' rfl K hlt m1 m2 P.1 P.2)
theorem newarrayE (pc : Nat) {aty : ArrayType} (ty : FieldType) (n cap : Nat) {z : Int32} (ad : String) (had : "[" ++ (newarray.typeOf aty).toString = ad) (hd : decode B.bs pc = .ok (.newarray aty, 2)) (hty : newarray.typeOf aty = ty) (w : (Jvm.Cond.arrayClass ty).before a0 Z = true) (hz : z.toInt = (n : Int)) (hcap : n ≤ cap) (hb : cap * 8 ≤ 536870912) {ce' sl' : Nat} (hce : ce + 1 = ce') (hsl : sl + cap = sl') (hc : ce' ≤ B.rm.cells) (hs : sl' ≤ B.rm.slots)
    (r : ∀ a h' σ', a = h.size → Keep h h' [] → a < h'.size → (∀ x, σ x → σ' x) → σ' a → Ary Z h' a ty (List.replicate n (defaultValue ty)) → Exa Z h' a ad → Go l Z a0 EL n0 kn B D Q h' σ' ce' sl' (pc + 2) Ls (.ref a :: st)) : Go l Z a0 EL n0 kn B D Q h σ ce sl pc Ls (.int z :: st) := by
  subst hce hsl
  exact made (P := fun h' => Ary Z h' h.size ty (List.replicate n (defaultValue ty)) ∧ Exa Z h' h.size ad)
    (fun T vm0 locs X h1 h4 h5 ok => by
      subst hty
      obtain ⟨q1, q2⟩ := ix_of hz
      obtain ⟨T', h', cA, X', e', E, A, EE, s'⟩ := newPE X ok.1 (s := D.s.setVm vm0) h4 w h1 (g := mkF D.m pc Ls (.int z :: st)) rfl (Jvm.hb ok.2.1 hd) rfl q1 (cap := cap) (by rw [q2]; exact hcap) hb hc hs had
      refine ⟨T', h', X', e', E, A.lt, ⟨⟨_, A, ?_, ?_, ?_⟩, EE⟩, s'⟩
      · show (Array.replicate z.toNatClampNeg (defaultValue (newarray.typeOf aty))).toList = _
        rw [q2, Array.toList_replicate]
      · rw [List.length_replicate]; omega
      · intro v hv
        rw [(List.mem_replicate.mp hv).2]
        cases aty <;> rfl)
    (fun h' σ' K hlt m1 m2 P => r h.size h' σ' rfl K hlt m1 m2 P.1 P.2)
theorem aastore (pc : Nat) {C : String} {vs : List Value} {j : Int32} {y : Addr} (i : Nat) (hd : decode B.bs pc = .ok (.aastore, 1)) (A : Ary Z h a (.object C) vs) (O : Ova Z h a C) (I : Ins Z h y C true) (hj : j.toInt = (i : Int)) (hi : i < vs.length) (hσ : σ a)
    (r : ∀ h', Keep h h' [a] → Ary Z h' a (.object C) (vs.set i (.ref y)) → Go l Z a0 EL n0 kn B D Q h' σ ce sl (pc + 1) Ls st) : Go l Z a0 EL n0 kn B D Q h σ ce sl pc Ls (.ref y :: .int j :: .ref a :: st) :=
  wrote hσ (i := i) (v := .ref y) (fun T vm0 locs X h1 h4 h5 ok => by
    obtain ⟨c, Ar, e, -⟩ := A
    obtain ⟨c', e', Ov⟩ := O
    cases Ar.1.symm.trans e'
    have := stR X ok.1 (s := D.s.setVm vm0) h4 h1 Ar (Ary.inb e hj hi) rfl (Sto.of Ar Ov I) (g := mkF D.m pc Ls (.ref y :: .int j :: .ref a :: st)) rfl rfl (Jvm.hb ok.2.1 hd)
    rw [(ix_of hj).2] at this; exact this)
    (fun h' W K => r h' K (A.wr W rfl))
theorem callF (pc : Nat) {ix cnt : Nat} {xi : MethodName} {argsL rest : List Value} (C : String) (W : Nat) (hd : decode B.bs pc = .ok (.invokeinterface ix cnt, 5)) (w1 : (Jvm.Cond.methodLink B.y.cls ix xi).before a0 Z = true) (w2 : (Jvm.Cond.declares xi).before a0 Z = true) (w7 : (Jvm.Cond.interfaceMethod xi.cls xi.cls xi.name xi.desc).before a0 Z = true)
    (w5 : (Jvm.Cond.selects C xi B'.y).before a0 Z = true) (w6 : (Jvm.Cond.instanceMethod B'.y).before a0 Z = true) (w8 : (Jvm.Cond.publicMethod B'.y).before a0 Z = true) (w9 : (Jvm.Cond.unhidden C xi.name xi.desc).before a0 Z = true) (w10 : (Jvm.Cond.castable C xi.cls).before a0 Z = true) (w3 : (Jvm.Cond.initialized B'.y.cls).before a0 Z = true) (w4 : (Jvm.Cond.code B'.y B'.bs B'.ml B'.rt).before a0 Z = true) (hy : notMH xi) (hk : ((Jvm.Cond.interfaceMethod xi.cls xi.cls xi.name xi.desc).onTables && (Jvm.Cond.interfaceMethod xi.cls xi.cls xi.name xi.desc).keepsFace) = true)
    (E : Exa Z h a C) (hM : Con l Z EL n0 kn B' [] σ (.ref a :: argsL).toArray h Q') (hlen : ∀ sig, parseMethodDescriptor xi.desc = some sig → argsL.length = sig.parameters.length) (hst : st = argsL.reverse ++ .ref a :: rest) (hW : (rest.map fun v => v.category).sum = W) (hsz : Ls.size = B.ml)
    (hf : B'.rm.frames + 1 ≤ B.rm.frames) (hl : W + (B'.ml + 11) + B'.rm.locals ≤ B.rm.locals) {ce' sl' : Nat} (hce : ce + B'.rm.cells = ce') (hsl : sl + B'.rm.slots = sl') (hc : ce' ≤ B.rm.cells) (hs : sl' ≤ B.rm.slots)
    (r : ∀ v h' σ', (∀ x, σ x → σ' x) → Q' v h' σ' → Go l Z a0 EL n0 kn B D Q h' σ' ce' sl' (pc + 5) Ls (push v rest)) : Go l Z a0 EL n0 kn B D Q h σ ce sl pc Ls st := by
  subst hce hsl
  exact called W hM w4 w3 hf hl hc hs (fun T vm0 locs X h1 h4 h5 ok {Pre Pst} hB hpre => by
    obtain ⟨cq, kq, qa, qb, qc⟩ := isOf (s := D.s.setVm vm0) h4 h1 E
    exact X.interfaceBackS ok.1 (s := D.s.setVm vm0) (C := C) h5 (mv (s := D.s.setVm vm0) h4 w1) (mv (s := D.s.setVm vm0) h4 w2) (mv (s := D.s.setVm vm0) h4 w7 hk) (mv (s := D.s.setVm vm0) h4 w5) (mv (s := D.s.setVm vm0) h4 w6) (mv (s := D.s.setVm vm0) h4 w8) (mv (s := D.s.setVm vm0) h4 w9) (mv (s := D.s.setVm vm0) h4 w10) hy hB qa qb qc (g := mkF D.m pc Ls st) rfl (hsz.trans ok.2.2.1.symm) (Steps.refl _) (argsL := argsL) (rest := rest) hlen hst (by show 2 * 0 + _ ≤ _; rw [hW]; omega) (Jvm.hb ok.2.1 hd) hpre) r
end Refs
end Jvm.Road
namespace Jvm.Road
open Jvm Jvm.ClassFile Sem Op Lib Jvm.Free Jvm.Stand Jvm.LawKit Jvm.RoadKit Bundle
theorem u32_of {c : Int32} (h : 0 ≤ c.toInt) : (u32 c : Int) = c.toInt := by
  have e : c.toInt = c.toBitVec.toInt := rfl
  have := BitVec.toInt_eq_toNat_cond c.toBitVec
  unfold u32; rw [e] at h ⊢; split at this <;> omega
theorem toInt8_and (x : Int32) : Int32.toInt8 (x &&& 255) = Int32.toInt8 x := by
  apply Int8.toBitVec_inj.mp
  apply BitVec.eq_of_toNat_eq
  show ((x &&& 255).toBitVec.signExtend 8).toNat = (x.toBitVec.signExtend 8).toNat
  have e : ∀ y : BitVec 32, (y.signExtend 8).toNat = y.toNat % 256 := fun y => by rw [BitVec.signExtend_eq_setWidth_of_le _ (by omega), BitVec.toNat_setWidth]
  rw [e, e]
  have := u32_and255 x
  unfold u32 at this
  rw [this]; omega
theorem u32_bf (x : Int32) : u32 (bf x &&& 255) = u32 x % 256 := by
  have h1 : bf x = bf (x &&& 255) := by unfold bf; rw [toInt8_and]
  have h2 : 0 ≤ (x &&& 255).toInt ∧ (x &&& 255).toInt < 256 := by
    have := u32_and255 x
    have h3 : u32 (x &&& 255) < 2147483648 := by omega
    rw [toInt_u32 h3]; omega
  rw [h1, ← u32_and255 x]
  obtain ⟨i, e⟩ := lat_nat h2
  rw [e]
  exact congrArg u32 ((by decide +kernel : ∀ i : Fin 256, bf (Int32.ofInt (i.1 : Int)) &&& 255 = Int32.ofInt (i.1 : Int)) i)
theorem u32_shr8 {c : Int32} (h : 0 ≤ c.toInt) : u32 (c >>> ((8 : Int32) &&& 31)) = u32 c / 256 := by
  have hc : u32 c < 2147483648 := by have := u32_of h; have := Int32.toInt_lt c; omega
  show ((c >>> (8 : Int32)).toBitVec).toNat = _
  have e : (c >>> (8 : Int32)).toBitVec = c.toBitVec.sshiftRight 8 := by
    rw [Int32.toBitVec_shiftRight]; rfl
  rw [e, BitVec.sshiftRight_eq_of_msb_false (by rw [BitVec.msb_eq_false_iff_two_mul_lt]; unfold u32 at hc; omega), BitVec.toNat_ushiftRight, Nat.shiftRight_eq_div_pow]; rfl
theorem u32_shl8 (x : Int32) : u32 (x <<< ((8 : Int32) &&& 31)) = u32 x * 256 % 4294967296 := by
  show ((x <<< (8 : Int32)).toBitVec).toNat = _
  have e : (x <<< (8 : Int32)).toBitVec = x.toBitVec <<< 8 := by
    rw [Int32.toBitVec_shiftLeft]; rfl
  rw [e, BitVec.toNat_shiftLeft, Nat.shiftLeft_eq]; rfl
theorem u32_or (x y : Int32) : u32 (x ||| y) = u32 x ||| u32 y := BitVec.toNat_or ..
/-- two bytes and back -/
theorem u16_back {c : Int32} (h : 0 ≤ c.toInt ∧ c.toInt < 65536) : nar .char (chr (((bf (c >>> ((0 : Int32) &&& 31)) &&& 255) <<< ((0 : Int32) &&& 31)) ||| ((bf (c >>> ((8 : Int32) &&& 31)) &&& 255) <<< ((8 : Int32) &&& 31)))) = c := by
  have hc := u32_of h.1
  have hlt : u32 c < 65536 := by omega
  rw [nar_chr]
  apply u32_inj
  rw [u32_chr, u32_or, shr0, shl0, u32_shl8, u32_bf, u32_bf, u32_shr8 h.1]
  have e1 : u32 c / 256 % 256 = u32 c / 256 := by omega
  rw [e1, Nat.mod_eq_of_lt (show u32 c / 256 * 256 < 4294967296 by omega)]
  have e2 : u32 c % 256 ||| u32 c / 256 * 256 = u32 c := by
    rw [Nat.or_comm, Nat.mul_comm, show (256 : Nat) = 2 ^ 8 from rfl, ← Nat.two_pow_add_eq_or_of_lt (show u32 c % 2 ^ 8 < 2 ^ 8 by omega)]
    omega
  rw [e2]; omega
theorem u32_nat (k : Nat) : u32 (Nat.toInt32 k) = k % 4294967296 := by unfold u32; show (BitVec.ofNat 32 k).toNat = _; rw [BitVec.toNat_ofNat]
theorem u32_shl1 (x : Int32) : u32 (x <<< ((1 : Int32) &&& 31)) = u32 x * 2 % 4294967296 := by
  show ((x <<< (1 : Int32)).toBitVec).toNat = _
  have e : (x <<< (1 : Int32)).toBitVec = x.toBitVec <<< 1 := by
    rw [Int32.toBitVec_shiftLeft]; rfl
  rw [e, BitVec.toNat_shiftLeft, Nat.shiftLeft_eq]; rfl
theorem shl1 (k : Nat) : (Nat.toInt32 k) <<< ((1 : Int32) &&& 31) = Nat.toInt32 (2 * k) := u32_inj (by rw [u32_shl1, u32_nat, u32_nat]; omega)
theorem u32_shr1 {c : Int32} (h : 0 ≤ c.toInt) : u32 (c >>> ((1 : Int32) &&& 31)) = u32 c / 2 := by
  have hc : u32 c < 2147483648 := by have := u32_of h; have := Int32.toInt_lt c; omega
  show ((c >>> (1 : Int32)).toBitVec).toNat = _
  have e : (c >>> (1 : Int32)).toBitVec = c.toBitVec.sshiftRight 1 := by
    rw [Int32.toBitVec_shiftRight]; rfl
  rw [e, BitVec.sshiftRight_eq_of_msb_false (by rw [BitVec.msb_eq_false_iff_two_mul_lt]; unfold u32 at hc; omega), BitVec.toNat_ushiftRight, Nat.shiftRight_eq_div_pow]; rfl
theorem shr1 {k : Nat} (h : 2 * k < 2147483648) : (Nat.toInt32 (2 * k)) >>> ((1 : Int32) &&& 31) = Nat.toInt32 k := u32_inj (by rw [u32_shr1 (by rw [n32 h]; omega), u32_nat, u32_nat]; omega)
def lo8 (c : Int32) : Int32 := Int8.toInt32 (Int32.toInt8 (c >>> ((0 : Int32) &&& 31)))
def hi8 (c : Int32) : Int32 := Int8.toInt32 (Int32.toInt8 (c >>> ((8 : Int32) &&& 31)))
/-- a char's two bytes, the low one first -/
def utf : List Int32 → List Value
  | [] => []
  | c :: r => .int (lo8 c) :: .int (hi8 c) :: utf r
theorem utf_len : ∀ cs : List Int32, (utf cs).length = 2 * cs.length
  | [] => rfl
  | c :: r => by simp only [utf, List.length_cons, utf_len r]; omega
theorem utf_app : ∀ cs ds : List Int32, utf (cs ++ ds) = utf cs ++ utf ds
  | [], ds => rfl
  | c :: r, ds => by simp only [List.cons_append, utf, utf_app r ds]
theorem utf_at : ∀ (cs : List Int32) (k : Nat) (h : k < cs.length), (utf cs)[2 * k]? = some (.int (lo8 cs[k])) ∧ (utf cs)[2 * k + 1]? = some (.int (hi8 cs[k]))
  | c :: r, 0, _ => ⟨rfl, rfl⟩
  | c :: r, k + 1, h => by
    have := utf_at r k (by simpa using h)
    simpa [utf, Nat.mul_add, Nat.add_right_comm] using this
theorem utf_put (cs : List Int32) (r k : Nat) (h : k < cs.length) : ((utf (cs.take k) ++ List.replicate (2 * (r + 1)) (Value.int 0)).set (2 * k) (.int (lo8 cs[k]))).set (2 * k + 1) (.int (hi8 cs[k])) = utf (cs.take (k + 1)) ++ List.replicate (2 * r) (.int 0) := by
  have hl : (utf (cs.take k)).length = 2 * k := by rw [utf_len, List.length_take]; omega
  rw [List.take_succ_eq_append_getElem h, utf_app, show 2 * (r + 1) = 2 * r + 1 + 1 from by omega, List.replicate_succ, List.replicate_succ]
  rw [List.set_append_right _ _ (by omega), List.set_append_right _ _ (by omega), hl, Nat.sub_self, show 2 * k + 1 - 2 * k = 1 from by omega]
  simp [utf]
def Str16 (Z : State) (h : Heap) (a b : Addr) (cs : List Int32) : Prop := Exa Z h a SN ∧ Fld Z h a SN "coder" "B" (.int 1) ∧ Fld Z h a SN "value" "[B" (.ref b) ∧ Ary Z h b .byte (utf cs) ∧ (∀ c ∈ cs, 0 ≤ c.toInt ∧ c.toInt < 65536) ∧ 0 < cs.length
/-- a String of either kind -/
def StrX (Z : State) (h : Heap) (a b : Addr) (cs : List Int32) : Prop := Str Z h a b cs ∨ Str16 Z h a b cs
def hiS (c : Int32) : Prop := 55296 ≤ c.toInt ∧ c.toInt < 56320
def loS (c : Int32) : Prop := 56320 ≤ c.toInt ∧ c.toInt < 57344
instance (c : Int32) : Decidable (hiS c) := inferInstanceAs (Decidable (_ ∧ _))
instance (c : Int32) : Decidable (loS c) := inferInstanceAs (Decidable (_ ∧ _))
/-- a surrogate pair begins at i -/
def pr (cs : List Int32) (i : Nat) : Nat := if h : i + 1 < cs.length then (if hiS cs[i] ∧ loS cs[i + 1] then 1 else 0) else 0
def psum (cs : List Int32) : Nat → Nat
  | 0 => 0
  | m + 1 => psum cs m + pr cs m
theorem pr_le (cs : List Int32) (i : Nat) : pr cs i ≤ 1 := by unfold pr; split <;> (try split) <;> omega
theorem psum_le (cs : List Int32) : ∀ m, psum cs m ≤ m
  | 0 => Nat.le_refl _
  | m + 1 => by have := psum_le cs m; have := pr_le cs m; simp only [psum]; omega
theorem pr_end {cs : List Int32} {i : Nat} (h : cs.length ≤ i + 1) : pr cs i = 0 := by unfold pr; rw [dif_neg (by omega)]
theorem psum_end {cs : List Int32} : ∀ {m k : Nat}, cs.length ≤ m + 1 → m ≤ k → psum cs k = psum cs m := by
  intro m k h hk
  induction k with
  | zero => have : m = 0 := by omega
            subst this; rfl
  | succ k ih =>
    by_cases e : m = k + 1
    · rw [e]
    · simp only [psum]; rw [ih (by omega), pr_end (by omega), Nat.add_zero]
theorem psum_lat {cs : List Int32} (h : ∀ c ∈ cs, 0 ≤ c.toInt ∧ c.toInt < 256) : ∀ m, psum cs m = 0
  | 0 => rfl
  | m + 1 => by
    simp only [psum, psum_lat h m]; unfold pr; split
    · rw [if_neg]; intro q; have := h _ (List.getElem_mem (show m < cs.length by omega)); unfold hiS at q; omega
    · rfl
theorem cfa16 {n : Nat} (h0 : 0 < n) (h : n < 1000) : nar .byte (Int8.toInt32 (Int32.toInt8 (XT.ushr (Nat.toInt32 n - Nat.toInt32 (2 * n)) 31))) = 1 := by
  have e : Nat.toInt32 n - Nat.toInt32 (2 * n) = -(Nat.toInt32 n) := by
    rw [show 2 * n = n + n from by omega, ← add32n]
    generalize Nat.toInt32 n = x
    rw [Int32.sub_eq_add_neg, Int32.neg_add, Int32.sub_eq_add_neg, ← Int32.add_assoc, Int32.add_right_neg, Int32.zero_add]
  rw [e]
  exact (by decide +kernel : ∀ i : Fin 1000, 0 < i.1 → nar .byte (Int8.toInt32 (Int32.toInt8 (XT.ushr (-(Nat.toInt32 i.1)) 31))) = 1) ⟨n, h⟩ h0
theorem pr_lo {cs : List Int32} {i : Nat} (h : i < cs.length) (hl : loS cs[i]) : pr cs i = 0 := by
  unfold pr; split
  · rw [if_neg]; intro q; have := q.1; unfold hiS at this; unfold loS at hl; omega
  · rfl
theorem and255L (y : Int64) : 0 ≤ (Int64.toInt32 (y &&& 255)).toInt ∧ (Int64.toInt32 (y &&& 255)).toInt < 256 := by
  have h : u32 (Int64.toInt32 (y &&& 255)) < 256 := by
    show ((y &&& 255).toBitVec.signExtend 32).toNat < 256
    rw [BitVec.signExtend_eq_setWidth_of_le _ (by omega), BitVec.toNat_setWidth]
    have : ((y &&& 255).toBitVec).toNat ≤ 255 := by
      show (y.toBitVec &&& (255 : Int64).toBitVec).toNat ≤ 255
      rw [BitVec.toNat_and]; exact Nat.and_le_right
    omega
  rw [toInt_u32 (by omega)]; omega
theorem chr_add {a x : Int32} {A : Nat} (ha : a.toInt = (A : Int)) (hA : A + 255 < 65536) (hx : 0 ≤ x.toInt ∧ x.toInt < 256) : (chr (a + x)).toInt = A + x.toInt ∧ nar .char (chr (a + x)) = chr (a + x) := by
  have e1 := u32_of (c := a) (by omega)
  have e2 := u32_of hx.1
  have e3 : u32 (a + x) = u32 a + u32 x := by
    show (a.toBitVec + x.toBitVec).toNat = _
    rw [BitVec.toNat_add]; unfold u32 at *; omega
  have e4 : u32 (chr (a + x)) = u32 a + u32 x := by rw [u32_chr, e3]; omega
  refine ⟨?_, nar_chr _⟩
  rw [toInt_u32 (by omega), e4]; omega
/-- the law's kind of a place -/
def kd (kinds : Int32) (i : Nat) : Int32 := XT.ushr kinds ((2 : Int32) * Nat.toInt32 i) &&& 3
theorem u32_and15 (x : Int32) : x &&& 15 = Nat.toInt32 (u32 x % 16) := u32_inj (by rw [u32_nat, u32_and]; have : u32 x &&& u32 (15 : Int32) = u32 x % 16 := and_mask _ 4; rw [this]; omega)
/-- what the law's chars are, by their kinds -/
def KF (kinds : Int32) (cs : List Int32) : Prop := ∀ j (hj : j < cs.length), (0 ≤ cs[j].toInt ∧ cs[j].toInt < 65536) ∧ (hiS cs[j] ↔ kd kinds j = 2) ∧ (loS cs[j] ↔ kd kinds j = 3)
theorem KF.snoc {kinds : Int32} {cs : List Int32} {c : Int32} {i : Nat} (h : KF kinds cs) (hi : cs.length = i) (hc : (0 ≤ c.toInt ∧ c.toInt < 65536) ∧ (hiS c ↔ kd kinds i = 2) ∧ (loS c ↔ kd kinds i = 3)) : KF kinds (cs ++ [c]) := by
  intro j hj
  rw [List.length_append, List.length_singleton] at hj
  by_cases q : j < cs.length
  · rw [List.getElem_append_left q]; exact h j q
  · have : j = cs.length := by omega
    subst this
    rw [List.getElem_append_right (Nat.le_refl _)]; simp only [Nat.sub_self, List.getElem_cons_zero]; rw [hi]; exact hc
theorem KF.c16 {kinds : Int32} {cs : List Int32} (h : KF kinds cs) : ∀ c ∈ cs, 0 ≤ c.toInt ∧ c.toInt < 65536 := fun c hc => by
  obtain ⟨j, hj, rfl⟩ := List.getElem_of_mem hc; exact (h j hj).1
theorem KF.pr {kinds : Int32} {cs : List Int32} (h : KF kinds cs) (i : Nat) : pr cs i = if i + 1 < cs.length ∧ kd kinds i = 2 ∧ kd kinds (i + 1) = 3 then 1 else 0 := by
  unfold Road.pr
  by_cases q : i + 1 < cs.length
  · rw [dif_pos q]
    have a := (h i (by omega)).2.1
    have b := (h (i + 1) q).2.2
    by_cases u : hiS cs[i] ∧ loS cs[i + 1]
    · rw [if_pos u, if_pos ⟨q, a.mp u.1, b.mp u.2⟩]
    · rw [if_neg u, if_neg (fun v => u ⟨a.mpr v.2.1, b.mpr v.2.2⟩)]
  · rw [dif_neg q, if_neg (fun v => q v.1)]
theorem buf_put (pre : List Int32) (c : Int32) (r : Nat) : (pre.map Value.int ++ List.replicate (r + 1) (Value.int 0)).set pre.length (Value.int c) = (pre ++ [c]).map Value.int ++ List.replicate r (Value.int 0) := by
  have e1 : (pre.map Value.int).length = pre.length := List.length_map _
  rw [List.set_append_right _ _ (by omega), e1, Nat.sub_self, List.replicate_succ]; simp
theorem nar16 {c : Int32} (h : 0 ≤ c.toInt ∧ c.toInt < 65536) : nar .char c = c := by
  have e := u32_of h.1
  have : chr c = c := chr_id (by omega)
  rw [← this, nar_chr]
end Jvm.Road
namespace Jvm.Road
open Jvm Jvm.ClassFile Sem Op Lib Jvm.Free Jvm.Stand Jvm.LawKit Jvm.RoadKit Bundle Jvm.Free.Exc Jvm.Free.Str
/-- what a sheet says of Throwable, its instance fields over the exception's own class rc alone -/
def thrW (rc : String) : List Jvm.Cond := [.native tFill0, .initialized tN, .superclass tN "java/lang/Object", .instanceMethod tFill, .codeSync tFill LibCode.Throwable.Fill.code 1 (some (.object tN)), .instanceMethod tFill0, .instanceMethod oInit, .code oInit ⟨#[0xb1]⟩ 1 none,
  .methodLink tN 1 oInit, .methodLink tN 27 tFill, .methodLink tN 202 tFill0, .fieldLink tN 7 tN "cause" thD, .fieldLink tN 17 tN "stackTrace" steD, .fieldLink tN 24 tN "suppressedExceptions" listD, .fieldLink tN 13 tN "UNASSIGNED_STACK" steD, .fieldLink tN 20 tN "SUPPRESSED_SENTINEL" listD, .fieldLink tN 198 tN "backtrace" obD,
  .laysStatic tN "UNASSIGNED_STACK" steD, .laysStatic tN "SUPPRESSED_SENTINEL" listD, .lays rc tN "cause" thD, .lays rc tN "stackTrace" steD, .lays rc tN "suppressedExceptions" listD, .lays rc tN "detailMessage" msgD, .lays rc tN "backtrace" obD, .lays rc tN "depth" "I",
  .declares tFill, .selects rc tFill0 tFill0, .selects rc tFill tFill, .arrayOver (.object "java/lang/Object"), .soleField tN "backtrace", .soleField tN "depth"]
theorem thrW_ok {rc : String} : (thrW rc).all xOk = true := rfl
theorem thr_of {args : Array Value} {s : State} {pl : Platform} {rc : String} (howns : pl.frameOwnsMonitors = true) (hfin : pl.finalization = false) (hpl : pl.magicAccessors = ({} : Platform).magicAccessors) (h : ∀ c ∈ thrW rc, c.before args s = true) :
    ∃ T : ThrowableC, T.Links pl s ∧ s.vm.findClass tN = some T.cT ∧ s.methodNamed? tFill = some T.fill ∧ s.methodNamed? tFill0 = some T.fill0 ∧ s.fieldFound? tN "stackTrace" steD = some (T.cT, T.kT, T.i17, T.fStack) ∧ T.fStack.type = .array (.object "java/lang/StackTraceElement") ∧
      s.fieldFound? tN "UNASSIGNED_STACK" steD = some (T.cT, T.kT, T.i13, T.fUnassigned) := by
  have a : ∀ (k : Nat) (c : Jvm.Cond), (thrW rc)[k]? = some c → c.holds args s none s [] = true := fun k c q => h c (List.mem_of_getElem? q)
  obtain ⟨⟨c, i0⟩, m0, n0, e0, nat0, cod0, loc0, sig0⟩ := Cond.native_spec (a 0 _ rfl)
  have hc : s.vm.findClass tN = some c := findClass_of_methodNamed n0
  obtain ⟨k, hk, hnm⟩ := Vm.findClass_spec hc
  obtain ⟨_, k1, _, _, r1, _, _, hord, _, hni⟩ := Cond.superclass_spec hc (a 2 _ rfl)
  cases hk.symm.trans r1
  obtain ⟨iF, mF, nF, eF, atF, stF, abF, -, -⟩ := Cond.ownMethod (x := tFill) hc hk (a 3 _ rfl)
  obtain ⟨mF', cF, eF', cdF, bF, lF, rF, lkF, -, sgF⟩ := Cond.codeSync_spec nF (a 4 _ rfl)
  cases eF.symm.trans eF'
  obtain ⟨j0, m0', n0', e0', at0, st0, ab0, nm0, ds0⟩ := Cond.ownMethod (x := tFill0) hc hk (a 5 _ rfl)
  cases n0.symm.trans n0'
  cases e0.symm.trans e0'
  obtain ⟨mO, meO, nO, eO, stO, abO⟩ := Cond.instanceMethod_spec (a 6 _ rfl)
  obtain ⟨meO', cO, eO', cdO, bO, lO, -, lkO, -, sgO⟩ := Cond.code_spec nO (a 7 _ rfl)
  cases eO.symm.trans eO'
  obtain ⟨kO, hkO, hnO⟩ := Vm.findClass_spec (findClass_of_methodNamed nO)
  obtain ⟨nmO, dsO⟩ := name_of_methodNamed nO eO
  obtain ⟨ci1, n1, cf, l1, r1', f1, p1⟩ := Cond.linkedMethod hc hk nO (a 8 _ rfl) pl hpl
  obtain ⟨ci27, n27, cf2, l27, r27, f27, p27⟩ := Cond.linkedMethod hc hk nF (a 9 _ rfl) pl hpl
  cases f1.symm.trans f27
  obtain ⟨ci202, n202, cf3, l202, r202, f202, p202⟩ := Cond.linkedMethod hc hk n0 (a 10 _ rfl) pl hpl
  cases f1.symm.trans f202
  obtain ⟨c7, i7, f7, k7, g7, t7, s7, fi7, -, -, -⟩ := Cond.ownField (t := .object tN) hc hk (by decide +kernel) (a 11 _ rfl) (a 19 _ rfl) pl hpl
  obtain ⟨c17, i17, f17, k17, g17, t17, s17, fi17, na17, ty17, ff17⟩ := Cond.ownField (t := .array (.object "java/lang/StackTraceElement")) hc hk (by decide +kernel) (a 12 _ rfl) (a 20 _ rfl) pl hpl
  obtain ⟨c24, i24, f24, k24, g24, t24, s24, fi24, na24, -, ff24⟩ := Cond.ownField (t := .object "java/util/List") hc hk (by decide +kernel) (a 13 _ rfl) (a 21 _ rfl) pl hpl
  obtain ⟨c13, i13, f13, aS, cS, k13, g13, t13, s13, -, -, hsta, -, -, -, -, ff13⟩ := Cond.ownStatic (t := .array (.object "java/lang/StackTraceElement")) hc hk (by decide +kernel) (a 14 _ rfl) (a 17 _ rfl) pl hpl
  obtain ⟨c20, i20, f20, _, _, k20, g20, t20, s20, -⟩ := Cond.ownStatic (t := .object "java/util/List") hc hk (by decide +kernel) (a 15 _ rfl) (a 18 _ rfl) pl hpl
  obtain ⟨cR, kR, cM, kM, iM, fM, hcR, hkR, ffM, sM, fiM, -⟩ := Cond.lays_spec (a 22 _ rfl)
  obtain ⟨-, d17, hd17, hn17⟩ := Cond.laysAt hcR hkR ff17 (a 20 _ rfl)
  obtain ⟨-, d24, hd24, hn24⟩ := Cond.laysAt hcR hkR ff24 (a 21 _ rfl)
  have apart : f17.slot ≠ f24.slot := Cond.laysApart hd17 hd24 hn17 hn24 (by rw [na17, na24]; decide)
  have pF : mF.sig.parameters = [] := by
    have q : (parseMethodDescriptor tFill.desc).map (·.parameters) = some [] := by decide +kernel
    rw [sgF] at q; exact Option.some.inj q
  have p0 : m0.sig.parameters = [.int] := by
    have q : (parseMethodDescriptor tFill0.desc).map (·.parameters) = some [.int] := by decide +kernel
    rw [sig0] at q; exact Option.some.inj q
  have pO : meO.sig.parameters.length = 0 := by
    have q : (parseMethodDescriptor oInit.desc).map (·.parameters.length) = some 0 := by decide +kernel
    rw [sgO] at q; exact Option.some.inj q
  refine ⟨{ cT := c, kT := k, cO := c, aS := aS, fillIdx := iF, fill0Idx := i0, initSIdx := iF, obj := mO, kObj := kO, methFill := mF, methFill0 := m0, methInitS := mF, methObj := meO, codeFill := cF, codeInitS := cF, codeObj := cO, fBack := f7, fDepth := f7, fStack := f17, fCause := f7, fSupp := f24, fMsg := fM, fUnassigned := f13, fSentinel := f20, cfT := cf, ci1 := ci1, n1 := n1, ci27 := ci27, n27 := n27, ci202 := ci202, n202 := n202, ci7 := c7, i7 := i7, ci13 := c13, i13 := i13, ci17 := c17, i17 := i17, ci20 := c20, i20 := i20, ci24 := c24, i24 := i24 }, ?_, hc, nF, n0, ff17, ty17, ff13⟩
  constructor <;> first | assumption | (exact Vm.findClass_boot hc hk) | (exact Cond.initialized_spec hc hk (a 1 _ rfl)) | (rw [dsO]; exact lookupSpecial_of_named nO eO stO)
section Thr
variable {l : Launch} {Z : State} {a0 : Array Value} {EL : List (String × Nat)} {n0 : Nat} {kn : Bool} {B : Bdy} {D : Dyn} {Q : Post} {h : Heap} {σ : Addr → Prop} {ce sl : Nat} {Ls : Array Slot} {st : List Value} {a : Addr}
/-- fillInStackTrace() of a Throwable of class rc whose stackTrace holds UNASSIGNED_STACK, no null -/
theorem fillIn (pc : Nat) {n : Nat} {u : Addr} (rc : String) (W : Nat) (hd : decode B.bs pc = .ok (.invokevirtual 27, 3)) (hB : B.y.cls = tN) (wT : ∀ d ∈ thrW rc, d.before a0 Z = true) (wi : (Jvm.Cond.instantiable rc n).before a0 Z = true)
    (hl : l.stackTraces = true) (hkn : kn = true) (hO : Old Z n0 D.s.heap) (E : Exa Z h a rc) (N : Unt h a) (Fb : Fld Z h a tN "backtrace" obD .null) (Fs : Fld Z h a tN "stackTrace" steD (.ref u)) (Su : Sta Z Z.heap tN "UNASSIGNED_STACK" steD (.ref u)) (hσ : σ a)
    (hW : (st.map fun v => v.category).sum = W) (hsz : Ls.size = B.ml) (hf : 3 ≤ B.rm.frames) (hlo : W + 42 ≤ B.rm.locals) {ce' sl' : Nat} (hce : ce + 1 = ce') (hsl : sl + 2752 = sl') (hc : ce' ≤ B.rm.cells) (hs : sl' ≤ B.rm.slots)
    (r : ∀ h', Keep h h' [a] → (∀ {O nm d : String} {ty : FieldType} {v : Value}, Fld Z h a O nm d v → Laid Z a0 rc O nm d → parseFieldDescriptor d = some ty → nm ≠ "backtrace" → nm ≠ "depth" → nm ≠ "stackTrace" → Fld Z h' a O nm d v) → Go l Z a0 EL n0 kn B D Q h' σ ce' sl' (pc + 3) Ls (.ref a :: st)) : Go l Z a0 EL n0 kn B D Q h σ ce sl pc Ls (.ref a :: st) := by
  subst hce hsl
  intro ok ew T vm0 I
  obtain ⟨k0, locs, X, h1, h2, h3, h4, h5, h6, h7, h8, h9, h10⟩ := I
  have hT0 : ThS Z (D.s.setVm vm0).heap := ThS.start.ext hO.2
  have wv : ∀ d ∈ thrW rc, d.before D.args (D.s.setVm vm0) = true := fun d hd => mvX hT0 h4 (List.all_eq_true.mp thrW_ok d hd) (wT d hd)
  have w : ∀ (k : Nat) (d : Jvm.Cond), (thrW rc)[k]? = some d → d.before D.args (D.s.setVm vm0) = true := fun k d q => wv d (List.mem_of_getElem? q)
  have htr : D.e.platform.stackTraces = true := by rw [X.admits.platform]; exact hl
  have hpl : D.e.platform.magicAccessors = ({} : Platform).magicAccessors := by rw [X.admits.platform]
  obtain ⟨Tt, L, found, fill, fill0, stk, sty, una⟩ := thr_of (args := D.args) (by rw [X.admits.platform]) (by rw [X.admits.platform]) hpl wv
  have hal : Z.vm.Alike (D.s.setVm vm0).vm := h4.alike
  have ffs : ∀ {C nm d : String} {cf : ClassId} {k : Class} {i : Nat} {f : Field}, Z.fieldFound? C nm d = some (cf, k, i, f) → ∃ k', (D.s.setVm vm0).fieldFound? C nm d = some (cf, k', i, f) := fun q => by
    obtain ⟨k', q1, -⟩ := State.fieldFound?_setVm (s := Z) hal q; exact ⟨k', q1⟩
  obtain ⟨cell, kc, a1, a2, a3, a4, a5⟩ := id E
  obtain ⟨_, u1, u2, u3⟩ := id N
  cases a1.symm.trans u1
  obtain ⟨_, _, i1, i2, i3, -⟩ := Cond.instantiable_spec wi
  cases a2.symm.trans i1
  cases a3.symm.trans i2
  obtain ⟨kX, q1, q2⟩ := hal.2.2 _ _ a3
  have hord : kX.kind = .ordinary := by rw [q2]; exact i3
  have hsz' : cell.slots.size = kX.instanceTypes.size := by rw [q2]; exact a5 i3
  have hfound : (D.s.setVm vm0).vm.findClass rc = some cell.cls := by rw [hal.findClass]; exact a2
  -- the fields
  obtain ⟨_, _, _, _, fB', b1, b2, -, -, -, -, b7⟩ := id Fb
  cases a1.symm.trans b1
  obtain ⟨_, b3⟩ := ffs b2
  obtain ⟨ci198, i198, fB, hk198, hg198, ha198, hsB, -, hnB, htB, hffB⟩ := Cond.ownField (t := .object "java/lang/Object") found L.cls (by decide +kernel) (w 16 _ rfl) (w 23 _ rfl) D.e.platform hpl
  have eB : fB' = fB := by have q := hffB.symm.trans b3; simp only [Option.some.injEq, Prod.mk.injEq] at q; exact q.2.2.2.symm
  rw [eB] at b7
  obtain ⟨_, _, _, _, fS', s1, s2, -, -, -, -, s7⟩ := id Fs
  cases a1.symm.trans s1
  obtain ⟨_, s3⟩ := ffs s2
  have eS : fS' = Tt.fStack := by have q := stk.symm.trans s3; simp only [Option.some.injEq, Prod.mk.injEq] at q; exact q.2.2.2.symm
  rw [eS] at s7
  obtain ⟨_, _, cD, kD, iD, fD, -, -, hffD, hstD, -, -, -, -⟩ := Cond.lays_spec (w 24 _ rfl)
  cases Option.some.inj ((Cond.lays_declared (w 24 _ rfl) hffD).symm.trans found)
  obtain ⟨hkD, hatD⟩ := State.fieldFound?_spec hffD
  cases hkD.symm.trans L.cls
  obtain ⟨hnD, htD⟩ := State.fieldFound?_type hffD (t := .int) (by decide +kernel)
  have hfb := Cond.soleField_find found L.cls (w 29 _ rfl) ha198 hnB hsB
  have hfd := Cond.soleField_find found L.cls (w 30 _ rfl) hatD hnD hstD
  obtain ⟨comp, cO, kO, -, -, hkO, hkindO, hOO⟩ := Cond.arrayOver_spec (w 28 _ rfl)
  obtain ⟨tyS, dS, hdS, hdnS⟩ := Cond.laysAt hfound q1 stk (w 20 _ rfl)
  obtain ⟨tyB, dB, hdB, hdnB⟩ := Cond.laysAt hfound q1 hffB (w 23 _ rfl)
  obtain ⟨tyD, dD, hdD, hdnD⟩ := Cond.laysAt hfound q1 hffD (w 24 _ rfl)
  have nmS : Tt.fStack.name = "stackTrace" := (State.fieldFound?_type stk (t := .array (.object "java/lang/StackTraceElement")) (by decide +kernel)).1
  have tk : ∀ {f : Field} {v : Value}, kX.instanceTypes[f.slot]? = some f.type → fits f.type v = true → Jvm.Takes (D.s.setVm vm0) cell f v := fun {f v} x1 x2 => by
    obtain ⟨y1, y2⟩ := Takes.of_laid (v := v) q1 hord x1 x2
    exact ⟨by rw [hsz']; simpa using y1, by rw [u2]; exact y2⟩
  have hsel0 : selectMethod D.e.platform (D.s.setVm vm0).vm cell.cls Tt.fill0 = .method Tt.fill0 := by
    obtain ⟨_, _, _, x1, x2, x3, x4, -⟩ := Cond.selects_spec (w 26 _ rfl)
    cases x1.symm.trans hfound
    cases x2.symm.trans (State.methodFound?_of_named fill0 (by decide))
    cases x3.symm.trans fill0
    rw [Launch.admits_selectMethod X.admits]; exact x4
  -- the statics
  obtain ⟨_, _, kU, fU, aU, cellS, g1, -, -, g4, g5, g6, g7⟩ := id Su
  obtain ⟨kU', g8, g9⟩ := State.fieldFound?_setVm (s := Z) hal g1
  have g8' : (D.s.setVm vm0).fieldFound? tN "UNASSIGNED_STACK" steD = _ := g8
  have qU := una.symm.trans g8'
  simp only [Option.some.injEq, Prod.mk.injEq] at qU
  obtain ⟨-, eK, -, eU⟩ := qU
  have gs : Tt.kT.statics = some aU := by rw [eK, g9]; exact g4
  have eA : aU = Tt.aS := Option.some.inj (gs.symm.trans L.statics)
  rw [eA] at g5
  rw [← eU] at g7
  have hcS : T.heap[Tt.aS]? = some cellS := by rw [h1]; exact h8.2.2 _ _ g5
  have hneS : Tt.aS ≠ a := fun z => by
    have := h8.2.2 _ _ g5
    rw [z, a1] at this
    rw [← Option.some.inj this, u2] at g6; cases g6
  have hSE := w 27 _ rfl
  have hown : (D.s.setVm vm0).vm.findClass tN = some D.m.cls := hB ▸ h5
  obtain ⟨v6, vm6, ⟨T6, L6, c6, n6⟩, -, X6, ⟨hv6, vm', lines, hlines, -, hU, hL, hcc, hnn⟩, stp⟩ := X.virtualBack ok.1 (own := tN) (C := rc) (index := 27) (y := tFill) (z := tFill) hown (w 9 _ rfl) (w 25 _ rfl) (notFace_of_selects hSE) hSE (w 3 _ rfl) (by decide)
    (fillPays (l := l) (W := W) ok.1 htr Tt L fill (u0 := ⟨.ref u, rfl⟩) (by simp) (self := a) (cell := cell) (cellS := cellS) (fun _ => by rw [u2]; simp) (by rw [u2]; simp) (by rw [u3]) (by rw [u3]) s7 hsel0 hneS (by cases hz : cellS.vm <;> simp [hz, VmData.isStatics] at g6 ⊢) g7 (tk tyS (by rw [sty]; rfl))
      ⟨{ ci198 := ci198, i198 := i198, fBack := fB }, ⟨hk198, hg198, ha198, hsB⟩, b7⟩ (h10 hkn).1 (h10 hkn).2 found hOO hkO hkindO hfb hfd (fun x => tk tyB (by rw [htB]; rfl)) (fun x => tk tyD (by rw [htD]; rfl)) (by omega) (by omega))
    (b := a) (cB := cell.cls) hfound ⟨cell, by rw [h1]; exact a1, rfl, a4⟩ (g := mkF D.m pc Ls (.ref a :: st)) rfl (hsz.trans ok.2.2.1.symm) (Steps.refl _) (argsL := []) (rest := st)
    (fun sig q => by rw [show parseMethodDescriptor tFill.desc = some ⟨[], some (.object tN)⟩ from by decide +kernel] at q; rw [← Option.some.inj q]; rfl) rfl (by show 2 * 0 + _ ≤ W; rw [hW]; omega) (Jvm.hb ok.2.1 hd)
    (fun vmx _ => ⟨rfl, hc, hs, by show T.heap[a]? = _; rw [h1]; exact a1, hcS⟩)
  dsimp only [Pt.U, Pt.locs, Pt.cells, Pt.slots] at X6 hU hL hcc hnn stp
  subst hv6 hL hcc hnn
  have hlt : a < h.size := (Array.getElem?_eq_some_iff.mp a1).1
  have hh : T6.heap = (h.push (traceHolder cO lines)).setIfInBounds a (filledOn Tt.toThrowableT fB fD cell ⟨.ref u, rfl⟩ h.size lines.length.toInt32) := by
    rw [hU, ← h1]; rfl
  have hat : T6.heap[a]? = some (filledOn Tt.toThrowableT fB fD cell ⟨.ref u, rfl⟩ h.size lines.length.toInt32) := by
    rw [hh, Array.getElem?_setIfInBounds_self_of_lt (by rw [Array.size_push]; exact Nat.lt_succ_of_lt hlt)]
  have hot : ∀ x c, h[x]? = some c → x ≠ a → T6.heap[x]? = some c := fun x c q ne => by
    have hx : x < h.size := (Array.getElem?_eq_some_iff.mp q).1
    rw [hh, Array.getElem?_setIfInBounds_ne (Ne.symm ne), Array.getElem?_push_lt hx, ← q, Array.getElem?_eq_getElem hx]
  have K : Keep h T6.heap [a] := by
    refine ⟨by rw [hh, Array.size_setIfInBounds, Array.size_push]; omega, fun x c q ne => hot x c q (by simpa using ne), fun x c q => ?_⟩
    by_cases z : x = a
    · subst z; cases a1.symm.trans q
      exact ⟨_, hat, rfl, rfl, by simp [filledOn, Cell.setSlot]⟩
    · exact ⟨c, hot x c q z, rfl, rfl, rfl⟩
  have ha := h9 a hσ
  have hsf : ∀ x ∈ [a], Safe Z EL vm0 h x := fun x hx => by cases List.mem_singleton.mp hx; exact ha.1
  have X7 := X6.more (Nat.le_refl _) (Nat.add_le_add_left (traceHolder_size_le cO hlines) sl)
  obtain ⟨s2', o, q, rest⟩ := r T6.heap K (fun {O nm d ty v} F Lf ht m1 m2 m3 => by
      obtain ⟨_, cf, k, i, f, p1, p2, p3, p4, p5, p6, p7⟩ := F
      cases a1.symm.trans p1
      obtain ⟨c9, k9, cf9, kf9, i9, f9, y1, y2, y3, y4, y5, y6, -, d9, y8, y9⟩ := Lf.spec
      cases a2.symm.trans y1
      cases p2.symm.trans y3
      obtain ⟨kz, z1⟩ := ffs p2
      have nmF := (State.fieldFound?_type z1 ht).1
      have go : ∀ {C' n' d' : String} {cg : ClassId} {kg : Class} {ig : Nat} {g : Field}, (Jvm.Cond.lays rc C' n' d').before a0 Z = true → (D.s.setVm vm0).fieldFound? C' n' d' = some (cg, kg, ig, g) → nm ≠ n' → (∃ t, parseFieldDescriptor d' = some t) → f.slot ≠ g.slot := fun {C' n' d' cg kg ig g} lw fg ne tt => by
        obtain ⟨t, ht'⟩ := tt
        obtain ⟨_, _, _, _, _, g', x1, x2, x3, -, -, -, -, dd, x8, -, x9, -⟩ := Cond.lays_spec lw
        obtain ⟨_, x4⟩ := ffs x3
        cases fg.symm.trans x4
        cases a2.symm.trans x1
        exact Cond.laysApart y8 x8 y9 x9 (by rw [nmF, (State.fieldFound?_type fg ht').1]; exact ne)
      refine ⟨_, cf, k, i, f, hat, p2, p3, ?_, ?_, ?_, ?_⟩
      · show cell.vm ≠ _; exact p4
      · show cell.vm.isStatics = _; exact p5
      · show Z.vm.assignable cell.cls cf = true; exact p6
      · have e1 := go (wT _ (List.mem_of_getElem? (i := 23) rfl)) hffB m1 ⟨_, (by decide +kernel : parseFieldDescriptor obD = some (.object "java/lang/Object"))⟩
        have e2 := go (wT _ (List.mem_of_getElem? (i := 24) rfl)) hffD m2 ⟨_, (by decide +kernel : parseFieldDescriptor "I" = some .int)⟩
        have e3 := go (wT _ (List.mem_of_getElem? (i := 20) rfl)) stk m3 ⟨_, (by decide +kernel : parseFieldDescriptor steD = some (.array (.object "java/lang/StackTraceElement")))⟩
        simp [filledOn, Cell.setSlot, Array.getElem?_setIfInBounds, Ne.symm e1, Ne.symm e2, Ne.symm e3, p7]) ok ew T6 vm0
    ⟨k0, _, X7, rfl, h2, Nat.le_trans h3 K.1, h4, h5, h6.trans (CHr.keep K hsf h6.1), h7.app (fun y hy => by simp only [List.mem_cons, List.not_mem_nil, or_false] at hy; rcases hy with rfl | rfl | rfl <;> exact ha.2.1), h8.keep K (fun x hx => by cases List.mem_singleton.mp hx; exact ha.2.1), fun x hx => ⟨Safe.keep K hsf h6.1 (h9 x hx).1, (h9 x hx).2.1, Nat.lt_of_lt_of_le (h9 x hx).2.2 K.1⟩, h10⟩
  exact ⟨s2', o, stp.trans q, rest⟩
end Thr
end Jvm.Road
namespace Jvm.Road
open Jvm Jvm.ClassFile Sem Op Lib Jvm.Free Jvm.Stand Jvm.LawKit Jvm.RoadKit Bundle Jvm.Free.Exc Jvm.Free.Str
abbrev sixF : List String := ["cause", "stackTrace", "suppressedExceptions", "backtrace", "depth", "detailMessage"]
/-- the fields of a that are none of Throwable's own -/
def KeepF (Z : State) (a0 : Array Value) (rc : String) (a : Addr) (h h2 : Heap) : Prop := ∀ (O nm d : String) (ty : FieldType) (v : Value), Fld Z h a O nm d v → Laid Z a0 rc O nm d → parseFieldDescriptor d = some ty → nm ∉ sixF → Fld Z h2 a O nm d v
section KF
variable {Z : State} {a0 : Array Value} {rc : String} {a : Addr} {h h1 h2 : Heap}
theorem KeepF.refl : KeepF Z a0 rc a h h := fun _ _ _ _ _ F _ _ _ => F
theorem KeepF.wr {x dx : String} {w : Value} {ty : FieldType} (K : KeepF Z a0 rc a h h1) (W : Wr h1 h2 a (RoadKit.slotOf Z tN x dx) w) (lw : Laid Z a0 rc tN x dx) (hx : x ∈ sixF) (ht : parseFieldDescriptor dx = some ty) : KeepF Z a0 rc a h h2 :=
  fun O nm d t v F Lf ht' ne => (K O nm d t v F Lf ht' ne).other W (Or.inr (slot_ne Lf lw (fun z => ne (z ▸ hx)) ht' ht))
theorem KeepF.fill (K : KeepF Z a0 rc a h h1) (G : ∀ {O nm d : String} {ty : FieldType} {v : Value}, Fld Z h1 a O nm d v → Laid Z a0 rc O nm d → parseFieldDescriptor d = some ty → nm ≠ "backtrace" → nm ≠ "depth" → nm ≠ "stackTrace" → Fld Z h2 a O nm d v) : KeepF Z a0 rc a h h2 :=
  fun O nm d t v F Lf ht ne => G (K O nm d t v F Lf ht ne) Lf ht (fun z => ne (by subst z; decide)) (fun z => ne (by subst z; decide)) (fun z => ne (by subst z; decide))
end KF
end Jvm.Road
namespace Jvm.Pilot.@@N@@
open Jvm Jvm.ClassFile Sem Op Lib Jvm.Free Jvm.Stand Jvm.LawKit Jvm.RoadKit Bundle Jvm.Pilot.@@N@@.Jvm.D
set_option maxRecDepth 65536
theorem wI {a0 : Array Value} {Z : State} (hw : ∀ d ∈ tables_1, d.before a0 Z = true) (i : Nat) {d : Jvm.Cond} (h : tables_1[i]? = some d) : d.before a0 Z = true := hw d (List.mem_of_getElem? h)
def bCmp5 : Road.Bdy := (⟨"java/lang/StringUTF16", "compress", "([CI[BII)I"⟩, jdk_52_method_21_code, 7, (some .int), { frames := 0, cells := 0, slots := 0, locals := 0 })
theorem bCmp5_d0 : decode bCmp5.bs 0 = .ok (.iconst 0, 1) := by decide +kernel
theorem bCmp5_d1 : decode bCmp5.bs 1 = .ok (.istore 5, 2) := by decide +kernel
theorem bCmp5_d3 : decode bCmp5.bs 3 = .ok (.iload 5, 2) := by decide +kernel
theorem bCmp5_d5 : decode bCmp5.bs 5 = .ok (.iload 4, 2) := by decide +kernel
theorem bCmp5_d7 : decode bCmp5.bs 7 = .ok (.if_icmp .ge 37, 3) := by decide +kernel
theorem bCmp5_d10 : decode bCmp5.bs 10 = .ok (.aload_n 0, 1) := by decide +kernel
theorem bCmp5_d11 : decode bCmp5.bs 11 = .ok (.iload_n 1, 1) := by decide +kernel
theorem bCmp5_d12 : decode bCmp5.bs 12 = .ok (.caload, 1) := by decide +kernel
theorem bCmp5_d13 : decode bCmp5.bs 13 = .ok (.istore 6, 2) := by decide +kernel
theorem bCmp5_d15 : decode bCmp5.bs 15 = .ok (.iload 6, 2) := by decide +kernel
theorem bCmp5_d17 : decode bCmp5.bs 17 = .ok (.sipush 255, 3) := by decide +kernel
theorem bCmp5_d20 : decode bCmp5.bs 20 = .ok (.if_icmp .le 6, 3) := by decide +kernel
theorem bCmp5_d23 : decode bCmp5.bs 23 = .ok (.iload 5, 2) := by decide +kernel
theorem bCmp5_d25 : decode bCmp5.bs 25 = .ok (.ireturn, 1) := by decide +kernel
theorem bCmp5_d26 : decode bCmp5.bs 26 = .ok (.aload_n 2, 1) := by decide +kernel
theorem bCmp5_d27 : decode bCmp5.bs 27 = .ok (.iload_n 3, 1) := by decide +kernel
theorem bCmp5_d28 : decode bCmp5.bs 28 = .ok (.iload 6, 2) := by decide +kernel
theorem bCmp5_d30 : decode bCmp5.bs 30 = .ok (.i2b, 1) := by decide +kernel
theorem bCmp5_d31 : decode bCmp5.bs 31 = .ok (.bastore, 1) := by decide +kernel
theorem bCmp5_d32 : decode bCmp5.bs 32 = .ok (.iinc 1 1, 3) := by decide +kernel
theorem bCmp5_d35 : decode bCmp5.bs 35 = .ok (.iinc 3 1, 3) := by decide +kernel
theorem bCmp5_d38 : decode bCmp5.bs 38 = .ok (.iinc 5 1, 3) := by decide +kernel
theorem bCmp5_d41 : decode bCmp5.bs 41 = .ok (.goto (-38), 3) := by decide +kernel
theorem bCmp5_d44 : decode bCmp5.bs 44 = .ok (.iload 4, 2) := by decide +kernel
theorem bCmp5_d46 : decode bCmp5.bs 46 = .ok (.ireturn, 1) := by decide +kernel
theorem bCmp5_pd : parseMethodDescriptor "([CI[BII)I" = some ⟨[(.array .char), .int, (.array .byte), .int, .int], (some .int)⟩ := by decide +kernel
theorem bCmp5_pn : plainFor bCmp5.y = true := plainFor_of_name (show plainName "java/lang/StringUTF16" = true from by first | (simp [plainName, overriddenIn]; done) | decide +kernel)
theorem cCmp5 (l : Launch) (Z : State) (a0 : Array Value) (hw : ∀ d ∈ tables_1, d.before a0 Z = true) (n0 : Nat) (hEW : EW Z a0 consts_1) (b d : Addr) (cs : List Int32) (h0 : Heap) (σ : Addr → Prop) (A : Road.Ary Z h0 b .char (cs.map .int)) (Dd : Road.Ary Z h0 d .byte (List.replicate cs.length (.int 0))) (hlat : ∀ c ∈ cs, 0 ≤ c.toInt ∧ c.toInt < 256) (hbd : b ≠ d) (sd : σ d) :
    Road.Con l Z consts_1 n0 true bCmp5 [] σ #[(.ref b), (.int (0 : Int32)), (.ref d), (.int (0 : Int32)), (.int (Nat.toInt32 cs.length))] h0 (fun v h2 _ => v = some (.int (Nat.toInt32 cs.length)) ∧ Keep h0 h2 [d] ∧ Road.Ary Z h2 d .byte (cs.map Road.byt)) := by
  refine Road.Con.of bCmp5_pn hEW #[.val (.ref b), .val (.int (0 : Int32)), .val (.ref d), .val (.int (0 : Int32)), .val (.int (Nat.toInt32 cs.length)), .unset, .unset] (fun m => Road.ent (Road.laid1 rfl (Road.laid1 rfl (Road.laid1 rfl (Road.laid1 rfl (Road.laid1 rfl Road.laid0))))) (k := 2) rfl rfl) ?_
  intro D hD
  have hn : cs.length < 2147483648 := by have := A.small; rwa [List.length_map] at this
  refine Road.iconst 0 (0 : Int32) bCmp5_d0 rfl ?_
  refine Road.istore 1 #[.val (.ref b), .val (.int (0 : Int32)), .val (.ref d), .val (.int (0 : Int32)), .val (.int (Nat.toInt32 cs.length)), .val (.int (0 : Int32)), .unset] bCmp5_d1 rfl ?_
  have loop : ∀ r k, k + r = cs.length → ∀ (h : Heap) (w : Slot), Road.W1 w → Keep h0 h [d] → Road.Ary Z h d .byte ((cs.take k).map Road.byt ++ List.replicate r (.int 0)) → Road.Go l Z a0 consts_1 n0 true bCmp5 D (fun v h2 _ => v = some (.int (Nat.toInt32 cs.length)) ∧ Keep h0 h2 [d] ∧ Road.Ary Z h2 d .byte (cs.map Road.byt)) h σ 0 0 3 #[.val (.ref b), .val (.int (Nat.toInt32 k)), .val (.ref d), .val (.int (Nat.toInt32 k)), .val (.int (Nat.toInt32 cs.length)), .val (.int (Nat.toInt32 k)), w] [] := by
    intro r
    induction r with
    | zero =>
      intro k hk h w hw1 K1 A1
      have hk' : k = cs.length := by omega
      subst hk'
      refine Road.iload 3 bCmp5_d3 rfl ?_
      refine Road.iload 5 bCmp5_d5 rfl ?_
      refine Road.icmp_ge 7 44 bCmp5_d7 rfl (fun hc7 => ?_) (fun q => absurd q Int32.lt_irrefl)
      refine Road.iload 44 bCmp5_d44 rfl ?_
      exact Road.iretI 46 bCmp5_d46 rfl (by decide) (by decide) (fun σ' m => ⟨rfl, K1, by simpa using A1⟩)
    | succ r ih =>
      intro k hk h w hw1 K1 A1
      have hk' : k < cs.length := by omega
      have hc := hlat _ (List.getElem_mem hk')
      have A2 := A.keep K1 (ninS hbd nin0)
      refine Road.iload 3 bCmp5_d3 rfl ?_
      refine Road.iload 5 bCmp5_d5 rfl ?_
      refine Road.icmp_ge 7 44 bCmp5_d7 rfl (fun q => absurd q (by rw [Decidable.not_not, Road.lt32 (by omega) hn]; omega)) (fun hc7 => ?_)
      refine Road.aloadN 10 bCmp5_d10 rfl ?_
      refine Road.iloadN 11 bCmp5_d11 rfl ?_
      refine Road.caload 12 k bCmp5_d12 A2 (Road.n32 (by omega)) (by rw [List.getElem?_map, List.getElem?_eq_getElem hk']; rfl) ?_
      refine Road.istore 13 #[.val (.ref b), .val (.int (Nat.toInt32 k)), .val (.ref d), .val (.int (Nat.toInt32 k)), .val (.int (Nat.toInt32 cs.length)), .val (.int (Nat.toInt32 k)), .val (.int cs[k])] bCmp5_d13 (by rcases hw1 with rfl | ⟨x, rfl⟩ <;> rfl) ?_
      refine Road.iload 15 bCmp5_d15 rfl ?_
      refine Road.sipush 17 (255 : Int32) bCmp5_d17 rfl ?_
      refine Road.icmp_le 20 26 bCmp5_d20 rfl (fun hc20 => ?_) (fun q => absurd q (by rw [Int32.lt_iff_toInt_lt]; have : (255 : Int32).toInt = 255 := rfl; omega))
      refine Road.aloadN 26 bCmp5_d26 rfl ?_
      refine Road.iloadN 27 bCmp5_d27 rfl ?_
      refine Road.iload 28 bCmp5_d28 rfl ?_
      refine Road.i2b 30 bCmp5_d30 ?_
      refine Road.bastore 31 k (Int8.toInt32 (Int32.toInt8 cs[k])) bCmp5_d31 A1 (Road.n32 (by omega)) (by simp; omega) (Road.nar_byte _) sd ?_
      intro h_1 K_2 A_3
      replace A1 := A_3
      refine Road.iinc 32 (1) #[.val (.ref b), .val (.int ((Nat.toInt32 k) + 1)), .val (.ref d), .val (.int (Nat.toInt32 k)), .val (.int (Nat.toInt32 cs.length)), .val (.int (Nat.toInt32 k)), .val (.int cs[k])] bCmp5_d32 rfl rfl rfl ?_
      refine Road.iinc 35 (1) #[.val (.ref b), .val (.int ((Nat.toInt32 k) + 1)), .val (.ref d), .val (.int ((Nat.toInt32 k) + 1)), .val (.int (Nat.toInt32 cs.length)), .val (.int (Nat.toInt32 k)), .val (.int cs[k])] bCmp5_d35 rfl rfl rfl ?_
      refine Road.iinc 38 (1) #[.val (.ref b), .val (.int ((Nat.toInt32 k) + 1)), .val (.ref d), .val (.int ((Nat.toInt32 k) + 1)), .val (.int (Nat.toInt32 cs.length)), .val (.int ((Nat.toInt32 k) + 1)), .val (.int cs[k])] bCmp5_d38 rfl rfl rfl ?_
      refine Road.goto 41 3 bCmp5_d41 rfl ?_
      rw [show (Value.int (Int8.toInt32 (Int32.toInt8 cs[k]))) = Road.byt cs[k] from rfl, Road.set_mid] at A1
      have := ih (k + 1) (by omega) h_1 (.val (.int cs[k])) (Or.inr ⟨_, rfl⟩) (K1.trans K_2 (by simp)) A1
      rw [← Road.succ32] at this
      exact this
  exact loop cs.length 0 (by omega) h0 .unset (Or.inl rfl) (Keep.refl _ _) (by simpa using Dd)
def bCfa : Road.Bdy := (⟨"java/lang/StringUTF16", "coderFromArrayLen", "([BI)B"⟩, jdk_52_method_15_code, 2, (some .byte), { frames := 0, cells := 0, slots := 0, locals := 0 })
theorem bCfa_d0 : decode bCfa.bs 0 = .ok (.iload_n 1, 1) := by decide +kernel
theorem bCfa_d1 : decode bCfa.bs 1 = .ok (.aload_n 0, 1) := by decide +kernel
theorem bCfa_d2 : decode bCfa.bs 2 = .ok (.arraylength, 1) := by decide +kernel
theorem bCfa_d3 : decode bCfa.bs 3 = .ok (.isub, 1) := by decide +kernel
theorem bCfa_d4 : decode bCfa.bs 4 = .ok (.bipush 31, 2) := by decide +kernel
theorem bCfa_d6 : decode bCfa.bs 6 = .ok (.iushr, 1) := by decide +kernel
theorem bCfa_d7 : decode bCfa.bs 7 = .ok (.i2b, 1) := by decide +kernel
theorem bCfa_d8 : decode bCfa.bs 8 = .ok (.ireturn, 1) := by decide +kernel
theorem bCfa_pd : parseMethodDescriptor "([BI)B" = some ⟨[(.array .byte), .int], (some .byte)⟩ := by decide +kernel
theorem bCfa_pn : plainFor bCfa.y = true := plainFor_of_name (show plainName "java/lang/StringUTF16" = true from by first | (simp [plainName, overriddenIn]; done) | decide +kernel)
theorem cCfa (l : Launch) (Z : State) (a0 : Array Value) (hw : ∀ d ∈ tables_1, d.before a0 Z = true) (n0 : Nat) (hEW : EW Z a0 consts_1) (d : Addr) (vs : List Value) (h0 : Heap) (σ : Addr → Prop) (A : Road.Ary Z h0 d .byte vs) :
    Road.Con l Z consts_1 n0 true bCfa [] σ #[(.ref d), (.int (Nat.toInt32 vs.length))] h0 (fun v h2 _ => v = some (.int 0) ∧ h0 = h2) := by
  refine Road.Con.of bCfa_pn hEW #[.val (.ref d), .val (.int (Nat.toInt32 vs.length))] (fun m => Road.ent (Road.laid1 rfl (Road.laid1 rfl Road.laid0)) (k := 0) rfl rfl) ?_
  intro D hD
  refine Road.iloadN 0 bCfa_d0 rfl ?_
  refine Road.aloadN 1 bCfa_d1 rfl ?_
  refine Road.alen 2 (Nat.toInt32 vs.length) bCfa_d2 A (n := vs.length) rfl rfl ?_
  refine Road.isub 3 bCfa_d3 ?_
  refine Road.bipush 4 (31 : Int32) bCfa_d4 rfl ?_
  refine Road.iushr 6 bCfa_d6 ?_
  refine Road.i2b 7 bCfa_d7 ?_
  exact Road.iret 8 0 bCfa_d8 (t := .byte) rfl (by simp) (by rw [Int32.sub_self]; rfl) (by decide) (by decide) (fun σ' m => ⟨rfl, rfl⟩)
def bCmp4 : Road.Bdy := (⟨"java/lang/StringUTF16", "compress", "([CII)[B"⟩, jdk_52_method_16_code, 6, (some (.array .byte)), { frames := 1, cells := 1, slots := 4, locals := 18 })
theorem bCmp4_d0 : decode bCmp4.bs 0 = .ok (.iload_n 2, 1) := by decide +kernel
theorem bCmp4_d1 : decode bCmp4.bs 1 = .ok (.newarray .byte, 2) := by decide +kernel
theorem bCmp4_d3 : decode bCmp4.bs 3 = .ok (.astore_n 3, 1) := by decide +kernel
theorem bCmp4_d4 : decode bCmp4.bs 4 = .ok (.aload_n 0, 1) := by decide +kernel
theorem bCmp4_d5 : decode bCmp4.bs 5 = .ok (.iload_n 1, 1) := by decide +kernel
theorem bCmp4_d6 : decode bCmp4.bs 6 = .ok (.aload_n 3, 1) := by decide +kernel
theorem bCmp4_d7 : decode bCmp4.bs 7 = .ok (.iconst 0, 1) := by decide +kernel
theorem bCmp4_d8 : decode bCmp4.bs 8 = .ok (.iload_n 2, 1) := by decide +kernel
theorem bCmp4_d9 : decode bCmp4.bs 9 = .ok (.invokestatic 115, 3) := by decide +kernel
theorem bCmp4_d12 : decode bCmp4.bs 12 = .ok (.istore 4, 2) := by decide +kernel
theorem bCmp4_d14 : decode bCmp4.bs 14 = .ok (.iload 4, 2) := by decide +kernel
theorem bCmp4_d16 : decode bCmp4.bs 16 = .ok (.iload_n 2, 1) := by decide +kernel
theorem bCmp4_d17 : decode bCmp4.bs 17 = .ok (.if_icmp .eq 40, 3) := by decide +kernel
theorem bCmp4_d20 : decode bCmp4.bs 20 = .ok (.aload_n 0, 1) := by decide +kernel
theorem bCmp4_d21 : decode bCmp4.bs 21 = .ok (.iload_n 1, 1) := by decide +kernel
theorem bCmp4_d22 : decode bCmp4.bs 22 = .ok (.iload_n 2, 1) := by decide +kernel
theorem bCmp4_d23 : decode bCmp4.bs 23 = .ok (.invokestatic 119, 3) := by decide +kernel
theorem bCmp4_d26 : decode bCmp4.bs 26 = .ok (.astore 5, 2) := by decide +kernel
theorem bCmp4_d28 : decode bCmp4.bs 28 = .ok (.aload 5, 2) := by decide +kernel
theorem bCmp4_d30 : decode bCmp4.bs 30 = .ok (.iload 4, 2) := by decide +kernel
theorem bCmp4_d32 : decode bCmp4.bs 32 = .ok (.invokestatic 71, 3) := by decide +kernel
theorem bCmp4_d35 : decode bCmp4.bs 35 = .ok (.sipush 255, 3) := by decide +kernel
theorem bCmp4_d38 : decode bCmp4.bs 38 = .ok (.if_icmp .gt 16, 3) := by decide +kernel
theorem bCmp4_d41 : decode bCmp4.bs 41 = .ok (.aload 5, 2) := by decide +kernel
theorem bCmp4_d43 : decode bCmp4.bs 43 = .ok (.iconst 0, 1) := by decide +kernel
theorem bCmp4_d44 : decode bCmp4.bs 44 = .ok (.aload_n 3, 1) := by decide +kernel
theorem bCmp4_d45 : decode bCmp4.bs 45 = .ok (.iconst 0, 1) := by decide +kernel
theorem bCmp4_d46 : decode bCmp4.bs 46 = .ok (.iload_n 2, 1) := by decide +kernel
theorem bCmp4_d47 : decode bCmp4.bs 47 = .ok (.invokestatic 123, 3) := by decide +kernel
theorem bCmp4_d50 : decode bCmp4.bs 50 = .ok (.iload_n 2, 1) := by decide +kernel
theorem bCmp4_d51 : decode bCmp4.bs 51 = .ok (.if_icmp .eq 6, 3) := by decide +kernel
theorem bCmp4_d54 : decode bCmp4.bs 54 = .ok (.aload 5, 2) := by decide +kernel
theorem bCmp4_d56 : decode bCmp4.bs 56 = .ok (.areturn, 1) := by decide +kernel
theorem bCmp4_d57 : decode bCmp4.bs 57 = .ok (.aload_n 3, 1) := by decide +kernel
theorem bCmp4_d58 : decode bCmp4.bs 58 = .ok (.areturn, 1) := by decide +kernel
theorem bCmp4_pd : parseMethodDescriptor "([CII)[B" = some ⟨[(.array .char), .int, .int], (some (.array .byte))⟩ := by decide +kernel
theorem bCmp4_pn : plainFor bCmp4.y = true := plainFor_of_name (show plainName "java/lang/StringUTF16" = true from by first | (simp [plainName, overriddenIn]; done) | decide +kernel)
theorem cCmp4 (l : Launch) (Z : State) (a0 : Array Value) (hw : ∀ d ∈ tables_1, d.before a0 Z = true) (n0 : Nat) (hEW : EW Z a0 consts_1) (b : Addr) (cs : List Int32) (h0 : Heap) (σ : Addr → Prop) (A : Road.Ary Z h0 b .char (cs.map .int)) (hcap : cs.length ≤ 4) (hlat : ∀ c ∈ cs, 0 ≤ c.toInt ∧ c.toInt < 256) :
    Road.Con l Z consts_1 n0 true bCmp4 [] σ #[(.ref b), (.int (0 : Int32)), (.int (Nat.toInt32 cs.length))] h0 (fun v h2 s2 => ∃ d, v = some (.ref d) ∧ h0.size ≤ d ∧ Keep h0 h2 [] ∧ s2 d ∧ Road.Ary Z h2 d .byte (cs.map Road.byt)) := by
  refine Road.Con.of bCmp4_pn hEW #[.val (.ref b), .val (.int (0 : Int32)), .val (.int (Nat.toInt32 cs.length)), .unset, .unset, .unset] (fun m => Road.ent (Road.laid1 rfl (Road.laid1 rfl (Road.laid1 rfl Road.laid0))) (k := 3) rfl rfl) ?_
  intro D hD
  refine Road.iloadN 0 bCmp4_d0 rfl ?_
  refine Road.newarray 1 .byte cs.length 4 bCmp4_d1 rfl (wI hw 15 rfl) (Road.n32 (by omega)) hcap (by decide) (ce' := 1) (sl' := 4) rfl rfl (by decide) (by decide) ?_
  intro d h_1 σ_2 g_3 K_4 lt_5 m_6 s_7 Ad
  have ne_b_d : b ≠ d := Nat.ne_of_lt (Nat.lt_of_lt_of_le A.lt (Nat.le_of_eq g_3.symm))
  replace A := A.keep K_4 nin0
  refine Road.astoreN 3 #[.val (.ref b), .val (.int (0 : Int32)), .val (.int (Nat.toInt32 cs.length)), .val (.ref d), .unset, .unset] bCmp4_d3 rfl ?_
  refine Road.aloadN 4 bCmp4_d4 rfl ?_
  refine Road.iloadN 5 bCmp4_d5 rfl ?_
  refine Road.aloadN 6 bCmp4_d6 rfl ?_
  refine Road.iconst 7 (0 : Int32) bCmp4_d7 rfl ?_
  refine Road.iloadN 8 bCmp4_d8 rfl ?_
  refine Road.callS (B' := bCmp5) 9 (argsL := [(.ref b), (.int (0 : Int32)), (.ref d), (.int (0 : Int32)), (.int (Nat.toInt32 cs.length))]) (rest := []) 0 bCmp4_d9 (wI hw 109 rfl) (wI hw 110 rfl) (wI hw 107 rfl) (wI hw 111 rfl) (by decide) (cCmp5 l Z a0 hw n0 hEW b d cs h_1 σ_2 A Ad hlat ne_b_d s_7) (lenOf bCmp5_pd rfl) rfl rfl rfl (by decide) (by decide) (ce' := 1) (sl' := 4) rfl rfl (by decide) (by decide) ?_
  rintro _ h_8 σ_9 m_10 ⟨rfl, K_11, Ad2⟩
  replace A := A.keep K_11 (ninS ne_b_d nin0)
  replace s_7 := m_10 _ s_7
  refine Road.istore 12 #[.val (.ref b), .val (.int (0 : Int32)), .val (.int (Nat.toInt32 cs.length)), .val (.ref d), .val (.int (Nat.toInt32 cs.length)), .unset] bCmp4_d12 rfl ?_
  refine Road.iload 14 bCmp4_d14 rfl ?_
  refine Road.iloadN 16 bCmp4_d16 rfl ?_
  refine Road.icmp_eq 17 57 bCmp4_d17 rfl (fun hc17 => ?_) (fun q => absurd q (by simp))
  refine Road.aloadN 57 bCmp4_d57 rfl ?_
  exact Road.aret 58 bCmp4_d58 (t := (.array .byte)) rfl rfl rfl (by decide) (by decide) (fun σ' m => ⟨d, rfl, Nat.le_of_eq g_3.symm, K_4.trans K_11 (by intro x hx; cases List.mem_singleton.mp hx; exact Or.inr (Nat.le_of_eq g_3.symm)), m _ s_7, Ad2⟩)
def bStr2 : Road.Bdy := (⟨"java/lang/String", "<init>", "([CIILjava/lang/Void;)V"⟩, jdk_42_method_149_code, 6, none, { frames := 2, cells := 4, slots := 8, locals := 39 })
theorem bStr2_d0 : decode bStr2.bs 0 = .ok (.aload_n 0, 1) := by decide +kernel
theorem bStr2_d1 : decode bStr2.bs 1 = .ok (.invokespecial 1, 3) := by decide +kernel
theorem bStr2_d4 : decode bStr2.bs 4 = .ok (.iload_n 3, 1) := by decide +kernel
theorem bStr2_d5 : decode bStr2.bs 5 = .ok (.ifCond .ne 22, 3) := by decide +kernel
theorem bStr2_d8 : decode bStr2.bs 8 = .ok (.aload_n 0, 1) := by decide +kernel
theorem bStr2_d9 : decode bStr2.bs 9 = .ok (.ldc 7, 2) := by decide +kernel
theorem bStr2_d11 : decode bStr2.bs 11 = .ok (.getfield 9, 3) := by decide +kernel
theorem bStr2_d14 : decode bStr2.bs 14 = .ok (.putfield 9, 3) := by decide +kernel
theorem bStr2_d17 : decode bStr2.bs 17 = .ok (.aload_n 0, 1) := by decide +kernel
theorem bStr2_d18 : decode bStr2.bs 18 = .ok (.ldc 7, 2) := by decide +kernel
theorem bStr2_d20 : decode bStr2.bs 20 = .ok (.getfield 15, 3) := by decide +kernel
theorem bStr2_d23 : decode bStr2.bs 23 = .ok (.putfield 15, 3) := by decide +kernel
theorem bStr2_d26 : decode bStr2.bs 26 = .ok (.return_, 1) := by decide +kernel
theorem bStr2_d27 : decode bStr2.bs 27 = .ok (.getstatic 38, 3) := by decide +kernel
theorem bStr2_d30 : decode bStr2.bs 30 = .ok (.ifCond .eq 28, 3) := by decide +kernel
theorem bStr2_d33 : decode bStr2.bs 33 = .ok (.aload_n 1, 1) := by decide +kernel
theorem bStr2_d34 : decode bStr2.bs 34 = .ok (.iload_n 2, 1) := by decide +kernel
theorem bStr2_d35 : decode bStr2.bs 35 = .ok (.iload_n 3, 1) := by decide +kernel
theorem bStr2_d36 : decode bStr2.bs 36 = .ok (.invokestatic 177, 3) := by decide +kernel
theorem bStr2_d39 : decode bStr2.bs 39 = .ok (.astore 5, 2) := by decide +kernel
theorem bStr2_d41 : decode bStr2.bs 41 = .ok (.aload_n 0, 1) := by decide +kernel
theorem bStr2_d42 : decode bStr2.bs 42 = .ok (.aload 5, 2) := by decide +kernel
theorem bStr2_d44 : decode bStr2.bs 44 = .ok (.iload_n 3, 1) := by decide +kernel
theorem bStr2_d45 : decode bStr2.bs 45 = .ok (.invokestatic 47, 3) := by decide +kernel
theorem bStr2_d48 : decode bStr2.bs 48 = .ok (.putfield 15, 3) := by decide +kernel
theorem bStr2_d51 : decode bStr2.bs 51 = .ok (.aload_n 0, 1) := by decide +kernel
theorem bStr2_d52 : decode bStr2.bs 52 = .ok (.aload 5, 2) := by decide +kernel
theorem bStr2_d54 : decode bStr2.bs 54 = .ok (.putfield 9, 3) := by decide +kernel
theorem bStr2_d57 : decode bStr2.bs 57 = .ok (.return_, 1) := by decide +kernel
theorem bStr2_d58 : decode bStr2.bs 58 = .ok (.aload_n 0, 1) := by decide +kernel
theorem bStr2_d59 : decode bStr2.bs 59 = .ok (.iconst 1, 1) := by decide +kernel
theorem bStr2_d60 : decode bStr2.bs 60 = .ok (.putfield 15, 3) := by decide +kernel
theorem bStr2_d63 : decode bStr2.bs 63 = .ok (.aload_n 0, 1) := by decide +kernel
theorem bStr2_d64 : decode bStr2.bs 64 = .ok (.aload_n 1, 1) := by decide +kernel
theorem bStr2_d65 : decode bStr2.bs 65 = .ok (.iload_n 2, 1) := by decide +kernel
theorem bStr2_d66 : decode bStr2.bs 66 = .ok (.iload_n 3, 1) := by decide +kernel
theorem bStr2_d67 : decode bStr2.bs 67 = .ok (.invokestatic 180, 3) := by decide +kernel
theorem bStr2_d70 : decode bStr2.bs 70 = .ok (.putfield 9, 3) := by decide +kernel
theorem bStr2_d73 : decode bStr2.bs 73 = .ok (.return_, 1) := by decide +kernel
theorem bStr2_pd : parseMethodDescriptor "([CIILjava/lang/Void;)V" = some ⟨[(.array .char), .int, .int, (.object "java/lang/Void")], none⟩ := by decide +kernel
theorem bStr2_pn : plainFor bStr2.y = true := plainFor_of_name (show plainName "java/lang/String" = true from by first | (simp [plainName, overriddenIn]; done) | decide +kernel)
theorem cStr2 (l : Launch) (Z : State) (a0 : Array Value) (hw : ∀ d ∈ tables_1, d.before a0 Z = true) (n0 : Nat) (hEW : EW Z a0 consts_1) (a b : Addr) (cs : List Int32) (h0 : Heap) (σ : Addr → Prop) (E : Exa Z h0 a Road.SN) (Fc : Fld Z h0 a Road.SN "coder" "B" (.int 0)) (Fv : Fld Z h0 a Road.SN "value" "[B" .null) (A : Road.Ary Z h0 b .char (cs.map .int)) (hcap : cs.length ≤ 4) (hlat : ∀ c ∈ cs, 0 ≤ c.toInt ∧ c.toInt < 256) (sa : σ a) (cp : Int32) (Hc : Sta Z Z.heap Road.SN "COMPACT_STRINGS" "Z" (.int cp)) (hcp : ¬ cp = 0) :
    Road.Con l Z consts_1 n0 true bStr2 [] σ #[(.ref a), (.ref b), (.int (0 : Int32)), (.int (Nat.toInt32 cs.length)), .null] h0 (fun v h2 s2 => v = none ∧ Keep h0 h2 [a] ∧ ∃ d, Road.Str Z h2 a d cs ∧ ∀ x, σ x → x ≠ d) := by
  have wS : ∀ d ∈ Bundle.stringAtoms, d.before a0 Z = true := fun d hd => hw d ((by decide +kernel : ∀ d ∈ Bundle.stringAtoms, d ∈ tables_1) d hd)
  have nab : a ≠ b := by obtain ⟨c, Ar, -⟩ := A; exact ne_arr E (wI hw 2 rfl) Ar
  refine Road.Con.of bStr2_pn hEW #[.val (.ref a), .val (.ref b), .val (.int (0 : Int32)), .val (.int (Nat.toInt32 cs.length)), .val .null, .unset] (fun m => Road.ent (Road.laid1 rfl (Road.laid1 rfl (Road.laid1 rfl (Road.laid1 rfl (Road.laid1 rfl Road.laid0))))) (k := 1) rfl rfl) ?_
  intro D hD
  refine Road.Go.ownAll ?_
  intro hall
  refine Road.aloadN 0 bStr2_d0 rfl ?_
  refine Road.initObj 1 bStr2_d1 (wI hw 11 rfl) (wI hw 12 rfl) (wI hw 13 rfl) 0 rfl rfl (by decide) (by decide) ?_
  refine Road.iloadN 4 bStr2_d4 rfl ?_
  refine Road.if_ne 5 27 bStr2_d5 rfl (fun hc5 => ?_) (fun hc5 => ?_)
  · skip
    refine Road.getstatic 27 bStr2_d27 (wI hw 104 rfl) Via.refl Hc ?_
    refine Road.if_eq 30 58 bStr2_d30 rfl (fun q => absurd q hcp) (fun hc30 => ?_)
    refine Road.aloadN 33 bStr2_d33 rfl ?_
    refine Road.iloadN 34 bStr2_d34 rfl ?_
    refine Road.iloadN 35 bStr2_d35 rfl ?_
    refine Road.callS (B' := bCmp4) 36 (argsL := [(.ref b), (.int (0 : Int32)), (.int (Nat.toInt32 cs.length))]) (rest := []) 0 bStr2_d36 (wI hw 105 rfl) (wI hw 106 rfl) (wI hw 107 rfl) (wI hw 108 rfl) (by decide) (cCmp4 l Z a0 hw n0 hEW b cs h0 σ A hcap hlat) (lenOf bCmp4_pd rfl) rfl rfl rfl (by decide) (by decide) (ce' := 1) (sl' := 4) rfl rfl (by decide) (by decide) ?_
    rintro _ h_1 σ_2 m_3 ⟨d, rfl, gd, K_4, sd, Ad⟩
    have ne_a_d : a ≠ d := Nat.ne_of_lt (Nat.lt_of_lt_of_le E.lt gd)
    have ne_b_d : b ≠ d := Nat.ne_of_lt (Nat.lt_of_lt_of_le A.lt gd)
    replace E := E.keep K_4
    replace Fc := Fc.keep K_4 nin0
    replace Fv := Fv.keep K_4 nin0
    replace A := A.keep K_4 nin0
    replace sa := m_3 _ sa
    refine Road.astore 39 #[.val (.ref a), .val (.ref b), .val (.int (0 : Int32)), .val (.int (Nat.toInt32 cs.length)), .val .null, .val (.ref d)] bStr2_d39 rfl ?_
    refine Road.aloadN 41 bStr2_d41 rfl ?_
    refine Road.aload 42 bStr2_d42 rfl ?_
    refine Road.iloadN 44 bStr2_d44 rfl ?_
    have hlm : (cs.map Road.byt).length = cs.length := List.length_map _
    refine Road.callS (B' := bCfa) 45 (argsL := [(.ref d), (.int (Nat.toInt32 cs.length))]) (rest := [(.ref a)]) 1 bStr2_d45 (wI hw 112 rfl) (wI hw 113 rfl) (wI hw 107 rfl) (wI hw 114 rfl) (by decide) (by rw [← List.length_map (f := Road.byt) (as := cs)]; exact cCfa l Z a0 hw n0 hEW d (cs.map Road.byt) h_1 σ_2 Ad) (lenOf bCfa_pd rfl) rfl rfl rfl (by decide) (by decide) (ce' := 1) (sl' := 4) rfl rfl (by decide) (by decide) ?_
    rintro _ h_6 σ_7 m_8 ⟨rfl, rfl⟩
    refine Road.Go.weaken (σ' := σ_2) m_8 (Nat.le_refl _) (Nat.le_refl _) ?_
    refine Road.putfield 48 bStr2_d48 (wI hw 21 rfl) Via.refl Fc E (Or.inr ⟨(wI hw 17 rfl), rfl, rfl⟩) (wI hw 2 rfl) (ty := .byte) (by decide) rfl rfl sa ?_
    intro h_12 W_10 K_11
    replace Fc := Fc.same W_10
    replace Fv := Fv.other W_10 (Or.inr (slot_ne (Or.inr (wI hw 16 rfl)) (Or.inr (wI hw 17 rfl)) (by decide) (t := (.array .byte)) (by decide) (t' := .byte) (by decide)))
    replace E := E.keep K_11
    replace A := A.keep K_11 (ninS (Ne.symm nab) nin0)
    replace Ad := Ad.keep K_11 (ninS (Ne.symm ne_a_d) nin0)
    refine Road.aloadN 51 bStr2_d51 rfl ?_
    refine Road.aload 52 bStr2_d52 rfl ?_
    refine Road.putfield 54 bStr2_d54 (wI hw 20 rfl) Via.refl Fv E (Or.inr ⟨(wI hw 16 rfl), rfl, rfl⟩) (wI hw 2 rfl) (ty := (.array .byte)) (by decide) rfl rfl sa ?_
    intro h_15 W_13 K_14
    replace Fv := Fv.same W_13
    replace Fc := Fc.other W_13 (Or.inr (slot_ne (Or.inr (wI hw 17 rfl)) (Or.inr (wI hw 16 rfl)) (by decide) (t := .byte) (by decide) (t' := (.array .byte)) (by decide)))
    replace E := E.keep K_14
    replace A := A.keep K_14 (ninS (Ne.symm nab) nin0)
    replace Ad := Ad.keep K_14 (ninS (Ne.symm ne_a_d) nin0)
    exact Road.ret 57 bStr2_d57 rfl (by decide) (by decide) (fun σ' m => ⟨rfl, ((Road.keep_more K_4).trans K_11 (by simp)).trans K_14 (by simp), d, ⟨E, Fc, Fv, Ad, hlat⟩, fun x hx => Nat.ne_of_lt (Nat.lt_of_lt_of_le (hall x hx).2 gd)⟩)
  · skip
    have hc0 : cs = [] := List.eq_nil_of_length_eq_zero (by have := (Road.eq32 (i := cs.length) (j := 0) (by omega) (by omega)).mp hc5; exact this)
    subst hc0
    refine Road.aloadN 8 bStr2_d8 rfl ?_
    refine Road.ldcS 9 "" [] 0 bStr2_d9 (wI hw 14 rfl) wS (List.mem_of_getElem? (i := 0) rfl) (by decide) (by decide +kernel) (by decide) (by decide) (by decide) (ce' := 2) (sl' := 4) rfl rfl (by decide) (by decide) ?_
    intro a1 b1 h_16 σ_17 K_18 m_19 S1 q_20
    replace E := E.keep K_18
    replace Fc := Fc.keep K_18 nin0
    replace Fv := Fv.keep K_18 nin0
    replace A := A.keep K_18 nin0
    replace sa := m_19 _ sa
    have ne_a_a1 : a ≠ a1 := (q_20 a sa).1
    have ne_a_b1 : a ≠ b1 := (q_20 a sa).2
    refine Road.getfield 11 bStr2_d11 (wI hw 20 rfl) Via.refl S1.2.2.1 ?_
    refine Road.putfield 14 bStr2_d14 (wI hw 20 rfl) Via.refl Fv E (Or.inr ⟨(wI hw 16 rfl), rfl, rfl⟩) (wI hw 2 rfl) (ty := (.array .byte)) (by decide) rfl rfl sa ?_
    intro h_24 W_22 K_23
    replace Fv := Fv.same W_22
    replace Fc := Fc.other W_22 (Or.inr (slot_ne (Or.inr (wI hw 17 rfl)) (Or.inr (wI hw 16 rfl)) (by decide) (t := .byte) (by decide) (t' := (.array .byte)) (by decide)))
    replace E := E.keep K_23
    replace A := A.keep K_23 (ninS (Ne.symm nab) nin0)
    replace S1 := S1.keep K_23 (ninS (Ne.symm ne_a_a1) nin0) (ninS (Ne.symm ne_a_b1) nin0)
    refine Road.aloadN 17 bStr2_d17 rfl ?_
    refine Road.ldcS 18 "" [] 0 bStr2_d18 (wI hw 14 rfl) wS (List.mem_of_getElem? (i := 0) rfl) (by decide) (by decide +kernel) (by decide) (by decide) (by decide) (ce' := 4) (sl' := 8) rfl rfl (by decide) (by decide) ?_
    intro a2 b2 h_25 σ_26 K_27 m_28 S2 q_29
    replace E := E.keep K_27
    replace Fc := Fc.keep K_27 nin0
    replace Fv := Fv.keep K_27 nin0
    replace A := A.keep K_27 nin0
    replace S1 := S1.keep K_27 nin0 nin0
    replace sa := m_28 _ sa
    have ne_a_a2 : a ≠ a2 := (q_29 a sa).1
    have ne_a_b2 : a ≠ b2 := (q_29 a sa).2
    refine Road.getfield 20 bStr2_d20 (wI hw 21 rfl) Via.refl S2.2.1 ?_
    refine Road.putfield 23 bStr2_d23 (wI hw 21 rfl) Via.refl Fc E (Or.inr ⟨(wI hw 17 rfl), rfl, rfl⟩) (wI hw 2 rfl) (ty := .byte) (by decide) rfl rfl sa ?_
    intro h_33 W_31 K_32
    replace Fc := Fc.same W_31
    replace Fv := Fv.other W_31 (Or.inr (slot_ne (Or.inr (wI hw 16 rfl)) (Or.inr (wI hw 17 rfl)) (by decide) (t := (.array .byte)) (by decide) (t' := .byte) (by decide)))
    replace E := E.keep K_32
    replace A := A.keep K_32 (ninS (Ne.symm nab) nin0)
    replace S1 := S1.keep K_32 (ninS (Ne.symm ne_a_a1) nin0) (ninS (Ne.symm ne_a_b1) nin0)
    replace S2 := S2.keep K_32 (ninS (Ne.symm ne_a_a2) nin0) (ninS (Ne.symm ne_a_b2) nin0)
    exact Road.ret 26 bStr2_d26 rfl (by decide) (by decide) (fun σ' m => ⟨rfl, (((((Road.keep_more K_18).trans K_23 (by simp)).trans K_27 (by simp)).trans K_32 (by simp))), b1, ⟨E, Fc, Fv, S1.2.2.2.1, S1.2.2.2.2⟩, fun x hx => (q_20 x (m_19 x hx)).2⟩)
def bStr1 : Road.Bdy := (⟨"java/lang/String", "<init>", "([C)V"⟩, jdk_42_method_3_code, 2, none, { frames := 3, cells := 4, slots := 8, locals := 56 })
theorem bStr1_d0 : decode bStr1.bs 0 = .ok (.aload_n 0, 1) := by decide +kernel
theorem bStr1_d1 : decode bStr1.bs 1 = .ok (.aload_n 1, 1) := by decide +kernel
theorem bStr1_d2 : decode bStr1.bs 2 = .ok (.iconst 0, 1) := by decide +kernel
theorem bStr1_d3 : decode bStr1.bs 3 = .ok (.aload_n 1, 1) := by decide +kernel
theorem bStr1_d4 : decode bStr1.bs 4 = .ok (.arraylength, 1) := by decide +kernel
theorem bStr1_d5 : decode bStr1.bs 5 = .ok (.aconst_null, 1) := by decide +kernel
theorem bStr1_d6 : decode bStr1.bs 6 = .ok (.invokespecial 27, 3) := by decide +kernel
theorem bStr1_d9 : decode bStr1.bs 9 = .ok (.return_, 1) := by decide +kernel
theorem bStr1_pd : parseMethodDescriptor "([C)V" = some ⟨[(.array .char)], none⟩ := by decide +kernel
theorem bStr1_pn : plainFor bStr1.y = true := plainFor_of_name (show plainName "java/lang/String" = true from by first | (simp [plainName, overriddenIn]; done) | decide +kernel)
theorem cStr1 (l : Launch) (Z : State) (a0 : Array Value) (hw : ∀ d ∈ tables_1, d.before a0 Z = true) (n0 : Nat) (hEW : EW Z a0 consts_1) (a b : Addr) (cs : List Int32) (h0 : Heap) (σ : Addr → Prop) (E : Exa Z h0 a Road.SN) (Fc : Fld Z h0 a Road.SN "coder" "B" (.int 0)) (Fv : Fld Z h0 a Road.SN "value" "[B" .null) (A : Road.Ary Z h0 b .char (cs.map .int)) (hcap : cs.length ≤ 4) (hlat : ∀ c ∈ cs, 0 ≤ c.toInt ∧ c.toInt < 256) (sa : σ a) (cp : Int32) (Hc : Sta Z Z.heap Road.SN "COMPACT_STRINGS" "Z" (.int cp)) (hcp : ¬ cp = 0) :
    Road.Con l Z consts_1 n0 true bStr1 [] σ #[(.ref a), (.ref b)] h0 (fun v h2 s2 => v = none ∧ Keep h0 h2 [a] ∧ ∃ d, Road.Str Z h2 a d cs ∧ ∀ x, σ x → x ≠ d) := by
  refine Road.Con.of bStr1_pn hEW #[.val (.ref a), .val (.ref b)] (fun m => Road.ent (Road.laid1 rfl (Road.laid1 rfl Road.laid0)) (k := 0) rfl rfl) ?_
  intro D hD
  refine Road.aloadN 0 bStr1_d0 rfl ?_
  refine Road.aloadN 1 bStr1_d1 rfl ?_
  refine Road.iconst 2 (0 : Int32) bStr1_d2 rfl ?_
  refine Road.aloadN 3 bStr1_d3 rfl ?_
  refine Road.alen 4 (Nat.toInt32 cs.length) bStr1_d4 A (n := cs.length) (List.length_map _) rfl ?_
  refine Road.aconstNull 5 bStr1_d5 ?_
  refine Road.callI (B' := bStr2) (a := a) 6 (argsL := [(.ref b), (.int (0 : Int32)), (.int (Nat.toInt32 cs.length)), .null]) (rest := []) 0 bStr1_d6 (wI hw 7 rfl) (wI hw 8 rfl) (wI hw 3 rfl) (wI hw 10 rfl) rfl rfl (by decide) (cStr2 l Z a0 hw n0 hEW a b cs h0 σ E Fc Fv A hcap hlat sa cp Hc hcp) (lenOf bStr2_pd rfl) rfl rfl rfl (by decide) (by decide) (ce' := 4) (sl' := 8) rfl rfl (by decide) (by decide) ?_
  rintro _ h_1 σ_2 m_3 ⟨rfl, K_4, d, S, hd⟩
  exact Road.ret 9 bStr1_d9 rfl (by decide) (by decide) (fun σ' m => ⟨rfl, K_4, d, S, hd⟩)
def bEqS : Road.Bdy := (⟨"java/lang/String", "equals", "(Ljava/lang/Object;)Z"⟩, jdk_42_method_66_code, 3, (some .boolean), { frames := 0, cells := 0, slots := 0, locals := 0 })
theorem bEqS_d0 : decode bEqS.bs 0 = .ok (.aload_n 0, 1) := by decide +kernel
theorem bEqS_d1 : decode bEqS.bs 1 = .ok (.aload_n 1, 1) := by decide +kernel
theorem bEqS_d2 : decode bEqS.bs 2 = .ok (.if_acmp .ne 5, 3) := by decide +kernel
theorem bEqS_d5 : decode bEqS.bs 5 = .ok (.iconst 1, 1) := by decide +kernel
theorem bEqS_d6 : decode bEqS.bs 6 = .ok (.ireturn, 1) := by decide +kernel
theorem bEqS_d7 : decode bEqS.bs 7 = .ok (.aload_n 1, 1) := by decide +kernel
theorem bEqS_d8 : decode bEqS.bs 8 = .ok (.instanceof 10, 3) := by decide +kernel
theorem bEqS_d11 : decode bEqS.bs 11 = .ok (.ifCond .eq 43, 3) := by decide +kernel
theorem bEqS_d14 : decode bEqS.bs 14 = .ok (.aload_n 1, 1) := by decide +kernel
theorem bEqS_d15 : decode bEqS.bs 15 = .ok (.checkcast 10, 3) := by decide +kernel
theorem bEqS_d18 : decode bEqS.bs 18 = .ok (.astore_n 2, 1) := by decide +kernel
theorem bEqS_d19 : decode bEqS.bs 19 = .ok (.getstatic 38, 3) := by decide +kernel
theorem bEqS_d22 : decode bEqS.bs 22 = .ok (.ifCond .eq 14, 3) := by decide +kernel
theorem bEqS_d25 : decode bEqS.bs 25 = .ok (.aload_n 0, 1) := by decide +kernel
theorem bEqS_d26 : decode bEqS.bs 26 = .ok (.getfield 15, 3) := by decide +kernel
theorem bEqS_d29 : decode bEqS.bs 29 = .ok (.aload_n 2, 1) := by decide +kernel
theorem bEqS_d30 : decode bEqS.bs 30 = .ok (.getfield 15, 3) := by decide +kernel
theorem bEqS_d33 : decode bEqS.bs 33 = .ok (.if_icmp .ne 21, 3) := by decide +kernel
theorem bEqS_d36 : decode bEqS.bs 36 = .ok (.aload_n 0, 1) := by decide +kernel
theorem bEqS_d37 : decode bEqS.bs 37 = .ok (.getfield 9, 3) := by decide +kernel
theorem bEqS_d40 : decode bEqS.bs 40 = .ok (.aload_n 2, 1) := by decide +kernel
theorem bEqS_d41 : decode bEqS.bs 41 = .ok (.getfield 9, 3) := by decide +kernel
theorem bEqS_d44 : decode bEqS.bs 44 = .ok (.invokestatic 541, 3) := by decide +kernel
theorem bEqS_d47 : decode bEqS.bs 47 = .ok (.ifCond .eq 7, 3) := by decide +kernel
theorem bEqS_d50 : decode bEqS.bs 50 = .ok (.iconst 1, 1) := by decide +kernel
theorem bEqS_d51 : decode bEqS.bs 51 = .ok (.goto 4, 3) := by decide +kernel
theorem bEqS_d54 : decode bEqS.bs 54 = .ok (.iconst 0, 1) := by decide +kernel
theorem bEqS_d55 : decode bEqS.bs 55 = .ok (.ireturn, 1) := by decide +kernel
theorem bEqS_pd : parseMethodDescriptor "(Ljava/lang/Object;)Z" = some ⟨[(.object "java/lang/Object")], (some .boolean)⟩ := by decide +kernel
theorem bEqS_pn : plainFor bEqS.y = true := plainFor_of_name (show plainName "java/lang/String" = true from by first | (simp [plainName, overriddenIn]; done) | decide +kernel)
theorem cEqS (l : Launch) (Z : State) (a0 : Array Value) (hw : ∀ d ∈ tables_1, d.before a0 Z = true) (n0 : Nat) (hEW : EW Z a0 consts_1) (a : Addr) (h0 : Heap) (σ : Addr → Prop)  :
    Road.Con l Z consts_1 n0 true bEqS [] σ #[(.ref a), (.ref a)] h0 (fun v h2 _ => v = some (.int 1) ∧ h0 = h2) := by
  refine Road.Con.of bEqS_pn hEW #[.val (.ref a), .val (.ref a), .unset] (fun m => Road.ent (Road.laid1 rfl (Road.laid1 rfl Road.laid0)) (k := 1) rfl rfl) ?_
  intro D hD
  refine Road.aloadN 0 bEqS_d0 rfl ?_
  refine Road.aloadN 1 bEqS_d1 rfl ?_
  refine Road.acmp_ne 2 7 rfl rfl bEqS_d2 rfl (fun q => absurd q (by simp)) (fun hc2 => ?_)
  refine Road.iconst 5 (1 : Int32) bEqS_d5 rfl ?_
  exact Road.iret 6 1 bEqS_d6 (t := .boolean) rfl (by simp) rfl (by decide) (by decide) (fun σ' m => ⟨rfl, rfl⟩)
theorem thrw (Z : State) (a0 : Array Value) (hw : ∀ d ∈ tables_1, d.before a0 Z = true) : ∀ d ∈ Road.thrW "com/example/anchorline/anchorline/server/RequestException", d.before a0 Z = true := fun d hd => hw d ((by decide +kernel : ∀ d ∈ Road.thrW "com/example/anchorline/anchorline/server/RequestException", d ∈ tables_1) d hd)
def bThr : Road.Bdy := (⟨"java/lang/Throwable", "<init>", "(Ljava/lang/String;)V"⟩, jdk_78_method_2_code, 2, none, { frames := 3, cells := 1, slots := 2752, locals := 42 })
theorem bThr_d0 : decode bThr.bs 0 = .ok (.aload_n 0, 1) := by decide +kernel
theorem bThr_d1 : decode bThr.bs 1 = .ok (.invokespecial 1, 3) := by decide +kernel
theorem bThr_d4 : decode bThr.bs 4 = .ok (.aload_n 0, 1) := by decide +kernel
theorem bThr_d5 : decode bThr.bs 5 = .ok (.aload_n 0, 1) := by decide +kernel
theorem bThr_d6 : decode bThr.bs 6 = .ok (.putfield 7, 3) := by decide +kernel
theorem bThr_d9 : decode bThr.bs 9 = .ok (.aload_n 0, 1) := by decide +kernel
theorem bThr_d10 : decode bThr.bs 10 = .ok (.getstatic 13, 3) := by decide +kernel
theorem bThr_d13 : decode bThr.bs 13 = .ok (.putfield 17, 3) := by decide +kernel
theorem bThr_d16 : decode bThr.bs 16 = .ok (.aload_n 0, 1) := by decide +kernel
theorem bThr_d17 : decode bThr.bs 17 = .ok (.getstatic 20, 3) := by decide +kernel
theorem bThr_d20 : decode bThr.bs 20 = .ok (.putfield 24, 3) := by decide +kernel
theorem bThr_d23 : decode bThr.bs 23 = .ok (.aload_n 0, 1) := by decide +kernel
theorem bThr_d24 : decode bThr.bs 24 = .ok (.invokevirtual 27, 3) := by decide +kernel
theorem bThr_d27 : decode bThr.bs 27 = .ok (.pop, 1) := by decide +kernel
theorem bThr_d28 : decode bThr.bs 28 = .ok (.aload_n 0, 1) := by decide +kernel
theorem bThr_d29 : decode bThr.bs 29 = .ok (.aload_n 1, 1) := by decide +kernel
theorem bThr_d30 : decode bThr.bs 30 = .ok (.putfield 31, 3) := by decide +kernel
theorem bThr_d33 : decode bThr.bs 33 = .ok (.return_, 1) := by decide +kernel
theorem bThr_pd : parseMethodDescriptor "(Ljava/lang/String;)V" = some ⟨[(.object "java/lang/String")], none⟩ := by decide +kernel
theorem bThr_pn : plainFor bThr.y = true := plainFor_of_name (show plainName "java/lang/Throwable" = true from by first | (simp [plainName, overriddenIn]; done) | decide +kernel)
theorem cThr (l : Launch) (Z : State) (a0 : Array Value) (hw : ∀ d ∈ tables_1, d.before a0 Z = true) (n0 : Nat) (hEW : EW Z a0 consts_1) (a : Addr) (q : Value) (hq : q.isRef = true) (h0 : Heap) (σ : Addr → Prop) (E : Exa Z h0 a "com/example/anchorline/anchorline/server/RequestException") (N : Unt h0 a) (Fcz : Fld Z h0 a "java/lang/Throwable" "cause" "Ljava/lang/Throwable;" .null) (Fst : Fld Z h0 a "java/lang/Throwable" "stackTrace" "[Ljava/lang/StackTraceElement;" .null) (Fsp : Fld Z h0 a "java/lang/Throwable" "suppressedExceptions" "Ljava/util/List;" .null) (Fb : Fld Z h0 a "java/lang/Throwable" "backtrace" "Ljava/lang/Object;" .null) (Fm : Fld Z h0 a "java/lang/Throwable" "detailMessage" "Ljava/lang/String;" .null) (sa : σ a) (hl : l.stackTraces = true) (us : Addr) (Su : Sta Z Z.heap "java/lang/Throwable" "UNASSIGNED_STACK" "[Ljava/lang/StackTraceElement;" (.ref us)) (sp : Value) (hsp : sp.isRef = true) (Sp : Sta Z Z.heap "java/lang/Throwable" "SUPPRESSED_SENTINEL" "Ljava/util/List;" sp) :
    Road.Con l Z consts_1 n0 true bThr [] σ #[(.ref a), q] h0 (fun v h2 _ => v = none ∧ Keep h0 h2 [a] ∧ Road.KeepF Z a0 "com/example/anchorline/anchorline/server/RequestException" a h0 h2 ∧ Fld Z h2 a "java/lang/Throwable" "detailMessage" "Ljava/lang/String;" q) := by
  refine Road.Con.of bThr_pn hEW #[.val (.ref a), .val q] (fun m => Road.ent (Road.laid1 rfl (Road.laid1 (XT.cat1 hq) Road.laid0)) (k := 0) rfl rfl) ?_
  intro D hD
  refine Road.Go.old ?_
  intro hO
  have hOD : Old Z n0 D.s.heap := hD ▸ hO
  have KF : Road.KeepF Z a0 "com/example/anchorline/anchorline/server/RequestException" a h0 h0 := Road.KeepF.refl
  refine Road.aloadN 0 bThr_d0 rfl ?_
  refine Road.initObj 1 bThr_d1 (wI hw 42 rfl) (wI hw 12 rfl) (wI hw 13 rfl) 0 rfl rfl (by decide) (by decide) ?_
  refine Road.aloadN 4 bThr_d4 rfl ?_
  refine Road.aloadN 5 bThr_d5 rfl ?_
  refine Road.putfield 6 bThr_d6 (wI hw 43 rfl) Via.refl Fcz E (Or.inl (wI hw 44 rfl)) (wI hw 27 rfl) (ty := (.object "java/lang/Throwable")) (by decide) rfl rfl sa ?_
  intro h_3 W_1 K_2
  replace Fcz := Fcz.same W_1
  replace Fst := Fst.other W_1 (Or.inr (slot_ne (Or.inl (wI hw 47 rfl)) (Or.inl (wI hw 44 rfl)) (by decide) (t := (.array (.object "java/lang/StackTraceElement"))) (by decide) (t' := (.object "java/lang/Throwable")) (by decide)))
  replace Fsp := Fsp.other W_1 (Or.inr (slot_ne (Or.inl (wI hw 50 rfl)) (Or.inl (wI hw 44 rfl)) (by decide) (t := (.object "java/util/List")) (by decide) (t' := (.object "java/lang/Throwable")) (by decide)))
  replace Fb := Fb.other W_1 (Or.inr (slot_ne (Or.inl (wI hw 75 rfl)) (Or.inl (wI hw 44 rfl)) (by decide) (t := (.object "java/lang/Object")) (by decide) (t' := (.object "java/lang/Throwable")) (by decide)))
  replace Fm := Fm.other W_1 (Or.inr (slot_ne (Or.inl (wI hw 74 rfl)) (Or.inl (wI hw 44 rfl)) (by decide) (t := (.object "java/lang/String")) (by decide) (t' := (.object "java/lang/Throwable")) (by decide)))
  replace E := E.keep K_2
  replace N := N.wr W_1
  replace KF := KF.wr W_1 (Or.inl (wI hw 44 rfl)) (by decide) (ty := (.object "java/lang/Throwable")) (by decide)
  refine Road.aloadN 9 bThr_d9 rfl ?_
  refine Road.getstatic 10 bThr_d10 (wI hw 45 rfl) Via.refl Su ?_
  refine Road.putfield 13 bThr_d13 (wI hw 46 rfl) Via.refl Fst E (Or.inl (wI hw 47 rfl)) (wI hw 27 rfl) (ty := (.array (.object "java/lang/StackTraceElement"))) (by decide) rfl rfl sa ?_
  intro h_6 W_4 K_5
  replace Fst := Fst.same W_4
  replace Fcz := Fcz.other W_4 (Or.inr (slot_ne (Or.inl (wI hw 44 rfl)) (Or.inl (wI hw 47 rfl)) (by decide) (t := (.object "java/lang/Throwable")) (by decide) (t' := (.array (.object "java/lang/StackTraceElement"))) (by decide)))
  replace Fsp := Fsp.other W_4 (Or.inr (slot_ne (Or.inl (wI hw 50 rfl)) (Or.inl (wI hw 47 rfl)) (by decide) (t := (.object "java/util/List")) (by decide) (t' := (.array (.object "java/lang/StackTraceElement"))) (by decide)))
  replace Fb := Fb.other W_4 (Or.inr (slot_ne (Or.inl (wI hw 75 rfl)) (Or.inl (wI hw 47 rfl)) (by decide) (t := (.object "java/lang/Object")) (by decide) (t' := (.array (.object "java/lang/StackTraceElement"))) (by decide)))
  replace Fm := Fm.other W_4 (Or.inr (slot_ne (Or.inl (wI hw 74 rfl)) (Or.inl (wI hw 47 rfl)) (by decide) (t := (.object "java/lang/String")) (by decide) (t' := (.array (.object "java/lang/StackTraceElement"))) (by decide)))
  replace E := E.keep K_5
  replace N := N.wr W_4
  replace KF := KF.wr W_4 (Or.inl (wI hw 47 rfl)) (by decide) (ty := (.array (.object "java/lang/StackTraceElement"))) (by decide)
  refine Road.aloadN 16 bThr_d16 rfl ?_
  refine Road.getstatic 17 bThr_d17 (wI hw 48 rfl) Via.refl Sp ?_
  refine Road.putfield 20 bThr_d20 (wI hw 49 rfl) Via.refl Fsp E (Or.inl (wI hw 50 rfl)) (wI hw 27 rfl) (ty := (.object "java/util/List")) (by decide) (narrow_refV _ ⟨sp, hsp⟩) (fits_refV_object _ ⟨sp, hsp⟩) sa ?_
  intro h_9 W_7 K_8
  replace Fsp := Fsp.same W_7
  replace Fcz := Fcz.other W_7 (Or.inr (slot_ne (Or.inl (wI hw 44 rfl)) (Or.inl (wI hw 50 rfl)) (by decide) (t := (.object "java/lang/Throwable")) (by decide) (t' := (.object "java/util/List")) (by decide)))
  replace Fst := Fst.other W_7 (Or.inr (slot_ne (Or.inl (wI hw 47 rfl)) (Or.inl (wI hw 50 rfl)) (by decide) (t := (.array (.object "java/lang/StackTraceElement"))) (by decide) (t' := (.object "java/util/List")) (by decide)))
  replace Fb := Fb.other W_7 (Or.inr (slot_ne (Or.inl (wI hw 75 rfl)) (Or.inl (wI hw 50 rfl)) (by decide) (t := (.object "java/lang/Object")) (by decide) (t' := (.object "java/util/List")) (by decide)))
  replace Fm := Fm.other W_7 (Or.inr (slot_ne (Or.inl (wI hw 74 rfl)) (Or.inl (wI hw 50 rfl)) (by decide) (t := (.object "java/lang/String")) (by decide) (t' := (.object "java/util/List")) (by decide)))
  replace E := E.keep K_8
  replace N := N.wr W_7
  replace KF := KF.wr W_7 (Or.inl (wI hw 50 rfl)) (by decide) (ty := (.object "java/util/List")) (by decide)
  refine Road.aloadN 23 bThr_d23 rfl ?_
  refine Road.fillIn 24 "com/example/anchorline/anchorline/server/RequestException" 0 bThr_d24 rfl (thrw Z a0 hw) (wI hw 27 rfl) hl rfl hOD E N Fb Fst Su sa rfl rfl (by decide) (by decide) (ce' := 1) (sl' := 2752) rfl rfl (by decide) (by decide) ?_
  intro h_10 K_11 G_12
  replace KF := KF.fill G_12
  replace Fm := G_12 Fm (Or.inl (wI hw 74 rfl)) (ty := (.object "java/lang/String")) (by decide) (by decide) (by decide) (by decide)
  replace E := E.keep K_11
  refine Road.pop 27 bThr_d27 ?_
  refine Road.aloadN 28 bThr_d28 rfl ?_
  refine Road.aloadN 29 bThr_d29 rfl (hv := hq) ?_
  refine Road.putfield 30 bThr_d30 (wI hw 78 rfl) Via.refl Fm E (Or.inl (wI hw 74 rfl)) (wI hw 27 rfl) (ty := (.object "java/lang/String")) (by decide) (narrow_refV _ ⟨q, hq⟩) (fits_refV_object _ ⟨q, hq⟩) sa ?_
  intro h_15 W_13 K_14
  replace Fm := Fm.same W_13
  replace E := E.keep K_14
  replace KF := KF.wr W_13 (Or.inl (wI hw 74 rfl)) (by decide) (ty := (.object "java/lang/String")) (by decide)
  exact Road.ret 33 bThr_d33 rfl (by decide) (by decide) (fun σ' m => ⟨rfl, ((((K_2.trans K_5 (by simp)).trans K_8 (by simp)).trans K_11 (by simp)).trans K_14 (by simp)), KF, Fm⟩)
def bExc : Road.Bdy := (⟨"java/lang/Exception", "<init>", "(Ljava/lang/String;)V"⟩, jdk_59_method_2_code, 2, none, { frames := 4, cells := 1, slots := 2752, locals := 55 })
theorem bExc_d0 : decode bExc.bs 0 = .ok (.aload_n 0, 1) := by decide +kernel
theorem bExc_d1 : decode bExc.bs 1 = .ok (.aload_n 1, 1) := by decide +kernel
theorem bExc_d2 : decode bExc.bs 2 = .ok (.invokespecial 7, 3) := by decide +kernel
theorem bExc_d5 : decode bExc.bs 5 = .ok (.return_, 1) := by decide +kernel
theorem bExc_pd : parseMethodDescriptor "(Ljava/lang/String;)V" = some ⟨[(.object "java/lang/String")], none⟩ := by decide +kernel
theorem bExc_pn : plainFor bExc.y = true := plainFor_of_name (show plainName "java/lang/Exception" = true from by first | (simp [plainName, overriddenIn]; done) | decide +kernel)
theorem cExc (l : Launch) (Z : State) (a0 : Array Value) (hw : ∀ d ∈ tables_1, d.before a0 Z = true) (n0 : Nat) (hEW : EW Z a0 consts_1) (a : Addr) (q : Value) (hq : q.isRef = true) (h0 : Heap) (σ : Addr → Prop) (E : Exa Z h0 a "com/example/anchorline/anchorline/server/RequestException") (N : Unt h0 a) (Fcz : Fld Z h0 a "java/lang/Throwable" "cause" "Ljava/lang/Throwable;" .null) (Fst : Fld Z h0 a "java/lang/Throwable" "stackTrace" "[Ljava/lang/StackTraceElement;" .null) (Fsp : Fld Z h0 a "java/lang/Throwable" "suppressedExceptions" "Ljava/util/List;" .null) (Fb : Fld Z h0 a "java/lang/Throwable" "backtrace" "Ljava/lang/Object;" .null) (Fm : Fld Z h0 a "java/lang/Throwable" "detailMessage" "Ljava/lang/String;" .null) (sa : σ a) (hl : l.stackTraces = true) (us : Addr) (Su : Sta Z Z.heap "java/lang/Throwable" "UNASSIGNED_STACK" "[Ljava/lang/StackTraceElement;" (.ref us)) (sp : Value) (hsp : sp.isRef = true) (Sp : Sta Z Z.heap "java/lang/Throwable" "SUPPRESSED_SENTINEL" "Ljava/util/List;" sp) :
    Road.Con l Z consts_1 n0 true bExc [] σ #[(.ref a), q] h0 (fun v h2 _ => v = none ∧ Keep h0 h2 [a] ∧ Road.KeepF Z a0 "com/example/anchorline/anchorline/server/RequestException" a h0 h2 ∧ Fld Z h2 a "java/lang/Throwable" "detailMessage" "Ljava/lang/String;" q) := by
  refine Road.Con.of bExc_pn hEW #[.val (.ref a), .val q] (fun m => Road.ent (Road.laid1 rfl (Road.laid1 (XT.cat1 hq) Road.laid0)) (k := 0) rfl rfl) ?_
  intro D hD
  refine Road.aloadN 0 bExc_d0 rfl ?_
  refine Road.aloadN 1 bExc_d1 rfl (hv := hq) ?_
  refine Road.callI (B' := bThr) (a := a) 2 (argsL := [q]) (rest := []) 0 bExc_d2 (wI hw 36 rfl) (wI hw 37 rfl) (wI hw 40 rfl) (wI hw 41 rfl) rfl rfl (by decide) (cThr l Z a0 hw n0 hEW a q hq h0 σ E N Fcz Fst Fsp Fb Fm sa hl us Su sp hsp Sp) (lenOf bThr_pd rfl) rfl rfl rfl (by decide) (by decide) (ce' := 1) (sl' := 2752) rfl rfl (by decide) (by decide) ?_
  rintro _ h_1 σ_2 m_3 ⟨rfl, K_4, KF, Fm⟩
  exact Road.ret 5 bExc_d5 rfl (by decide) (by decide) (fun σ' m => ⟨rfl, K_4, KF, Fm⟩)
def bRx : Road.Bdy := (⟨"com/example/anchorline/anchorline/server/RequestException", "<init>", "(ILjava/lang/String;Z)V"⟩, prog_45_method_1_code, 4, none, { frames := 5, cells := 1, slots := 2752, locals := 68 })
theorem bRx_d0 : decode bRx.bs 0 = .ok (.aload_n 0, 1) := by decide +kernel
theorem bRx_d1 : decode bRx.bs 1 = .ok (.aload_n 2, 1) := by decide +kernel
theorem bRx_d2 : decode bRx.bs 2 = .ok (.invokespecial 1, 3) := by decide +kernel
theorem bRx_d5 : decode bRx.bs 5 = .ok (.aload_n 0, 1) := by decide +kernel
theorem bRx_d6 : decode bRx.bs 6 = .ok (.iload_n 1, 1) := by decide +kernel
theorem bRx_d7 : decode bRx.bs 7 = .ok (.putfield 7, 3) := by decide +kernel
theorem bRx_d10 : decode bRx.bs 10 = .ok (.aload_n 0, 1) := by decide +kernel
theorem bRx_d11 : decode bRx.bs 11 = .ok (.iload_n 3, 1) := by decide +kernel
theorem bRx_d12 : decode bRx.bs 12 = .ok (.putfield 13, 3) := by decide +kernel
theorem bRx_d15 : decode bRx.bs 15 = .ok (.return_, 1) := by decide +kernel
theorem bRx_pd : parseMethodDescriptor "(ILjava/lang/String;Z)V" = some ⟨[.int, (.object "java/lang/String"), .boolean], none⟩ := by decide +kernel
theorem bRx_pn : plainFor bRx.y = true := plainFor_of_name (show plainName "com/example/anchorline/anchorline/server/RequestException" = true from by first | (simp [plainName, overriddenIn]; done) | decide +kernel)
theorem cRx (l : Launch) (Z : State) (a0 : Array Value) (hw : ∀ d ∈ tables_1, d.before a0 Z = true) (n0 : Nat) (hEW : EW Z a0 consts_1) (a : Addr) (s : Int32) (q : Value) (hq : q.isRef = true) (z : Int32) (h0 : Heap) (σ : Addr → Prop) (E : Exa Z h0 a "com/example/anchorline/anchorline/server/RequestException") (N : Unt h0 a) (Fcz : Fld Z h0 a "java/lang/Throwable" "cause" "Ljava/lang/Throwable;" .null) (Fst : Fld Z h0 a "java/lang/Throwable" "stackTrace" "[Ljava/lang/StackTraceElement;" .null) (Fsp : Fld Z h0 a "java/lang/Throwable" "suppressedExceptions" "Ljava/util/List;" .null) (Fb : Fld Z h0 a "java/lang/Throwable" "backtrace" "Ljava/lang/Object;" .null) (Fm : Fld Z h0 a "java/lang/Throwable" "detailMessage" "Ljava/lang/String;" .null) (sa : σ a) (hl : l.stackTraces = true) (us : Addr) (Su : Sta Z Z.heap "java/lang/Throwable" "UNASSIGNED_STACK" "[Ljava/lang/StackTraceElement;" (.ref us)) (sp : Value) (hsp : sp.isRef = true) (Sp : Sta Z Z.heap "java/lang/Throwable" "SUPPRESSED_SENTINEL" "Ljava/util/List;" sp) (Fs : Fld Z h0 a "com/example/anchorline/anchorline/server/RequestException" "status" "I" (.int 0)) (Fz : Fld Z h0 a "com/example/anchorline/anchorline/server/RequestException" "slowSync" "Z" (.int 0)) (hz1 : narrow .boolean (.int z) = .int z) (hz2 : fits .boolean (.int z) = true) :
    Road.Con l Z consts_1 n0 true bRx [] σ #[(.ref a), (.int s), q, (.int z)] h0 (fun v h2 _ => v = none ∧ Keep h0 h2 [a] ∧ Fld Z h2 a "com/example/anchorline/anchorline/server/RequestException" "status" "I" (.int s) ∧ Fld Z h2 a "com/example/anchorline/anchorline/server/RequestException" "slowSync" "Z" (.int z) ∧ Fld Z h2 a "java/lang/Throwable" "detailMessage" "Ljava/lang/String;" q) := by
  refine Road.Con.of bRx_pn hEW #[.val (.ref a), .val (.int s), .val q, .val (.int z)] (fun m => Road.ent (Road.laid1 rfl (Road.laid1 rfl (Road.laid1 (XT.cat1 hq) (Road.laid1 rfl Road.laid0)))) (k := 0) rfl rfl) ?_
  intro D hD
  refine Road.aloadN 0 bRx_d0 rfl ?_
  refine Road.aloadN 1 bRx_d1 rfl (hv := hq) ?_
  refine Road.callI (B' := bExc) (a := a) 2 (argsL := [q]) (rest := []) 0 bRx_d2 (wI hw 31 rfl) (wI hw 32 rfl) (wI hw 34 rfl) (wI hw 35 rfl) rfl rfl (by decide) (cExc l Z a0 hw n0 hEW a q hq h0 σ E N Fcz Fst Fsp Fb Fm sa hl us Su sp hsp Sp) (lenOf bExc_pd rfl) rfl rfl rfl (by decide) (by decide) (ce' := 1) (sl' := 2752) rfl rfl (by decide) (by decide) ?_
  rintro _ h_1 σ_2 m_3 ⟨rfl, K_4, KF, Fm⟩
  replace E := E.keep K_4
  replace sa := m_3 _ sa
  replace Fs := KF _ _ _ .int _ Fs (Or.inr (wI hw 80 rfl)) (by decide) (by decide)
  replace Fz := KF _ _ _ .boolean _ Fz (Or.inr (wI hw 82 rfl)) (by decide) (by decide)
  refine Road.aloadN 5 bRx_d5 rfl ?_
  refine Road.iloadN 6 bRx_d6 rfl ?_
  refine Road.putfield 7 bRx_d7 (wI hw 79 rfl) Via.refl Fs E (Or.inr ⟨(wI hw 80 rfl), rfl, rfl⟩) (wI hw 27 rfl) (ty := .int) (by decide) rfl rfl sa ?_
  intro h_8 W_6 K_7
  replace Fs := Fs.same W_6
  replace Fz := Fz.other W_6 (Or.inr (slot_ne (Or.inr (wI hw 82 rfl)) (Or.inr (wI hw 80 rfl)) (by decide) (t := .boolean) (by decide) (t' := .int) (by decide)))
  replace Fm := Fm.other W_6 (Or.inr (slot_ne (Or.inl (wI hw 74 rfl)) (Or.inr (wI hw 80 rfl)) (by decide) (t := (.object "java/lang/String")) (by decide) (t' := .int) (by decide)))
  replace E := E.keep K_7
  refine Road.aloadN 10 bRx_d10 rfl ?_
  refine Road.iloadN 11 bRx_d11 rfl ?_
  refine Road.putfield 12 bRx_d12 (wI hw 81 rfl) Via.refl Fz E (Or.inr ⟨(wI hw 82 rfl), rfl, rfl⟩) (wI hw 27 rfl) (ty := .boolean) (by decide) hz1 hz2 sa ?_
  intro h_11 W_9 K_10
  replace Fz := Fz.same W_9
  replace Fs := Fs.other W_9 (Or.inr (slot_ne (Or.inr (wI hw 80 rfl)) (Or.inr (wI hw 82 rfl)) (by decide) (t := .int) (by decide) (t' := .boolean) (by decide)))
  replace Fm := Fm.other W_9 (Or.inr (slot_ne (Or.inl (wI hw 74 rfl)) (Or.inr (wI hw 82 rfl)) (by decide) (t := (.object "java/lang/String")) (by decide) (t' := .boolean) (by decide)))
  replace E := E.keep K_10
  exact Road.ret 15 bRx_d15 rfl (by decide) (by decide) (fun σ' m => ⟨rfl, (K_4.trans K_7 (by simp)).trans K_10 (by simp), Fs, Fz, Fm⟩)
def bSS : Road.Bdy := (⟨"com/example/anchorline/anchorline/server/RequestException", "slowSync", "(Ljava/lang/String;)Lcom/example/anchorline/anchorline/server/RequestException;"⟩, prog_45_method_5_code, 1, (some (.object "com/example/anchorline/anchorline/server/RequestException")), { frames := 6, cells := 2, slots := 2768, locals := 84 })
theorem bSS_d0 : decode bSS.bs 0 = .ok (.new 8, 3) := by decide +kernel
theorem bSS_d3 : decode bSS.bs 3 = .ok (.dup, 1) := by decide +kernel
theorem bSS_d4 : decode bSS.bs 4 = .ok (.sipush 409, 3) := by decide +kernel
theorem bSS_d7 : decode bSS.bs 7 = .ok (.aload_n 0, 1) := by decide +kernel
theorem bSS_d8 : decode bSS.bs 8 = .ok (.iconst 1, 1) := by decide +kernel
theorem bSS_d9 : decode bSS.bs 9 = .ok (.invokespecial 17, 3) := by decide +kernel
theorem bSS_d12 : decode bSS.bs 12 = .ok (.areturn, 1) := by decide +kernel
theorem bSS_pd : parseMethodDescriptor "(Ljava/lang/String;)Lcom/example/anchorline/anchorline/server/RequestException;" = some ⟨[(.object "java/lang/String")], (some (.object "com/example/anchorline/anchorline/server/RequestException"))⟩ := by decide +kernel
theorem bSS_pn : plainFor bSS.y = true := plainFor_of_name (show plainName "com/example/anchorline/anchorline/server/RequestException" = true from by first | (simp [plainName, overriddenIn]; done) | decide +kernel)
theorem cSS (l : Launch) (Z : State) (a0 : Array Value) (hw : ∀ d ∈ tables_1, d.before a0 Z = true) (n0 : Nat) (hEW : EW Z a0 consts_1) (x : Addr) (h0 : Heap) (σ : Addr → Prop) (hl : l.stackTraces = true) (us : Addr) (Su : Sta Z Z.heap "java/lang/Throwable" "UNASSIGNED_STACK" "[Ljava/lang/StackTraceElement;" (.ref us)) (sp : Value) (hsp : sp.isRef = true) (Sp : Sta Z Z.heap "java/lang/Throwable" "SUPPRESSED_SENTINEL" "Ljava/util/List;" sp) :
    Road.Con l Z consts_1 n0 true bSS [] σ #[(.ref x)] h0 (fun v h2 _ => ∃ a, v = some (.ref a) ∧ Keep h0 h2 [] ∧ Exa Z h2 a "com/example/anchorline/anchorline/server/RequestException" ∧ Fld Z h2 a "com/example/anchorline/anchorline/server/RequestException" "status" "I" (.int 409) ∧ Fld Z h2 a "com/example/anchorline/anchorline/server/RequestException" "slowSync" "Z" (.int 1) ∧ Fld Z h2 a "java/lang/Throwable" "detailMessage" "Ljava/lang/String;" (.ref x)) := by
  refine Road.Con.of bSS_pn hEW #[.val (.ref x)] (fun m => Road.ent (Road.laid1 rfl Road.laid0) (k := 0) rfl rfl) ?_
  intro D hD
  refine Road.new 0 "com/example/anchorline/anchorline/server/RequestException" bSS_d0 (wI hw 26 rfl) (wI hw 27 rfl) (wI hw 24 rfl) (ce' := 1) (sl' := 8) rfl rfl (by decide) (by decide) ?_
  intro a h_1 σ_2 g_3 K_4 lt_5 m_6 s_7 E D_8 M_9
  have Fcz := D_8 (Or.inl (wI hw 44 rfl)) (ty := (.object "java/lang/Throwable")) (by decide)
  have Fst := D_8 (Or.inl (wI hw 47 rfl)) (ty := (.array (.object "java/lang/StackTraceElement"))) (by decide)
  have Fsp := D_8 (Or.inl (wI hw 50 rfl)) (ty := (.object "java/util/List")) (by decide)
  have Fb := D_8 (Or.inl (wI hw 75 rfl)) (ty := (.object "java/lang/Object")) (by decide)
  have Fm := D_8 (Or.inl (wI hw 74 rfl)) (ty := (.object "java/lang/String")) (by decide)
  have Fs := D_8 (Or.inr (wI hw 80 rfl)) (ty := .int) (by decide)
  have Fz := D_8 (Or.inr (wI hw 82 rfl)) (ty := .boolean) (by decide)
  refine Road.dup 3 bSS_d3 ?_
  refine Road.sipush 4 (409 : Int32) bSS_d4 rfl ?_
  refine Road.aloadN 7 bSS_d7 rfl ?_
  refine Road.iconst 8 (1 : Int32) bSS_d8 rfl ?_
  refine Road.callI (B' := bRx) (a := a) 9 (argsL := [(.int (409 : Int32)), (.ref x), (.int (1 : Int32))]) (rest := [(.ref a)]) 1 bSS_d9 (wI hw 28 rfl) (wI hw 29 rfl) (wI hw 24 rfl) (wI hw 30 rfl) rfl rfl (by decide) (cRx l Z a0 hw n0 hEW a 409 (.ref x) rfl 1 h_1 σ_2 E M_9 Fcz Fst Fsp Fb Fm s_7 hl us Su sp hsp Sp Fs Fz rfl rfl) (lenOf bRx_pd rfl) rfl rfl rfl (by decide) (by decide) (ce' := 2) (sl' := 2760) rfl rfl (by decide) (by decide) ?_
  rintro _ h_10 σ_11 m_12 ⟨rfl, K_13, G0, G1, G2⟩
  replace E := E.keep K_13
  replace s_7 := m_12 _ s_7
  exact Road.aret 12 bSS_d12 (t := (.object "com/example/anchorline/anchorline/server/RequestException")) rfl rfl rfl (by decide) (by decide) (fun σ' m => ⟨a, rfl, K_4.trans K_13 (by intro x hx; cases List.mem_singleton.mp hx; exact Or.inr (Nat.le_of_eq g_3.symm)), E, G0, G1, G2⟩)
def bgS : Road.Bdy := (⟨"com/example/anchorline/anchorline/server/RequestException", "status", "()I"⟩, prog_45_method_6_code, 1, (some .int), { frames := 0, cells := 0, slots := 0, locals := 0 })
theorem bgS_d0 : decode bgS.bs 0 = .ok (.aload_n 0, 1) := by decide +kernel
theorem bgS_d1 : decode bgS.bs 1 = .ok (.getfield 7, 3) := by decide +kernel
theorem bgS_d4 : decode bgS.bs 4 = .ok (.ireturn, 1) := by decide +kernel
theorem bgS_pd : parseMethodDescriptor "()I" = some ⟨[], (some .int)⟩ := by decide +kernel
theorem bgS_pn : plainFor bgS.y = true := plainFor_of_name (show plainName "com/example/anchorline/anchorline/server/RequestException" = true from by first | (simp [plainName, overriddenIn]; done) | decide +kernel)
theorem cgS (l : Launch) (Z : State) (a0 : Array Value) (hw : ∀ d ∈ tables_1, d.before a0 Z = true) (n0 : Nat) (hEW : EW Z a0 consts_1) (a : Addr) (v : Int32) (h0 : Heap) (σ : Addr → Prop) (F : Fld Z h0 a "com/example/anchorline/anchorline/server/RequestException" "status" "I" (.int v)) :
    Road.Con l Z consts_1 n0 true bgS [] σ #[(.ref a)] h0 (fun r h2 _ => r = some (.int v) ∧ h0 = h2) := by
  refine Road.Con.of bgS_pn hEW #[.val (.ref a)] (fun m => Road.ent (Road.laid1 rfl Road.laid0) (k := 0) rfl rfl) ?_
  intro D hD
  refine Road.aloadN 0 bgS_d0 rfl ?_
  refine Road.getfield 1 bgS_d1 (wI hw 79 rfl) Via.refl F ?_
  exact Road.iretI 4 bgS_d4 rfl (by decide) (by decide) (fun σ' m => ⟨rfl, rfl⟩)
def bgZ : Road.Bdy := (⟨"com/example/anchorline/anchorline/server/RequestException", "isSlowSync", "()Z"⟩, prog_45_method_7_code, 1, (some .boolean), { frames := 0, cells := 0, slots := 0, locals := 0 })
theorem bgZ_d0 : decode bgZ.bs 0 = .ok (.aload_n 0, 1) := by decide +kernel
theorem bgZ_d1 : decode bgZ.bs 1 = .ok (.getfield 13, 3) := by decide +kernel
theorem bgZ_d4 : decode bgZ.bs 4 = .ok (.ireturn, 1) := by decide +kernel
theorem bgZ_pd : parseMethodDescriptor "()Z" = some ⟨[], (some .boolean)⟩ := by decide +kernel
theorem bgZ_pn : plainFor bgZ.y = true := plainFor_of_name (show plainName "com/example/anchorline/anchorline/server/RequestException" = true from by first | (simp [plainName, overriddenIn]; done) | decide +kernel)
theorem cgZ (l : Launch) (Z : State) (a0 : Array Value) (hw : ∀ d ∈ tables_1, d.before a0 Z = true) (n0 : Nat) (hEW : EW Z a0 consts_1) (a : Addr) (v : Int32) (h0 : Heap) (σ : Addr → Prop) (F : Fld Z h0 a "com/example/anchorline/anchorline/server/RequestException" "slowSync" "Z" (.int v)) (hv : nar .boolean v = v) :
    Road.Con l Z consts_1 n0 true bgZ [] σ #[(.ref a)] h0 (fun r h2 _ => r = some (.int v) ∧ h0 = h2) := by
  refine Road.Con.of bgZ_pn hEW #[.val (.ref a)] (fun m => Road.ent (Road.laid1 rfl Road.laid0) (k := 0) rfl rfl) ?_
  intro D hD
  refine Road.aloadN 0 bgZ_d0 rfl ?_
  refine Road.getfield 1 bgZ_d1 (wI hw 81 rfl) Via.refl F ?_
  exact Road.iret 4 v bgZ_d4 (t := .boolean) rfl (by simp) hv (by decide) (by decide) (fun σ' m => ⟨rfl, rfl⟩)
def bgM : Road.Bdy := (⟨"java/lang/Throwable", "getMessage", "()Ljava/lang/String;"⟩, jdk_78_method_6_code, 1, (some (.object "java/lang/String")), { frames := 0, cells := 0, slots := 0, locals := 0 })
theorem bgM_d0 : decode bgM.bs 0 = .ok (.aload_n 0, 1) := by decide +kernel
theorem bgM_d1 : decode bgM.bs 1 = .ok (.getfield 31, 3) := by decide +kernel
theorem bgM_d4 : decode bgM.bs 4 = .ok (.areturn, 1) := by decide +kernel
theorem bgM_pd : parseMethodDescriptor "()Ljava/lang/String;" = some ⟨[], (some (.object "java/lang/String"))⟩ := by decide +kernel
theorem bgM_pn : plainFor bgM.y = true := plainFor_of_name (show plainName "java/lang/Throwable" = true from by first | (simp [plainName, overriddenIn]; done) | decide +kernel)
theorem cgM (l : Launch) (Z : State) (a0 : Array Value) (hw : ∀ d ∈ tables_1, d.before a0 Z = true) (n0 : Nat) (hEW : EW Z a0 consts_1) (a : Addr) (v : Value) (h0 : Heap) (σ : Addr → Prop) (hv : v.isRef = true) (F : Fld Z h0 a "java/lang/Throwable" "detailMessage" "Ljava/lang/String;" v) :
    Road.Con l Z consts_1 n0 true bgM [] σ #[(.ref a)] h0 (fun r h2 _ => r = some v ∧ h0 = h2) := by
  refine Road.Con.of bgM_pn hEW #[.val (.ref a)] (fun m => Road.ent (Road.laid1 rfl Road.laid0) (k := 0) rfl rfl) ?_
  intro D hD
  refine Road.aloadN 0 bgM_d0 rfl ?_
  refine Road.getfield 1 bgM_d1 (wI hw 78 rfl) Via.refl F ?_
  exact Road.aret 4 bgM_d4 (t := (.object "java/lang/String")) rfl rfl hv (by decide) (by decide) (fun σ' m => ⟨rfl, rfl⟩)
def b0 : Road.Bdy := (x, code, maxLocals, ret, room_1)
theorem b0_d0 : decode b0.bs 0 = .ok (.iload_n 0, 1) := at_0
theorem b0_d1 : decode b0.bs 1 = .ok (.iconst 3, 1) := at_1
theorem b0_d2 : decode b0.bs 2 = .ok (.iand, 1) := at_2
theorem b0_d3 : decode b0.bs 3 = .ok (.istore 4, 2) := at_3
theorem b0_d5 : decode b0.bs 5 = .ok (.iload 4, 2) := at_5
theorem b0_d7 : decode b0.bs 7 = .ok (.newarray .char, 2) := at_7
theorem b0_d9 : decode b0.bs 9 = .ok (.astore 5, 2) := at_9
theorem b0_d11 : decode b0.bs 11 = .ok (.iload 4, 2) := at_11
theorem b0_d13 : decode b0.bs 13 = .ok (.ifCond .le 13, 3) := at_13
theorem b0_d16 : decode b0.bs 16 = .ok (.aload 5, 2) := at_16
theorem b0_d18 : decode b0.bs 18 = .ok (.iconst 0, 1) := at_18
theorem b0_d19 : decode b0.bs 19 = .ok (.iload_n 1, 1) := at_19
theorem b0_d20 : decode b0.bs 20 = .ok (.sipush 255, 3) := at_20
theorem b0_d23 : decode b0.bs 23 = .ok (.iand, 1) := at_23
theorem b0_d24 : decode b0.bs 24 = .ok (.i2c, 1) := at_24
theorem b0_d25 : decode b0.bs 25 = .ok (.castore, 1) := at_25
theorem b0_d26 : decode b0.bs 26 = .ok (.iload 4, 2) := at_26
theorem b0_d28 : decode b0.bs 28 = .ok (.iconst 1, 1) := at_28
theorem b0_d29 : decode b0.bs 29 = .ok (.if_icmp .le 13, 3) := at_29
theorem b0_d32 : decode b0.bs 32 = .ok (.aload 5, 2) := at_32
theorem b0_d34 : decode b0.bs 34 = .ok (.iconst 1, 1) := at_34
theorem b0_d35 : decode b0.bs 35 = .ok (.iload_n 2, 1) := at_35
theorem b0_d36 : decode b0.bs 36 = .ok (.sipush 255, 3) := at_36
theorem b0_d39 : decode b0.bs 39 = .ok (.iand, 1) := at_39
theorem b0_d40 : decode b0.bs 40 = .ok (.i2c, 1) := at_40
theorem b0_d41 : decode b0.bs 41 = .ok (.castore, 1) := at_41
theorem b0_d42 : decode b0.bs 42 = .ok (.iload 4, 2) := at_42
theorem b0_d44 : decode b0.bs 44 = .ok (.iconst 2, 1) := at_44
theorem b0_d45 : decode b0.bs 45 = .ok (.if_icmp .le 13, 3) := at_45
theorem b0_d48 : decode b0.bs 48 = .ok (.aload 5, 2) := at_48
theorem b0_d50 : decode b0.bs 50 = .ok (.iconst 2, 1) := at_50
theorem b0_d51 : decode b0.bs 51 = .ok (.iload_n 3, 1) := at_51
theorem b0_d52 : decode b0.bs 52 = .ok (.sipush 255, 3) := at_52
theorem b0_d55 : decode b0.bs 55 = .ok (.iand, 1) := at_55
theorem b0_d56 : decode b0.bs 56 = .ok (.i2c, 1) := at_56
theorem b0_d57 : decode b0.bs 57 = .ok (.castore, 1) := at_57
theorem b0_d58 : decode b0.bs 58 = .ok (.new 7, 3) := at_58
theorem b0_d61 : decode b0.bs 61 = .ok (.dup, 1) := at_61
theorem b0_d62 : decode b0.bs 62 = .ok (.aload 5, 2) := at_62
theorem b0_d64 : decode b0.bs 64 = .ok (.invokespecial 9, 3) := at_64
theorem b0_d67 : decode b0.bs 67 = .ok (.astore 6, 2) := at_67
theorem b0_d69 : decode b0.bs 69 = .ok (.aload 6, 2) := at_69
theorem b0_d71 : decode b0.bs 71 = .ok (.invokestatic 12, 3) := at_71
theorem b0_d74 : decode b0.bs 74 = .ok (.astore 7, 2) := at_74
theorem b0_d76 : decode b0.bs 76 = .ok (.aload 7, 2) := at_76
theorem b0_d78 : decode b0.bs 78 = .ok (.ifnonnull 5, 3) := at_78
theorem b0_d81 : decode b0.bs 81 = .ok (.iconst 0, 1) := at_81
theorem b0_d82 : decode b0.bs 82 = .ok (.ireturn, 1) := at_82
theorem b0_d83 : decode b0.bs 83 = .ok (.aload 7, 2) := at_83
theorem b0_d85 : decode b0.bs 85 = .ok (.invokevirtual 18, 3) := at_85
theorem b0_d88 : decode b0.bs 88 = .ok (.sipush 409, 3) := at_88
theorem b0_d91 : decode b0.bs 91 = .ok (.if_icmp .ne 28, 3) := at_91
theorem b0_d94 : decode b0.bs 94 = .ok (.aload 7, 2) := at_94
theorem b0_d96 : decode b0.bs 96 = .ok (.invokevirtual 22, 3) := at_96
theorem b0_d99 : decode b0.bs 99 = .ok (.ifCond .eq 20, 3) := at_99
theorem b0_d102 : decode b0.bs 102 = .ok (.aload 6, 2) := at_102
theorem b0_d104 : decode b0.bs 104 = .ok (.aload 7, 2) := at_104
theorem b0_d106 : decode b0.bs 106 = .ok (.invokevirtual 26, 3) := at_106
theorem b0_d109 : decode b0.bs 109 = .ok (.invokevirtual 30, 3) := at_109
theorem b0_d112 : decode b0.bs 112 = .ok (.ifCond .eq 7, 3) := at_112
theorem b0_d115 : decode b0.bs 115 = .ok (.iconst 1, 1) := at_115
theorem b0_d116 : decode b0.bs 116 = .ok (.goto 4, 3) := at_116
theorem b0_d119 : decode b0.bs 119 = .ok (.iconst 0, 1) := at_119
theorem b0_d120 : decode b0.bs 120 = .ok (.ireturn, 1) := at_120
theorem b0_pd : parseMethodDescriptor "(IIII)Z" = some ⟨[.int, .int, .int, .int], (some .boolean)⟩ := by decide +kernel
theorem b0_pn : plainFor b0.y = true := plainFor_of_name (show plainName "com/example/anchorline/anchorline/server/RequestExceptionSlowSyncPinLaw" = true from by first | (simp [plainName, overriddenIn]; done) | decide +kernel)
set_option maxHeartbeats 4000000 in
theorem law (l : Launch) (Z : State) (a0 : Array Value) (hw : ∀ d ∈ tables_1, d.before a0 Z = true) (n0 : Nat) (hEW : EW Z a0 consts_1) (p0 p1 p2 p3 : Int32) (h0 : Heap) (σ : Addr → Prop) (cp : Int32) (Hc : Sta Z Z.heap Road.SN "COMPACT_STRINGS" "Z" (.int cp)) (hcp : ¬ cp = 0) (hl : l.stackTraces = true) (us : Addr) (Su : Sta Z Z.heap "java/lang/Throwable" "UNASSIGNED_STACK" "[Ljava/lang/StackTraceElement;" (.ref us)) (sp : Value) (hsp : sp.isRef = true) (Sp : Sta Z Z.heap "java/lang/Throwable" "SUPPRESSED_SENTINEL" "Ljava/util/List;" sp) (ws : List Jvm.Cond) :
    Road.Con l Z consts_1 n0 true b0 ws σ #[(.int p0), (.int p1), (.int p2), (.int p3)] h0 (fun v h2 _ => v = some (.int 1)) := by
  refine Road.Con.of b0_pn hEW #[.val (.int p0), .val (.int p1), .val (.int p2), .val (.int p3), .unset, .unset, .unset, .unset] (fun m => Road.ent (Road.laid1 rfl (Road.laid1 rfl (Road.laid1 rfl (Road.laid1 rfl Road.laid0)))) (k := 4) rfl rfl) ?_
  intro D hD
  have J58 : ∀ (h : Heap) (τ : Addr → Prop) (n : Int32) (t : Addr) (cs : List Int32), cs.length ≤ 4 → (∀ c ∈ cs, 0 ≤ c.toInt ∧ c.toInt < 256) → Road.Ary Z h t .char (cs.map .int) → Road.Go l Z a0 consts_1 n0 true b0 D (fun v h2 _ => v = some (.int 1)) h τ 1 4 58 #[.val (.int p0), .val (.int p1), .val (.int p2), .val (.int p3), .val (.int n), .val (.ref t), .unset, .unset] [] := by
    intro h τ n t cs hcs hlat At
    refine Road.new 58 "java/lang/String" b0_d58 (wI hw 1 rfl) (wI hw 2 rfl) (wI hw 3 rfl) (ce' := 2) (sl' := 8) rfl rfl (by decide) (by decide) ?_
    intro s h_1 σ_2 g_3 K_4 lt_5 m_6 s_7 Es D_8 M_9
    have ne_t_s : t ≠ s := Nat.ne_of_lt (Nat.lt_of_lt_of_le At.lt (Nat.le_of_eq g_3.symm))
    replace At := At.keep K_4 nin0
    have Cs := D_8 (Or.inr (wI hw 17 rfl)) (ty := .byte) (by decide)
    have Vs := D_8 (Or.inr (wI hw 16 rfl)) (ty := (.array .byte)) (by decide)
    refine Road.dup 61 b0_d61 ?_
    refine Road.aload 62 b0_d62 rfl ?_
    refine Road.callI (B' := bStr1) (a := s) 64 (argsL := [(.ref t)]) (rest := [(.ref s)]) 1 b0_d64 (wI hw 4 rfl) (wI hw 5 rfl) (wI hw 3 rfl) (wI hw 6 rfl) rfl rfl (by decide) (cStr1 l Z a0 hw n0 hEW s t cs h_1 σ_2 Es Cs Vs At hcs hlat s_7 cp Hc hcp) (lenOf bStr1_pd rfl) rfl rfl rfl (by decide) (by decide) (ce' := 6) (sl' := 16) rfl rfl (by decide) (by decide) ?_
    rintro _ h_10 σ_11 m_12 ⟨rfl, K_13, ds, Ss, Ns⟩
    replace At := At.keep K_13 (ninS ne_t_s nin0)
    replace s_7 := m_12 _ s_7
    have Es2 := Ss.1
    refine Road.astore 67 #[.val (.int p0), .val (.int p1), .val (.int p2), .val (.int p3), .val (.int n), .val (.ref t), .val (.ref s), .unset] b0_d67 rfl ?_
    refine Road.aload 69 b0_d69 rfl ?_
    refine Road.callS (B' := bSS) 71 (argsL := [(.ref s)]) (rest := []) 0 b0_d71 (wI hw 22 rfl) (wI hw 23 rfl) (wI hw 24 rfl) (wI hw 25 rfl) (by decide) (cSS l Z a0 hw n0 hEW s h_10 σ_11 hl us Su sp hsp Sp) (lenOf bSS_pd rfl) rfl rfl rfl (by decide) (by decide) (ce' := 8) (sl' := 2784) rfl rfl (by decide) (by decide) ?_
    rintro _ h_15 σ_16 m_17 ⟨e, rfl, K_18, Ee, Fs, Fz, Fm⟩
    replace Es2 := Es2.keep K_18
    replace s_7 := m_17 _ s_7
    refine Road.astore 74 #[.val (.int p0), .val (.int p1), .val (.int p2), .val (.int p3), .val (.int n), .val (.ref t), .val (.ref s), .val (.ref e)] b0_d74 rfl ?_
    refine Road.aload 76 b0_d76 rfl ?_
    refine Road.ifnonnull 78 83 rfl b0_d78 rfl (fun hc78 => ?_) (fun q => absurd q (by simp))
    refine Road.aload 83 b0_d83 rfl ?_
    refine Road.callV (B' := bgS) (a := e) 85 (argsL := []) (rest := []) "com/example/anchorline/anchorline/server/RequestException" 0 b0_d85 (wI hw 83 rfl) (wI hw 84 rfl) (fun vm hz => Road.notFace_sib (args := #[]) (mv (s := D.s.setVm vm) hz (wI hw 86 rfl)) rfl) (wI hw 86 rfl) (wI hw 85 rfl) (wI hw 24 rfl) (wI hw 87 rfl) (by decide) Ee (cgS l Z a0 hw n0 hEW e 409 h_15 σ_16 Fs) (lenOf bgS_pd rfl) rfl rfl rfl (by decide) (by decide) (ce' := 8) (sl' := 2784) rfl rfl (by decide) (by decide) ?_
    rintro _ h_20 σ_21 m_22 ⟨rfl, rfl⟩
    refine Road.Go.weaken (σ' := σ_16) m_22 (Nat.le_refl _) (Nat.le_refl _) ?_
    refine Road.sipush 88 (409 : Int32) b0_d88 rfl ?_
    refine Road.icmp_ne 91 119 b0_d91 rfl (fun q => absurd q (by decide)) (fun hc91 => ?_)
    refine Road.aload 94 b0_d94 rfl ?_
    refine Road.callV (B' := bgZ) (a := e) 96 (argsL := []) (rest := []) "com/example/anchorline/anchorline/server/RequestException" 0 b0_d96 (wI hw 88 rfl) (wI hw 89 rfl) (fun vm hz => Road.notFace_sib (args := #[]) (mv (s := D.s.setVm vm) hz (wI hw 86 rfl)) rfl) (wI hw 91 rfl) (wI hw 90 rfl) (wI hw 24 rfl) (wI hw 92 rfl) (by decide) Ee (cgZ l Z a0 hw n0 hEW e 1 h_15 σ_16 Fz rfl) (lenOf bgZ_pd rfl) rfl rfl rfl (by decide) (by decide) (ce' := 8) (sl' := 2784) rfl rfl (by decide) (by decide) ?_
    rintro _ h_24 σ_25 m_26 ⟨rfl, rfl⟩
    refine Road.Go.weaken (σ' := σ_16) m_26 (Nat.le_refl _) (Nat.le_refl _) ?_
    refine Road.if_eq 99 119 b0_d99 rfl (fun q => absurd q (by decide)) (fun hc99 => ?_)
    refine Road.aload 102 b0_d102 rfl ?_
    refine Road.aload 104 b0_d104 rfl ?_
    refine Road.callU (B' := bgM) (a := e) 106 (argsL := []) (rest := [(.ref s)]) "com/example/anchorline/anchorline/server/RequestException" "java/lang/Throwable" 1 b0_d106 (wI hw 93 rfl) (wI hw 94 rfl) (wI hw 95 rfl) (by decide) (wI hw 97 rfl) (wI hw 96 rfl) (wI hw 40 rfl) (wI hw 98 rfl) Ee (cgM l Z a0 hw n0 hEW e (.ref s) h_15 σ_16 rfl Fm) (lenOf bgM_pd rfl) rfl rfl rfl (by decide) (by decide) (ce' := 8) (sl' := 2784) rfl rfl (by decide) (by decide) ?_
    rintro _ h_28 σ_29 m_30 ⟨rfl, rfl⟩
    refine Road.Go.weaken (σ' := σ_16) m_30 (Nat.le_refl _) (Nat.le_refl _) ?_
    refine Road.callV (B' := bEqS) (a := s) 109 (argsL := [(.ref s)]) (rest := []) "java/lang/String" 0 b0_d109 (wI hw 99 rfl) (wI hw 100 rfl) (fun vm hz => Road.notFace_sib (args := #[]) (mv (s := D.s.setVm vm) hz (wI hw 102 rfl)) rfl) (wI hw 102 rfl) (wI hw 101 rfl) (wI hw 3 rfl) (wI hw 103 rfl) (by decide) Es2 (cEqS l Z a0 hw n0 hEW s h_15 σ_16) (lenOf bEqS_pd rfl) rfl rfl rfl (by decide) (by decide) (ce' := 8) (sl' := 2784) rfl rfl (by decide) (by decide) ?_
    rintro _ h_32 σ_33 m_34 ⟨rfl, rfl⟩
    refine Road.Go.weaken (σ' := σ_16) m_34 (Nat.le_refl _) (Nat.le_refl _) ?_
    refine Road.if_eq 112 119 b0_d112 rfl (fun q => absurd q (by decide)) (fun hc112 => ?_)
    refine Road.iconst 115 (1 : Int32) b0_d115 rfl ?_
    refine Road.goto 116 120 b0_d116 rfl ?_
    exact Road.iret 120 1 b0_d120 (t := .boolean) rfl (by simp) rfl (by decide) (by decide) (fun σ' m => rfl)
  refine Road.iloadN 0 b0_d0 rfl ?_
  refine Road.iconst 1 (3 : Int32) b0_d1 rfl ?_
  refine Road.iand 2 b0_d2 ?_
  refine Road.nameI ?_
  intro k hk
  rcases Road.and3 p0 with q | q | q | q <;> rw [q] at hk <;> subst hk
  · skip
    refine Road.istore 3 #[.val (.int p0), .val (.int p1), .val (.int p2), .val (.int p3), .val (.int (0 : Int32)), .unset, .unset, .unset] b0_d3 rfl ?_
    refine Road.iload 5 b0_d5 rfl ?_
    refine Road.newarray 7 .char 0 0 b0_d7 rfl (wI hw 0 rfl) (by decide) (by decide) (by decide) (ce' := 1) (sl' := 0) rfl rfl (by decide) (by decide) ?_
    intro t h_36 σ_37 g_38 K_39 lt_40 m_41 s_42 At
    refine Road.astore 9 #[.val (.int p0), .val (.int p1), .val (.int p2), .val (.int p3), .val (.int (0 : Int32)), .val (.ref t), .unset, .unset] b0_d9 rfl ?_
    refine Road.iload 11 b0_d11 rfl ?_
    refine Road.if_le 13 26 b0_d13 rfl (fun hc13 => ?_) (fun q => absurd q (by decide))
    refine Road.iload 26 b0_d26 rfl ?_
    refine Road.iconst 28 (1 : Int32) b0_d28 rfl ?_
    refine Road.icmp_le 29 42 b0_d29 rfl (fun hc29 => ?_) (fun q => absurd q (by decide))
    refine Road.iload 42 b0_d42 rfl ?_
    refine Road.iconst 44 (2 : Int32) b0_d44 rfl ?_
    refine Road.icmp_le 45 58 b0_d45 rfl (fun hc45 => ?_) (fun q => absurd q (by decide))
    replace At : Road.Ary Z h_36 t .char (([] : List Int32).map .int) := At
    exact Road.Go.weaken (σ' := σ_37) (fun _ q => q) (ce' := 1) (sl' := 4) (by decide) (by decide) (J58 h_36 σ_37 0 t [] (by simp) (by simp) At)
  · skip
    refine Road.istore 3 #[.val (.int p0), .val (.int p1), .val (.int p2), .val (.int p3), .val (.int (1 : Int32)), .unset, .unset, .unset] b0_d3 rfl ?_
    refine Road.iload 5 b0_d5 rfl ?_
    refine Road.newarray 7 .char 1 1 b0_d7 rfl (wI hw 0 rfl) (by decide) (by decide) (by decide) (ce' := 1) (sl' := 1) rfl rfl (by decide) (by decide) ?_
    intro t h_43 σ_44 g_45 K_46 lt_47 m_48 s_49 At
    refine Road.astore 9 #[.val (.int p0), .val (.int p1), .val (.int p2), .val (.int p3), .val (.int (1 : Int32)), .val (.ref t), .unset, .unset] b0_d9 rfl ?_
    refine Road.iload 11 b0_d11 rfl ?_
    refine Road.if_le 13 26 b0_d13 rfl (fun q => absurd q (by decide)) (fun hc13 => ?_)
    refine Road.aload 16 b0_d16 rfl ?_
    refine Road.iconst 18 (0 : Int32) b0_d18 rfl ?_
    refine Road.iloadN 19 b0_d19 rfl ?_
    refine Road.sipush 20 (255 : Int32) b0_d20 rfl ?_
    refine Road.iand 23 b0_d23 ?_
    refine Road.i2c 24 b0_d24 ?_
    refine Road.castore 25 0 (Road.chr (p1 &&& (255 : Int32))) b0_d25 At (by decide) (by simp) (Road.nar_chr _) s_49 ?_
    intro h_50 K_51 A_52
    replace At := A_52
    refine Road.iload 26 b0_d26 rfl ?_
    refine Road.iconst 28 (1 : Int32) b0_d28 rfl ?_
    refine Road.icmp_le 29 42 b0_d29 rfl (fun hc29 => ?_) (fun q => absurd q (by decide))
    refine Road.iload 42 b0_d42 rfl ?_
    refine Road.iconst 44 (2 : Int32) b0_d44 rfl ?_
    refine Road.icmp_le 45 58 b0_d45 rfl (fun hc45 => ?_) (fun q => absurd q (by decide))
    replace At : Road.Ary Z h_50 t .char (([(Road.chr (p1 &&& (255 : Int32)))] : List Int32).map .int) := At
    exact Road.Go.weaken (σ' := σ_44) (fun _ q => q) (ce' := 1) (sl' := 4) (by decide) (by decide) (J58 h_50 σ_44 1 t [(Road.chr (p1 &&& (255 : Int32)))] (by simp) (by intro c hc; simp only [List.mem_cons, List.not_mem_nil, or_false] at hc; subst hc; exact Road.and255 _) At)
  · skip
    refine Road.istore 3 #[.val (.int p0), .val (.int p1), .val (.int p2), .val (.int p3), .val (.int (2 : Int32)), .unset, .unset, .unset] b0_d3 rfl ?_
    refine Road.iload 5 b0_d5 rfl ?_
    refine Road.newarray 7 .char 2 2 b0_d7 rfl (wI hw 0 rfl) (by decide) (by decide) (by decide) (ce' := 1) (sl' := 2) rfl rfl (by decide) (by decide) ?_
    intro t h_53 σ_54 g_55 K_56 lt_57 m_58 s_59 At
    refine Road.astore 9 #[.val (.int p0), .val (.int p1), .val (.int p2), .val (.int p3), .val (.int (2 : Int32)), .val (.ref t), .unset, .unset] b0_d9 rfl ?_
    refine Road.iload 11 b0_d11 rfl ?_
    refine Road.if_le 13 26 b0_d13 rfl (fun q => absurd q (by decide)) (fun hc13 => ?_)
    refine Road.aload 16 b0_d16 rfl ?_
    refine Road.iconst 18 (0 : Int32) b0_d18 rfl ?_
    refine Road.iloadN 19 b0_d19 rfl ?_
    refine Road.sipush 20 (255 : Int32) b0_d20 rfl ?_
    refine Road.iand 23 b0_d23 ?_
    refine Road.i2c 24 b0_d24 ?_
    refine Road.castore 25 0 (Road.chr (p1 &&& (255 : Int32))) b0_d25 At (by decide) (by simp) (Road.nar_chr _) s_59 ?_
    intro h_60 K_61 A_62
    replace At := A_62
    refine Road.iload 26 b0_d26 rfl ?_
    refine Road.iconst 28 (1 : Int32) b0_d28 rfl ?_
    refine Road.icmp_le 29 42 b0_d29 rfl (fun q => absurd q (by decide)) (fun hc29 => ?_)
    refine Road.aload 32 b0_d32 rfl ?_
    refine Road.iconst 34 (1 : Int32) b0_d34 rfl ?_
    refine Road.iloadN 35 b0_d35 rfl ?_
    refine Road.sipush 36 (255 : Int32) b0_d36 rfl ?_
    refine Road.iand 39 b0_d39 ?_
    refine Road.i2c 40 b0_d40 ?_
    refine Road.castore 41 1 (Road.chr (p2 &&& (255 : Int32))) b0_d41 At (by decide) (by simp) (Road.nar_chr _) s_59 ?_
    intro h_63 K_64 A_65
    replace At := A_65
    refine Road.iload 42 b0_d42 rfl ?_
    refine Road.iconst 44 (2 : Int32) b0_d44 rfl ?_
    refine Road.icmp_le 45 58 b0_d45 rfl (fun hc45 => ?_) (fun q => absurd q (by decide))
    replace At : Road.Ary Z h_63 t .char (([(Road.chr (p1 &&& (255 : Int32))), (Road.chr (p2 &&& (255 : Int32)))] : List Int32).map .int) := At
    exact Road.Go.weaken (σ' := σ_54) (fun _ q => q) (ce' := 1) (sl' := 4) (by decide) (by decide) (J58 h_63 σ_54 2 t [(Road.chr (p1 &&& (255 : Int32))), (Road.chr (p2 &&& (255 : Int32)))] (by simp) (by intro c hc; simp only [List.mem_cons, List.not_mem_nil, or_false] at hc; rcases hc with rfl | rfl <;> exact Road.and255 _) At)
  · skip
    refine Road.istore 3 #[.val (.int p0), .val (.int p1), .val (.int p2), .val (.int p3), .val (.int (3 : Int32)), .unset, .unset, .unset] b0_d3 rfl ?_
    refine Road.iload 5 b0_d5 rfl ?_
    refine Road.newarray 7 .char 3 3 b0_d7 rfl (wI hw 0 rfl) (by decide) (by decide) (by decide) (ce' := 1) (sl' := 3) rfl rfl (by decide) (by decide) ?_
    intro t h_66 σ_67 g_68 K_69 lt_70 m_71 s_72 At
    refine Road.astore 9 #[.val (.int p0), .val (.int p1), .val (.int p2), .val (.int p3), .val (.int (3 : Int32)), .val (.ref t), .unset, .unset] b0_d9 rfl ?_
    refine Road.iload 11 b0_d11 rfl ?_
    refine Road.if_le 13 26 b0_d13 rfl (fun q => absurd q (by decide)) (fun hc13 => ?_)
    refine Road.aload 16 b0_d16 rfl ?_
    refine Road.iconst 18 (0 : Int32) b0_d18 rfl ?_
    refine Road.iloadN 19 b0_d19 rfl ?_
    refine Road.sipush 20 (255 : Int32) b0_d20 rfl ?_
    refine Road.iand 23 b0_d23 ?_
    refine Road.i2c 24 b0_d24 ?_
    refine Road.castore 25 0 (Road.chr (p1 &&& (255 : Int32))) b0_d25 At (by decide) (by simp) (Road.nar_chr _) s_72 ?_
    intro h_73 K_74 A_75
    replace At := A_75
    refine Road.iload 26 b0_d26 rfl ?_
    refine Road.iconst 28 (1 : Int32) b0_d28 rfl ?_
    refine Road.icmp_le 29 42 b0_d29 rfl (fun q => absurd q (by decide)) (fun hc29 => ?_)
    refine Road.aload 32 b0_d32 rfl ?_
    refine Road.iconst 34 (1 : Int32) b0_d34 rfl ?_
    refine Road.iloadN 35 b0_d35 rfl ?_
    refine Road.sipush 36 (255 : Int32) b0_d36 rfl ?_
    refine Road.iand 39 b0_d39 ?_
    refine Road.i2c 40 b0_d40 ?_
    refine Road.castore 41 1 (Road.chr (p2 &&& (255 : Int32))) b0_d41 At (by decide) (by simp) (Road.nar_chr _) s_72 ?_
    intro h_76 K_77 A_78
    replace At := A_78
    refine Road.iload 42 b0_d42 rfl ?_
    refine Road.iconst 44 (2 : Int32) b0_d44 rfl ?_
    refine Road.icmp_le 45 58 b0_d45 rfl (fun q => absurd q (by decide)) (fun hc45 => ?_)
    refine Road.aload 48 b0_d48 rfl ?_
    refine Road.iconst 50 (2 : Int32) b0_d50 rfl ?_
    refine Road.iloadN 51 b0_d51 rfl ?_
    refine Road.sipush 52 (255 : Int32) b0_d52 rfl ?_
    refine Road.iand 55 b0_d55 ?_
    refine Road.i2c 56 b0_d56 ?_
    refine Road.castore 57 2 (Road.chr (p3 &&& (255 : Int32))) b0_d57 At (by decide) (by simp) (Road.nar_chr _) s_72 ?_
    intro h_79 K_80 A_81
    replace At := A_81
    replace At : Road.Ary Z h_79 t .char (([(Road.chr (p1 &&& (255 : Int32))), (Road.chr (p2 &&& (255 : Int32))), (Road.chr (p3 &&& (255 : Int32)))] : List Int32).map .int) := At
    exact Road.Go.weaken (σ' := σ_67) (fun _ q => q) (ce' := 1) (sl' := 4) (by decide) (by decide) (J58 h_79 σ_67 3 t [(Road.chr (p1 &&& (255 : Int32))), (Road.chr (p2 &&& (255 : Int32))), (Road.chr (p3 &&& (255 : Int32)))] (by simp) (by intro c hc; simp only [List.mem_cons, List.not_mem_nil, or_false] at hc; rcases hc with rfl | rfl | rfl <;> exact Road.and255 _) At)
set_option maxHeartbeats 40000000 in
theorem comes_1 {Post : Tables → Env → Array Value → State → Outcome → State → Prop} (hpost : ∀ tb e args s v u, (limb_1_1.after args s (.returned v) u = true ∧ limb_1_2.after args s (.returned v) u = true ∧ True) → ReturnedEndW s (.returned v) u (Jvm.fieldLocs frame_1_writes args s ++ Jvm.arrayLocs frame_1_arrays args s ++ Jvm.staticLocs frame_1_statics s) 24 6656 → Post tb e args s (.returned v) u) :
    ArmFor flags0 classFile x code maxLocals ret World_1 tables_1 room_1 Calls_1 rest_1 Pre_1 Post := by
  intro l hfl _ _ p e ha hc hk s m args below hf hA hF happ hP
  obtain ⟨hcalls, hrest, hpre⟩ := hP
  obtain ⟨-, -, -, hnamed, -, -, -, hat⟩ := (Spec.applies_iff hf).mp happ
  obtain ⟨hg, hn⟩ := and_e (Cond.before_iff.mp (show (Jvm.Cond.and given_1 narrow_1).before args s = true from hpre))
  obtain ⟨h1, hr1⟩ := and_e hg
  obtain ⟨g0, hr2⟩ := and_e hr1
  obtain ⟨g1, hr3⟩ := and_e hr2
  obtain ⟨g2, hr4⟩ := and_e hr3
  have g3 := hr4
  obtain ⟨w0, w1, w2, w3, rfl⟩ : ∃ w0 w1 w2 w3 : Value, args = #[w0, w1, w2, w3] := by
    have hs : args.size = 4 := by simpa [Cond.value, given_1] using h1
    obtain ⟨L⟩ := args
    match L, hs with
    | [w0, w1, w2, w3], _ => exact ⟨w0, w1, w2, w3, rfl⟩
  obtain ⟨p0, ev0⟩ := is_v g0
  obtain rfl : w0 = (.int p0) := Option.some.inj ev0
  obtain ⟨p1, ev1⟩ := is_v g1
  obtain rfl : w1 = (.int p1) := Option.some.inj ev1
  obtain ⟨p2, ev2⟩ := is_v g2
  obtain rfl : w2 = (.int p2) := Option.some.inj ev2
  obtain ⟨p3, ev3⟩ := is_v g3
  obtain rfl : w3 = (.int p3) := Option.some.inj ev3
  have hw := fun d (hd : d ∈ tables_1) => atoms_spec (ws := Jvm.Cond.code x code maxLocals ret :: tables_1) hat d (List.mem_cons_of_mem _ hd)
  obtain ⟨hsets, hown0⟩ := atoms_of _ (rest_1_c_eq ▸ (show rest_1_c.before _ s = true from hrest))
  have hfit : Fit s := fun {y c} hc i hi => by
    obtain ⟨ha, rfl⟩ := Array.getElem?_eq_some_iff.mp hc
    have q := List.all_eq_true.mp ((Array.all_eq_true_iff_forall_mem.mp hF) _ (Array.getElem_mem ha)) i (List.mem_range.mpr hi)
    simpa [Array.getElem?_eq_getElem hi] using q
  have hcw := hsets _ (List.mem_of_getElem? (i := 22) rfl)
  have n5 := not_v (Cond.before_iff.mp hcw)
  obtain ⟨cp, e10⟩ := is_v (Cond.before_iff.mp (hsets _ (List.mem_of_getElem? (i := 21) rfl)))
  have Hc : Sta s s.heap "java/lang/String" "COMPACT_STRINGS" "Z" (.int cp) := Sta.start e10 (Or.inl (hsets _ (List.mem_of_getElem? (i := 20) rfl)))
  have hcp : ¬ (cp = (0 : Int32)) := gotF (Cond.eq_ints e10 (Term.int_eval (0))) n5
  have hEW : EW s _ consts_1 := (EW.cons (wI hw 14 rfl) (by decide) EW.nil)
  have hCH : CHv s consts_1 s.vm s.heap := CHv.start hEW (fun q hq => hcalls.2.2.1 q hq) hcw (wI hw 15 rfl) (wI hw 2 rfl)
  obtain ⟨us, _, eus, -⟩ := Term.length_spec (Road.eq_int_of (Cond.before_iff.mp (hsets _ (List.mem_of_getElem? (i := 9) rfl))))
  have Su : Sta s s.heap "java/lang/Throwable" "UNASSIGNED_STACK" "[Ljava/lang/StackTraceElement;" (.ref us) := Sta.start eus (Or.inl (hsets _ (List.mem_of_getElem? (i := 6) rfl)))
  obtain ⟨spa, esp⟩ := exa_v (Cond.before_iff.mp (hsets _ (List.mem_of_getElem? (i := 13) rfl)))
  have Sp : Sta s s.heap "java/lang/Throwable" "SUPPRESSED_SENTINEL" "Ljava/util/List;" (.ref spa) := Sta.start esp (Or.inl (hsets _ (List.mem_of_getElem? (i := 11) rfl)))
  have hl : l.stackTraces = true := by unfold Launch.stackTraces; rw [hfl]; decide
  obtain ⟨n, o, z1, z2, z3, v, L, rfl, hQ, N, -, -, hE⟩ := law l s _ hw s.heap.size hEW p0 p1 p2 p3 s.heap (fun _ => False) cp Hc hcp hl us Su (.ref spa) rfl Sp tables_1 p e ha hc hk s m _ below hf ((Spec.applies_iff_loose hf).mp happ).1 ⟨rfl, State.Warmed39.refl s, rfl, hCH, Old.start s, fun _ q => q.elim⟩ (fun _ => ⟨MethodsKnown_of_tablesKnown hcalls.2.1, FramesKnown_of_framesKnown hcalls.1 hf⟩)
  have hQ : v = some (.int 1) := hQ
  subst hQ
  refine ⟨n, _, z1, z2, z3, hpost _ _ _ _ _ _ ⟨Cond.after_iff.mpr rfl, Cond.after_iff.mpr (eq_i res_at (Term.int_eval (1)) rfl), trivial⟩ ⟨hE.1, hE.2.1, hE.2.2.1, (hE.2.2.2.sift fun y hy => Or.inr (N y hy)).mono (by decide) (by decide)⟩⟩
theorem main_1_1 : Claimed_1_1 := comes_1 fun _ _ _ _ _ _ h hF => ⟨h.1, hF⟩
theorem main_1_2 : Claimed_1_2 := comes_1 fun _ _ _ _ _ _ h hF => ⟨h.2.1, hF⟩
end Jvm.Pilot.@@N@@
namespace Jvm.Pilot.@@N@@
open Jvm Jvm.ClassFile Sem Op Lib Jvm.Free Jvm.Stand Jvm.Pilot.@@N@@.Jvm.D
/-! MADE BY PROGRAM (witnessworld.py) out of the Statement's table words and the real class files: 35 classes; the members and pool entries that the words name. The judged class is class 1, her method 1. -/
namespace start1
open Jvm.ClassFile
def u (s : String) : CpInfo := .utf8 (stringToUtf16 s)
/-- a pool by its gaps: so many unusable entries, then the entry; so many at the end -/
def gap : Nat → List CpInfo → List CpInfo
  | 0, r => r
  | n + 1, r => .unusable :: gap n r
def poolList (es : List (Nat × CpInfo)) (last : Nat) : List CpInfo := es.foldr (fun e r => gap e.1 (e.2 :: r)) (gap last [])
def pool (es : List (Nat × CpInfo)) (last : Nat) : Array CpInfo := ⟨poolList es last⟩
def fileOf (pool : Array CpInfo) (this : Nat) (attrs : Array Attribute := #[]) (ms : Array MethodInfo := #[]) (fl : Nat := 33) (sup : Nat := 0) (ifs : Array Nat := #[]) (fds : Array FieldInfo := #[]) : ClassFile where
  minorVersion := 0
  majorVersion := 65
  constantPool := pool
  accessFlags := fl
  thisClass := this
  superClass := sup
  interfaces := ifs
  fields := fds
  methods := ms
  attributes := attrs
def plain (name : String) (sup : Option ClassId) : Class where
  name := name
  kind := .ordinary
  loader := none
  accessFlags := 33
  super := sup
  interfaces := #[]
  cf := none
  fields := #[]
  methods := #[]
  instanceTypes := #[]
  staticTypes := #[]
  resolved := #[]
  callSites := []
  init := .initialized
  statics := none
  mirror := none

def pool0 : Array CpInfo := pool [(5, u "<init>"), (0, u "()V"), (1, .class_ 10), (1, u "java/lang/Object")] 113

def k0c0 : Code := { maxStack := 0, maxLocals := 1, code := object_method_1_code, exceptionTable := #[], attributes := #[] }
def k0m0 : Method := { name := "<init>", desc := "()V", sig := { parameters := [], returnType := none }, accessFlags := 1, code := some k0c0 }
/-- java/lang/Object -/
def k0 : Class := { plain "java/lang/Object" none with
  accessFlags := 33
  interfaces := #[]
  cf := some (fileOf pool0 8 #[] #[{ accessFlags := 1, nameIndex := 5, descriptorIndex := 6, attributes := #[] }] 33 0 #[] #[])
  fields := #[]
  methods := #[k0m0]
  instanceTypes := #[]
  staticTypes := #[]
  resolved := Array.replicate 124 none
  statics := none }

def pool1 : Array CpInfo := pool [(2, .class_ 4), (1, u "java/lang/Object"), (0, u "<init>"), (0, u "()V"), (0, .class_ 8), (0, u "java/lang/String"), (0, .methodref 7 10), (0, .nameAndType 5 11), (0, u "([C)V"), (0, .methodref 13 14), (0, .class_ 15), (0, .nameAndType 16 17), (0, u "com/example/anchorline/anchorline/server/RequestException"), (0, u "slowSync"), (0, u "(Ljava/lang/String;)Lcom/example/anchorline/anchorline/server/RequestException;"), (0, .methodref 13 19), (0, .nameAndType 20 21), (0, u "status"), (0, u "()I"), (0, .methodref 13 23), (0, .nameAndType 24 25), (0, u "isSlowSync"), (0, u "()Z"), (0, .methodref 13 27), (0, .nameAndType 28 29), (0, u "getMessage"), (0, u "()Ljava/lang/String;"), (0, .methodref 7 31), (0, .nameAndType 32 33), (0, u "equals"), (0, u "(Ljava/lang/Object;)Z"), (0, .class_ 35), (0, u "com/example/anchorline/anchorline/server/RequestExceptionSlowSyncPinLaw"), (2, u "law"), (0, u "(IIII)Z")] 5

def k1m0 : Method := { name := "<init>", desc := "()V", sig := { parameters := [], returnType := none }, accessFlags := 1, code := none }
def k1c1 : Code := { maxStack := 4, maxLocals := 8, code := code, exceptionTable := #[], attributes := #[] }
def k1m1 : Method := { name := "law", desc := "(IIII)Z", sig := { parameters := [.int, .int, .int, .int], returnType := some .boolean }, accessFlags := 9, code := some k1c1 }
/-- com/example/anchorline/anchorline/server/RequestExceptionSlowSyncPinLaw -/
def k1 : Class := { plain "com/example/anchorline/anchorline/server/RequestExceptionSlowSyncPinLaw" (some 0) with
  accessFlags := 49
  interfaces := #[]
  cf := some (fileOf pool1 34 #[] #[{ accessFlags := 1, nameIndex := 5, descriptorIndex := 6, attributes := #[] }, { accessFlags := 9, nameIndex := 38, descriptorIndex := 39, attributes := #[] }] 49 2 #[] #[])
  fields := #[]
  methods := #[k1m0, k1m1]
  instanceTypes := #[]
  staticTypes := #[]
  resolved := Array.replicate 45 none
  statics := none }

def pool2 : Array CpInfo := pool [(1, .class_ 2), (0, u "java/io/Serializable"), (0, .class_ 4), (0, u "java/lang/Object")] 2

/-- java/io/Serializable -/
def k2 : Class := { plain "java/io/Serializable" (some 0) with
  accessFlags := 1537
  interfaces := #[]
  cf := some (fileOf pool2 1 #[] #[] 1537 3 #[] #[])
  fields := #[]
  methods := #[]
  instanceTypes := #[]
  staticTypes := #[]
  resolved := Array.replicate 7 none
  statics := none }

def pool3 : Array CpInfo := pool [(1, .class_ 2), (0, u "java/lang/Comparable"), (0, .class_ 4), (0, u "java/lang/Object")] 7

/-- java/lang/Comparable -/
def k3 : Class := { plain "java/lang/Comparable" (some 0) with
  accessFlags := 1537
  interfaces := #[]
  cf := some (fileOf pool3 1 #[] #[] 1537 3 #[] #[])
  fields := #[]
  methods := #[]
  instanceTypes := #[]
  staticTypes := #[]
  resolved := Array.replicate 12 none
  statics := none }

def pool4 : Array CpInfo := pool [(2, .class_ 4), (1, u "java/lang/CharSequence"), (42, .class_ 48), (0, u "java/lang/CharSequence$1CodePointIterator"), (10, .class_ 60), (0, u "java/lang/CharSequence$1CharIterator"), (5, .class_ 67), (0, u "java/lang/Object")] 63

/-- java/lang/CharSequence -/
def k4 : Class := { plain "java/lang/CharSequence" (some 0) with
  accessFlags := 1537
  interfaces := #[]
  cf := some (fileOf pool4 2 #[.nestMembers #[47, 59]] #[] 1537 66 #[] #[])
  fields := #[]
  methods := #[]
  instanceTypes := #[]
  staticTypes := #[]
  resolved := Array.replicate 131 none
  statics := none }

def pool5 : Array CpInfo := pool [(1, .class_ 2), (0, u "java/lang/constant/Constable"), (0, .class_ 4), (0, u "java/lang/Object")] 6

/-- java/lang/constant/Constable -/
def k5 : Class := { plain "java/lang/constant/Constable" (some 0) with
  accessFlags := 1537
  interfaces := #[]
  cf := some (fileOf pool5 1 #[] #[] 1537 3 #[] #[])
  fields := #[]
  methods := #[]
  instanceTypes := #[]
  staticTypes := #[]
  resolved := Array.replicate 11 none
  statics := none }

def pool6 : Array CpInfo := pool [(1, .class_ 2), (0, u "java/lang/constant/ConstantDesc"), (0, .class_ 4), (0, u "java/lang/Object")] 32

/-- java/lang/constant/ConstantDesc -/
def k6 : Class := { plain "java/lang/constant/ConstantDesc" (some 0) with
  accessFlags := 1537
  interfaces := #[]
  cf := some (fileOf pool6 1 #[] #[] 1537 3 #[] #[])
  fields := #[]
  methods := #[]
  instanceTypes := #[]
  staticTypes := #[]
  resolved := Array.replicate 37 none
  statics := none }

def pool7 : Array CpInfo := pool [(1, .methodref 2 3), (0, .class_ 4), (0, .nameAndType 5 6), (0, u "java/lang/Object"), (0, u "<init>"), (0, u "()V"), (0, .string 8), (0, u ""), (0, .fieldref 10 11), (0, .class_ 12), (0, .nameAndType 13 14), (0, u "java/lang/String"), (0, u "value"), (0, u "[B"), (0, .fieldref 10 16), (0, .nameAndType 17 18), (0, u "coder"), (0, u "B"), (2, u "hash"), (0, u "I"), (2, u "hashIsZero"), (0, u "Z"), (0, .methodref 10 28), (0, .nameAndType 5 29), (0, u "([CIILjava/lang/Void;)V"), (8, .fieldref 10 39), (0, .nameAndType 40 26), (0, u "COMPACT_STRINGS"), (1, .class_ 44), (1, u "java/lang/StringUTF16"), (0, u "compress"), (1, .methodref 42 48), (0, .nameAndType 49 50), (0, u "coderFromArrayLen"), (0, u "([BI)B"), (126, .methodref 42 178), (0, .nameAndType 45 179), (0, u "([CII)[B"), (363, u "equals"), (29, u "(Ljava/lang/Object;)Z"), (1, .class_ 576), (0, u "java/lang/CharSequence"), (22, u "CASE_INSENSITIVE_ORDER"), (0, u "Ljava/util/Comparator;"), (409, u "([C)V"), (90, u "serialPersistentFields"), (0, u "[Ljava/io/ObjectStreamField;"), (0, .class_ 1104), (0, u "java/lang/String$CaseInsensitiveComparator"), (1, .class_ 1107), (0, u "java/io/Serializable"), (0, .class_ 1109), (0, u "java/lang/Comparable"), (0, .class_ 1111), (0, u "java/lang/constant/Constable"), (0, .class_ 1113), (0, u "java/lang/constant/ConstantDesc"), (2, u "serialVersionUID"), (0, u "J"), (3, u "REPL"), (0, u "C"), (2, u "LATIN1"), (1, u "UTF16")] 323

def k7m0 : Method := { name := "<init>", desc := "()V", sig := { parameters := [], returnType := none }, accessFlags := 1, code := none }
def k7c1 : Code := { maxStack := 5, maxLocals := 2, code := jdk_42_method_3_code, exceptionTable := #[], attributes := #[] }
def k7m1 : Method := { name := "<init>", desc := "([C)V", sig := { parameters := [(.array .char)], returnType := none }, accessFlags := 1, code := some k7c1 }
def k7c2 : Code := { maxStack := 2, maxLocals := 3, code := jdk_42_method_66_code, exceptionTable := #[], attributes := #[] }
def k7m2 : Method := { name := "equals", desc := "(Ljava/lang/Object;)Z", sig := { parameters := [(.object "java/lang/Object")], returnType := some .boolean }, accessFlags := 1, code := some k7c2 }
def k7c3 : Code := { maxStack := 4, maxLocals := 6, code := jdk_42_method_149_code, exceptionTable := #[], attributes := #[] }
def k7m3 : Method := { name := "<init>", desc := "([CIILjava/lang/Void;)V", sig := { parameters := [(.array .char), .int, .int, (.object "java/lang/Void")], returnType := none }, accessFlags := 2, code := some k7c3 }
/-- java/lang/String -/
def k7 : Class := { plain "java/lang/String" (some 0) with
  accessFlags := 49
  interfaces := #[2, 3, 4, 5, 6]
  cf := some (fileOf pool7 10 #[.nestMembers #[1103]] #[{ accessFlags := 1, nameIndex := 5, descriptorIndex := 6, attributes := #[] }, { accessFlags := 1, nameIndex := 5, descriptorIndex := 1010, attributes := #[] }, { accessFlags := 1, nameIndex := 543, descriptorIndex := 573, attributes := #[] }, { accessFlags := 2, nameIndex := 5, descriptorIndex := 29, attributes := #[] }] 49 2 #[1106, 1108, 575, 1110, 1112] #[{ accessFlags := 18, nameIndex := 13, descriptorIndex := 14, attributes := #[] }, { accessFlags := 18, nameIndex := 17, descriptorIndex := 18, attributes := #[] }, { accessFlags := 2, nameIndex := 21, descriptorIndex := 22, attributes := #[] }, { accessFlags := 2, nameIndex := 25, descriptorIndex := 26, attributes := #[] }, { accessFlags := 26, nameIndex := 1116, descriptorIndex := 1117, attributes := #[] }, { accessFlags := 24, nameIndex := 40, descriptorIndex := 26, attributes := #[] }, { accessFlags := 26, nameIndex := 1101, descriptorIndex := 1102, attributes := #[] }, { accessFlags := 26, nameIndex := 1121, descriptorIndex := 1122, attributes := #[] }, { accessFlags := 25, nameIndex := 599, descriptorIndex := 600, attributes := #[] }, { accessFlags := 24, nameIndex := 1125, descriptorIndex := 18, attributes := #[] }, { accessFlags := 24, nameIndex := 1127, descriptorIndex := 18, attributes := #[] }])
  fields := #[{ name := "value", type := (.array .byte), accessFlags := 18, slot := 0, constantValue := 0 }, { name := "coder", type := .byte, accessFlags := 18, slot := 1, constantValue := 0 }, { name := "hash", type := .int, accessFlags := 2, slot := 2, constantValue := 0 }, { name := "hashIsZero", type := .boolean, accessFlags := 2, slot := 3, constantValue := 0 }, { name := "serialVersionUID", type := .long, accessFlags := 26, slot := 0, constantValue := 0 }, { name := "COMPACT_STRINGS", type := .boolean, accessFlags := 24, slot := 1, constantValue := 0 }, { name := "serialPersistentFields", type := (.array (.object "java/io/ObjectStreamField")), accessFlags := 26, slot := 2, constantValue := 0 }, { name := "REPL", type := .char, accessFlags := 26, slot := 3, constantValue := 0 }, { name := "CASE_INSENSITIVE_ORDER", type := (.object "java/util/Comparator"), accessFlags := 25, slot := 4, constantValue := 0 }, { name := "LATIN1", type := .byte, accessFlags := 24, slot := 5, constantValue := 0 }, { name := "UTF16", type := .byte, accessFlags := 24, slot := 6, constantValue := 0 }]
  methods := #[k7m0, k7m1, k7m2, k7m3]
  instanceTypes := #[(.array .byte), .byte, .int, .boolean]
  staticTypes := #[.long, .boolean, (.array (.object "java/io/ObjectStreamField")), .char, (.object "java/util/Comparator"), .byte, .byte]
  resolved := Array.replicate 1451 none
  statics := some 0 }

def pool8 : Array CpInfo := pool [(1, .methodref 2 3), (0, .class_ 4), (0, .nameAndType 5 6), (0, u "java/lang/Object"), (0, u "<init>"), (0, u "()V"), (0, .fieldref 8 9), (0, .class_ 10), (0, .nameAndType 11 12), (0, u "java/lang/Throwable"), (0, u "cause"), (0, u "Ljava/lang/Throwable;"), (0, .fieldref 8 14), (0, .nameAndType 15 16), (0, u "UNASSIGNED_STACK"), (0, u "[Ljava/lang/StackTraceElement;"), (0, .fieldref 8 18), (0, .nameAndType 19 16), (0, u "stackTrace"), (0, .fieldref 8 21), (0, .nameAndType 22 23), (0, u "SUPPRESSED_SENTINEL"), (0, u "Ljava/util/List;"), (0, .fieldref 8 25), (0, .nameAndType 26 23), (0, u "suppressedExceptions"), (0, .methodref 8 28), (0, .nameAndType 29 30), (0, u "fillInStackTrace"), (0, u "()Ljava/lang/Throwable;"), (0, .fieldref 8 32), (0, .nameAndType 33 34), (0, u "detailMessage"), (0, u "Ljava/lang/String;"), (3, u "()Ljava/lang/String;"), (2, u "getMessage"), (51, .class_ 94), (0, u "java/lang/Throwable$WrappedPrintStream"), (6, .class_ 103), (1, u "java/lang/Throwable$PrintStreamOrWriter"), (61, u "$assertionsDisabled"), (0, u "Z"), (26, .class_ 194), (0, u "java/lang/Throwable$WrappedPrintWriter"), (3, .fieldref 8 199), (0, .nameAndType 200 201), (0, u "backtrace"), (0, u "Ljava/lang/Object;"), (0, .methodref 8 203), (0, .nameAndType 29 204), (0, u "(I)Ljava/lang/Throwable;"), (6, u "depth"), (0, u "I"), (10, u "(Ljava/lang/String;)V"), (45, .class_ 271), (1, u "java/lang/Throwable$SentinelHolder"), (32, u "EMPTY_THROWABLE_ARRAY"), (0, u "[Ljava/lang/Throwable;"), (12, .class_ 319), (0, u "java/io/Serializable"), (0, u "serialVersionUID"), (0, u "J"), (5, u "NULL_CAUSE_MESSAGE"), (0, u "SELF_SUPPRESSION_MESSAGE"), (0, u "CAUSE_CAPTION"), (0, u "SUPPRESSED_CAPTION")] 73

def k8c0 : Code := { maxStack := 2, maxLocals := 1, code := jdk_78_method_1_code, exceptionTable := #[], attributes := #[] }
def k8m0 : Method := { name := "<init>", desc := "()V", sig := { parameters := [], returnType := none }, accessFlags := 1, code := some k8c0 }
def k8c1 : Code := { maxStack := 2, maxLocals := 2, code := jdk_78_method_2_code, exceptionTable := #[], attributes := #[] }
def k8m1 : Method := { name := "<init>", desc := "(Ljava/lang/String;)V", sig := { parameters := [(.object "java/lang/String")], returnType := none }, accessFlags := 1, code := some k8c1 }
def k8c2 : Code := { maxStack := 1, maxLocals := 1, code := jdk_78_method_6_code, exceptionTable := #[], attributes := #[] }
def k8m2 : Method := { name := "getMessage", desc := "()Ljava/lang/String;", sig := { parameters := [], returnType := some (.object "java/lang/String") }, accessFlags := 1, code := some k8c2 }
def k8c3 : Code := { maxStack := 2, maxLocals := 1, code := ⟨#[0x2a, 0xb4, 0x00, 0x11, 0xc7, 0x00, 0x0a, 0x2a, 0xb4, 0x00, 0xc6, 0xc6, 0x00, 0x10, 0x2a, 0x03, 0xb6, 0x00, 0xca, 0x57, 0x2a, 0xb2, 0x00, 0x0d, 0xb5, 0x00, 0x11, 0x2a, 0xb0]⟩, exceptionTable := #[], attributes := #[] }
def k8m3 : Method := { name := "fillInStackTrace", desc := "()Ljava/lang/Throwable;", sig := { parameters := [], returnType := some (.object "java/lang/Throwable") }, accessFlags := 33, code := some k8c3 }
def k8m4 : Method := { name := "fillInStackTrace", desc := "(I)Ljava/lang/Throwable;", sig := { parameters := [.int], returnType := some (.object "java/lang/Throwable") }, accessFlags := 258, code := none }
/-- java/lang/Throwable -/
def k8 : Class := { plain "java/lang/Throwable" (some 0) with
  accessFlags := 33
  interfaces := #[2]
  cf := some (fileOf pool8 8 #[.nestMembers #[193, 93, 101, 269]] #[{ accessFlags := 1, nameIndex := 5, descriptorIndex := 6, attributes := #[] }, { accessFlags := 1, nameIndex := 5, descriptorIndex := 223, attributes := #[] }, { accessFlags := 1, nameIndex := 41, descriptorIndex := 38, attributes := #[] }, { accessFlags := 33, nameIndex := 29, descriptorIndex := 30, attributes := #[] }, { accessFlags := 258, nameIndex := 29, descriptorIndex := 204, attributes := #[] }] 33 2 #[318] #[{ accessFlags := 26, nameIndex := 320, descriptorIndex := 321, attributes := #[] }, { accessFlags := 130, nameIndex := 200, descriptorIndex := 201, attributes := #[] }, { accessFlags := 2, nameIndex := 33, descriptorIndex := 34, attributes := #[] }, { accessFlags := 26, nameIndex := 15, descriptorIndex := 16, attributes := #[] }, { accessFlags := 2, nameIndex := 11, descriptorIndex := 12, attributes := #[] }, { accessFlags := 2, nameIndex := 19, descriptorIndex := 16, attributes := #[] }, { accessFlags := 130, nameIndex := 211, descriptorIndex := 212, attributes := #[] }, { accessFlags := 26, nameIndex := 22, descriptorIndex := 23, attributes := #[] }, { accessFlags := 2, nameIndex := 26, descriptorIndex := 23, attributes := #[] }, { accessFlags := 26, nameIndex := 327, descriptorIndex := 34, attributes := #[] }, { accessFlags := 26, nameIndex := 328, descriptorIndex := 34, attributes := #[] }, { accessFlags := 26, nameIndex := 329, descriptorIndex := 34, attributes := #[] }, { accessFlags := 26, nameIndex := 330, descriptorIndex := 34, attributes := #[] }, { accessFlags := 26, nameIndex := 304, descriptorIndex := 305, attributes := #[] }, { accessFlags := 4120, nameIndex := 165, descriptorIndex := 166, attributes := #[] }])
  fields := #[{ name := "serialVersionUID", type := .long, accessFlags := 26, slot := 0, constantValue := 0 }, { name := "backtrace", type := (.object "java/lang/Object"), accessFlags := 130, slot := 0, constantValue := 0 }, { name := "detailMessage", type := (.object "java/lang/String"), accessFlags := 2, slot := 1, constantValue := 0 }, { name := "UNASSIGNED_STACK", type := (.array (.object "java/lang/StackTraceElement")), accessFlags := 26, slot := 1, constantValue := 0 }, { name := "cause", type := (.object "java/lang/Throwable"), accessFlags := 2, slot := 2, constantValue := 0 }, { name := "stackTrace", type := (.array (.object "java/lang/StackTraceElement")), accessFlags := 2, slot := 3, constantValue := 0 }, { name := "depth", type := .int, accessFlags := 130, slot := 4, constantValue := 0 }, { name := "SUPPRESSED_SENTINEL", type := (.object "java/util/List"), accessFlags := 26, slot := 2, constantValue := 0 }, { name := "suppressedExceptions", type := (.object "java/util/List"), accessFlags := 2, slot := 5, constantValue := 0 }, { name := "NULL_CAUSE_MESSAGE", type := (.object "java/lang/String"), accessFlags := 26, slot := 3, constantValue := 0 }, { name := "SELF_SUPPRESSION_MESSAGE", type := (.object "java/lang/String"), accessFlags := 26, slot := 4, constantValue := 0 }, { name := "CAUSE_CAPTION", type := (.object "java/lang/String"), accessFlags := 26, slot := 5, constantValue := 0 }, { name := "SUPPRESSED_CAPTION", type := (.object "java/lang/String"), accessFlags := 26, slot := 6, constantValue := 0 }, { name := "EMPTY_THROWABLE_ARRAY", type := (.array (.object "java/lang/Throwable")), accessFlags := 26, slot := 7, constantValue := 0 }, { name := "$assertionsDisabled", type := .boolean, accessFlags := 4120, slot := 8, constantValue := 0 }]
  methods := #[k8m0, k8m1, k8m2, k8m3, k8m4]
  instanceTypes := #[(.object "java/lang/Object"), (.object "java/lang/String"), (.object "java/lang/Throwable"), (.array (.object "java/lang/StackTraceElement")), .int, (.object "java/util/List")]
  staticTypes := #[.long, (.array (.object "java/lang/StackTraceElement")), (.object "java/util/List"), (.object "java/lang/String"), (.object "java/lang/String"), (.object "java/lang/String"), (.object "java/lang/String"), (.array (.object "java/lang/Throwable")), .boolean]
  resolved := Array.replicate 404 none
  statics := some 1 }

def pool9 : Array CpInfo := pool [(2, .class_ 4), (1, u "java/lang/Throwable"), (0, u "<init>"), (0, u "()V"), (0, .methodref 2 8), (0, .nameAndType 5 9), (0, u "(Ljava/lang/String;)V"), (9, .class_ 20), (0, u "java/lang/Exception"), (0, u "serialVersionUID"), (0, u "J")] 17

def k9m0 : Method := { name := "<init>", desc := "()V", sig := { parameters := [], returnType := none }, accessFlags := 1, code := none }
def k9c1 : Code := { maxStack := 2, maxLocals := 2, code := jdk_59_method_2_code, exceptionTable := #[], attributes := #[] }
def k9m1 : Method := { name := "<init>", desc := "(Ljava/lang/String;)V", sig := { parameters := [(.object "java/lang/String")], returnType := none }, accessFlags := 1, code := some k9c1 }
/-- java/lang/Exception -/
def k9 : Class := { plain "java/lang/Exception" (some 8) with
  accessFlags := 33
  interfaces := #[]
  cf := some (fileOf pool9 19 #[] #[{ accessFlags := 1, nameIndex := 5, descriptorIndex := 6, attributes := #[] }, { accessFlags := 1, nameIndex := 5, descriptorIndex := 9, attributes := #[] }] 33 2 #[] #[{ accessFlags := 24, nameIndex := 21, descriptorIndex := 22, attributes := #[] }])
  fields := #[{ name := "serialVersionUID", type := .long, accessFlags := 24, slot := 0, constantValue := 0 }]
  methods := #[k9m0, k9m1]
  instanceTypes := #[(.object "java/lang/Object"), (.object "java/lang/String"), (.object "java/lang/Throwable"), (.array (.object "java/lang/StackTraceElement")), .int, (.object "java/util/List")]
  staticTypes := #[.long]
  resolved := Array.replicate 40 none
  statics := none }

def pool10 : Array CpInfo := pool [(1, .methodref 2 3), (0, .class_ 4), (0, .nameAndType 5 6), (0, u "java/lang/Exception"), (0, u "<init>"), (0, u "(Ljava/lang/String;)V"), (0, .fieldref 8 9), (0, .class_ 10), (0, .nameAndType 11 12), (0, u "com/example/anchorline/anchorline/server/RequestException"), (0, u "status"), (0, u "I"), (0, .fieldref 8 14), (0, .nameAndType 15 16), (0, u "slowSync"), (0, u "Z"), (0, .methodref 8 18), (0, .nameAndType 5 19), (0, u "(ILjava/lang/String;Z)V"), (3, u "serialVersionUID"), (0, u "J"), (6, u "(Ljava/lang/String;)Lcom/example/anchorline/anchorline/server/RequestException;"), (1, u "()I"), (0, u "isSlowSync"), (0, u "()Z")] 2

def k10c0 : Code := { maxStack := 2, maxLocals := 4, code := prog_45_method_1_code, exceptionTable := #[], attributes := #[] }
def k10m0 : Method := { name := "<init>", desc := "(ILjava/lang/String;Z)V", sig := { parameters := [.int, (.object "java/lang/String"), .boolean], returnType := none }, accessFlags := 2, code := some k10c0 }
def k10c1 : Code := { maxStack := 5, maxLocals := 1, code := prog_45_method_5_code, exceptionTable := #[], attributes := #[] }
def k10m1 : Method := { name := "slowSync", desc := "(Ljava/lang/String;)Lcom/example/anchorline/anchorline/server/RequestException;", sig := { parameters := [(.object "java/lang/String")], returnType := some (.object "com/example/anchorline/anchorline/server/RequestException") }, accessFlags := 8, code := some k10c1 }
def k10c2 : Code := { maxStack := 1, maxLocals := 1, code := prog_45_method_6_code, exceptionTable := #[], attributes := #[] }
def k10m2 : Method := { name := "status", desc := "()I", sig := { parameters := [], returnType := some .int }, accessFlags := 0, code := some k10c2 }
def k10c3 : Code := { maxStack := 1, maxLocals := 1, code := prog_45_method_7_code, exceptionTable := #[], attributes := #[] }
def k10m3 : Method := { name := "isSlowSync", desc := "()Z", sig := { parameters := [], returnType := some .boolean }, accessFlags := 0, code := some k10c3 }
/-- com/example/anchorline/anchorline/server/RequestException -/
def k10 : Class := { plain "com/example/anchorline/anchorline/server/RequestException" (some 9) with
  accessFlags := 48
  interfaces := #[]
  cf := some (fileOf pool10 8 #[] #[{ accessFlags := 2, nameIndex := 5, descriptorIndex := 19, attributes := #[] }, { accessFlags := 8, nameIndex := 15, descriptorIndex := 31, attributes := #[] }, { accessFlags := 0, nameIndex := 11, descriptorIndex := 33, attributes := #[] }, { accessFlags := 0, nameIndex := 34, descriptorIndex := 35, attributes := #[] }] 48 2 #[] #[{ accessFlags := 26, nameIndex := 23, descriptorIndex := 24, attributes := #[] }, { accessFlags := 18, nameIndex := 11, descriptorIndex := 12, attributes := #[] }, { accessFlags := 18, nameIndex := 15, descriptorIndex := 16, attributes := #[] }])
  fields := #[{ name := "serialVersionUID", type := .long, accessFlags := 26, slot := 0, constantValue := 0 }, { name := "status", type := .int, accessFlags := 18, slot := 6, constantValue := 0 }, { name := "slowSync", type := .boolean, accessFlags := 18, slot := 7, constantValue := 0 }]
  methods := #[k10m0, k10m1, k10m2, k10m3]
  instanceTypes := #[(.object "java/lang/Object"), (.object "java/lang/String"), (.object "java/lang/Throwable"), (.array (.object "java/lang/StackTraceElement")), .int, (.object "java/util/List"), .int, .boolean]
  staticTypes := #[.long]
  resolved := Array.replicate 38 none
  statics := none }

def pool11 : Array CpInfo := pool [(6, .class_ 8), (1, u "java/lang/Object"), (0, u "<init>"), (0, u "()V"), (1, .class_ 14), (1, u "java/lang/StringUTF16"), (31, u "$assertionsDisabled"), (0, u "Z"), (13, u "HI_BYTE_SHIFT"), (0, u "I"), (2, u "LO_BYTE_SHIFT"), (49, .methodref 12 116), (0, .nameAndType 117 118), (0, u "compress"), (0, u "([CI[BII)I"), (3, u "([CII)[B"), (138, u "coderFromArrayLen"), (0, u "([BI)B"), (106, .class_ 371), (1, u "java/lang/StringUTF16$LinesSpliterator"), (58, u "MAX_LENGTH"), (196, .class_ 628), (0, u "java/lang/StringUTF16$CodePointsSpliterator"), (0, .class_ 630), (0, u "java/lang/StringUTF16$CharsSpliterator")] 4

def k11m0 : Method := { name := "<init>", desc := "()V", sig := { parameters := [], returnType := none }, accessFlags := 0, code := none }
def k11c1 : Code := { maxStack := 2, maxLocals := 2, code := jdk_52_method_15_code, exceptionTable := #[], attributes := #[] }
def k11m1 : Method := { name := "coderFromArrayLen", desc := "([BI)B", sig := { parameters := [(.array .byte), .int], returnType := some .byte }, accessFlags := 8, code := some k11c1 }
def k11c2 : Code := { maxStack := 5, maxLocals := 6, code := jdk_52_method_16_code, exceptionTable := #[], attributes := #[] }
def k11m2 : Method := { name := "compress", desc := "([CII)[B", sig := { parameters := [(.array .char), .int, .int], returnType := some (.array .byte) }, accessFlags := 9, code := some k11c2 }
def k11c3 : Code := { maxStack := 3, maxLocals := 7, code := jdk_52_method_21_code, exceptionTable := #[], attributes := #[] }
def k11m3 : Method := { name := "compress", desc := "([CI[BII)I", sig := { parameters := [(.array .char), .int, (.array .byte), .int, .int], returnType := some .int }, accessFlags := 9, code := some k11c3 }
/-- java/lang/StringUTF16 -/
def k11 : Class := { plain "java/lang/StringUTF16" (some 0) with
  accessFlags := 48
  interfaces := #[]
  cf := some (fileOf pool11 12 #[.nestMembers #[627, 629, 369]] #[{ accessFlags := 0, nameIndex := 9, descriptorIndex := 10, attributes := #[] }, { accessFlags := 8, nameIndex := 261, descriptorIndex := 262, attributes := #[] }, { accessFlags := 9, nameIndex := 117, descriptorIndex := 122, attributes := #[] }, { accessFlags := 9, nameIndex := 117, descriptorIndex := 118, attributes := #[] }] 48 6 #[] #[{ accessFlags := 26, nameIndex := 61, descriptorIndex := 62, attributes := #[] }, { accessFlags := 26, nameIndex := 65, descriptorIndex := 62, attributes := #[] }, { accessFlags := 24, nameIndex := 430, descriptorIndex := 62, attributes := #[] }, { accessFlags := 4120, nameIndex := 46, descriptorIndex := 47, attributes := #[] }])
  fields := #[{ name := "HI_BYTE_SHIFT", type := .int, accessFlags := 26, slot := 0, constantValue := 0 }, { name := "LO_BYTE_SHIFT", type := .int, accessFlags := 26, slot := 1, constantValue := 0 }, { name := "MAX_LENGTH", type := .int, accessFlags := 24, slot := 2, constantValue := 0 }, { name := "$assertionsDisabled", type := .boolean, accessFlags := 4120, slot := 3, constantValue := 0 }]
  methods := #[k11m0, k11m1, k11m2, k11m3]
  instanceTypes := #[]
  staticTypes := #[.int, .int, .int, .boolean]
  resolved := Array.replicate 635 none
  statics := none }

def pool12 : Array CpInfo := pool [(2, .class_ 4), (1, u "java/lang/Object"), (0, u "<init>"), (0, u "()V"), (12, .class_ 20), (0, u "java/util/Collections"), (63, u "r"), (0, u "Ljava/util/Random;"), (80, .class_ 167), (0, u "java/util/Collections$UnmodifiableCollection"), (6, .class_ 175), (0, u "java/util/Collections$UnmodifiableSequencedCollection"), (6, .class_ 183), (0, u "java/util/Collections$UnmodifiableSet"), (6, .class_ 191), (0, u "java/util/Collections$UnmodifiableSequencedSet"), (6, .class_ 199), (0, u "java/util/Collections$UnmodifiableSortedSet"), (6, .class_ 207), (0, u "java/util/Collections$UnmodifiableNavigableSet"), (4, .class_ 213), (0, u "java/util/Collections$UnmodifiableList"), (1, .class_ 216), (0, u "java/util/Collections$UnmodifiableRandomAccessList"), (6, .class_ 224), (0, u "java/util/Collections$UnmodifiableMap"), (6, .class_ 232), (0, u "java/util/Collections$UnmodifiableSequencedMap"), (4, .class_ 238), (0, u "java/util/Collections$UnmodifiableSortedMap"), (6, .class_ 246), (0, u "java/util/Collections$UnmodifiableNavigableMap"), (3, .class_ 251), (0, u "java/util/Collections$SynchronizedCollection"), (4, .class_ 257), (0, u "java/util/Collections$SynchronizedSet"), (4, .class_ 263), (0, u "java/util/Collections$SynchronizedSortedSet"), (1, .class_ 266), (0, u "java/util/Collections$SynchronizedNavigableSet"), (1, .class_ 269), (0, u "java/util/Collections$SynchronizedRandomAccessList"), (1, .class_ 272), (0, u "java/util/Collections$SynchronizedList"), (5, .class_ 279), (0, u "java/util/Collections$SynchronizedMap"), (1, .class_ 282), (0, u "java/util/Collections$SynchronizedSortedMap"), (1, .class_ 285), (0, u "java/util/Collections$SynchronizedNavigableMap"), (1, .class_ 288), (0, u "java/util/Collections$CheckedCollection"), (11, .class_ 301), (0, u "java/util/Collections$CheckedQueue"), (3, .class_ 306), (0, u "java/util/Collections$CheckedSet"), (3, .class_ 311), (0, u "java/util/Collections$CheckedSortedSet"), (3, .class_ 316), (0, u "java/util/Collections$CheckedNavigableSet"), (3, .class_ 321), (0, u "java/util/Collections$CheckedRandomAccessList"), (3, .class_ 326), (0, u "java/util/Collections$CheckedList"), (1, .class_ 329), (0, u "java/util/Collections$CheckedMap"), (3, .class_ 334), (0, u "java/util/Collections$CheckedSortedMap"), (3, .class_ 339), (0, u "java/util/Collections$CheckedNavigableMap"), (4, .class_ 346), (1, u "java/util/Collections$EmptyIterator"), (3, .class_ 352), (1, u "java/util/Collections$EmptyListIterator"), (2, .class_ 357), (1, u "java/util/Collections$EmptyEnumeration"), (4, u "EMPTY_SET"), (0, u "Ljava/util/Set;"), (6, u "EMPTY_LIST"), (0, u "Ljava/util/List;"), (2, u "EMPTY_MAP"), (0, u "Ljava/util/Map;"), (4, .class_ 381), (0, u "java/util/Collections$SingletonSet"), (2, .class_ 385), (0, u "java/util/Collections$1"), (1, .class_ 388), (0, u "java/util/Collections$2"), (1, .class_ 391), (0, u "java/util/Collections$SingletonList"), (1, .class_ 394), (0, u "java/util/Collections$SingletonMap"), (22, .class_ 418), (0, u "java/util/Collections$CopiesList"), (4, .class_ 425), (1, u "java/util/Collections$ReverseComparator"), (8, .class_ 435), (0, u "java/util/Collections$ReverseComparator2"), (6, .class_ 443), (0, u "java/util/Collections$3"), (25, .class_ 470), (0, u "java/util/Collections$SetFromMap"), (2, .class_ 474), (0, u "java/util/Collections$SequencedSetFromMap"), (3, .class_ 479), (0, u "java/util/Collections$AsLIFOQueue"), (11, .class_ 492), (0, u "java/util/Collections$EmptySet"), (1, .class_ 495), (0, u "java/util/Collections$EmptyList"), (1, .class_ 498), (0, u "java/util/Collections$EmptyMap"), (1, u "BINARYSEARCH_THRESHOLD"), (0, u "I"), (2, u "REVERSE_THRESHOLD"), (1, u "SHUFFLE_THRESHOLD"), (1, u "FILL_THRESHOLD"), (1, u "ROTATE_THRESHOLD"), (1, u "COPY_THRESHOLD"), (1, u "REPLACEALL_THRESHOLD"), (1, u "INDEXOFSUBLIST_THRESHOLD"), (333, .class_ 851), (0, u "java/util/Collections$CheckedMap$CheckedEntrySet"), (0, .class_ 853), (0, u "java/util/Collections$CheckedMap$CheckedEntrySet$CheckedEntry"), (0, .class_ 855), (0, u "java/util/Collections$CheckedMap$CheckedEntrySet$1"), (0, .class_ 857), (0, u "java/util/Collections$CheckedList$1"), (0, .class_ 859), (0, u "java/util/Collections$CheckedCollection$1"), (0, .class_ 861), (0, u "java/util/Collections$UnmodifiableNavigableMap$EmptyNavigableMap"), (0, .class_ 863), (0, u "java/util/Collections$UnmodifiableMap$UnmodifiableEntrySet"), (0, .class_ 865), (0, u "java/util/Collections$UnmodifiableMap$UnmodifiableEntrySet$UnmodifiableEntry"), (0, .class_ 867), (0, u "java/util/Collections$UnmodifiableMap$UnmodifiableEntrySet$UnmodifiableEntrySetSpliterator"), (0, .class_ 869), (0, u "java/util/Collections$UnmodifiableMap$UnmodifiableEntrySet$1"), (0, .class_ 871), (0, u "java/util/Collections$UnmodifiableList$1"), (0, .class_ 873), (0, u "java/util/Collections$UnmodifiableNavigableSet$EmptyNavigableSet"), (0, .class_ 875), (0, u "java/util/Collections$UnmodifiableCollection$1")] 57

def k12m0 : Method := { name := "<init>", desc := "()V", sig := { parameters := [], returnType := none }, accessFlags := 2, code := none }
/-- java/util/Collections -/
def k12 : Class := { plain "java/util/Collections" (some 0) with
  accessFlags := 33
  interfaces := #[]
  cf := some (fileOf pool12 19 #[.nestMembers #[478, 473, 469, 434, 423, 417, 393, 390, 380, 497, 494, 491, 355, 350, 344, 338, 333, 328, 850, 852, 854, 320, 325, 856, 315, 310, 305, 300, 287, 858, 284, 281, 278, 268, 271, 265, 262, 256, 250, 245, 860, 237, 231, 223, 862, 864, 866, 868, 215, 212, 870, 206, 872, 198, 190, 182, 174, 166, 874, 442, 387, 384]] #[{ accessFlags := 2, nameIndex := 5, descriptorIndex := 6, attributes := #[] }] 33 2 #[] #[{ accessFlags := 26, nameIndex := 500, descriptorIndex := 501, attributes := #[] }, { accessFlags := 26, nameIndex := 504, descriptorIndex := 501, attributes := #[] }, { accessFlags := 26, nameIndex := 506, descriptorIndex := 501, attributes := #[] }, { accessFlags := 26, nameIndex := 508, descriptorIndex := 501, attributes := #[] }, { accessFlags := 26, nameIndex := 510, descriptorIndex := 501, attributes := #[] }, { accessFlags := 26, nameIndex := 512, descriptorIndex := 501, attributes := #[] }, { accessFlags := 26, nameIndex := 514, descriptorIndex := 501, attributes := #[] }, { accessFlags := 26, nameIndex := 516, descriptorIndex := 501, attributes := #[] }, { accessFlags := 10, nameIndex := 84, descriptorIndex := 85, attributes := #[] }, { accessFlags := 25, nameIndex := 362, descriptorIndex := 363, attributes := #[] }, { accessFlags := 25, nameIndex := 370, descriptorIndex := 371, attributes := #[] }, { accessFlags := 25, nameIndex := 374, descriptorIndex := 375, attributes := #[] }])
  fields := #[{ name := "BINARYSEARCH_THRESHOLD", type := .int, accessFlags := 26, slot := 0, constantValue := 0 }, { name := "REVERSE_THRESHOLD", type := .int, accessFlags := 26, slot := 1, constantValue := 0 }, { name := "SHUFFLE_THRESHOLD", type := .int, accessFlags := 26, slot := 2, constantValue := 0 }, { name := "FILL_THRESHOLD", type := .int, accessFlags := 26, slot := 3, constantValue := 0 }, { name := "ROTATE_THRESHOLD", type := .int, accessFlags := 26, slot := 4, constantValue := 0 }, { name := "COPY_THRESHOLD", type := .int, accessFlags := 26, slot := 5, constantValue := 0 }, { name := "REPLACEALL_THRESHOLD", type := .int, accessFlags := 26, slot := 6, constantValue := 0 }, { name := "INDEXOFSUBLIST_THRESHOLD", type := .int, accessFlags := 26, slot := 7, constantValue := 0 }, { name := "r", type := (.object "java/util/Random"), accessFlags := 10, slot := 8, constantValue := 0 }, { name := "EMPTY_SET", type := (.object "java/util/Set"), accessFlags := 25, slot := 9, constantValue := 0 }, { name := "EMPTY_LIST", type := (.object "java/util/List"), accessFlags := 25, slot := 10, constantValue := 0 }, { name := "EMPTY_MAP", type := (.object "java/util/Map"), accessFlags := 25, slot := 11, constantValue := 0 }]
  methods := #[k12m0]
  instanceTypes := #[]
  staticTypes := #[.int, .int, .int, .int, .int, .int, .int, .int, (.object "java/util/Random"), (.object "java/util/Set"), (.object "java/util/List"), (.object "java/util/Map")]
  resolved := Array.replicate 933 none
  statics := some 2 }

def pool13 : Array CpInfo := pool [(4, .class_ 6), (1, u "java/lang/Object"), (0, u "<init>"), (0, u "()V"), (5, .class_ 16), (1, u "java/lang/StringLatin1"), (104, u "$assertionsDisabled"), (0, u "Z"), (98, .class_ 223), (1, u "java/lang/StringLatin1$LinesSpliterator"), (166, .class_ 391), (0, u "java/lang/StringLatin1$CharsSpliterator")] 3

def k13m0 : Method := { name := "<init>", desc := "()V", sig := { parameters := [], returnType := none }, accessFlags := 0, code := none }
/-- java/lang/StringLatin1 -/
def k13 : Class := { plain "java/lang/StringLatin1" (some 0) with
  accessFlags := 48
  interfaces := #[]
  cf := some (fileOf pool13 14 #[.nestMembers #[390, 221]] #[{ accessFlags := 0, nameIndex := 7, descriptorIndex := 8, attributes := #[] }] 48 4 #[] #[{ accessFlags := 4120, nameIndex := 121, descriptorIndex := 122, attributes := #[] }])
  fields := #[{ name := "$assertionsDisabled", type := .boolean, accessFlags := 4120, slot := 0, constantValue := 0 }]
  methods := #[k13m0]
  instanceTypes := #[]
  staticTypes := #[.boolean]
  resolved := Array.replicate 395 none
  statics := none }

def pool14 : Array CpInfo := pool [(2, .class_ 4), (1, u "java/lang/Object"), (0, u "<init>"), (0, u "()V"), (17, .class_ 26), (1, u "jdk/internal/util/Preconditions"), (28, .class_ 56), (0, u "jdk/internal/util/Preconditions$4"), (57, .class_ 115), (0, u "jdk/internal/util/Preconditions$1"), (7, u "SIOOBE_FORMATTER"), (0, u "Ljava/util/function/BiFunction;"), (0, .class_ 126), (0, u "jdk/internal/util/Preconditions$2"), (3, u "AIOOBE_FORMATTER"), (0, .class_ 132), (0, u "jdk/internal/util/Preconditions$3"), (3, u "IOOBE_FORMATTER")] 57

def k14m0 : Method := { name := "<init>", desc := "()V", sig := { parameters := [], returnType := none }, accessFlags := 1, code := none }
/-- jdk/internal/util/Preconditions -/
def k14 : Class := { plain "jdk/internal/util/Preconditions" (some 0) with
  accessFlags := 33
  interfaces := #[]
  cf := some (fileOf pool14 24 #[.nestMembers #[55, 131, 125, 114]] #[{ accessFlags := 1, nameIndex := 5, descriptorIndex := 6, attributes := #[] }] 33 2 #[] #[{ accessFlags := 25, nameIndex := 123, descriptorIndex := 124, attributes := #[] }, { accessFlags := 25, nameIndex := 130, descriptorIndex := 124, attributes := #[] }, { accessFlags := 25, nameIndex := 136, descriptorIndex := 124, attributes := #[] }])
  fields := #[{ name := "SIOOBE_FORMATTER", type := (.object "java/util/function/BiFunction"), accessFlags := 25, slot := 0, constantValue := 0 }, { name := "AIOOBE_FORMATTER", type := (.object "java/util/function/BiFunction"), accessFlags := 25, slot := 1, constantValue := 0 }, { name := "IOOBE_FORMATTER", type := (.object "java/util/function/BiFunction"), accessFlags := 25, slot := 2, constantValue := 0 }]
  methods := #[k14m0]
  instanceTypes := #[]
  staticTypes := #[(.object "java/util/function/BiFunction"), (.object "java/util/function/BiFunction"), (.object "java/util/function/BiFunction")]
  resolved := Array.replicate 194 none
  statics := some 3 }

def pool15 : Array CpInfo := pool [(9, u "<init>"), (6, .class_ 18), (1, u "java/lang/Object"), (0, u "()V"), (1, .class_ 23), (1, u "jdk/internal/util/ArraysSupport"), (0, u "LOG2_ARRAY_LONG_INDEX_SCALE"), (0, u "I"), (2, u "U"), (0, u "Ljdk/internal/misc/Unsafe;"), (8, u "BIG_ENDIAN"), (0, u "Z"), (8, u "LOG2_BYTE_BIT_SIZE"), (4, u "LOG2_ARRAY_INT_INDEX_SCALE"), (54, u "JLA"), (0, u "Ljdk/internal/access/JavaLangAccess;"), (11, u "LOG2_ARRAY_BOOLEAN_INDEX_SCALE"), (9, u "LOG2_ARRAY_BYTE_INDEX_SCALE"), (5, u "LOG2_ARRAY_CHAR_INDEX_SCALE"), (5, u "LOG2_ARRAY_SHORT_INDEX_SCALE"), (18, u "LOG2_ARRAY_FLOAT_INDEX_SCALE"), (24, u "LOG2_ARRAY_DOUBLE_INDEX_SCALE"), (89, u "T_BOOLEAN"), (2, u "T_CHAR"), (1, u "T_FLOAT"), (1, u "T_DOUBLE"), (1, u "T_BYTE"), (1, u "T_SHORT"), (1, u "T_INT"), (1, u "T_LONG"), (1, u "SOFT_MAX_ARRAY_LENGTH")] 83

def k15m0 : Method := { name := "<init>", desc := "()V", sig := { parameters := [], returnType := none }, accessFlags := 2, code := none }
/-- jdk/internal/util/ArraysSupport -/
def k15 : Class := { plain "jdk/internal/util/ArraysSupport" (some 0) with
  accessFlags := 33
  interfaces := #[]
  cf := some (fileOf pool15 21 #[] #[{ accessFlags := 2, nameIndex := 9, descriptorIndex := 19, attributes := #[] }] 33 16 #[] #[{ accessFlags := 24, nameIndex := 28, descriptorIndex := 29, attributes := #[] }, { accessFlags := 26, nameIndex := 38, descriptorIndex := 39, attributes := #[] }, { accessFlags := 25, nameIndex := 121, descriptorIndex := 25, attributes := #[] }, { accessFlags := 25, nameIndex := 131, descriptorIndex := 25, attributes := #[] }, { accessFlags := 25, nameIndex := 137, descriptorIndex := 25, attributes := #[] }, { accessFlags := 25, nameIndex := 143, descriptorIndex := 25, attributes := #[] }, { accessFlags := 25, nameIndex := 53, descriptorIndex := 25, attributes := #[] }, { accessFlags := 25, nameIndex := 24, descriptorIndex := 25, attributes := #[] }, { accessFlags := 25, nameIndex := 162, descriptorIndex := 25, attributes := #[] }, { accessFlags := 25, nameIndex := 187, descriptorIndex := 25, attributes := #[] }, { accessFlags := 26, nameIndex := 48, descriptorIndex := 25, attributes := #[] }, { accessFlags := 25, nameIndex := 277, descriptorIndex := 25, attributes := #[] }, { accessFlags := 25, nameIndex := 280, descriptorIndex := 25, attributes := #[] }, { accessFlags := 25, nameIndex := 282, descriptorIndex := 25, attributes := #[] }, { accessFlags := 25, nameIndex := 284, descriptorIndex := 25, attributes := #[] }, { accessFlags := 25, nameIndex := 286, descriptorIndex := 25, attributes := #[] }, { accessFlags := 25, nameIndex := 288, descriptorIndex := 25, attributes := #[] }, { accessFlags := 25, nameIndex := 290, descriptorIndex := 25, attributes := #[] }, { accessFlags := 25, nameIndex := 292, descriptorIndex := 25, attributes := #[] }, { accessFlags := 26, nameIndex := 108, descriptorIndex := 109, attributes := #[] }, { accessFlags := 25, nameIndex := 294, descriptorIndex := 25, attributes := #[] }])
  fields := #[{ name := "U", type := (.object "jdk/internal/misc/Unsafe"), accessFlags := 24, slot := 0, constantValue := 0 }, { name := "BIG_ENDIAN", type := .boolean, accessFlags := 26, slot := 1, constantValue := 0 }, { name := "LOG2_ARRAY_BOOLEAN_INDEX_SCALE", type := .int, accessFlags := 25, slot := 2, constantValue := 0 }, { name := "LOG2_ARRAY_BYTE_INDEX_SCALE", type := .int, accessFlags := 25, slot := 3, constantValue := 0 }, { name := "LOG2_ARRAY_CHAR_INDEX_SCALE", type := .int, accessFlags := 25, slot := 4, constantValue := 0 }, { name := "LOG2_ARRAY_SHORT_INDEX_SCALE", type := .int, accessFlags := 25, slot := 5, constantValue := 0 }, { name := "LOG2_ARRAY_INT_INDEX_SCALE", type := .int, accessFlags := 25, slot := 6, constantValue := 0 }, { name := "LOG2_ARRAY_LONG_INDEX_SCALE", type := .int, accessFlags := 25, slot := 7, constantValue := 0 }, { name := "LOG2_ARRAY_FLOAT_INDEX_SCALE", type := .int, accessFlags := 25, slot := 8, constantValue := 0 }, { name := "LOG2_ARRAY_DOUBLE_INDEX_SCALE", type := .int, accessFlags := 25, slot := 9, constantValue := 0 }, { name := "LOG2_BYTE_BIT_SIZE", type := .int, accessFlags := 26, slot := 10, constantValue := 0 }, { name := "T_BOOLEAN", type := .int, accessFlags := 25, slot := 11, constantValue := 0 }, { name := "T_CHAR", type := .int, accessFlags := 25, slot := 12, constantValue := 0 }, { name := "T_FLOAT", type := .int, accessFlags := 25, slot := 13, constantValue := 0 }, { name := "T_DOUBLE", type := .int, accessFlags := 25, slot := 14, constantValue := 0 }, { name := "T_BYTE", type := .int, accessFlags := 25, slot := 15, constantValue := 0 }, { name := "T_SHORT", type := .int, accessFlags := 25, slot := 16, constantValue := 0 }, { name := "T_INT", type := .int, accessFlags := 25, slot := 17, constantValue := 0 }, { name := "T_LONG", type := .int, accessFlags := 25, slot := 18, constantValue := 0 }, { name := "JLA", type := (.object "jdk/internal/access/JavaLangAccess"), accessFlags := 26, slot := 19, constantValue := 0 }, { name := "SOFT_MAX_ARRAY_LENGTH", type := .int, accessFlags := 25, slot := 20, constantValue := 0 }]
  methods := #[k15m0]
  instanceTypes := #[]
  staticTypes := #[(.object "jdk/internal/misc/Unsafe"), .boolean, .int, .int, .int, .int, .int, .int, .int, .int, .int, .int, .int, .int, .int, .int, .int, .int, .int, (.object "jdk/internal/access/JavaLangAccess"), .int]
  resolved := Array.replicate 378 none
  statics := none }

def pool16 : Array CpInfo := pool [(8, .class_ 10), (1, u "java/lang/Iterable"), (24, .class_ 36), (0, u "java/lang/Object")] 25

/-- java/lang/Iterable -/
def k16 : Class := { plain "java/lang/Iterable" (some 0) with
  accessFlags := 1537
  interfaces := #[]
  cf := some (fileOf pool16 8 #[] #[] 1537 35 #[] #[])
  fields := #[]
  methods := #[]
  instanceTypes := #[]
  staticTypes := #[]
  resolved := Array.replicate 62 none
  statics := none }

def pool17 : Array CpInfo := pool [(10, .class_ 12), (1, u "java/util/Collection"), (47, .class_ 61), (0, u "java/lang/Object"), (0, .class_ 63), (0, u "java/lang/Iterable")] 51

/-- java/util/Collection -/
def k17 : Class := { plain "java/util/Collection" (some 0) with
  accessFlags := 1537
  interfaces := #[16]
  cf := some (fileOf pool17 10 #[] #[] 1537 60 #[62] #[])
  fields := #[]
  methods := #[]
  instanceTypes := #[]
  staticTypes := #[]
  resolved := Array.replicate 115 none
  statics := none }

def pool18 : Array CpInfo := pool [(2, .class_ 4), (1, u "java/lang/Object"), (0, u "<init>"), (0, u "()V"), (1, .class_ 10), (1, u "java/util/AbstractCollection"), (66, .class_ 78), (0, u "java/util/Collection")] 81

def k18m0 : Method := { name := "<init>", desc := "()V", sig := { parameters := [], returnType := none }, accessFlags := 4, code := none }
/-- java/util/AbstractCollection -/
def k18 : Class := { plain "java/util/AbstractCollection" (some 0) with
  accessFlags := 1057
  interfaces := #[17]
  cf := some (fileOf pool18 8 #[] #[{ accessFlags := 4, nameIndex := 5, descriptorIndex := 6, attributes := #[] }] 1057 2 #[77] #[])
  fields := #[]
  methods := #[k18m0]
  instanceTypes := #[]
  staticTypes := #[]
  resolved := Array.replicate 160 none
  statics := none }

def pool19 : Array CpInfo := pool [(8, .class_ 10), (1, u "java/util/SequencedCollection"), (15, .class_ 27), (0, u "java/lang/Object"), (0, .class_ 29), (0, u "java/util/Collection")] 27

/-- java/util/SequencedCollection -/
def k19 : Class := { plain "java/util/SequencedCollection" (some 0) with
  accessFlags := 1537
  interfaces := #[17]
  cf := some (fileOf pool19 8 #[] #[] 1537 26 #[28] #[])
  fields := #[]
  methods := #[]
  instanceTypes := #[]
  staticTypes := #[]
  resolved := Array.replicate 57 none
  statics := none }

def pool20 : Array CpInfo := pool [(8, .class_ 10), (1, u "java/util/List"), (92, .class_ 104), (0, u "java/lang/Object"), (15, .class_ 121), (0, u "java/util/SequencedCollection")] 129

/-- java/util/List -/
def k20 : Class := { plain "java/util/List" (some 0) with
  accessFlags := 1537
  interfaces := #[19]
  cf := some (fileOf pool20 8 #[] #[] 1537 103 #[120] #[])
  fields := #[]
  methods := #[]
  instanceTypes := #[]
  staticTypes := #[]
  resolved := Array.replicate 251 none
  statics := none }

def pool21 : Array CpInfo := pool [(2, .class_ 4), (1, u "java/util/AbstractCollection"), (0, u "<init>"), (0, u "()V"), (1, .class_ 10), (1, u "java/util/AbstractList"), (0, u "modCount"), (0, u "I"), (64, .class_ 78), (0, u "java/util/AbstractList$Itr"), (3, .class_ 83), (0, u "java/util/AbstractList$ListItr"), (9, .class_ 94), (0, u "java/util/AbstractList$RandomAccessSubList"), (3, .class_ 99), (0, u "java/util/AbstractList$SubList"), (33, .class_ 134), (0, u "java/util/List"), (73, .class_ 209), (0, u "java/util/AbstractList$SubList$1"), (0, .class_ 211), (0, u "java/util/AbstractList$RandomAccessSpliterator")] 6

def k21m0 : Method := { name := "<init>", desc := "()V", sig := { parameters := [], returnType := none }, accessFlags := 4, code := none }
/-- java/util/AbstractList -/
def k21 : Class := { plain "java/util/AbstractList" (some 18) with
  accessFlags := 1057
  interfaces := #[20]
  cf := some (fileOf pool21 8 #[.nestMembers #[93, 98, 208, 210, 82, 77]] #[{ accessFlags := 4, nameIndex := 5, descriptorIndex := 6, attributes := #[] }] 1057 2 #[133] #[{ accessFlags := 132, nameIndex := 11, descriptorIndex := 12, attributes := #[] }])
  fields := #[{ name := "modCount", type := .int, accessFlags := 132, slot := 0, constantValue := 0 }]
  methods := #[k21m0]
  instanceTypes := #[.int]
  staticTypes := #[]
  resolved := Array.replicate 218 none
  statics := none }

def pool22 : Array CpInfo := pool [(1, .class_ 2), (0, u "java/util/RandomAccess"), (0, .class_ 4), (0, u "java/lang/Object")] 2

/-- java/util/RandomAccess -/
def k22 : Class := { plain "java/util/RandomAccess" (some 0) with
  accessFlags := 1537
  interfaces := #[]
  cf := some (fileOf pool22 1 #[] #[] 1537 3 #[] #[])
  fields := #[]
  methods := #[]
  instanceTypes := #[]
  staticTypes := #[]
  resolved := Array.replicate 7 none
  statics := none }

def pool23 : Array CpInfo := pool [(2, .class_ 4), (1, u "java/util/AbstractList"), (0, u "<init>"), (0, u "()V"), (1, .class_ 10), (1, u "java/util/Collections"), (54, .class_ 66), (0, u "java/util/Collections$EmptyList"), (0, .class_ 68), (0, u "java/util/RandomAccess"), (0, .class_ 70), (0, u "java/io/Serializable"), (0, u "serialVersionUID"), (0, u "J")] 77

def k23m0 : Method := { name := "<init>", desc := "()V", sig := { parameters := [], returnType := none }, accessFlags := 2, code := none }
/-- java/util/Collections$EmptyList -/
def k23 : Class := { plain "java/util/Collections$EmptyList" (some 21) with
  accessFlags := 32
  interfaces := #[22, 2]
  cf := some (fileOf pool23 65 #[.nestHost 8] #[{ accessFlags := 2, nameIndex := 5, descriptorIndex := 6, attributes := #[] }] 32 2 #[67, 69] #[{ accessFlags := 26, nameIndex := 71, descriptorIndex := 72, attributes := #[] }])
  fields := #[{ name := "serialVersionUID", type := .long, accessFlags := 26, slot := 0, constantValue := 0 }]
  methods := #[k23m0]
  instanceTypes := #[.int]
  staticTypes := #[.long]
  resolved := Array.replicate 150 none
  statics := none }

def pool24 : Array CpInfo := pool [(2, .class_ 4), (1, u "java/lang/StackTraceElement"), (0, u "<init>"), (2, .class_ 10), (1, u "java/lang/Object"), (0, u "()V"), (2, u "format"), (0, u "B"), (2, u "classLoaderName"), (0, u "Ljava/lang/String;"), (2, u "moduleName"), (2, u "moduleVersion"), (12, u "declaringClass"), (4, u "methodName"), (2, u "fileName"), (2, u "lineNumber"), (0, u "I"), (65, u "declaringClassObject"), (0, u "Ljava/lang/Class;"), (33, .class_ 153), (1, u "java/lang/StackTraceElement$HashedModules"), (17, .class_ 172), (0, u "java/io/Serializable"), (0, u "NATIVE_METHOD"), (1, u "UNKNOWN_SOURCE"), (2, u "BUILTIN_CLASS_LOADER"), (1, u "JDK_NON_UPGRADEABLE_MODULE"), (1, u "serialVersionUID"), (0, u "J")] 51

def k24m0 : Method := { name := "<init>", desc := "()V", sig := { parameters := [], returnType := none }, accessFlags := 2, code := none }
/-- java/lang/StackTraceElement -/
def k24 : Class := { plain "java/lang/StackTraceElement" (some 0) with
  accessFlags := 49
  interfaces := #[2]
  cf := some (fileOf pool24 2 #[.nestMembers #[151]] #[{ accessFlags := 2, nameIndex := 5, descriptorIndex := 11, attributes := #[] }] 49 8 #[171] #[{ accessFlags := 26, nameIndex := 173, descriptorIndex := 19, attributes := #[] }, { accessFlags := 26, nameIndex := 175, descriptorIndex := 19, attributes := #[] }, { accessFlags := 130, nameIndex := 116, descriptorIndex := 117, attributes := #[] }, { accessFlags := 2, nameIndex := 18, descriptorIndex := 19, attributes := #[] }, { accessFlags := 2, nameIndex := 22, descriptorIndex := 19, attributes := #[] }, { accessFlags := 2, nameIndex := 25, descriptorIndex := 19, attributes := #[] }, { accessFlags := 2, nameIndex := 38, descriptorIndex := 19, attributes := #[] }, { accessFlags := 2, nameIndex := 43, descriptorIndex := 19, attributes := #[] }, { accessFlags := 2, nameIndex := 46, descriptorIndex := 19, attributes := #[] }, { accessFlags := 2, nameIndex := 49, descriptorIndex := 50, attributes := #[] }, { accessFlags := 2, nameIndex := 14, descriptorIndex := 15, attributes := #[] }, { accessFlags := 26, nameIndex := 178, descriptorIndex := 15, attributes := #[] }, { accessFlags := 26, nameIndex := 180, descriptorIndex := 15, attributes := #[] }, { accessFlags := 26, nameIndex := 182, descriptorIndex := 183, attributes := #[] }])
  fields := #[{ name := "NATIVE_METHOD", type := (.object "java/lang/String"), accessFlags := 26, slot := 0, constantValue := 0 }, { name := "UNKNOWN_SOURCE", type := (.object "java/lang/String"), accessFlags := 26, slot := 1, constantValue := 0 }, { name := "declaringClassObject", type := (.object "java/lang/Class"), accessFlags := 130, slot := 0, constantValue := 0 }, { name := "classLoaderName", type := (.object "java/lang/String"), accessFlags := 2, slot := 1, constantValue := 0 }, { name := "moduleName", type := (.object "java/lang/String"), accessFlags := 2, slot := 2, constantValue := 0 }, { name := "moduleVersion", type := (.object "java/lang/String"), accessFlags := 2, slot := 3, constantValue := 0 }, { name := "declaringClass", type := (.object "java/lang/String"), accessFlags := 2, slot := 4, constantValue := 0 }, { name := "methodName", type := (.object "java/lang/String"), accessFlags := 2, slot := 5, constantValue := 0 }, { name := "fileName", type := (.object "java/lang/String"), accessFlags := 2, slot := 6, constantValue := 0 }, { name := "lineNumber", type := .int, accessFlags := 2, slot := 7, constantValue := 0 }, { name := "format", type := .byte, accessFlags := 2, slot := 8, constantValue := 0 }, { name := "BUILTIN_CLASS_LOADER", type := .byte, accessFlags := 26, slot := 2, constantValue := 0 }, { name := "JDK_NON_UPGRADEABLE_MODULE", type := .byte, accessFlags := 26, slot := 3, constantValue := 0 }, { name := "serialVersionUID", type := .long, accessFlags := 26, slot := 4, constantValue := 0 }]
  methods := #[k24m0]
  instanceTypes := #[(.object "java/lang/Class"), (.object "java/lang/String"), (.object "java/lang/String"), (.object "java/lang/String"), (.object "java/lang/String"), (.object "java/lang/String"), (.object "java/lang/String"), .int, .byte]
  staticTypes := #[(.object "java/lang/String"), (.object "java/lang/String"), .byte, .byte, .long]
  resolved := Array.replicate 235 none
  statics := none }

def pool25 : Array CpInfo := pool [(1, u "java/lang/Cloneable"), (0, .class_ 1), (0, u "java/lang/Object"), (0, .class_ 3)] 3

/-- java/lang/Cloneable -/
def k25 : Class := { plain "java/lang/Cloneable" (some 0) with
  accessFlags := 1537
  interfaces := #[]
  cf := some (fileOf pool25 2 #[] #[] 1537 4 #[] #[])
  fields := #[]
  methods := #[]
  instanceTypes := #[]
  staticTypes := #[]
  resolved := Array.replicate 8 none
  statics := none }

/-- the primitive byte -/
def k26 : Class := { plain "byte" none with kind := .primitive 'B', accessFlags := 0x411 }
/-- [B -/
def k27 : Class := { plain "[B" (some 0) with kind := .array 26 .byte, interfaces := #[25, 2], accessFlags := 1041 }

/-- the primitive char -/
def k28 : Class := { plain "char" none with kind := .primitive 'C', accessFlags := 0x411 }
/-- [C -/
def k29 : Class := { plain "[C" (some 0) with kind := .array 28 .char, interfaces := #[25, 2], accessFlags := 1041 }

/-- the primitive int -/
def k30 : Class := { plain "int" none with kind := .primitive 'I', accessFlags := 0x411 }
/-- [I -/
def k31 : Class := { plain "[I" (some 0) with kind := .array 30 .int, interfaces := #[25, 2], accessFlags := 1041 }

/-- [Ljava/lang/Object; -/
def k32 : Class := { plain "[Ljava/lang/Object;" (some 0) with kind := .array 0 (.object "java/lang/Object"), interfaces := #[25, 2], accessFlags := 1041 }

/-- [Ljava/lang/StackTraceElement; -/
def k33 : Class := { plain "[Ljava/lang/StackTraceElement;" (some 0) with kind := .array 24 (.object "java/lang/StackTraceElement"), interfaces := #[25, 2], accessFlags := 1041 }

/-- [Ljava/lang/Throwable; -/
def k34 : Class := { plain "[Ljava/lang/Throwable;" (some 0) with kind := .array 8 (.object "java/lang/Throwable"), interfaces := #[25, 2], accessFlags := 1041 }

def heap : Heap := #[{ cls := 7, slots := #[.long 0, .int 1, .null, .int 0, .null, .int 0, .int 0], vm := .statics 7 },
  { cls := 8, slots := #[.long 0, .ref 4, .ref 5, .null, .null, .null, .null, .ref 6, .int 1], vm := .statics 8 },
  { cls := 12, slots := #[.int 0, .int 0, .int 0, .int 0, .int 0, .int 0, .int 0, .int 0, .null, .null, .ref 5, .null], vm := .statics 12 },
  { cls := 14, slots := #[.null, .null, .null], vm := .statics 14 },
  { cls := 33, slots := #[], vm := .none },
  { cls := 23, slots := #[.int 0], vm := .none },
  { cls := 34, slots := #[], vm := .none }]
def classes : Array Class := #[k0, k1, k2, k3, k4, k5, k6, k7, k8, k9, k10, k11, k12, k13, k14, k15, k16, k17, k18, k19, k20, k21, k22, k23, k24, k25, k26, k27, k28, k29, k30, k31, k32, k33, k34]
def interned : List (Array UInt16 × Addr) := []
def slotsUsed : Nat := 32
def theMethod : MethodId := ⟨1, 1⟩
def args0 : Array Value := #[.int 5, .int 6, .int 7, .int 8]
def aboutOver (below : List Frame) : State where
  vm := { classes := classes, interned := interned.toArray }
  heap := heap
  slotsUsed := slotsUsed
  threads := #[{ frames := .invoking theMethod args0 :: below }]
def below0 : List Frame := [.native { method := ⟨0, 0⟩, args := #[] }]
def about1 : State := aboutOver below0
def p0 : Program := .bare "" "" ""
def e0 : Env := launch0.env 0 0 0
theorem w_frames : about1.frames = Frame.invoking theMethod args0 :: below0 := rfl
set_option maxRecDepth 65536 in
theorem w_args : argsFit about1.vm theMethod args0 = true := by decide +kernel
set_option maxRecDepth 65536 in
theorem w_heap : heapFits about1 = true := by decide +kernel
set_option maxRecDepth 65536 in
theorem w_runnable : about1.curStatus? = some .runnable := by decide +kernel
set_option maxRecDepth 65536 in
theorem w_alone : about1.alone = true := by decide +kernel
set_option maxRecDepth 65536 in
theorem w_named : about1.methodNamed? x = some theMethod := by decide +kernel
set_option maxRecDepth 65536 in
theorem w_hears : about1.hears theMethod below0 = true := by decide +kernel
set_option maxRecDepth 65536 in
theorem w_ripe : about1.ripe theMethod args0 below0 = true := by decide +kernel
theorem w_running : about1.status = .running := rfl
set_option maxRecDepth 65536 in
theorem w_room : about1.hasRoom e0.platform room_1 = true :=
  launch0.hasRoom_least _ room_1 (by decide +kernel) (by decide +kernel) (by decide +kernel) (by decide +kernel) (by decide +kernel) (by decide +kernel)
theorem allAtoms_all (ts : List Jvm.Cond) (a : Array Jvm.Value) (st : Jvm.State) : (allAtoms ts).before a st = ts.all (fun c => c.before a st) := by
  induction ts with
  | nil => rfl
  | cons c t ih =>
    show (Jvm.Cond.and c (allAtoms t)).before a st = _
    rw [Jvm.Cond.before_and, ih, List.all_cons]
def words1 : List Jvm.Cond := Jvm.Cond.code x code maxLocals ret :: tables_1
/-- a 'code' word, met by the world's own term for the bytes: nothing is compared byte by byte -/
theorem code_word {y : MethodName} {bytes : ByteArray} {mx : Nat} {rt : Option FieldType} {a : Array Value} {s : State} {m : MethodId} {meth : Method} {c : Code} (h1 : s.methodNamed? y = some m) (h2 : s.vm.method? m = some meth) (h3 : meth.code = some c) (h4 : c.code = bytes)
    (h5 : (c.maxLocals == mx && c.exceptionTable.isEmpty && decide (c.maxStack ≤ mostOperands) && decide (meth.sig.returnType = rt) && !meth.locks && decide (parseMethodDescriptor y.desc = some meth.sig)) = true) : (Jvm.Cond.code y bytes mx rt).before a s = true := by
  simp only [Bool.and_eq_true, beq_iff_eq, Bool.not_eq_true', decide_eq_true_eq] at h5
  obtain ⟨⟨⟨⟨⟨g1, g2⟩, g3⟩, g4⟩, g5⟩, g6⟩ := h5
  simp [Cond.before, Cond.holds, Cond.value, h1, h2, h3, h4, g1, g2, g3, g4, g5, g6]
def isCode : Jvm.Cond → Bool
  | .code _ _ _ _ => true
  | _ => false
theorem all_split {L : List Jvm.Cond} {P : Jvm.Cond → Bool} (h1 : L.all (fun c => isCode c || P c) = true) (h2 : ∀ c ∈ L.filter isCode, P c = true) : L.all P = true := by
  refine List.all_eq_true.mpr fun c hc => ?_
  have h := List.all_eq_true.mp h1 c hc
  rcases Bool.eq_false_or_eq_true (isCode c) with hi | hi
  · exact h2 c (List.mem_filter.mpr ⟨hc, hi⟩)
  · simpa [hi] using h
set_option maxRecDepth 65536 in
theorem w_c0 : (Jvm.Cond.code x code maxLocals ret).before args0 about1 = true := code_word (m := ⟨1, 1⟩) (meth := k1m1) (c := k1c1) (by decide +kernel) rfl rfl rfl (by decide +kernel)
set_option maxRecDepth 65536 in
theorem w_c1 : (Jvm.Cond.code ({ cls := "java/lang/String", name := "<init>", desc := "([C)V" } : Jvm.MethodName) jdk_42_method_3_code (2 : Nat) (Option.none : Option Jvm.ClassFile.FieldType)).before args0 about1 = true := code_word (m := ⟨7, 1⟩) (meth := k7m1) (c := k7c1) (by decide +kernel) rfl rfl rfl (by decide +kernel)
set_option maxRecDepth 65536 in
theorem w_c2 : (Jvm.Cond.code ({ cls := "java/lang/String", name := "<init>", desc := "([CIILjava/lang/Void;)V" } : Jvm.MethodName) jdk_42_method_149_code (6 : Nat) (Option.none : Option Jvm.ClassFile.FieldType)).before args0 about1 = true := code_word (m := ⟨7, 3⟩) (meth := k7m3) (c := k7c3) (by decide +kernel) rfl rfl rfl (by decide +kernel)
set_option maxRecDepth 65536 in
theorem w_c3 : (Jvm.Cond.code ({ cls := "java/lang/Object", name := "<init>", desc := "()V" } : Jvm.MethodName) object_method_1_code (1 : Nat) (Option.none : Option Jvm.ClassFile.FieldType)).before args0 about1 = true := code_word (m := ⟨0, 0⟩) (meth := k0m0) (c := k0c0) (by decide +kernel) rfl rfl rfl (by decide +kernel)
set_option maxRecDepth 65536 in
theorem w_c4 : (Jvm.Cond.code ({ cls := "com/example/anchorline/anchorline/server/RequestException", name := "slowSync", desc := "(Ljava/lang/String;)Lcom/example/anchorline/anchorline/server/RequestException;" } : Jvm.MethodName) prog_45_method_5_code (1 : Nat) (Option.some (Jvm.ClassFile.FieldType.object "com/example/anchorline/anchorline/server/RequestException"))).before args0 about1 = true := code_word (m := ⟨10, 1⟩) (meth := k10m1) (c := k10c1) (by decide +kernel) rfl rfl rfl (by decide +kernel)
set_option maxRecDepth 65536 in
theorem w_c5 : (Jvm.Cond.code ({ cls := "com/example/anchorline/anchorline/server/RequestException", name := "<init>", desc := "(ILjava/lang/String;Z)V" } : Jvm.MethodName) prog_45_method_1_code (4 : Nat) (Option.none : Option Jvm.ClassFile.FieldType)).before args0 about1 = true := code_word (m := ⟨10, 0⟩) (meth := k10m0) (c := k10c0) (by decide +kernel) rfl rfl rfl (by decide +kernel)
set_option maxRecDepth 65536 in
theorem w_c6 : (Jvm.Cond.code ({ cls := "java/lang/Exception", name := "<init>", desc := "(Ljava/lang/String;)V" } : Jvm.MethodName) jdk_59_method_2_code (2 : Nat) (Option.none : Option Jvm.ClassFile.FieldType)).before args0 about1 = true := code_word (m := ⟨9, 1⟩) (meth := k9m1) (c := k9c1) (by decide +kernel) rfl rfl rfl (by decide +kernel)
set_option maxRecDepth 65536 in
theorem w_c7 : (Jvm.Cond.code ({ cls := "java/lang/Throwable", name := "<init>", desc := "(Ljava/lang/String;)V" } : Jvm.MethodName) jdk_78_method_2_code (2 : Nat) (Option.none : Option Jvm.ClassFile.FieldType)).before args0 about1 = true := code_word (m := ⟨8, 1⟩) (meth := k8m1) (c := k8c1) (by decide +kernel) rfl rfl rfl (by decide +kernel)
set_option maxRecDepth 65536 in
theorem w_c8 : (Jvm.Cond.code ({ cls := "java/lang/Throwable", name := "<init>", desc := "()V" } : Jvm.MethodName) jdk_78_method_1_code (1 : Nat) (Option.none : Option Jvm.ClassFile.FieldType)).before args0 about1 = true := code_word (m := ⟨8, 0⟩) (meth := k8m0) (c := k8c0) (by decide +kernel) rfl rfl rfl (by decide +kernel)
set_option maxRecDepth 65536 in
theorem w_c9 : (Jvm.Cond.code ({ cls := "com/example/anchorline/anchorline/server/RequestException", name := "status", desc := "()I" } : Jvm.MethodName) prog_45_method_6_code (1 : Nat) (Option.some Jvm.ClassFile.FieldType.int)).before args0 about1 = true := code_word (m := ⟨10, 2⟩) (meth := k10m2) (c := k10c2) (by decide +kernel) rfl rfl rfl (by decide +kernel)
set_option maxRecDepth 65536 in
theorem w_c10 : (Jvm.Cond.code ({ cls := "com/example/anchorline/anchorline/server/RequestException", name := "isSlowSync", desc := "()Z" } : Jvm.MethodName) prog_45_method_7_code (1 : Nat) (Option.some Jvm.ClassFile.FieldType.boolean)).before args0 about1 = true := code_word (m := ⟨10, 3⟩) (meth := k10m3) (c := k10c3) (by decide +kernel) rfl rfl rfl (by decide +kernel)
set_option maxRecDepth 65536 in
theorem w_c11 : (Jvm.Cond.code ({ cls := "java/lang/Throwable", name := "getMessage", desc := "()Ljava/lang/String;" } : Jvm.MethodName) jdk_78_method_6_code (1 : Nat) (Option.some (Jvm.ClassFile.FieldType.object "java/lang/String"))).before args0 about1 = true := code_word (m := ⟨8, 2⟩) (meth := k8m2) (c := k8c2) (by decide +kernel) rfl rfl rfl (by decide +kernel)
set_option maxRecDepth 65536 in
theorem w_c12 : (Jvm.Cond.code ({ cls := "java/lang/String", name := "equals", desc := "(Ljava/lang/Object;)Z" } : Jvm.MethodName) jdk_42_method_66_code (3 : Nat) (Option.some Jvm.ClassFile.FieldType.boolean)).before args0 about1 = true := code_word (m := ⟨7, 2⟩) (meth := k7m2) (c := k7c2) (by decide +kernel) rfl rfl rfl (by decide +kernel)
set_option maxRecDepth 65536 in
theorem w_c13 : (Jvm.Cond.code ({ cls := "java/lang/StringUTF16", name := "compress", desc := "([CII)[B" } : Jvm.MethodName) jdk_52_method_16_code (6 : Nat) (Option.some (Jvm.ClassFile.FieldType.array Jvm.ClassFile.FieldType.byte))).before args0 about1 = true := code_word (m := ⟨11, 2⟩) (meth := k11m2) (c := k11c2) (by decide +kernel) rfl rfl rfl (by decide +kernel)
set_option maxRecDepth 65536 in
theorem w_c14 : (Jvm.Cond.code ({ cls := "java/lang/StringUTF16", name := "compress", desc := "([CI[BII)I" } : Jvm.MethodName) jdk_52_method_21_code (7 : Nat) (Option.some Jvm.ClassFile.FieldType.int)).before args0 about1 = true := code_word (m := ⟨11, 3⟩) (meth := k11m3) (c := k11c3) (by decide +kernel) rfl rfl rfl (by decide +kernel)
set_option maxRecDepth 65536 in
theorem w_c15 : (Jvm.Cond.code ({ cls := "java/lang/StringUTF16", name := "coderFromArrayLen", desc := "([BI)B" } : Jvm.MethodName) jdk_52_method_15_code (2 : Nat) (Option.some Jvm.ClassFile.FieldType.byte)).before args0 about1 = true := code_word (m := ⟨11, 1⟩) (meth := k11m1) (c := k11c1) (by decide +kernel) rfl rfl rfl (by decide +kernel)
def codes1 : List Jvm.Cond := [Jvm.Cond.code x code maxLocals ret, Jvm.Cond.code ({ cls := "java/lang/String", name := "<init>", desc := "([C)V" } : Jvm.MethodName) jdk_42_method_3_code (2 : Nat) (Option.none : Option Jvm.ClassFile.FieldType), Jvm.Cond.code ({ cls := "java/lang/String", name := "<init>", desc := "([CIILjava/lang/Void;)V" } : Jvm.MethodName) jdk_42_method_149_code (6 : Nat) (Option.none : Option Jvm.ClassFile.FieldType), Jvm.Cond.code ({ cls := "java/lang/Object", name := "<init>", desc := "()V" } : Jvm.MethodName) object_method_1_code (1 : Nat) (Option.none : Option Jvm.ClassFile.FieldType), Jvm.Cond.code ({ cls := "com/example/anchorline/anchorline/server/RequestException", name := "slowSync", desc := "(Ljava/lang/String;)Lcom/example/anchorline/anchorline/server/RequestException;" } : Jvm.MethodName) prog_45_method_5_code (1 : Nat) (Option.some (Jvm.ClassFile.FieldType.object "com/example/anchorline/anchorline/server/RequestException")), Jvm.Cond.code ({ cls := "com/example/anchorline/anchorline/server/RequestException", name := "<init>", desc := "(ILjava/lang/String;Z)V" } : Jvm.MethodName) prog_45_method_1_code (4 : Nat) (Option.none : Option Jvm.ClassFile.FieldType), Jvm.Cond.code ({ cls := "java/lang/Exception", name := "<init>", desc := "(Ljava/lang/String;)V" } : Jvm.MethodName) jdk_59_method_2_code (2 : Nat) (Option.none : Option Jvm.ClassFile.FieldType), Jvm.Cond.code ({ cls := "java/lang/Throwable", name := "<init>", desc := "(Ljava/lang/String;)V" } : Jvm.MethodName) jdk_78_method_2_code (2 : Nat) (Option.none : Option Jvm.ClassFile.FieldType), Jvm.Cond.code ({ cls := "java/lang/Throwable", name := "<init>", desc := "()V" } : Jvm.MethodName) jdk_78_method_1_code (1 : Nat) (Option.none : Option Jvm.ClassFile.FieldType), Jvm.Cond.code ({ cls := "com/example/anchorline/anchorline/server/RequestException", name := "status", desc := "()I" } : Jvm.MethodName) prog_45_method_6_code (1 : Nat) (Option.some Jvm.ClassFile.FieldType.int), Jvm.Cond.code ({ cls := "com/example/anchorline/anchorline/server/RequestException", name := "isSlowSync", desc := "()Z" } : Jvm.MethodName) prog_45_method_7_code (1 : Nat) (Option.some Jvm.ClassFile.FieldType.boolean), Jvm.Cond.code ({ cls := "java/lang/Throwable", name := "getMessage", desc := "()Ljava/lang/String;" } : Jvm.MethodName) jdk_78_method_6_code (1 : Nat) (Option.some (Jvm.ClassFile.FieldType.object "java/lang/String")), Jvm.Cond.code ({ cls := "java/lang/String", name := "equals", desc := "(Ljava/lang/Object;)Z" } : Jvm.MethodName) jdk_42_method_66_code (3 : Nat) (Option.some Jvm.ClassFile.FieldType.boolean), Jvm.Cond.code ({ cls := "java/lang/StringUTF16", name := "compress", desc := "([CII)[B" } : Jvm.MethodName) jdk_52_method_16_code (6 : Nat) (Option.some (Jvm.ClassFile.FieldType.array Jvm.ClassFile.FieldType.byte)), Jvm.Cond.code ({ cls := "java/lang/StringUTF16", name := "compress", desc := "([CI[BII)I" } : Jvm.MethodName) jdk_52_method_21_code (7 : Nat) (Option.some Jvm.ClassFile.FieldType.int), Jvm.Cond.code ({ cls := "java/lang/StringUTF16", name := "coderFromArrayLen", desc := "([BI)B" } : Jvm.MethodName) jdk_52_method_15_code (2 : Nat) (Option.some Jvm.ClassFile.FieldType.byte)]
set_option maxRecDepth 65536 in
theorem codes_eq : words1.filter isCode = codes1 := rfl
theorem w_codes : ∀ c ∈ words1.filter isCode, c.before args0 about1 = true := by
  rw [codes_eq]
  intro c hc
  simp only [codes1, List.mem_cons, List.not_mem_nil, or_false] at hc
  rcases hc with rfl | rfl | rfl | rfl | rfl | rfl | rfl | rfl | rfl | rfl | rfl | rfl | rfl | rfl | rfl | rfl
  · exact w_c0
  · exact w_c1
  · exact w_c2
  · exact w_c3
  · exact w_c4
  · exact w_c5
  · exact w_c6
  · exact w_c7
  · exact w_c8
  · exact w_c9
  · exact w_c10
  · exact w_c11
  · exact w_c12
  · exact w_c13
  · exact w_c14
  · exact w_c15
set_option maxRecDepth 65536 in
theorem w_t1 : (words1.take 24).all (fun c => isCode c || c.before args0 about1) = true := by decide +kernel
set_option maxRecDepth 65536 in
theorem w_t2 : ((words1.drop 24).take 24).all (fun c => isCode c || c.before args0 about1) = true := by decide +kernel
set_option maxRecDepth 65536 in
theorem w_t3 : (((words1.drop 24).drop 24).take 24).all (fun c => isCode c || c.before args0 about1) = true := by decide +kernel
set_option maxRecDepth 65536 in
theorem w_t4 : ((((words1.drop 24).drop 24).drop 24).take 24).all (fun c => isCode c || c.before args0 about1) = true := by decide +kernel
set_option maxRecDepth 65536 in
theorem w_t5 : ((((words1.drop 24).drop 24).drop 24).drop 24).all (fun c => isCode c || c.before args0 about1) = true := by decide +kernel
theorem w_tables : (allAtoms (Jvm.Cond.code x code maxLocals ret :: tables_1)).before args0 about1 = true := by
  rw [allAtoms_all]
  show words1.all (fun c => c.before args0 about1) = true
  refine all_split ?_ w_codes
  rw [← List.take_append_drop 24 words1, List.all_append, w_t1, ← List.take_append_drop 24 (words1.drop 24), List.all_append, w_t2, ← List.take_append_drop 24 ((words1.drop 24).drop 24), List.all_append, w_t3, ← List.take_append_drop 24 (((words1.drop 24).drop 24).drop 24), List.all_append, w_t4, w_t5]
  rfl
set_option maxRecDepth 65536 in
theorem w_rest : rest_1_c.before args0 about1 = true := by decide +kernel
set_option maxRecDepth 65536 in
theorem w_case : (Jvm.Cond.and given_1 narrow_1).before args0 about1 = true := by decide +kernel
set_option maxRecDepth 65536 in
theorem w_consts : constsHeld consts_1 about1 := Jvm.Lit.constsHeldB_iff.mp (by decide +kernel)
theorem w_applies : (headSpec (Jvm.Cond.code x code maxLocals ret :: tables_1) room_1).applies x e0.platform about1 = true :=
  (Spec.applies_iff w_frames).mpr ⟨w_running, w_runnable, w_alone, w_named, w_hears, w_ripe, w_room, w_tables⟩
theorem atStart : AtStart classFile x code maxLocals ret World_1 tables_1 room_1 Calls_1 rest_1 Pre_1 launch0 p0 e0 about1 theMethod args0 below0 :=
  ⟨lists_1, trivial, launch0.admits_env _ _ _, launch0.least_env, fairChoices_fair.cas, fairChoices_fair.clock, w_frames, w_args, w_heap, w_applies, ⟨(by decide +kernel : framesKnown about1 = true), ⟨(by decide +kernel : tablesKnown about1 = true), ⟨w_consts, trivial⟩⟩⟩, w_rest, w_case⟩
end start1
theorem witness_1 : WitnessClaimed_1 := ⟨start1.p0, start1.e0, start1.about1, start1.theMethod, start1.args0, start1.below0, start1.atStart⟩
end Jvm.Pilot.@@N@@
