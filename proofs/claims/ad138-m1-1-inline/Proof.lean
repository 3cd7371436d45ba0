import JvmDerived
import JvmDerived.Pilot.@@N@@Statement
import JvmDerived.Pilot.@@N@@Code
set_option linter.unusedVariables false
set_option linter.unusedSimpArgs false
namespace Jvm.Road
open Jvm Jvm.ClassFile Sem Op Lib Jvm.Free Jvm.Stand Jvm.LawKit Jvm.RoadKit Bundle
/-! THE ROAD LAYER: one goal 'Go' for a walk, every step a law 'Go next -> Go here'; a callee's summary 'Con'. -/
abbrev Bdy : Type := MethodName × ByteArray × Nat × Option FieldType × Room
abbrev Bdy.y (B : Bdy) : MethodName := B.1
abbrev Bdy.bs (B : Bdy) : ByteArray := B.2.1
abbrev Bdy.ml (B : Bdy) : Nat := B.2.2.1
abbrev Bdy.rt (B : Bdy) : Option FieldType := B.2.2.2.1
abbrev Bdy.rm (B : Bdy) : Room := B.2.2.2.2
abbrev Dyn : Type := Program × Env × State × MethodId × Array Value × List Frame × Method × Code
abbrev Dyn.p (D : Dyn) : Program := D.1
abbrev Dyn.e (D : Dyn) : Env := D.2.1
abbrev Dyn.s (D : Dyn) : State := D.2.2.1
abbrev Dyn.m (D : Dyn) : MethodId := D.2.2.2.1
abbrev Dyn.args (D : Dyn) : Array Value := D.2.2.2.2.1
abbrev Dyn.bl (D : Dyn) : List Frame := D.2.2.2.2.2.1
abbrev Dyn.meth (D : Dyn) : Method := D.2.2.2.2.2.2.1
abbrev Dyn.c (D : Dyn) : Code := D.2.2.2.2.2.2.2
/-- a cell that this law's run has made and that no constant of EL stands for: it may be written -/
def Own (Z : State) (EL : List (String × Nat)) (n0 : Nat) (vm : Vm) (h : Heap) (x : Addr) : Prop := Safe Z EL vm h x ∧ n0 ≤ x ∧ x < h.size
def Ok (B : Bdy) (D : Dyn) : Prop := D.p.tables.exec = Jvm.exec ∧ D.c.code = B.bs ∧ D.c.maxLocals = B.ml ∧ D.meth.sig.returnType = B.rt ∧ D.meth.locks = false ∧ D.meth.name = B.y.name
def Inv (l : Launch) (Z : State) (EL : List (String × Nat)) (n0 : Nat) (kn : Bool) (B : Bdy) (D : Dyn) (h : Heap) (σ : Addr → Prop) (ce sl : Nat) (T : State) (vm0 : Vm) : Prop :=
  ∃ (k0 : Nat) (locs : List Loc), Stand D.p l D.e B.rm (D.s.setVm vm0) D.m D.args D.bl D.meth D.c T locs ce sl ∧ T.heap = h ∧ D.s.Since vm0 k0 ∧ k0 ≤ h.size ∧ Z.Warmed39 vm0 ∧ vm0.findClass B.y.cls = some D.m.cls ∧
    CHr Z EL D.s.vm D.s.heap vm0 h ∧ Fr n0 locs ∧ Old Z n0 h ∧ (∀ x, σ x → Own Z EL n0 vm0 h x) ∧ (kn = true → vm0.MethodsKnown ∧ vm0.FramesKnown D.bl)
abbrev Post : Type := Option Value → Heap → (Addr → Prop) → Prop
def Ends (Z : State) (EL : List (String × Nat)) (n0 : Nat) (B : Bdy) (D : Dyn) (Q : Post) (t0 : State) : Prop :=
  ∃ s₂ o, Steps D.p.tables D.e D.bl t0 s₂ ∧ s₂.status = .running ∧ Ended s₂ D.bl o ∧
    ∃ v L, o = .returned v ∧ Q v s₂.heap (Own Z EL n0 s₂.vm s₂.heap) ∧ Fr n0 L ∧ CHr Z EL D.s.vm D.s.heap s₂.vm s₂.heap ∧ Old Z n0 s₂.heap ∧ ReturnedEndW D.s o s₂ L B.rm.cells B.rm.slots
def Go (l : Launch) (Z : State) (a0 : Array Value) (EL : List (String × Nat)) (n0 : Nat) (kn : Bool) (B : Bdy) (D : Dyn) (Q : Post) (h : Heap) (σ : Addr → Prop) (ce sl : Nat) (pc : Nat) (Ls : Array Slot) (st : List Value) : Prop :=
  Ok B D → EW Z a0 EL → ∀ (T : State) (vm0 : Vm), Inv l Z EL n0 kn B D h σ ce sl T vm0 → Ends Z EL n0 B D Q (T.setTop (mkF D.m pc Ls st))
/-- what is asked of a callee -/
def Con (l : Launch) (Z : State) (EL : List (String × Nat)) (n0 : Nat) (kn : Bool) (B : Bdy) (ws : List Jvm.Cond) (σ : Addr → Prop) (as : Array Value) (h : Heap) (Q : Post) : Prop :=
  MetFree l B.y (head1 (Jvm.Cond.code B.y B.bs B.ml B.rt :: ws) B.rm)
    (fun a U => a = as ∧ Z.Warmed39 U.vm ∧ U.heap = h ∧ CHv Z EL U.vm h ∧ Old Z n0 h ∧ ∀ x, σ x → Own Z EL n0 U.vm h x)
    (fun _ _ bl s _ => kn = true → s.vm.MethodsKnown ∧ s.vm.FramesKnown bl)
    (fun _ U o U' => ∃ v L, o = .returned v ∧ Q v U'.heap (Own Z EL n0 U'.vm U'.heap) ∧ Fr n0 L ∧ CHr Z EL U.vm U.heap U'.vm U'.heap ∧ Old Z n0 U'.heap ∧ ReturnedEndW U o U' L B.rm.cells B.rm.slots)
def push : Option Value → List Value → List Value
  | some v, r => v :: r
  | none, r => r
theorem push_eq (v : Option Value) (r : List Value) : v.toList ++ r = push v r := by cases v <;> rfl
section Laws
variable {l : Launch} {Z : State} {a0 : Array Value} {EL : List (String × Nat)} {n0 : Nat} {kn : Bool} {B : Bdy} {D : Dyn} {Q : Post} {h h' : Heap} {σ : Addr → Prop} {ce sl : Nat} {Ls : Array Slot} {st : List Value}
theorem Con.of {ws : List Jvm.Cond} (hpn : plainFor B.y = true) (hEW : EW Z a0 EL) {as : Array Value} (Ls0 : Array Slot) (hef : ∀ m, entryFrame m as B.ml = mkF m 0 Ls0 [])
    (body : ∀ D : Dyn, D.s.heap = h → Go l Z a0 EL n0 kn B D Q h σ 0 0 0 Ls0 []) : Con l Z EL n0 kn B ws σ as h Q := by
  refine MetFree.of_bodySF hpn hisR ?_
  intro p e s m args below meth c s₁ Bd hml hP hK
  obtain ⟨rfl, hZ, hh, hC, hO, hσ⟩ := hP
  have hnm := (name_of_methodNamed Bd.named Bd.method).1
  have hown := findClass_of_methodNamed Bd.named
  have X0 : Stand p l e B.rm s m args below meth c s₁ [] 0 0 := Stand.of_body Bd
  have e0 : s₁.heap = h := by rw [← hh, Bd.state]; rfl
  obtain ⟨s2, o, st, hr, he, r⟩ := body (p, e, s, m, args, below, meth, c) hh ⟨Bd.exec, Bd.bytes, hml, Bd.returns, Bd.notSynchronized, hnm⟩ hEW s₁ s.vm
    ⟨0, [], X0, e0, (State.WarmedH.refl s).since 0, Nat.zero_le _, hZ, hown, by subst hh; exact CHr.refl hC, Fr.nil n0, hO, hσ, hK⟩
  exact ⟨s2, o, castTop (hef m) st, hr, he, r⟩
/-- one plain step -/
theorem Go.step {pc pc' : Nat} {Ls' : Array Slot} {st' : List Value} (k : ∀ T, At T D.m D.c D.bl → D.p.tables.exec = Jvm.exec → D.c.code = B.bs → ∀ t, Steps D.p.tables D.e D.bl (T.setTop (mkF D.m pc' Ls' st')) t → Steps D.p.tables D.e D.bl (T.setTop (mkF D.m pc Ls st)) t)
    (r : Go l Z a0 EL n0 kn B D Q h σ ce sl pc' Ls' st') : Go l Z a0 EL n0 kn B D Q h σ ce sl pc Ls st := by
  intro ok ew T vm0 I
  obtain ⟨s2, o, q, rest⟩ := r ok ew T vm0 I
  obtain ⟨k0, locs, X, -⟩ := I
  exact ⟨s2, o, k T X.here ok.1 ok.2.1 _ q, rest⟩
/-- fewer permissions, more room taken: what was shown serves -/
theorem Go.weaken {pc : Nat} {σ' : Addr → Prop} {ce' sl' : Nat} (hσ : ∀ x, σ' x → σ x) (hc : ce ≤ ce') (hs : sl ≤ sl') (r : Go l Z a0 EL n0 kn B D Q h σ' ce' sl' pc Ls st) : Go l Z a0 EL n0 kn B D Q h σ ce sl pc Ls st := by
  intro ok ew T vm0 I
  obtain ⟨k0, locs, X, h1, h2, h3, h4, h5, h6, h7, h8, h9, h10⟩ := I
  exact r ok ew T vm0 ⟨k0, locs, X.mono hc hs, h1, h2, h3, h4, h5, h6, h7, h8, fun x q => h9 x (hσ x q), h10⟩
/-- facts that the walk bears -/
theorem Go.old {pc : Nat} (r : Old Z n0 h → Go l Z a0 EL n0 kn B D Q h σ ce sl pc Ls st) : Go l Z a0 EL n0 kn B D Q h σ ce sl pc Ls st := by
  intro ok ew T vm0 I
  refine r ?_ ok ew T vm0 I
  obtain ⟨k0, locs, X, h1, h2, h3, h4, h5, h6, h7, h8, h9, h10⟩ := I
  exact h8
end Laws
end Jvm.Road
namespace Jvm.Road
open Jvm Jvm.ClassFile Sem Op Lib Jvm.Free Jvm.Stand Jvm.LawKit Jvm.RoadKit Bundle
theorem Go.ownAll {l : Launch} {Z : State} {a0 : Array Value} {EL : List (String × Nat)} {n0 : Nat} {kn : Bool} {B : Bdy} {D : Dyn} {Q : Post} {h : Heap} {σ : Addr → Prop} {ce sl : Nat} {Ls : Array Slot} {st : List Value} {pc : Nat}
    (r : (∀ x, σ x → n0 ≤ x ∧ x < h.size) → Go l Z a0 EL n0 kn B D Q h σ ce sl pc Ls st) : Go l Z a0 EL n0 kn B D Q h σ ce sl pc Ls st := by
  intro ok ew T vm0 I
  refine r ?_ ok ew T vm0 I
  obtain ⟨k0, locs, X, h1, h2, h3, h4, h5, h6, h7, h8, h9, h10⟩ := I
  exact fun x hx => (h9 x hx).2
theorem keep_more {h h' : Heap} {ws : List Addr} (K : Keep h h' []) : Keep h h' ws := ⟨K.1, fun x c q _ => K.2.1 x c q nin0, K.2.2⟩
end Jvm.Road
namespace Jvm.Road
open Jvm Jvm.ClassFile Sem Op Lib Jvm.Free Jvm.Stand Jvm.LawKit Jvm.RoadKit Bundle
theorem laid0 : Jvm.Sym.laidSlots [] = [] := rfl
theorem laid1 {v : Value} {vs : List Value} {L : List Slot} (hc : v.category = 1) (h : Jvm.Sym.laidSlots vs = L) : Jvm.Sym.laidSlots (v :: vs) = .val v :: L := by
  rw [Jvm.Sym.laidSlots, hc, h]; rfl
theorem laid2 {v : Value} {vs : List Value} {L : List Slot} (hc : v.category = 2) (h : Jvm.Sym.laidSlots vs = L) : Jvm.Sym.laidSlots (v :: vs) = .val v :: .second :: L := by
  rw [Jvm.Sym.laidSlots, hc, h]; rfl
theorem ent {m : MethodId} {args : Array Value} {n k : Nat} {Ls : Array Slot} {L : List Slot} (h : Jvm.Sym.laidSlots args.toList = L) (hk : n - L.length = k) (hL : L ++ List.replicate k .unset = Ls.toList) : entryFrame m args n = mkF m 0 Ls [] := by
  have : argsToLocals args n = Ls := Array.toList_inj.mp (by rw [Jvm.Sym.argsToLocals_toList, h, hk]; exact hL)
  unfold entryFrame
  rw [this]
end Jvm.Road
namespace Jvm.Road
open Jvm Jvm.ClassFile Sem Op Lib Jvm.Free Jvm.Stand Jvm.LawKit Jvm.RoadKit Bundle
/-- what i2c leaves -/
abbrev chr (x : Int32) : Int32 := x.toUInt32.toUInt16.toUInt32.toInt32
section Plain
variable {l : Launch} {Z : State} {a0 : Array Value} {EL : List (String × Nat)} {n0 : Nat} {kn : Bool} {B : Bdy} {D : Dyn} {Q : Post} {h : Heap} {σ : Addr → Prop} {ce sl : Nat} {Ls : Array Slot} {st : List Value}
theorem aload (pc : Nat) {k : Nat} {v : Value} (hd : decode B.bs pc = .ok (.aload k, 2)) (hl : Ls[k]? = some (.val v))  (r : Go l Z a0 EL n0 kn B D Q h σ ce sl (pc + 2) Ls (v :: st)) (hv : v.isRef = true := by rfl) : Go l Z a0 EL n0 kn B D Q h σ ce sl pc Ls st :=
  Go.step (fun T hA hx hb t q => XS.aload hA hx rfl (Jvm.hb hb hd) hl hv q) r
theorem aloadN (pc : Nat) {k : Fin 4} {v : Value} (hd : decode B.bs pc = .ok (.aload_n k, 1)) (hl : Ls[k.val]? = some (.val v))  (r : Go l Z a0 EL n0 kn B D Q h σ ce sl (pc + 1) Ls (v :: st)) (hv : v.isRef = true := by rfl) : Go l Z a0 EL n0 kn B D Q h σ ce sl pc Ls st :=
  Go.step (fun T hA hx hb t q => XS.aloadN hA hx rfl (Jvm.hb hb hd) hl hv q) r
theorem iload (pc : Nat) {k : Nat} {v : Int32} (hd : decode B.bs pc = .ok (.iload k, 2)) (hl : Ls[k]? = some (.val (.int v))) (r : Go l Z a0 EL n0 kn B D Q h σ ce sl (pc + 2) Ls (.int v :: st))  : Go l Z a0 EL n0 kn B D Q h σ ce sl pc Ls st :=
  Go.step (fun T hA hx hb t q => XS.iload hA hx rfl (Jvm.hb hb hd) hl q) r
theorem iloadN (pc : Nat) {k : Fin 4} {v : Int32} (hd : decode B.bs pc = .ok (.iload_n k, 1)) (hl : Ls[k.val]? = some (.val (.int v))) (r : Go l Z a0 EL n0 kn B D Q h σ ce sl (pc + 1) Ls (.int v :: st))  : Go l Z a0 EL n0 kn B D Q h σ ce sl pc Ls st :=
  Go.step (fun T hA hx hb t q => XS.iloadN hA hx rfl (Jvm.hb hb hd) hl q) r
theorem lload (pc : Nat) {k : Nat} {v : Int64} (hd : decode B.bs pc = .ok (.lload k, 2)) (hl : Ls[k]? = some (.val (.long v))) (r : Go l Z a0 EL n0 kn B D Q h σ ce sl (pc + 2) Ls (.long v :: st))  : Go l Z a0 EL n0 kn B D Q h σ ce sl pc Ls st :=
  Go.step (fun T hA hx hb t q => XT.lload hA hx rfl (Jvm.hb hb hd) hl q) r
theorem lloadN (pc : Nat) {k : Fin 4} {v : Int64} (hd : decode B.bs pc = .ok (.lload_n k, 1)) (hl : Ls[k.val]? = some (.val (.long v))) (r : Go l Z a0 EL n0 kn B D Q h σ ce sl (pc + 1) Ls (.long v :: st))  : Go l Z a0 EL n0 kn B D Q h σ ce sl pc Ls st :=
  Go.step (fun T hA hx hb t q => XT.lloadN hA hx rfl (Jvm.hb hb hd) hl q) r
theorem iconst (pc : Nat) {i : Int} (v : Int32) (hd : decode B.bs pc = .ok (.iconst i, 1)) (hv : Int32.ofInt i = v) (r : Go l Z a0 EL n0 kn B D Q h σ ce sl (pc + 1) Ls (.int v :: st))  : Go l Z a0 EL n0 kn B D Q h σ ce sl pc Ls st :=
  Go.step (fun T hA hx hb t q => XT.iconstV hA hx rfl v (Jvm.hb hb hd) hv q) r
theorem bipush (pc : Nat) {i : Int} (v : Int32) (hd : decode B.bs pc = .ok (.bipush i, 2)) (hv : (Int8.ofInt i).toInt32 = v) (r : Go l Z a0 EL n0 kn B D Q h σ ce sl (pc + 2) Ls (.int v :: st))  : Go l Z a0 EL n0 kn B D Q h σ ce sl pc Ls st :=
  Go.step (fun T hA hx hb t q => XT.bipushV hA hx rfl v (Jvm.hb hb hd) hv q) r
theorem sipush (pc : Nat) {i : Int} (v : Int32) (hd : decode B.bs pc = .ok (.sipush i, 3)) (hv : (Int16.ofInt i).toInt32 = v) (r : Go l Z a0 EL n0 kn B D Q h σ ce sl (pc + 3) Ls (.int v :: st))  : Go l Z a0 EL n0 kn B D Q h σ ce sl pc Ls st :=
  Go.step (fun T hA hx hb t q => XT.sipushV hA hx rfl v (Jvm.hb hb hd) hv q) r
theorem lconst (pc : Nat) {k : Fin 2} (v : Int64) (hd : decode B.bs pc = .ok (.lconst k, 1)) (hv : Int64.ofNat k = v) (r : Go l Z a0 EL n0 kn B D Q h σ ce sl (pc + 1) Ls (.long v :: st))  : Go l Z a0 EL n0 kn B D Q h σ ce sl pc Ls st :=
  Go.step (fun T hA hx hb t q => XT.lconstV hA hx rfl v (Jvm.hb hb hd) hv q) r
theorem aconstNull (pc : Nat)  (hd : decode B.bs pc = .ok (.aconst_null, 1))  (r : Go l Z a0 EL n0 kn B D Q h σ ce sl (pc + 1) Ls (.null :: st))  : Go l Z a0 EL n0 kn B D Q h σ ce sl pc Ls st :=
  Go.step (fun T hA hx hb t q => XS.aconstNull hA hx rfl (Jvm.hb hb hd) q) r
theorem iadd (pc : Nat) {x y : Int32} (hd : decode B.bs pc = .ok (.iadd, 1))  (r : Go l Z a0 EL n0 kn B D Q h σ ce sl (pc + 1) Ls (.int (x + y) :: st))  : Go l Z a0 EL n0 kn B D Q h σ ce sl pc Ls (.int y :: .int x :: st) :=
  Go.step (fun T hA hx hb t q => XS.iadd hA hx rfl (Jvm.hb hb hd) rfl q) r
theorem isub (pc : Nat) {x y : Int32} (hd : decode B.bs pc = .ok (.isub, 1))  (r : Go l Z a0 EL n0 kn B D Q h σ ce sl (pc + 1) Ls (.int (x - y) :: st))  : Go l Z a0 EL n0 kn B D Q h σ ce sl pc Ls (.int y :: .int x :: st) :=
  Go.step (fun T hA hx hb t q => XS.isub hA hx rfl (Jvm.hb hb hd) rfl q) r
theorem iand (pc : Nat) {x y : Int32} (hd : decode B.bs pc = .ok (.iand, 1))  (r : Go l Z a0 EL n0 kn B D Q h σ ce sl (pc + 1) Ls (.int (x &&& y) :: st))  : Go l Z a0 EL n0 kn B D Q h σ ce sl pc Ls (.int y :: .int x :: st) :=
  Go.step (fun T hA hx hb t q => XS.iand hA hx rfl (Jvm.hb hb hd) rfl q) r
theorem imul (pc : Nat) {x y : Int32} (hd : decode B.bs pc = .ok (.imul, 1))  (r : Go l Z a0 EL n0 kn B D Q h σ ce sl (pc + 1) Ls (.int (x * y) :: st))  : Go l Z a0 EL n0 kn B D Q h σ ce sl pc Ls (.int y :: .int x :: st) :=
  Go.step (fun T hA hx hb t q => XS.imul hA hx rfl (Jvm.hb hb hd) rfl q) r
theorem ixor (pc : Nat) {x y : Int32} (hd : decode B.bs pc = .ok (.ixor, 1))  (r : Go l Z a0 EL n0 kn B D Q h σ ce sl (pc + 1) Ls (.int (x ^^^ y) :: st))  : Go l Z a0 EL n0 kn B D Q h σ ce sl pc Ls (.int y :: .int x :: st) :=
  Go.step (fun T hA hx hb t q => XT.ixor hA hx rfl (Jvm.hb hb hd) rfl q) r
theorem ior (pc : Nat) {x y : Int32} (hd : decode B.bs pc = .ok (.ior, 1))  (r : Go l Z a0 EL n0 kn B D Q h σ ce sl (pc + 1) Ls (.int (x ||| y) :: st))  : Go l Z a0 EL n0 kn B D Q h σ ce sl pc Ls (.int y :: .int x :: st) :=
  Go.step (fun T hA hx hb t q => XT.ior hA hx rfl (Jvm.hb hb hd) rfl q) r
theorem ishl (pc : Nat) {x y : Int32} (hd : decode B.bs pc = .ok (.ishl, 1))  (r : Go l Z a0 EL n0 kn B D Q h σ ce sl (pc + 1) Ls (.int (x <<< (y &&& 31)) :: st))  : Go l Z a0 EL n0 kn B D Q h σ ce sl pc Ls (.int y :: .int x :: st) :=
  Go.step (fun T hA hx hb t q => XT.ishl hA hx rfl (Jvm.hb hb hd) rfl q) r
theorem ishr (pc : Nat) {x y : Int32} (hd : decode B.bs pc = .ok (.ishr, 1))  (r : Go l Z a0 EL n0 kn B D Q h σ ce sl (pc + 1) Ls (.int (x >>> (y &&& 31)) :: st))  : Go l Z a0 EL n0 kn B D Q h σ ce sl pc Ls (.int y :: .int x :: st) :=
  Go.step (fun T hA hx hb t q => XT.ishr hA hx rfl (Jvm.hb hb hd) rfl q) r
theorem iushr (pc : Nat) {x y : Int32} (hd : decode B.bs pc = .ok (.iushr, 1))  (r : Go l Z a0 EL n0 kn B D Q h σ ce sl (pc + 1) Ls (.int (XT.ushr x y) :: st))  : Go l Z a0 EL n0 kn B D Q h σ ce sl pc Ls (.int y :: .int x :: st) :=
  Go.step (fun T hA hx hb t q => XT.iushr hA hx rfl (Jvm.hb hb hd) rfl q) r
theorem idiv (pc : Nat) {x y : Int32} (hd : decode B.bs pc = .ok (.idiv, 1)) (hy : y ≠ 0) (r : Go l Z a0 EL n0 kn B D Q h σ ce sl (pc + 1) Ls (.int (x / y) :: st))  : Go l Z a0 EL n0 kn B D Q h σ ce sl pc Ls (.int y :: .int x :: st) :=
  Go.step (fun T hA hx hb t q => XS.idiv hA hx rfl (Jvm.hb hb hd) rfl hy q) r
theorem irem (pc : Nat) {x y : Int32} (hd : decode B.bs pc = .ok (.irem, 1)) (hy : y ≠ 0) (r : Go l Z a0 EL n0 kn B D Q h σ ce sl (pc + 1) Ls (.int (x % y) :: st))  : Go l Z a0 EL n0 kn B D Q h σ ce sl pc Ls (.int y :: .int x :: st) :=
  Go.step (fun T hA hx hb t q => XS.irem hA hx rfl (Jvm.hb hb hd) rfl hy (by rw [irem_eq_mod]; exact q)) r
theorem ineg (pc : Nat) {x : Int32} (hd : decode B.bs pc = .ok (.ineg, 1))  (r : Go l Z a0 EL n0 kn B D Q h σ ce sl (pc + 1) Ls (.int (-x) :: st))  : Go l Z a0 EL n0 kn B D Q h σ ce sl pc Ls (.int x :: st) :=
  Go.step (fun T hA hx hb t q => XS.ineg hA hx rfl (Jvm.hb hb hd) rfl q) r
theorem ladd (pc : Nat) {x y : Int64} (hd : decode B.bs pc = .ok (.ladd, 1))  (r : Go l Z a0 EL n0 kn B D Q h σ ce sl (pc + 1) Ls (.long (x + y) :: st))  : Go l Z a0 EL n0 kn B D Q h σ ce sl pc Ls (.long y :: .long x :: st) :=
  Go.step (fun T hA hx hb t q => XT.ladd hA hx rfl (Jvm.hb hb hd) rfl q) r
theorem lsub (pc : Nat) {x y : Int64} (hd : decode B.bs pc = .ok (.lsub, 1))  (r : Go l Z a0 EL n0 kn B D Q h σ ce sl (pc + 1) Ls (.long (x - y) :: st))  : Go l Z a0 EL n0 kn B D Q h σ ce sl pc Ls (.long y :: .long x :: st) :=
  Go.step (fun T hA hx hb t q => XT.lsub hA hx rfl (Jvm.hb hb hd) rfl q) r
theorem land (pc : Nat) {x y : Int64} (hd : decode B.bs pc = .ok (.land, 1))  (r : Go l Z a0 EL n0 kn B D Q h σ ce sl (pc + 1) Ls (.long (x &&& y) :: st))  : Go l Z a0 EL n0 kn B D Q h σ ce sl pc Ls (.long y :: .long x :: st) :=
  Go.step (fun T hA hx hb t q => XT.land hA hx rfl (Jvm.hb hb hd) rfl q) r
theorem lmul (pc : Nat) {x y : Int64} (hd : decode B.bs pc = .ok (.lmul, 1))  (r : Go l Z a0 EL n0 kn B D Q h σ ce sl (pc + 1) Ls (.long (x * y) :: st))  : Go l Z a0 EL n0 kn B D Q h σ ce sl pc Ls (.long y :: .long x :: st) :=
  Go.step (fun T hA hx hb t q => XT.lmul hA hx rfl (Jvm.hb hb hd) rfl q) r
theorem lxor (pc : Nat) {x y : Int64} (hd : decode B.bs pc = .ok (.lxor, 1))  (r : Go l Z a0 EL n0 kn B D Q h σ ce sl (pc + 1) Ls (.long (x ^^^ y) :: st))  : Go l Z a0 EL n0 kn B D Q h σ ce sl pc Ls (.long y :: .long x :: st) :=
  Go.step (fun T hA hx hb t q => XT.lxor hA hx rfl (Jvm.hb hb hd) rfl q) r
theorem lor (pc : Nat) {x y : Int64} (hd : decode B.bs pc = .ok (.lor, 1))  (r : Go l Z a0 EL n0 kn B D Q h σ ce sl (pc + 1) Ls (.long (x ||| y) :: st))  : Go l Z a0 EL n0 kn B D Q h σ ce sl pc Ls (.long y :: .long x :: st) :=
  Go.step (fun T hA hx hb t q => XT.lor hA hx rfl (Jvm.hb hb hd) rfl q) r
theorem lushr (pc : Nat) {x : Int64} {y : Int32} (hd : decode B.bs pc = .ok (.lushr, 1))  (r : Go l Z a0 EL n0 kn B D Q h σ ce sl (pc + 1) Ls (.long (XT.ushrL x y) :: st))  : Go l Z a0 EL n0 kn B D Q h σ ce sl pc Ls (.int y :: .long x :: st) :=
  Go.step (fun T hA hx hb t q => XT.lushr hA hx rfl (Jvm.hb hb hd) rfl q) r
theorem ldiv (pc : Nat) {x y : Int64} (hd : decode B.bs pc = .ok (.ldiv, 1)) (hy : y ≠ 0) (r : Go l Z a0 EL n0 kn B D Q h σ ce sl (pc + 1) Ls (.long (x / y) :: st))  : Go l Z a0 EL n0 kn B D Q h σ ce sl pc Ls (.long y :: .long x :: st) :=
  Go.step (fun T hA hx hb t q => XT.ldiv hA hx rfl (Jvm.hb hb hd) rfl hy q) r
theorem lrem (pc : Nat) {x y : Int64} (hd : decode B.bs pc = .ok (.lrem, 1)) (hy : y ≠ 0) (r : Go l Z a0 EL n0 kn B D Q h σ ce sl (pc + 1) Ls (.long (x - (x / y) * y) :: st))  : Go l Z a0 EL n0 kn B D Q h σ ce sl pc Ls (.long y :: .long x :: st) :=
  Go.step (fun T hA hx hb t q => XT.lrem hA hx rfl (Jvm.hb hb hd) rfl hy q) r
theorem lneg (pc : Nat) {x : Int64} (hd : decode B.bs pc = .ok (.lneg, 1))  (r : Go l Z a0 EL n0 kn B D Q h σ ce sl (pc + 1) Ls (.long (-x) :: st))  : Go l Z a0 EL n0 kn B D Q h σ ce sl pc Ls (.long x :: st) :=
  Go.step (fun T hA hx hb t q => XT.lneg hA hx rfl (Jvm.hb hb hd) rfl q) r
theorem i2l (pc : Nat) {x : Int32} (hd : decode B.bs pc = .ok (.i2l, 1))  (r : Go l Z a0 EL n0 kn B D Q h σ ce sl (pc + 1) Ls (.long x.toInt64 :: st))  : Go l Z a0 EL n0 kn B D Q h σ ce sl pc Ls (.int x :: st) :=
  Go.step (fun T hA hx hb t q => XT.i2l hA hx rfl (Jvm.hb hb hd) rfl q) r
theorem l2i (pc : Nat) {x : Int64} (hd : decode B.bs pc = .ok (.l2i, 1))  (r : Go l Z a0 EL n0 kn B D Q h σ ce sl (pc + 1) Ls (.int x.toInt32 :: st))  : Go l Z a0 EL n0 kn B D Q h σ ce sl pc Ls (.long x :: st) :=
  Go.step (fun T hA hx hb t q => XT.l2i hA hx rfl (Jvm.hb hb hd) rfl q) r
theorem i2b (pc : Nat) {x : Int32} (hd : decode B.bs pc = .ok (.i2b, 1))  (r : Go l Z a0 EL n0 kn B D Q h σ ce sl (pc + 1) Ls (.int x.toInt8.toInt32 :: st))  : Go l Z a0 EL n0 kn B D Q h σ ce sl pc Ls (.int x :: st) :=
  Go.step (fun T hA hx hb t q => XT.i2b hA hx rfl (Jvm.hb hb hd) rfl q) r
theorem i2c (pc : Nat) {x : Int32} (hd : decode B.bs pc = .ok (.i2c, 1))  (r : Go l Z a0 EL n0 kn B D Q h σ ce sl (pc + 1) Ls (.int (chr x) :: st))  : Go l Z a0 EL n0 kn B D Q h σ ce sl pc Ls (.int x :: st) :=
  Go.step (fun T hA hx hb t q => XT.i2c hA hx rfl (Jvm.hb hb hd) rfl q) r
theorem lcmp (pc : Nat) {x y : Int64} (hd : decode B.bs pc = .ok (.lcmp, 1))  (r : Go l Z a0 EL n0 kn B D Q h σ ce sl (pc + 1) Ls (.int (XT.cmpL x y) :: st))  : Go l Z a0 EL n0 kn B D Q h σ ce sl pc Ls (.long y :: .long x :: st) :=
  Go.step (fun T hA hx hb t q => XT.lcmp hA hx rfl (Jvm.hb hb hd) rfl q) r
theorem dup (pc : Nat) {v : Value} (hd : decode B.bs pc = .ok (.dup, 1))  (r : Go l Z a0 EL n0 kn B D Q h σ ce sl (pc + 1) Ls (v :: v :: st)) (hc : v.category = 1 := by rfl) : Go l Z a0 EL n0 kn B D Q h σ ce sl pc Ls (v :: st) :=
  Go.step (fun T hA hx hb t q => XS.dup hA hx rfl (Jvm.hb hb hd) rfl hc q) r
theorem dupX1 (pc : Nat) {v w : Value} (hd : decode B.bs pc = .ok (.dup_x1, 1))   (r : Go l Z a0 EL n0 kn B D Q h σ ce sl (pc + 1) Ls (v :: w :: v :: st)) (hc : v.category = 1 := by rfl) (hw : w.category = 1 := by rfl) : Go l Z a0 EL n0 kn B D Q h σ ce sl pc Ls (v :: w :: st) :=
  Go.step (fun T hA hx hb t q => XT.dupX1 hA hx rfl (Jvm.hb hb hd) rfl hc hw q) r
theorem pop (pc : Nat) {v : Value} (hd : decode B.bs pc = .ok (.pop, 1))  (r : Go l Z a0 EL n0 kn B D Q h σ ce sl (pc + 1) Ls st) (hc : v.category = 1 := by rfl) : Go l Z a0 EL n0 kn B D Q h σ ce sl pc Ls (v :: st) :=
  Go.step (fun T hA hx hb t q => XT.pop hA hx rfl (Jvm.hb hb hd) rfl hc q) r
theorem istore (pc : Nat) {k : Nat} {x : Int32} (l' : Array Slot) (hd : decode B.bs pc = .ok (.istore k, 2)) (hl : storeLocals Ls k (.int x) = some l') (r : Go l Z a0 EL n0 kn B D Q h σ ce sl (pc + 2) l' st)  : Go l Z a0 EL n0 kn B D Q h σ ce sl pc Ls (.int x :: st) :=
  Go.step (fun T hA hx hb t q => XS.istore hA hx rfl (Jvm.hb hb hd) rfl hl q) r
theorem istoreN (pc : Nat) {k : Fin 4} {x : Int32} (l' : Array Slot) (hd : decode B.bs pc = .ok (.istore_n k, 1)) (hl : storeLocals Ls k.val (.int x) = some l') (r : Go l Z a0 EL n0 kn B D Q h σ ce sl (pc + 1) l' st)  : Go l Z a0 EL n0 kn B D Q h σ ce sl pc Ls (.int x :: st) :=
  Go.step (fun T hA hx hb t q => XS.istoreN hA hx rfl (Jvm.hb hb hd) rfl hl q) r
theorem lstore (pc : Nat) {k : Nat} {x : Int64} (l' : Array Slot) (hd : decode B.bs pc = .ok (.lstore k, 2)) (hl : storeLocals Ls k (.long x) = some l') (r : Go l Z a0 EL n0 kn B D Q h σ ce sl (pc + 2) l' st)  : Go l Z a0 EL n0 kn B D Q h σ ce sl pc Ls (.long x :: st) :=
  Go.step (fun T hA hx hb t q => XT.lstore hA hx rfl (Jvm.hb hb hd) rfl hl q) r
theorem lstoreN (pc : Nat) {k : Fin 4} {x : Int64} (l' : Array Slot) (hd : decode B.bs pc = .ok (.lstore_n k, 1)) (hl : storeLocals Ls k.val (.long x) = some l') (r : Go l Z a0 EL n0 kn B D Q h σ ce sl (pc + 1) l' st)  : Go l Z a0 EL n0 kn B D Q h σ ce sl pc Ls (.long x :: st) :=
  Go.step (fun T hA hx hb t q => XT.lstoreN hA hx rfl (Jvm.hb hb hd) rfl hl q) r
theorem astore (pc : Nat) {k : Nat} {v : Value} (l' : Array Slot) (hd : decode B.bs pc = .ok (.astore k, 2)) (hl : storeLocals Ls k v = some l')  (r : Go l Z a0 EL n0 kn B D Q h σ ce sl (pc + 2) l' st) (hv : v.isRef = true := by rfl) : Go l Z a0 EL n0 kn B D Q h σ ce sl pc Ls (v :: st) :=
  Go.step (fun T hA hx hb t q => XS.astore hA hx rfl (Jvm.hb hb hd) rfl hv hl q) r
theorem astoreN (pc : Nat) {k : Fin 4} {v : Value} (l' : Array Slot) (hd : decode B.bs pc = .ok (.astore_n k, 1)) (hl : storeLocals Ls k.val v = some l')  (r : Go l Z a0 EL n0 kn B D Q h σ ce sl (pc + 1) l' st) (hv : v.isRef = true := by rfl) : Go l Z a0 EL n0 kn B D Q h σ ce sl pc Ls (v :: st) :=
  Go.step (fun T hA hx hb t q => XS.astoreN hA hx rfl (Jvm.hb hb hd) rfl hv hl q) r
theorem iinc (pc : Nat) {k : Nat} {c : Int} {x : Int32} (v : Int32) (l' : Array Slot) (hd : decode B.bs pc = .ok (.iinc k c, 3)) (hv : Int32.ofInt c = v) (hl : Ls[k]? = some (.val (.int x))) (hl' : storeLocals Ls k (.int (x + v)) = some l') (r : Go l Z a0 EL n0 kn B D Q h σ ce sl (pc + 3) l' st)  : Go l Z a0 EL n0 kn B D Q h σ ce sl pc Ls st :=
  Go.step (fun T hA hx hb t q => XT.iincV hA hx rfl v (Jvm.hb hb hd) hv hl hl' q) r
theorem goto (pc : Nat) (tgt : Nat) {o : Int} (hd : decode B.bs pc = .ok (.goto o, 3)) (ht : (pc : Int) + o = (tgt : Int)) (r : Go l Z a0 EL n0 kn B D Q h σ ce sl tgt Ls st) : Go l Z a0 EL n0 kn B D Q h σ ce sl pc Ls st :=
  Go.step (fun T hA hx hb t q => XS.goto hA hx rfl (pc0 := pc) (pc' := tgt) rfl (Jvm.hb hb hd) (by rw [ht]; exact Int.natCast_nonneg _) (by rw [ht]; rfl) q) r
theorem icmp_eq (pc : Nat) (tgt : Nat) {o : Int} {x y : Int32} (hd : decode B.bs pc = .ok (.if_icmp .eq o, 3)) (ht : (pc : Int) + o = (tgt : Int)) (yes : x = y → Go l Z a0 EL n0 kn B D Q h σ ce sl tgt Ls st) (no : ¬ (x = y) → Go l Z a0 EL n0 kn B D Q h σ ce sl (pc + 3) Ls st) : Go l Z a0 EL n0 kn B D Q h σ ce sl pc Ls (.int y :: .int x :: st) := by
  by_cases c : x = y
  · exact Go.step (fun T hA hx hb t q => XS.icmpYes hA hx rfl (pc0 := pc) (pc' := tgt) rfl (Jvm.hb hb hd) rfl (XT.ii_eq_t c) (by rw [ht]; exact Int.natCast_nonneg _) (by rw [ht]; rfl) q) (yes c)
  · exact Go.step (fun T hA hx hb t q => XS.icmpNo hA hx rfl (Jvm.hb hb hd) rfl (XT.ii_eq_f c) q) (no c)
theorem icmp_ne (pc : Nat) (tgt : Nat) {o : Int} {x y : Int32} (hd : decode B.bs pc = .ok (.if_icmp .ne o, 3)) (ht : (pc : Int) + o = (tgt : Int)) (yes : ¬ (x = y) → Go l Z a0 EL n0 kn B D Q h σ ce sl tgt Ls st) (no : x = y → Go l Z a0 EL n0 kn B D Q h σ ce sl (pc + 3) Ls st) : Go l Z a0 EL n0 kn B D Q h σ ce sl pc Ls (.int y :: .int x :: st) := by
  by_cases c : x = y
  · exact Go.step (fun T hA hx hb t q => XS.icmpNo hA hx rfl (Jvm.hb hb hd) rfl (XT.ii_ne_f c) q) (no c)
  · exact Go.step (fun T hA hx hb t q => XS.icmpYes hA hx rfl (pc0 := pc) (pc' := tgt) rfl (Jvm.hb hb hd) rfl (XT.ii_ne_t c) (by rw [ht]; exact Int.natCast_nonneg _) (by rw [ht]; rfl) q) (yes c)
theorem icmp_lt (pc : Nat) (tgt : Nat) {o : Int} {x y : Int32} (hd : decode B.bs pc = .ok (.if_icmp .lt o, 3)) (ht : (pc : Int) + o = (tgt : Int)) (yes : x < y → Go l Z a0 EL n0 kn B D Q h σ ce sl tgt Ls st) (no : ¬ (x < y) → Go l Z a0 EL n0 kn B D Q h σ ce sl (pc + 3) Ls st) : Go l Z a0 EL n0 kn B D Q h σ ce sl pc Ls (.int y :: .int x :: st) := by
  by_cases c : x < y
  · exact Go.step (fun T hA hx hb t q => XS.icmpYes hA hx rfl (pc0 := pc) (pc' := tgt) rfl (Jvm.hb hb hd) rfl (XT.ii_lt_t c) (by rw [ht]; exact Int.natCast_nonneg _) (by rw [ht]; rfl) q) (yes c)
  · exact Go.step (fun T hA hx hb t q => XS.icmpNo hA hx rfl (Jvm.hb hb hd) rfl (XT.ii_lt_f c) q) (no c)
theorem icmp_ge (pc : Nat) (tgt : Nat) {o : Int} {x y : Int32} (hd : decode B.bs pc = .ok (.if_icmp .ge o, 3)) (ht : (pc : Int) + o = (tgt : Int)) (yes : ¬ (x < y) → Go l Z a0 EL n0 kn B D Q h σ ce sl tgt Ls st) (no : x < y → Go l Z a0 EL n0 kn B D Q h σ ce sl (pc + 3) Ls st) : Go l Z a0 EL n0 kn B D Q h σ ce sl pc Ls (.int y :: .int x :: st) := by
  by_cases c : x < y
  · exact Go.step (fun T hA hx hb t q => XS.icmpNo hA hx rfl (Jvm.hb hb hd) rfl (XT.ii_ge_f c) q) (no c)
  · exact Go.step (fun T hA hx hb t q => XS.icmpYes hA hx rfl (pc0 := pc) (pc' := tgt) rfl (Jvm.hb hb hd) rfl (XT.ii_ge_t c) (by rw [ht]; exact Int.natCast_nonneg _) (by rw [ht]; rfl) q) (yes c)
theorem icmp_gt (pc : Nat) (tgt : Nat) {o : Int} {x y : Int32} (hd : decode B.bs pc = .ok (.if_icmp .gt o, 3)) (ht : (pc : Int) + o = (tgt : Int)) (yes : y < x → Go l Z a0 EL n0 kn B D Q h σ ce sl tgt Ls st) (no : ¬ (y < x) → Go l Z a0 EL n0 kn B D Q h σ ce sl (pc + 3) Ls st) : Go l Z a0 EL n0 kn B D Q h σ ce sl pc Ls (.int y :: .int x :: st) := by
  by_cases c : y < x
  · exact Go.step (fun T hA hx hb t q => XS.icmpYes hA hx rfl (pc0 := pc) (pc' := tgt) rfl (Jvm.hb hb hd) rfl (XT.ii_gt_t c) (by rw [ht]; exact Int.natCast_nonneg _) (by rw [ht]; rfl) q) (yes c)
  · exact Go.step (fun T hA hx hb t q => XS.icmpNo hA hx rfl (Jvm.hb hb hd) rfl (XT.ii_gt_f c) q) (no c)
theorem icmp_le (pc : Nat) (tgt : Nat) {o : Int} {x y : Int32} (hd : decode B.bs pc = .ok (.if_icmp .le o, 3)) (ht : (pc : Int) + o = (tgt : Int)) (yes : ¬ (y < x) → Go l Z a0 EL n0 kn B D Q h σ ce sl tgt Ls st) (no : y < x → Go l Z a0 EL n0 kn B D Q h σ ce sl (pc + 3) Ls st) : Go l Z a0 EL n0 kn B D Q h σ ce sl pc Ls (.int y :: .int x :: st) := by
  by_cases c : y < x
  · exact Go.step (fun T hA hx hb t q => XS.icmpNo hA hx rfl (Jvm.hb hb hd) rfl (XT.ii_le_f c) q) (no c)
  · exact Go.step (fun T hA hx hb t q => XS.icmpYes hA hx rfl (pc0 := pc) (pc' := tgt) rfl (Jvm.hb hb hd) rfl (XT.ii_le_t c) (by rw [ht]; exact Int.natCast_nonneg _) (by rw [ht]; rfl) q) (yes c)
theorem if_eq (pc : Nat) (tgt : Nat) {o : Int} {x : Int32} (hd : decode B.bs pc = .ok (.ifCond .eq o, 3)) (ht : (pc : Int) + o = (tgt : Int)) (yes : x = 0 → Go l Z a0 EL n0 kn B D Q h σ ce sl tgt Ls st) (no : ¬ (x = 0) → Go l Z a0 EL n0 kn B D Q h σ ce sl (pc + 3) Ls st) : Go l Z a0 EL n0 kn B D Q h σ ce sl pc Ls (.int x :: st) := by
  by_cases c : x = 0
  · exact Go.step (fun T hA hx hb t q => XS.ifYes hA hx rfl (pc0 := pc) (pc' := tgt) rfl (Jvm.hb hb hd) rfl (XT.i0_eq_t c) (by rw [ht]; exact Int.natCast_nonneg _) (by rw [ht]; rfl) q) (yes c)
  · exact Go.step (fun T hA hx hb t q => XS.ifNo hA hx rfl (Jvm.hb hb hd) rfl (XT.i0_eq_f c) q) (no c)
theorem if_ne (pc : Nat) (tgt : Nat) {o : Int} {x : Int32} (hd : decode B.bs pc = .ok (.ifCond .ne o, 3)) (ht : (pc : Int) + o = (tgt : Int)) (yes : ¬ (x = 0) → Go l Z a0 EL n0 kn B D Q h σ ce sl tgt Ls st) (no : x = 0 → Go l Z a0 EL n0 kn B D Q h σ ce sl (pc + 3) Ls st) : Go l Z a0 EL n0 kn B D Q h σ ce sl pc Ls (.int x :: st) := by
  by_cases c : x = 0
  · exact Go.step (fun T hA hx hb t q => XS.ifNo hA hx rfl (Jvm.hb hb hd) rfl (XT.i0_ne_f c) q) (no c)
  · exact Go.step (fun T hA hx hb t q => XS.ifYes hA hx rfl (pc0 := pc) (pc' := tgt) rfl (Jvm.hb hb hd) rfl (XT.i0_ne_t c) (by rw [ht]; exact Int.natCast_nonneg _) (by rw [ht]; rfl) q) (yes c)
theorem if_lt (pc : Nat) (tgt : Nat) {o : Int} {x : Int32} (hd : decode B.bs pc = .ok (.ifCond .lt o, 3)) (ht : (pc : Int) + o = (tgt : Int)) (yes : x < 0 → Go l Z a0 EL n0 kn B D Q h σ ce sl tgt Ls st) (no : ¬ (x < 0) → Go l Z a0 EL n0 kn B D Q h σ ce sl (pc + 3) Ls st) : Go l Z a0 EL n0 kn B D Q h σ ce sl pc Ls (.int x :: st) := by
  by_cases c : x < 0
  · exact Go.step (fun T hA hx hb t q => XS.ifYes hA hx rfl (pc0 := pc) (pc' := tgt) rfl (Jvm.hb hb hd) rfl (XT.i0_lt_t c) (by rw [ht]; exact Int.natCast_nonneg _) (by rw [ht]; rfl) q) (yes c)
  · exact Go.step (fun T hA hx hb t q => XS.ifNo hA hx rfl (Jvm.hb hb hd) rfl (XT.i0_lt_f c) q) (no c)
theorem if_ge (pc : Nat) (tgt : Nat) {o : Int} {x : Int32} (hd : decode B.bs pc = .ok (.ifCond .ge o, 3)) (ht : (pc : Int) + o = (tgt : Int)) (yes : ¬ (x < 0) → Go l Z a0 EL n0 kn B D Q h σ ce sl tgt Ls st) (no : x < 0 → Go l Z a0 EL n0 kn B D Q h σ ce sl (pc + 3) Ls st) : Go l Z a0 EL n0 kn B D Q h σ ce sl pc Ls (.int x :: st) := by
  by_cases c : x < 0
  · exact Go.step (fun T hA hx hb t q => XS.ifNo hA hx rfl (Jvm.hb hb hd) rfl (XT.i0_ge_f c) q) (no c)
  · exact Go.step (fun T hA hx hb t q => XS.ifYes hA hx rfl (pc0 := pc) (pc' := tgt) rfl (Jvm.hb hb hd) rfl (XT.i0_ge_t c) (by rw [ht]; exact Int.natCast_nonneg _) (by rw [ht]; rfl) q) (yes c)
theorem if_gt (pc : Nat) (tgt : Nat) {o : Int} {x : Int32} (hd : decode B.bs pc = .ok (.ifCond .gt o, 3)) (ht : (pc : Int) + o = (tgt : Int)) (yes : 0 < x → Go l Z a0 EL n0 kn B D Q h σ ce sl tgt Ls st) (no : ¬ (0 < x) → Go l Z a0 EL n0 kn B D Q h σ ce sl (pc + 3) Ls st) : Go l Z a0 EL n0 kn B D Q h σ ce sl pc Ls (.int x :: st) := by
  by_cases c : 0 < x
  · exact Go.step (fun T hA hx hb t q => XS.ifYes hA hx rfl (pc0 := pc) (pc' := tgt) rfl (Jvm.hb hb hd) rfl (XT.i0_gt_t c) (by rw [ht]; exact Int.natCast_nonneg _) (by rw [ht]; rfl) q) (yes c)
  · exact Go.step (fun T hA hx hb t q => XS.ifNo hA hx rfl (Jvm.hb hb hd) rfl (XT.i0_gt_f c) q) (no c)
theorem if_le (pc : Nat) (tgt : Nat) {o : Int} {x : Int32} (hd : decode B.bs pc = .ok (.ifCond .le o, 3)) (ht : (pc : Int) + o = (tgt : Int)) (yes : ¬ (0 < x) → Go l Z a0 EL n0 kn B D Q h σ ce sl tgt Ls st) (no : 0 < x → Go l Z a0 EL n0 kn B D Q h σ ce sl (pc + 3) Ls st) : Go l Z a0 EL n0 kn B D Q h σ ce sl pc Ls (.int x :: st) := by
  by_cases c : 0 < x
  · exact Go.step (fun T hA hx hb t q => XS.ifNo hA hx rfl (Jvm.hb hb hd) rfl (XT.i0_le_f c) q) (no c)
  · exact Go.step (fun T hA hx hb t q => XS.ifYes hA hx rfl (pc0 := pc) (pc' := tgt) rfl (Jvm.hb hb hd) rfl (XT.i0_le_t c) (by rw [ht]; exact Int.natCast_nonneg _) (by rw [ht]; rfl) q) (yes c)
theorem ifl_eq (pc : Nat) (tgt : Nat) {o : Int} {x y : Int64} (hd : decode B.bs pc = .ok (.ifCond .eq o, 3)) (ht : (pc : Int) + o = (tgt : Int)) (yes : x = y → Go l Z a0 EL n0 kn B D Q h σ ce sl tgt Ls st) (no : ¬ (x = y) → Go l Z a0 EL n0 kn B D Q h σ ce sl (pc + 3) Ls st) : Go l Z a0 EL n0 kn B D Q h σ ce sl pc Ls (.int (XT.cmpL x y) :: st) := by
  by_cases c : x = y
  · exact Go.step (fun T hA hx hb t q => XS.ifYes hA hx rfl (pc0 := pc) (pc' := tgt) rfl (Jvm.hb hb hd) rfl (XT.ll_eq_t c) (by rw [ht]; exact Int.natCast_nonneg _) (by rw [ht]; rfl) q) (yes c)
  · exact Go.step (fun T hA hx hb t q => XS.ifNo hA hx rfl (Jvm.hb hb hd) rfl (XT.ll_eq_f c) q) (no c)
theorem ifl_ne (pc : Nat) (tgt : Nat) {o : Int} {x y : Int64} (hd : decode B.bs pc = .ok (.ifCond .ne o, 3)) (ht : (pc : Int) + o = (tgt : Int)) (yes : ¬ (x = y) → Go l Z a0 EL n0 kn B D Q h σ ce sl tgt Ls st) (no : x = y → Go l Z a0 EL n0 kn B D Q h σ ce sl (pc + 3) Ls st) : Go l Z a0 EL n0 kn B D Q h σ ce sl pc Ls (.int (XT.cmpL x y) :: st) := by
  by_cases c : x = y
  · exact Go.step (fun T hA hx hb t q => XS.ifNo hA hx rfl (Jvm.hb hb hd) rfl (XT.ll_ne_f c) q) (no c)
  · exact Go.step (fun T hA hx hb t q => XS.ifYes hA hx rfl (pc0 := pc) (pc' := tgt) rfl (Jvm.hb hb hd) rfl (XT.ll_ne_t c) (by rw [ht]; exact Int.natCast_nonneg _) (by rw [ht]; rfl) q) (yes c)
theorem ifl_lt (pc : Nat) (tgt : Nat) {o : Int} {x y : Int64} (hd : decode B.bs pc = .ok (.ifCond .lt o, 3)) (ht : (pc : Int) + o = (tgt : Int)) (yes : x < y → Go l Z a0 EL n0 kn B D Q h σ ce sl tgt Ls st) (no : ¬ (x < y) → Go l Z a0 EL n0 kn B D Q h σ ce sl (pc + 3) Ls st) : Go l Z a0 EL n0 kn B D Q h σ ce sl pc Ls (.int (XT.cmpL x y) :: st) := by
  by_cases c : x < y
  · exact Go.step (fun T hA hx hb t q => XS.ifYes hA hx rfl (pc0 := pc) (pc' := tgt) rfl (Jvm.hb hb hd) rfl (XT.ll_lt_t c) (by rw [ht]; exact Int.natCast_nonneg _) (by rw [ht]; rfl) q) (yes c)
  · exact Go.step (fun T hA hx hb t q => XS.ifNo hA hx rfl (Jvm.hb hb hd) rfl (XT.ll_lt_f c) q) (no c)
theorem ifl_ge (pc : Nat) (tgt : Nat) {o : Int} {x y : Int64} (hd : decode B.bs pc = .ok (.ifCond .ge o, 3)) (ht : (pc : Int) + o = (tgt : Int)) (yes : ¬ (x < y) → Go l Z a0 EL n0 kn B D Q h σ ce sl tgt Ls st) (no : x < y → Go l Z a0 EL n0 kn B D Q h σ ce sl (pc + 3) Ls st) : Go l Z a0 EL n0 kn B D Q h σ ce sl pc Ls (.int (XT.cmpL x y) :: st) := by
  by_cases c : x < y
  · exact Go.step (fun T hA hx hb t q => XS.ifNo hA hx rfl (Jvm.hb hb hd) rfl (XT.ll_ge_f c) q) (no c)
  · exact Go.step (fun T hA hx hb t q => XS.ifYes hA hx rfl (pc0 := pc) (pc' := tgt) rfl (Jvm.hb hb hd) rfl (XT.ll_ge_t c) (by rw [ht]; exact Int.natCast_nonneg _) (by rw [ht]; rfl) q) (yes c)
theorem ifl_gt (pc : Nat) (tgt : Nat) {o : Int} {x y : Int64} (hd : decode B.bs pc = .ok (.ifCond .gt o, 3)) (ht : (pc : Int) + o = (tgt : Int)) (yes : y < x → Go l Z a0 EL n0 kn B D Q h σ ce sl tgt Ls st) (no : ¬ (y < x) → Go l Z a0 EL n0 kn B D Q h σ ce sl (pc + 3) Ls st) : Go l Z a0 EL n0 kn B D Q h σ ce sl pc Ls (.int (XT.cmpL x y) :: st) := by
  by_cases c : y < x
  · exact Go.step (fun T hA hx hb t q => XS.ifYes hA hx rfl (pc0 := pc) (pc' := tgt) rfl (Jvm.hb hb hd) rfl (XT.ll_gt_t c) (by rw [ht]; exact Int.natCast_nonneg _) (by rw [ht]; rfl) q) (yes c)
  · exact Go.step (fun T hA hx hb t q => XS.ifNo hA hx rfl (Jvm.hb hb hd) rfl (XT.ll_gt_f c) q) (no c)
theorem ifl_le (pc : Nat) (tgt : Nat) {o : Int} {x y : Int64} (hd : decode B.bs pc = .ok (.ifCond .le o, 3)) (ht : (pc : Int) + o = (tgt : Int)) (yes : ¬ (y < x) → Go l Z a0 EL n0 kn B D Q h σ ce sl tgt Ls st) (no : y < x → Go l Z a0 EL n0 kn B D Q h σ ce sl (pc + 3) Ls st) : Go l Z a0 EL n0 kn B D Q h σ ce sl pc Ls (.int (XT.cmpL x y) :: st) := by
  by_cases c : y < x
  · exact Go.step (fun T hA hx hb t q => XS.ifNo hA hx rfl (Jvm.hb hb hd) rfl (XT.ll_le_f c) q) (no c)
  · exact Go.step (fun T hA hx hb t q => XS.ifYes hA hx rfl (pc0 := pc) (pc' := tgt) rfl (Jvm.hb hb hd) rfl (XT.ll_le_t c) (by rw [ht]; exact Int.natCast_nonneg _) (by rw [ht]; rfl) q) (yes c)
theorem ifnull (pc : Nat) (tgt : Nat) {o : Int} {v : Value} (hr : v.isRef = true) (hd : decode B.bs pc = .ok (.ifnull o, 3)) (ht : (pc : Int) + o = (tgt : Int)) (yes : v = .null → Go l Z a0 EL n0 kn B D Q h σ ce sl tgt Ls st) (no : ¬ (v = .null) → Go l Z a0 EL n0 kn B D Q h σ ce sl (pc + 3) Ls st) : Go l Z a0 EL n0 kn B D Q h σ ce sl pc Ls (v :: st) := by
  by_cases c : v = .null
  · exact Go.step (fun T hA hx hb t q => XT.nullYes hA hx rfl (pc0 := pc) (pc' := tgt) rfl (Jvm.hb hb hd) rfl c (by rw [ht]; exact Int.natCast_nonneg _) (by rw [ht]; rfl) q) (yes c)
  · exact Go.step (fun T hA hx hb t q => XT.nullNo hA hx rfl (Jvm.hb hb hd) rfl hr c q) (no c)
theorem ifnonnull (pc : Nat) (tgt : Nat) {o : Int} {v : Value} (hr : v.isRef = true) (hd : decode B.bs pc = .ok (.ifnonnull o, 3)) (ht : (pc : Int) + o = (tgt : Int)) (yes : ¬ (v = .null) → Go l Z a0 EL n0 kn B D Q h σ ce sl tgt Ls st) (no : v = .null → Go l Z a0 EL n0 kn B D Q h σ ce sl (pc + 3) Ls st) : Go l Z a0 EL n0 kn B D Q h σ ce sl pc Ls (v :: st) := by
  by_cases c : v = .null
  · exact Go.step (fun T hA hx hb t q => XT.nonnullNo hA hx rfl (Jvm.hb hb hd) rfl c q) (no c)
  · exact Go.step (fun T hA hx hb t q => XT.nonnullYes hA hx rfl (pc0 := pc) (pc' := tgt) rfl (Jvm.hb hb hd) rfl hr c (by rw [ht]; exact Int.natCast_nonneg _) (by rw [ht]; rfl) q) (yes c)
theorem acmp_eq (pc : Nat) (tgt : Nat) {o : Int} {v w : Value} (hv : v.isRef = true) (hw : w.isRef = true) (hd : decode B.bs pc = .ok (.if_acmp .eq o, 3)) (ht : (pc : Int) + o = (tgt : Int)) (yes : v = w → Go l Z a0 EL n0 kn B D Q h σ ce sl tgt Ls st) (no : ¬ (v = w) → Go l Z a0 EL n0 kn B D Q h σ ce sl (pc + 3) Ls st) : Go l Z a0 EL n0 kn B D Q h σ ce sl pc Ls (w :: v :: st) := by
  by_cases c : v = w
  · exact Go.step (fun T hA hx hb t q => XT.acmpYes hA hx rfl (pc0 := pc) (pc' := tgt) rfl (Jvm.hb hb hd) rfl hv hw (XT.aa_eq_t c) (by rw [ht]; exact Int.natCast_nonneg _) (by rw [ht]; rfl) q) (yes c)
  · exact Go.step (fun T hA hx hb t q => XT.acmpNo hA hx rfl (Jvm.hb hb hd) rfl hv hw (XT.aa_eq_f c) q) (no c)
theorem acmp_ne (pc : Nat) (tgt : Nat) {o : Int} {v w : Value} (hv : v.isRef = true) (hw : w.isRef = true) (hd : decode B.bs pc = .ok (.if_acmp .ne o, 3)) (ht : (pc : Int) + o = (tgt : Int)) (yes : ¬ (v = w) → Go l Z a0 EL n0 kn B D Q h σ ce sl tgt Ls st) (no : v = w → Go l Z a0 EL n0 kn B D Q h σ ce sl (pc + 3) Ls st) : Go l Z a0 EL n0 kn B D Q h σ ce sl pc Ls (w :: v :: st) := by
  by_cases c : v = w
  · exact Go.step (fun T hA hx hb t q => XT.acmpNo hA hx rfl (Jvm.hb hb hd) rfl hv hw (XT.aa_ne_f c) q) (no c)
  · exact Go.step (fun T hA hx hb t q => XT.acmpYes hA hx rfl (pc0 := pc) (pc' := tgt) rfl (Jvm.hb hb hd) rfl hv hw (XT.aa_ne_t c) (by rw [ht]; exact Int.natCast_nonneg _) (by rw [ht]; rfl) q) (yes c)
end Plain
end Jvm.Road
namespace Jvm.Road
open Jvm Jvm.ClassFile Sem Op Lib Jvm.Free Jvm.Stand Jvm.LawKit Jvm.RoadKit Bundle
section Facts
variable {Z : State} {h h' : Heap} {a b : Addr} {ty : FieldType} {vs : List Value} {ws : List Addr}
/-- the array at a holds just these values -/
def Ary (Z : State) (h : Heap) (a : Addr) (ty : FieldType) (vs : List Value) : Prop := ∃ c : Cell, Arr Z h a c ty ∧ c.slots.toList = vs ∧ vs.length < 2147483648 ∧ ∀ v ∈ vs, fits ty v = true
theorem Ary.keep (F : Ary Z h a ty vs) (K : Keep h h' ws) (q : a ∉ ws) : Ary Z h' a ty vs := by
  obtain ⟨c, A, r⟩ := F; exact ⟨c, ⟨K.2.1 a c A.1 q, A.2⟩, r⟩
theorem Ary.lt (F : Ary Z h a ty vs) : a < h.size := by obtain ⟨c, A, -⟩ := F; exact A.lt
theorem Ary.small (F : Ary Z h a ty vs) : vs.length < 2147483648 := by obtain ⟨c, A, -, q, -⟩ := F; exact q
theorem Ary.fit (F : Ary Z h a ty vs) : ∀ v ∈ vs, fits ty v = true := by obtain ⟨c, A, -, -, q⟩ := F; exact q
theorem Ary.wr {i : Nat} {v : Value} (F : Ary Z h a ty vs) (W : Wr h h' a i v) (hv : fits ty v = true) : Ary Z h' a ty (vs.set i v) := by
  obtain ⟨c, A, e, q, f⟩ := F
  refine ⟨_, Arr.same W A, ?_, by rw [List.length_set]; exact q, fun u hu => ?_⟩
  · show (c.slots.setIfInBounds i v).toList = _
    rw [Array.toList_setIfInBounds, e]
  · rcases List.mem_or_eq_of_mem_set hu with r | r
    · exact f u r
    · exact r ▸ hv
theorem ix_of {j : Int32} {i : Nat} (hj : j.toInt = (i : Int)) : ¬ j < 0 ∧ j.toNatClampNeg = i := by
  refine ⟨?_, ?_⟩
  · simp only [Int32.lt_iff_toInt_lt, hj, Int32.reduceToInt]; omega
  · simp only [Int32.toNatClampNeg, hj]; omega
theorem Ary.inb {c : Cell} {j : Int32} {i : Nat} (e : c.slots.toList = vs) (hj : j.toInt = (i : Int)) (hi : i < vs.length) : ¬ (j < 0 ∨ c.slots.size ≤ j.toNatClampNeg) := by
  obtain ⟨q1, q2⟩ := ix_of hj
  rw [q2, ← Array.length_toList, e]
  intro q; rcases q with q | q
  · exact q1 q
  · omega
theorem Ary.of_arv {k : ClassId} {z : Int32} {d : Value} (F : Arv Z h a k ty z vs d) (hz : z.toNatClampNeg = vs.length) : Ary Z h a ty vs := by
  obtain ⟨c, A, -, S, hn, H, G⟩ := F
  have hsz : c.slots.size = vs.length := S.trans hz
  have e : c.slots.toList = vs := by
    apply List.ext_getElem?
    intro i
    by_cases hi : i < vs.length
    · have := H i (by rw [hsz]; exact hi)
      rw [Array.getElem?_toList, this, List.getD_eq_getElem?_getD, List.getElem?_eq_getElem hi]; rfl
    · rw [List.getElem?_eq_none (Nat.le_of_not_lt hi), List.getElem?_eq_none (by rw [Array.length_toList, hsz]; exact Nat.le_of_not_lt hi)]
  refine ⟨c, A, e, by have := Int32.toInt_lt z; simp only [Int32.toNatClampNeg] at hz; omega, fun v hv => ?_⟩
  obtain ⟨i, hi, rfl⟩ := List.getElem_of_mem hv
  have := G i (by rw [hsz]; exact hi)
  rwa [List.getD_eq_getElem?_getD, List.getElem?_eq_getElem hi] at this
def byt (c : Int32) : Value := .int c.toInt8.toInt32
abbrev SN : String := "java/lang/String"
/-- the object at a is a compact String of these chars, its bytes at b -/
def Str (Z : State) (h : Heap) (a b : Addr) (cs : List Int32) : Prop := Exa Z h a SN ∧ Fld Z h a SN "coder" "B" (.int 0) ∧ Fld Z h a SN "value" "[B" (.ref b) ∧ Ary Z h b .byte (cs.map byt) ∧ ∀ c ∈ cs, 0 ≤ c.toInt ∧ c.toInt < 256
theorem Str.keep {cs : List Int32} (F : Str Z h a b cs) (K : Keep h h' ws) (q : a ∉ ws) (q' : b ∉ ws) : Str Z h' a b cs := ⟨F.1.keep K, F.2.1.keep K q, F.2.2.1.keep K q, F.2.2.2.1.keep K q', F.2.2.2.2⟩
theorem Str.lt {cs : List Int32} (F : Str Z h a b cs) : a < h.size := F.1.lt
theorem Str.ltb {cs : List Int32} (F : Str Z h a b cs) : b < h.size := F.2.2.2.1.lt
theorem keep_ext (E : Ext h h') : Keep h h' [] := (Keep.refl h []).ext E
end Facts
section Heap
variable {l : Launch} {Z : State} {a0 : Array Value} {EL : List (String × Nat)} {n0 : Nat} {kn : Bool} {B : Bdy} {D : Dyn} {Q : Post} {h : Heap} {σ : Addr → Prop} {ce sl : Nat} {Ls : Array Slot} {st : List Value} {a : Addr}
theorem getfield (pc : Nat) {ix : Nat} {R0 O n d : String} {v : Value} (hd : decode B.bs pc = .ok (.getfield ix, 3)) (w : (Jvm.Cond.fieldLink B.y.cls ix R0 n d).before a0 Z = true) (via : Via Z R0 O n d) (F : Fld Z h a O n d v)
    (r : Go l Z a0 EL n0 kn B D Q h σ ce sl (pc + 3) Ls (v :: st)) : Go l Z a0 EL n0 kn B D Q h σ ce sl pc Ls (.ref a :: st) := by
  intro ok ew T vm0 I
  obtain ⟨k0, locs, X, h1, h2, h3, h4, h5, h6, h7, h8, h9, h10⟩ := I
  obtain ⟨T', X', e', s'⟩ := getF X ok.1 (s := D.s.setVm vm0) h4 h5 (host := "") (Or.inl w) via h1 F (g := mkF D.m pc Ls (.ref a :: st)) rfl rfl (Jvm.hb ok.2.1 hd)
  obtain ⟨s2, o, q, rest⟩ := r ok ew T' vm0 ⟨k0, locs, X', e', h2, h3, h4, h5, h6, h7, h8, h9, h10⟩
  exact ⟨s2, o, s' _ q, rest⟩
theorem own_wr {vm0 : Vm} {h' : Heap} {i : Nat} {v : Value} (W : Wr h h' a i v) (hC : CHv Z EL vm0 h) (ha : Own Z EL n0 vm0 h a) {x : Addr} (hx : Own Z EL n0 vm0 h x) : Own Z EL n0 vm0 h' x :=
  ⟨Safe.wr W ha.1 hC hx.1, hx.2.1, by rw [W.size]; exact hx.2.2⟩
/-- behind a write of one place -/
theorem wrote {pc pc' : Nat} {Ls' : Array Slot} {st' : List Value} {i : Nat} {v : Value} (hσ : σ a)
    (s : ∀ T vm0 locs, Stand D.p l D.e B.rm (D.s.setVm vm0) D.m D.args D.bl D.meth D.c T locs ce sl → T.heap = h → Z.Warmed39 vm0 → vm0.findClass B.y.cls = some D.m.cls → Ok B D →
      ∃ T' h', Stand D.p l D.e B.rm (D.s.setVm vm0) D.m D.args D.bl D.meth D.c T' (locs ++ [⟨a, i⟩]) ce sl ∧ T'.heap = h' ∧ Wr h h' a i v ∧ ∀ target, Steps D.p.tables D.e D.bl (T'.setTop (mkF D.m pc' Ls' st')) target → Steps D.p.tables D.e D.bl (T.setTop (mkF D.m pc Ls st)) target)
    (r : ∀ h', Wr h h' a i v → Keep h h' [a] → Go l Z a0 EL n0 kn B D Q h' σ ce sl pc' Ls' st') : Go l Z a0 EL n0 kn B D Q h σ ce sl pc Ls st := by
  intro ok ew T vm0 I
  obtain ⟨k0, locs, X, h1, h2, h3, h4, h5, h6, h7, h8, h9, h10⟩ := I
  obtain ⟨T', h', X', e', W, s'⟩ := s T vm0 locs X h1 h4 h5 ok
  have ha := h9 a hσ
  obtain ⟨s2, o, q, rest⟩ := r h' W (Keep.of_wr W) ok ew T' vm0 ⟨k0, _, X', e', h2, by rw [W.size]; exact h3, h4, h5, h6.trans (CHr.wr W ha.1 h6.1), h7.app fun y hy => by cases List.mem_singleton.mp hy; exact ha.2.1, h8.wr W ha.2.1, fun x hx => own_wr W h6.1 ha (h9 x hx), h10⟩
  exact ⟨s2, o, s' _ q, rest⟩
theorem putfield (pc : Nat) {ix : Nat} {R0 O n d C : String} {kk : Nat} {ty : FieldType} {v old : Value} (hd : decode B.bs pc = .ok (.putfield ix, 3)) (w : (Jvm.Cond.fieldLink B.y.cls ix R0 n d).before a0 Z = true) (via : Via Z R0 O n d) (F : Fld Z h a O n d old) (E : Exa Z h a C)
    (L : (Jvm.Cond.lays C O n d).before a0 Z = true ∨ ((Jvm.Cond.laysFinal C O n d).before a0 Z = true ∧ B.y.cls = O ∧ B.y.name = "<init>")) (wi : (Jvm.Cond.instantiable C kk).before a0 Z = true) (hty : parseFieldDescriptor d = some ty) (hn : narrow ty v = v) (hf : fits ty v = true) (hσ : σ a)
    (r : ∀ h', Wr h h' a (RoadKit.slotOf Z O n d) v → Keep h h' [a] → Go l Z a0 EL n0 kn B D Q h' σ ce sl (pc + 3) Ls st) : Go l Z a0 EL n0 kn B D Q h σ ce sl pc Ls (v :: .ref a :: st) :=
  wrote hσ (fun T vm0 locs X h1 h4 h5 ok => putF X ok.1 (s := D.s.setVm vm0) h4 h5 (host := "") (Or.inl w) via h1 F E (L.imp id fun q => ⟨q.1, q.2.1, ok.2.2.2.2.2.trans q.2.2⟩) wi hty hn hf (g := mkF D.m pc Ls (v :: .ref a :: st)) rfl rfl (Jvm.hb ok.2.1 hd)) r
theorem getstatic (pc : Nat) {ix : Nat} {R0 O n d : String} {v : Value} (hd : decode B.bs pc = .ok (.getstatic ix, 3)) (w : (Jvm.Cond.fieldLink B.y.cls ix R0 n d).before a0 Z = true) (via : Via Z R0 O n d) (F : Sta Z Z.heap O n d v)
    (r : Go l Z a0 EL n0 kn B D Q h σ ce sl (pc + 3) Ls (v :: st)) : Go l Z a0 EL n0 kn B D Q h σ ce sl pc Ls st := by
  intro ok ew T vm0 I
  obtain ⟨k0, locs, X, h1, h2, h3, h4, h5, h6, h7, h8, h9, h10⟩ := I
  obtain ⟨T', X', e', s'⟩ := getS X ok.1 (s := D.s.setVm vm0) h4 h5 (host := "") w via h1 (F.ext h8.2) (g := mkF D.m pc Ls st) rfl (Jvm.hb ok.2.1 hd)
  obtain ⟨s2, o, q, rest⟩ := r ok ew T' vm0 ⟨k0, locs, X', e', h2, h3, h4, h5, h6, h7, h8, h9, h10⟩
  exact ⟨s2, o, s' _ q, rest⟩
theorem own_new {vm0 : Vm} {h' : Heap} (E : Ext h h') (hC : CHv Z EL vm0 h) (hO : Old Z n0 h) (hlt : h.size < h'.size) : Own Z EL n0 vm0 h' h.size :=
  ⟨(Safe.new (Nat.le_refl _)).ext E hC, hO.1 ▸ hO.2.1, hlt⟩
/-- behind the making of one cell -/
theorem made {pc pc' ce' sl' : Nat} {Ls' : Array Slot} {st' : List Value} {P : Heap → Prop}
    (s : ∀ T vm0 locs, Stand D.p l D.e B.rm (D.s.setVm vm0) D.m D.args D.bl D.meth D.c T locs ce sl → T.heap = h → Z.Warmed39 vm0 → vm0.findClass B.y.cls = some D.m.cls → Ok B D →
      ∃ T' h', Stand D.p l D.e B.rm (D.s.setVm vm0) D.m D.args D.bl D.meth D.c T' locs ce' sl' ∧ T'.heap = h' ∧ Ext h h' ∧ h.size < h'.size ∧ P h' ∧ ∀ target, Steps D.p.tables D.e D.bl (T'.setTop (mkF D.m pc' Ls' st')) target → Steps D.p.tables D.e D.bl (T.setTop (mkF D.m pc Ls st)) target)
    (r : ∀ h' σ', Keep h h' [] → h.size < h'.size → (∀ x, σ x → σ' x) → σ' h.size → P h' → Go l Z a0 EL n0 kn B D Q h' σ' ce' sl' pc' Ls' st') : Go l Z a0 EL n0 kn B D Q h σ ce sl pc Ls st := by
  intro ok ew T vm0 I
  obtain ⟨k0, locs, X, h1, h2, h3, h4, h5, h6, h7, h8, h9, h10⟩ := I
  obtain ⟨T', h', X', e', E, hlt, hP, s'⟩ := s T vm0 locs X h1 h4 h5 ok
  obtain ⟨s2, o, q, rest⟩ := r h' (Own Z EL n0 vm0 h') (keep_ext E) hlt (fun x hx => ⟨(h9 x hx).1.ext E h6.1, (h9 x hx).2.1, Nat.lt_of_lt_of_le (h9 x hx).2.2 E.1⟩) (own_new E h6.1 h8 hlt) hP ok ew T' vm0
    ⟨k0, locs, X', e', h2, Nat.le_trans h3 E.1, h4, h5, h6.trans (CHr.ext E h6.1), h7, h8.ext E, fun x hx => hx, h10⟩
  exact ⟨s2, o, s' _ q, rest⟩
theorem new (pc : Nat) {ix : Nat} (C : String) {n : Nat} (hd : decode B.bs pc = .ok (.new ix, 3)) (w : (Jvm.Cond.classLink B.y.cls ix C).before a0 Z = true) (wi : (Jvm.Cond.instantiable C n).before a0 Z = true) (wz : (Jvm.Cond.initialized C).before a0 Z = true) {ce' sl' : Nat} (hce : ce + 1 = ce') (hsl : sl + n = sl') (hc : ce' ≤ B.rm.cells) (hs : sl' ≤ B.rm.slots)
    (r : ∀ a h' σ', a = h.size → Keep h h' [] → a < h'.size → (∀ x, σ x → σ' x) → σ' a → Exa Z h' a C → (∀ {O nm d : String} {ty : FieldType}, Laid Z a0 C O nm d → parseFieldDescriptor d = some ty → Fld Z h' a O nm d (defaultValue ty)) → (∃ cell : Cell, h'[a]? = some cell ∧ cell.vm = .none ∧ cell.monitor = {}) →
      Go l Z a0 EL n0 kn B D Q h' σ' ce' sl' (pc + 3) Ls (.ref a :: st)) : Go l Z a0 EL n0 kn B D Q h σ ce sl pc Ls st := by
  subst hce hsl
  exact made (P := fun h' => Exa Z h' h.size C ∧ (∀ {O nm d : String} {ty : FieldType}, Laid Z a0 C O nm d → parseFieldDescriptor d = some ty → Fld Z h' h.size O nm d (defaultValue ty)) ∧ (∃ cell : Cell, h'[h.size]? = some cell ∧ cell.vm = .none ∧ cell.monitor = {}))
    (fun T vm0 locs X h1 h4 h5 ok => by
      obtain ⟨T', h', X', e', E, A, Dd, M, s'⟩ := newO X ok.1 (s := D.s.setVm vm0) h4 h5 w wi wz h1 (g := mkF D.m pc Ls st) rfl (Jvm.hb ok.2.1 hd) hc hs
      exact ⟨T', h', X', e', E, A.lt, ⟨A, Dd, M⟩, s'⟩)
    (fun h' σ' K hlt m1 m2 P => r h.size h' σ' rfl K hlt m1 m2 P.1 P.2.1 P.2.2)
theorem newarray (pc : Nat) {aty : ArrayType} (ty : FieldType) (n cap : Nat) {z : Int32} (hd : decode B.bs pc = .ok (.newarray aty, 2)) (hty : newarray.typeOf aty = ty) (w : (Jvm.Cond.arrayClass ty).before a0 Z = true) (hz : z.toInt = (n : Int)) (hcap : n ≤ cap) (hb : cap * 8 ≤ 536870912) {ce' sl' : Nat} (hce : ce + 1 = ce') (hsl : sl + cap = sl') (hc : ce' ≤ B.rm.cells) (hs : sl' ≤ B.rm.slots)
    (r : ∀ a h' σ', a = h.size → Keep h h' [] → a < h'.size → (∀ x, σ x → σ' x) → σ' a → Ary Z h' a ty (List.replicate n (defaultValue ty)) → Go l Z a0 EL n0 kn B D Q h' σ' ce' sl' (pc + 2) Ls (.ref a :: st)) : Go l Z a0 EL n0 kn B D Q h σ ce sl pc Ls (.int z :: st) := by
  subst hce hsl
  exact made (P := fun h' => Ary Z h' h.size ty (List.replicate n (defaultValue ty)))
    (fun T vm0 locs X h1 h4 h5 ok => by
      subst hty
      obtain ⟨q1, q2⟩ := ix_of hz
      obtain ⟨T', h', cA, X', e', E, A, s'⟩ := newP X ok.1 (s := D.s.setVm vm0) h4 w h1 (g := mkF D.m pc Ls (.int z :: st)) rfl (Jvm.hb ok.2.1 hd) rfl q1 (cap := cap) (by rw [q2]; exact hcap) hb hc hs
      refine ⟨T', h', X', e', E, A.lt, ⟨_, A, ?_, ?_, ?_⟩, s'⟩
      · show (Array.replicate z.toNatClampNeg (defaultValue (newarray.typeOf aty))).toList = _
        rw [q2, Array.toList_replicate]
      · rw [List.length_replicate]; omega
      · intro v hv
        rw [(List.mem_replicate.mp hv).2]
        cases aty <;> rfl)
    (fun h' σ' K hlt m1 m2 P => r h.size h' σ' rfl K hlt m1 m2 P)
theorem plainX {pc pc' : Nat} {Ls' : Array Slot} {st' : List Value}
    (k : ∀ T vm0 locs, Stand D.p l D.e B.rm (D.s.setVm vm0) D.m D.args D.bl D.meth D.c T locs ce sl → T.heap = h → Z.Warmed39 vm0 → vm0.findClass B.y.cls = some D.m.cls → Ok B D → ∀ t, Steps D.p.tables D.e D.bl (T.setTop (mkF D.m pc' Ls' st')) t → Steps D.p.tables D.e D.bl (T.setTop (mkF D.m pc Ls st)) t)
    (r : Go l Z a0 EL n0 kn B D Q h σ ce sl pc' Ls' st') : Go l Z a0 EL n0 kn B D Q h σ ce sl pc Ls st := by
  intro ok ew T vm0 I
  obtain ⟨s2, o, q, rest⟩ := r ok ew T vm0 I
  obtain ⟨k0, locs, X, h1, h2, h3, h4, h5, -⟩ := I
  exact ⟨s2, o, k T vm0 locs X h1 h4 h5 ok _ q, rest⟩
theorem alen (pc : Nat) {ty : FieldType} {vs : List Value} {n : Nat} (z : Int32) (hd : decode B.bs pc = .ok (.arraylength, 1)) (A : Ary Z h a ty vs) (hn : vs.length = n) (hz : n.toInt32 = z) (r : Go l Z a0 EL n0 kn B D Q h σ ce sl (pc + 1) Ls (.int z :: st)) : Go l Z a0 EL n0 kn B D Q h σ ce sl pc Ls (.ref a :: st) :=
  plainX (fun T vm0 locs X h1 h4 h5 ok t q => by
    obtain ⟨c, A, e, -⟩ := A
    refine X.arraylength ok.1 (by rw [h1]; exact A.1) (State.isArrayOf_alike (T := D.s.setVm vm0) h4.alike A.2.1) (g := mkF D.m pc Ls (.ref a :: st)) rfl rfl (Jvm.hb ok.2.1 hd) t ?_
    rw [← Array.length_toList, e, hn, hz]; exact q) r
theorem caload (pc : Nat) {vs : List Value} {j : Int32} (i : Nat) {v : Value} (hd : decode B.bs pc = .ok (.caload, 1)) (A : Ary Z h a .char vs) (hj : j.toInt = (i : Int)) (hv : vs[i]? = some v) (r : Go l Z a0 EL n0 kn B D Q h σ ce sl (pc + 1) Ls (v :: st)) : Go l Z a0 EL n0 kn B D Q h σ ce sl pc Ls (.int j :: .ref a :: st) :=
  plainX (fun T vm0 locs X h1 h4 h5 ok t q => by
    obtain ⟨c, A, e, -⟩ := A
    have hi : i < vs.length := (List.getElem?_eq_some_iff.mp hv).1
    exact X.caload ok.1 (by rw [h1]; exact A.1) (State.isArrayOf_alike (T := D.s.setVm vm0) h4.alike A.2.1) A.2.2 (Ary.inb e hj hi) (by rw [(ix_of hj).2, ← Array.getElem?_toList, e]; exact hv) (g := mkF D.m pc Ls (.int j :: .ref a :: st)) rfl rfl (Jvm.hb ok.2.1 hd) t q) r
theorem baload (pc : Nat) {vs : List Value} {j : Int32} (i : Nat) {v : Value} (hd : decode B.bs pc = .ok (.baload, 1)) (A : Ary Z h a .byte vs) (hj : j.toInt = (i : Int)) (hv : vs[i]? = some v) (r : Go l Z a0 EL n0 kn B D Q h σ ce sl (pc + 1) Ls (v :: st)) : Go l Z a0 EL n0 kn B D Q h σ ce sl pc Ls (.int j :: .ref a :: st) :=
  plainX (fun T vm0 locs X h1 h4 h5 ok t q => by
    obtain ⟨c, A, e, -⟩ := A
    have hi : i < vs.length := (List.getElem?_eq_some_iff.mp hv).1
    exact X.baloadBytes ok.1 (by rw [h1]; exact A.1) (State.isArrayOf_alike (T := D.s.setVm vm0) h4.alike A.2.1) A.2.2 (Ary.inb e hj hi) (by rw [(ix_of hj).2, ← Array.getElem?_toList, e]; exact hv) (g := mkF D.m pc Ls (.int j :: .ref a :: st)) rfl rfl (Jvm.hb ok.2.1 hd) t q) r
theorem laload (pc : Nat) {vs : List Value} {j : Int32} (i : Nat) {v : Value} (hd : decode B.bs pc = .ok (.laload, 1)) (A : Ary Z h a .long vs) (hj : j.toInt = (i : Int)) (hv : vs[i]? = some v) (r : Go l Z a0 EL n0 kn B D Q h σ ce sl (pc + 1) Ls (v :: st)) : Go l Z a0 EL n0 kn B D Q h σ ce sl pc Ls (.int j :: .ref a :: st) :=
  plainX (fun T vm0 locs X h1 h4 h5 ok t q => by
    obtain ⟨c, A, e, -⟩ := A
    have hi : i < vs.length := (List.getElem?_eq_some_iff.mp hv).1
    exact X.laload ok.1 (by rw [h1]; exact A.1) (State.isArrayOf_alike (T := D.s.setVm vm0) h4.alike A.2.1) A.2.2 (Ary.inb e hj hi) (by rw [(ix_of hj).2, ← Array.getElem?_toList, e]; exact hv) (g := mkF D.m pc Ls (.int j :: .ref a :: st)) rfl rfl (Jvm.hb ok.2.1 hd) t q) r
theorem castore (pc : Nat) {vs : List Value} {j x : Int32} (i : Nat) (w : Int32) (hd : decode B.bs pc = .ok (.castore, 1)) (A : Ary Z h a .char vs) (hj : j.toInt = (i : Int)) (hi : i < vs.length) (hw : nar .char x = w) (hσ : σ a)
    (r : ∀ h', Keep h h' [a] → Ary Z h' a .char (vs.set i (.int w)) → Go l Z a0 EL n0 kn B D Q h' σ ce sl (pc + 1) Ls st) : Go l Z a0 EL n0 kn B D Q h σ ce sl pc Ls (.int x :: .int j :: .ref a :: st) :=
  wrote hσ (i := i) (v := .int w) (fun T vm0 locs X h1 h4 h5 ok => by
    subst hw
    obtain ⟨c, Ar, e, -⟩ := A
    have := stC X ok.1 (s := D.s.setVm vm0) h4 h1 Ar (Ary.inb e hj hi) (g := mkF D.m pc Ls (.int x :: .int j :: .ref a :: st)) rfl rfl (Jvm.hb ok.2.1 hd)
    rw [(ix_of hj).2] at this; exact this)
    (fun h' W K => r h' K (A.wr W (hw ▸ fits_nar_char x)))
theorem bastore (pc : Nat) {vs : List Value} {j x : Int32} (i : Nat) (w : Int32) (hd : decode B.bs pc = .ok (.bastore, 1)) (A : Ary Z h a .byte vs) (hj : j.toInt = (i : Int)) (hi : i < vs.length) (hw : nar .byte x = w) (hσ : σ a)
    (r : ∀ h', Keep h h' [a] → Ary Z h' a .byte (vs.set i (.int w)) → Go l Z a0 EL n0 kn B D Q h' σ ce sl (pc + 1) Ls st) : Go l Z a0 EL n0 kn B D Q h σ ce sl pc Ls (.int x :: .int j :: .ref a :: st) :=
  wrote hσ (i := i) (v := .int w) (fun T vm0 locs X h1 h4 h5 ok => by
    subst hw
    obtain ⟨c, Ar, e, -⟩ := A
    have := stB X ok.1 (s := D.s.setVm vm0) h4 h1 Ar (Ary.inb e hj hi) (g := mkF D.m pc Ls (.int x :: .int j :: .ref a :: st)) rfl rfl (Jvm.hb ok.2.1 hd)
    rw [(ix_of hj).2] at this; exact this)
    (fun h' W K => r h' K (A.wr W (hw ▸ fits_nar_byte x)))
theorem lastore (pc : Nat) {vs : List Value} {j : Int32} {x : Int64} (i : Nat) (hd : decode B.bs pc = .ok (.lastore, 1)) (A : Ary Z h a .long vs) (hj : j.toInt = (i : Int)) (hi : i < vs.length) (hσ : σ a)
    (r : ∀ h', Keep h h' [a] → Ary Z h' a .long (vs.set i (.long x)) → Go l Z a0 EL n0 kn B D Q h' σ ce sl (pc + 1) Ls st) : Go l Z a0 EL n0 kn B D Q h σ ce sl pc Ls (.long x :: .int j :: .ref a :: st) :=
  wrote hσ (i := i) (v := .long x) (fun T vm0 locs X h1 h4 h5 ok => by
    obtain ⟨c, Ar, e, -⟩ := A
    have := stJ X ok.1 (s := D.s.setVm vm0) h4 h1 Ar (Ary.inb e hj hi) (g := mkF D.m pc Ls (.long x :: .int j :: .ref a :: st)) rfl rfl (Jvm.hb ok.2.1 hd)
    rw [(ix_of hj).2] at this; exact this)
    (fun h' W K => r h' K (A.wr W rfl))
theorem ldcI (pc : Nat) {ix : Nat} {v : Int32} (hd : decode B.bs pc = .ok (.ldc ix, 2)) (w : (Jvm.Cond.constant B.y.cls ix v).before a0 Z = true) (r : Go l Z a0 EL n0 kn B D Q h σ ce sl (pc + 2) Ls (.int v :: st)) : Go l Z a0 EL n0 kn B D Q h σ ce sl pc Ls st :=
  plainX (fun T vm0 locs X h1 h4 h5 ok t q => X.ldcI ok.1 (own := B.y.cls) h5 (mv (s := D.s.setVm vm0) h4 w) (g := mkF D.m pc Ls st) rfl (Jvm.hb ok.2.1 hd) q) r
theorem ldc2J (pc : Nat) {ix : Nat} {v : Int64} (hd : decode B.bs pc = .ok (.ldc2_w ix, 3)) (w : (Jvm.Cond.constantLong B.y.cls ix v).before a0 Z = true) (r : Go l Z a0 EL n0 kn B D Q h σ ce sl (pc + 3) Ls (.long v :: st)) : Go l Z a0 EL n0 kn B D Q h σ ce sl pc Ls st :=
  plainX (fun T vm0 locs X h1 h4 h5 ok t q => X.ldc2J ok.1 (own := B.y.cls) h5 (mv (s := D.s.setVm vm0) h4 w) (g := mkF D.m pc Ls st) rfl (Jvm.hb ok.2.1 hd) q) r
end Heap
end Jvm.Road
namespace Jvm.Road
open Jvm Jvm.ClassFile Sem Op Lib Jvm.Free Jvm.Stand Jvm.LawKit Jvm.RoadKit Bundle
section Cast
variable {l : Launch} {Z : State} {a0 : Array Value} {EL : List (String × Nat)} {n0 : Nat} {kn : Bool} {B : Bdy} {D : Dyn} {Q : Post} {h : Heap} {σ : Addr → Prop} {ce sl : Nat} {Ls : Array Slot} {st : List Value} {a : Addr}
theorem instYes (pc : Nat) {ix : Nat} {K : String} (hd : decode B.bs pc = .ok (.instanceof ix, 3)) (w : (Jvm.Cond.classLink B.y.cls ix K).before a0 Z = true) (F : Ins Z h a K true) (r : Go l Z a0 EL n0 kn B D Q h σ ce sl (pc + 3) Ls (.int 1 :: st)) : Go l Z a0 EL n0 kn B D Q h σ ce sl pc Ls (.ref a :: st) := by
  intro ok ew T vm0 I
  obtain ⟨k0, locs, X, h1, h2, h3, h4, h5, h6, h7, h8, h9, h10⟩ := I
  obtain ⟨T', X', e', s'⟩ := instY X ok.1 (s := D.s.setVm vm0) h4 h5 w h1 F (g := mkF D.m pc Ls (.ref a :: st)) rfl rfl (Jvm.hb ok.2.1 hd)
  obtain ⟨s2, o, q, rest⟩ := r ok ew T' vm0 ⟨k0, locs, X', e', h2, h3, h4, h5, h6, h7, h8, h9, h10⟩
  exact ⟨s2, o, s' _ q, rest⟩
theorem castYes (pc : Nat) {ix : Nat} {K : String} (hd : decode B.bs pc = .ok (.checkcast ix, 3)) (w : (Jvm.Cond.classLink B.y.cls ix K).before a0 Z = true) (F : Ins Z h a K true) (r : Go l Z a0 EL n0 kn B D Q h σ ce sl (pc + 3) Ls (.ref a :: st)) : Go l Z a0 EL n0 kn B D Q h σ ce sl pc Ls (.ref a :: st) := by
  intro ok ew T vm0 I
  obtain ⟨k0, locs, X, h1, h2, h3, h4, h5, h6, h7, h8, h9, h10⟩ := I
  obtain ⟨T', X', e', s'⟩ := castY X ok.1 (s := D.s.setVm vm0) h4 h5 w h1 F (g := mkF D.m pc Ls (.ref a :: st)) rfl rfl (Jvm.hb ok.2.1 hd)
  obtain ⟨s2, o, q, rest⟩ := r ok ew T' vm0 ⟨k0, locs, X', e', h2, h3, h4, h5, h6, h7, h8, h9, h10⟩
  exact ⟨s2, o, s' _ q, rest⟩
end Cast
theorem Fld.uniq {Z : State} {h : Heap} {a : Addr} {C n d : String} {v w : Value} (F : Fld Z h a C n d v) (G : Fld Z h a C n d w) : v = w := by
  obtain ⟨c1, _, _, _, f1, a1, a2, -, -, -, -, a7⟩ := F
  obtain ⟨c2, _, _, _, f2, b1, b2, -, -, -, -, b7⟩ := G
  cases a1.symm.trans b1
  have q := a2.symm.trans b2
  simp only [Option.some.injEq, Prod.mk.injEq] at q
  obtain ⟨-, -, -, rfl⟩ := q
  exact Option.some.inj (a7.symm.trans b7)
theorem Ary.uniq {Z : State} {h : Heap} {a : Addr} {ty ty' : FieldType} {vs ws : List Value} (F : Ary Z h a ty vs) (G : Ary Z h a ty' ws) : vs = ws := by
  obtain ⟨c1, A1, e1, -⟩ := F
  obtain ⟨c2, A2, e2, -⟩ := G
  cases A1.1.symm.trans A2.1
  exact e1.symm.trans e2
end Jvm.Road
namespace Jvm.Road
open Jvm Jvm.ClassFile Sem Op Lib Jvm.Free Jvm.Stand Jvm.LawKit Jvm.RoadKit Bundle
section Clone
variable {l : Launch} {Z : State} {a0 : Array Value} {EL : List (String × Nat)} {n0 : Nat} {kn : Bool} {B : Bdy} {D : Dyn} {Q : Post} {h : Heap} {σ : Addr → Prop} {ce sl : Nat} {Ls : Array Slot} {st : List Value} {a : Addr}
theorem cloneArr (pc : Nat) {ix : Nat} {ad : String} {ty : FieldType} {vs : List Value} (W cap : Nat) (hd : decode B.bs pc = .ok (.invokevirtual ix, 3))
    (w1 : (Jvm.Cond.methodLink B.y.cls ix ⟨ad, "clone", "()Ljava/lang/Object;"⟩).before a0 Z = true) (w2 : (Jvm.Cond.sameMethod ad "java/lang/Object" "clone" "()Ljava/lang/Object;").before a0 Z = true) (w3 : (Jvm.Cond.native ⟨"java/lang/Object", "clone", "()Ljava/lang/Object;"⟩).before a0 Z = true)
    (w4 : (Jvm.Cond.instanceMethod ⟨"java/lang/Object", "clone", "()Ljava/lang/Object;"⟩).before a0 Z = true) (w5 : (Jvm.Cond.selects ad ⟨ad, "clone", "()Ljava/lang/Object;"⟩ ⟨"java/lang/Object", "clone", "()Ljava/lang/Object;"⟩).before a0 Z = true) (w6 : (Jvm.Cond.castable ad "java/lang/Cloneable").before a0 Z = true)
    (A : Ary Z h a ty vs) (E : Exa Z h a ad) (hW : (st.map fun v => v.category).sum = W) (hsz : Ls.size = B.ml) (hf : 1 ≤ B.rm.frames) (hl : W + 14 ≤ B.rm.locals) (hcap : vs.length ≤ cap) {ce' sl' : Nat} (hce : ce + 1 = ce') (hsl : sl + cap = sl') (hc : ce' ≤ B.rm.cells) (hs : sl' ≤ B.rm.slots)
    (r : ∀ b h' σ', b = h.size → Keep h h' [] → b < h'.size → (∀ x, σ x → σ' x) → σ' b → Ary Z h' b ty vs → Exa Z h' b ad → Go l Z a0 EL n0 kn B D Q h' σ' ce' sl' (pc + 3) Ls (.ref b :: st)) : Go l Z a0 EL n0 kn B D Q h σ ce sl pc Ls (.ref a :: st) := by
  subst hce hsl
  exact made (P := fun h' => Ary Z h' h.size ty vs ∧ Exa Z h' h.size ad)
    (fun T vm0 locs X h1 h4 h5 ok => by
      obtain ⟨cl, Ar, e, q, f⟩ := A
      obtain ⟨T', h', X', e', ex, A', E', s'⟩ := cloneA X ok.1 (s := D.s.setVm vm0) h4 h5 w1 w2 w3 w4 w5 w6 h1 Ar E (fitC_of Ar fun i hi v hv => f v (by rw [← e]; exact List.mem_of_getElem? (by rw [Array.getElem?_toList]; exact hv))) (g := mkF D.m pc Ls (.ref a :: st)) rfl (hsz.trans ok.2.2.1.symm) rfl (Jvm.hb ok.2.1 hd) hf (W := W) (cap := cap) (by show 2 * 0 + _ ≤ _; rw [hW]; omega) hl (by rw [← Array.length_toList, e]; exact hcap) hc hs
      exact ⟨T', h', X', e', ex, E'.lt, ⟨⟨_, A', e, q, f⟩, E'⟩, s'⟩)
    (fun h' σ' K hlt m1 m2 P => r h.size h' σ' rfl K hlt m1 m2 P.1 P.2)
theorem aaload (pc : Nat) {ty : FieldType} {vs : List Value} {j : Int32} (i : Nat) {v : Value} (hd : decode B.bs pc = .ok (.aaload, 1)) (A : Ary Z h a ty vs) (hty : ty.isReference = true) (hj : j.toInt = (i : Int)) (hv : vs[i]? = some v) (r : Go l Z a0 EL n0 kn B D Q h σ ce sl (pc + 1) Ls (v :: st)) : Go l Z a0 EL n0 kn B D Q h σ ce sl pc Ls (.int j :: .ref a :: st) :=
  plainX (fun T vm0 locs X h1 h4 h5 ok t q => by
    obtain ⟨c, A, e, -⟩ := A
    have hi : i < vs.length := (List.getElem?_eq_some_iff.mp hv).1
    exact X.aaload ok.1 (by rw [h1]; exact A.1) (State.isArrayOf_alike (T := D.s.setVm vm0) h4.alike A.2.1) hty A.2.2 (Ary.inb e hj hi) (by rw [(ix_of hj).2, ← Array.getElem?_toList, e]; exact hv) (g := mkF D.m pc Ls (.int j :: .ref a :: st)) rfl rfl (Jvm.hb ok.2.1 hd) t q) r
theorem instNull (pc : Nat) {ix : Nat} (hd : decode B.bs pc = .ok (.instanceof ix, 3)) (r : Go l Z a0 EL n0 kn B D Q h σ ce sl (pc + 3) Ls (.int 0 :: st)) : Go l Z a0 EL n0 kn B D Q h σ ce sl pc Ls (.null :: st) :=
  plainX (fun T vm0 locs X h1 h4 h5 ok t q => X.instanceofNull ok.1 (g := mkF D.m pc Ls (.null :: st)) rfl rfl (Jvm.hb ok.2.1 hd) t q) r
end Clone
end Jvm.Road
namespace Jvm.Road
open Jvm Jvm.ClassFile Sem Op Lib Jvm.Free Jvm.Stand Jvm.LawKit Jvm.RoadKit Bundle
section Ends
variable {l : Launch} {Z : State} {a0 : Array Value} {EL : List (String × Nat)} {n0 : Nat} {kn : Bool} {B : Bdy} {D : Dyn} {Q : Post} {h : Heap} {σ : Addr → Prop} {ce sl : Nat} {Ls : Array Slot} {st : List Value} {a : Addr}
theorem own_at {vm0 : Vm} {T : State} {locs : List Loc} (X : Stand D.p l D.e B.rm (D.s.setVm vm0) D.m D.args D.bl D.meth D.c T locs ce sl) (hZ : Z.Warmed39 vm0) (ew : EW Z a0 EL) (hC : CHv Z EL vm0 h) {x : Addr} (hx : Own Z EL n0 vm0 h x) : Own Z EL n0 T.vm h x :=
  ⟨(CHv.at X hZ ew hC).safe hx.2.2 hx.1, hx.2.1, hx.2.2⟩
/-- the end of a walk -/
theorem ended {pc : Nat} {v : Option Value} (hv : B.rt = none → v = none) (hc : ce ≤ B.rm.cells) (hs : sl ≤ B.rm.slots) (hq : ∀ σ', (∀ x, σ x → σ' x) → Q v h σ')
    (k : ∀ T vm0 locs fs, Stand D.p l D.e B.rm (D.s.setVm vm0) D.m D.args D.bl D.meth D.c T locs ce sl → Ok B D → (∀ (f : JFrame) (acts : List Action), f.method = D.m → f.locked = none → f.entered = [] → (doReturn D.e (T.setTop f) acts v).1 = T.setFrames fs) → Steps D.p.tables D.e D.bl (T.setTop (mkF D.m pc Ls st)) (T.setFrames fs)) :
    Go l Z a0 EL n0 kn B D Q h σ ce sl pc Ls st := by
  intro ok ew T vm0 I
  obtain ⟨k0, locs, X, h1, h2, h3, h4, h5, h6, h7, h8, h9, h10⟩ := I
  obtain ⟨fs, hr, hrun, hended, hE⟩ := X.leaveW h2 (by rw [h1]; exact h3) (v := v) (fun q => hv (ok.2.2.2.1.symm.trans q)) ok.2.2.2.2.1
  have hh : (T.setFrames fs).heap = h := h1
  refine ⟨T.setFrames fs, .returned v, k T vm0 locs fs X ok hr, hrun, hended, v, locs, rfl, ?_, h7, ?_, ?_, ⟨hE.1, hE.2.1, hE.2.2.1, hE.2.2.2.mono hc hs⟩⟩
  · rw [hh]; exact hq _ fun x hx => own_at X h4 ew h6.1 (h9 x hx)
  · rw [hh]; exact h6.trans (show CHr Z EL vm0 h T.vm h from CHv.at X h4 ew h6.1)
  · rw [hh]; exact h8
theorem ret (pc : Nat) (hd : decode B.bs pc = .ok (.return_, 1)) (hrt : B.rt = none) (hc : ce ≤ B.rm.cells) (hs : sl ≤ B.rm.slots) (hq : ∀ σ', (∀ x, σ x → σ' x) → Q none h σ') : Go l Z a0 EL n0 kn B D Q h σ ce sl pc Ls [] :=
  ended (fun _ => rfl) hc hs hq (fun T vm0 locs fs X ok hr => X.returnOut ok.1 (ok.2.2.2.1.trans hrt) (Jvm.hb ok.2.1 hd) hr)
theorem iret (pc : Nat) {x : Int32} {t : FieldType} (w : Int32) (hd : decode B.bs pc = .ok (.ireturn, 1)) (hrt : B.rt = some t) (ht : t = .boolean ∨ t = .byte ∨ t = .char ∨ t = .short) (hw : nar t x = w) (hc : ce ≤ B.rm.cells) (hs : sl ≤ B.rm.slots) (hq : ∀ σ', (∀ x, σ x → σ' x) → Q (some (.int w)) h σ') : Go l Z a0 EL n0 kn B D Q h σ ce sl pc Ls (.int x :: st) :=
  ended (fun q => by rw [hrt] at q; cases q) hc hs hq (fun T vm0 locs fs X ok hr => retN X ok.1 (t := t) (ok.2.2.2.1.trans hrt) ht (Jvm.hb ok.2.1 hd) (by rw [hw]; exact hr))
theorem iretI (pc : Nat) {x : Int32} (hd : decode B.bs pc = .ok (.ireturn, 1)) (hrt : B.rt = some .int) (hc : ce ≤ B.rm.cells) (hs : sl ≤ B.rm.slots) (hq : ∀ σ', (∀ x, σ x → σ' x) → Q (some (.int x)) h σ') : Go l Z a0 EL n0 kn B D Q h σ ce sl pc Ls (.int x :: st) :=
  ended (fun q => by rw [hrt] at q; cases q) hc hs hq (fun T vm0 locs fs X ok hr => retOut X ok.1 (t := .int) (ok.2.2.2.1.trans hrt) rfl (Or.inl ⟨rfl, Or.inl rfl, x, rfl⟩) (Jvm.hb ok.2.1 hd) hr)
theorem aret (pc : Nat) {v : Value} {t : FieldType} (hd : decode B.bs pc = .ok (.areturn, 1)) (hrt : B.rt = some t) (ht : t.isReference = true) (hv : v.isRef = true) (hc : ce ≤ B.rm.cells) (hs : sl ≤ B.rm.slots) (hq : ∀ σ', (∀ x, σ x → σ' x) → Q (some v) h σ') : Go l Z a0 EL n0 kn B D Q h σ ce sl pc Ls (v :: st) :=
  ended (fun q => by rw [hrt] at q; cases q) hc hs hq (fun T vm0 locs fs X ok hr => retOut X ok.1 (t := t) (ok.2.2.2.1.trans hrt) (by rcases ref_cases hv with rfl | ⟨_, rfl⟩ <;> cases t <;> first | rfl | (cases ht; done)) (Or.inr (Or.inr (Or.inr (Or.inr ⟨rfl, ht, hv⟩)))) (Jvm.hb ok.2.1 hd) hr)
/-- ldc of a String constant that is read -/
theorem ldcS (pc : Nat) {ix : Nat} (text : String) (cs : List Int32) (n : Nat) (hd : decode B.bs pc = .ok (.ldc ix, 2)) (w : (Jvm.Cond.stringLink B.y.cls ix text).before a0 Z = true) (wS : ∀ a ∈ Bundle.stringAtoms, a.before a0 Z = true) (hmem : (B.y.cls, ix) ∈ EL)
    (ht : ∀ c ∈ text.toList, c.toNat < 256) (hvs : text.toList.map (fun c => Value.int (Jvm.Lit.byteI c.toNat.toUInt16)) = cs.map byt) (hcs : ∀ c ∈ cs, 0 ≤ c.toInt ∧ c.toInt < 256) (hn : 4 * text.toList.length ≤ n) (hbig : n ≤ 536870912) {ce' sl' : Nat} (hce : ce + 2 = ce') (hsl : sl + (n + 4) = sl') (hc : ce' ≤ B.rm.cells) (hs : sl' ≤ B.rm.slots)
    (r : ∀ a b h' σ', Keep h h' [] → (∀ x, σ x → σ' x) → Str Z h' a b cs → (∀ x, σ' x → x ≠ a ∧ x ≠ b) → Go l Z a0 EL n0 kn B D Q h' σ' ce' sl' (pc + 2) Ls (.ref a :: st)) : Go l Z a0 EL n0 kn B D Q h σ ce sl pc Ls st := by
  subst hce hsl
  intro ok ew T vm0 I
  obtain ⟨k0, locs, X, h1, h2, h3, h4, h5, h6, h7, h8, h9, h10⟩ := I
  have hlen : (cs.map byt).length = text.toList.length := by rw [← hvs, List.length_map]
  have hsm : text.toList.length < 2147483648 := by omega
  have hz : (text.toList.length).toInt32.toInt = (text.toList.length : Int) := len_toInt hsm
  obtain ⟨q1, q2⟩ := ix_of hz
  obtain ⟨a, T', h', k1, b, k, X', e', E, hS', hk', hZ', ho', E1, E2, E3, E4, l1, l2, hCr, hL, hne, s'⟩ := ldcCH (s := D.s) X ok.1 h4 h5 w wS h1 h2 h3 ew hmem h6.1 (vs := cs.map byt) (z := (text.toList.length).toInt32) ⟨ht, hvs⟩ q1 (by rw [q2, hlen]) (g := mkF D.m pc Ls st) rfl (Jvm.hb ok.2.1 hd) hn hbig hc hs
  have hal : vm0.Alike T'.vm := by
    have z1 := h4.alike
    have z2 : Z.vm.Alike T'.vm := State.Warmed39.alike hZ'
    exact z1.symm.trans z2
  obtain ⟨s2, o, q, rest⟩ := r a b h' (Own Z EL n0 T'.vm h') (keep_ext E) (fun x hx => ⟨hCr.safe (h9 x hx).2.2 (h9 x hx).1, (h9 x hx).2.1, Nat.lt_of_lt_of_le (h9 x hx).2.2 E.1⟩) ⟨E1, E2, E3, Ary.of_arv E4 (by rw [q2, hlen]), hcs⟩ (fun x hx => hne x hx.1) ok ew T' T'.vm
    ⟨k1, locs, X', e', hS', hk', hZ', ho', h6.trans hCr, h7, h8.ext E, fun x hx => hx, fun z => ⟨(h10 z).1.alikeC hal, (h10 z).2.alikeC hal⟩⟩
  exact ⟨s2, o, s' _ q, rest⟩
end Ends
section Calls
variable {l : Launch} {Z : State} {a0 : Array Value} {EL : List (String × Nat)} {n0 : Nat} {kn : Bool} {B B' : Bdy} {D : Dyn} {Q Q' : Post} {h : Heap} {σ : Addr → Prop} {ce sl : Nat} {Ls : Array Slot} {st : List Value} {a : Addr}
theorem Con.back {R : Room} {p : Program} {e : Env} {below : List Frame} {s : State} {args : Array Value} {vm0 : Vm} {len W : Nat} {as : Array Value} (hM : Con l Z EL n0 kn B' [] σ as h Q') (hZ : Z.Warmed39 vm0) (wc : (Jvm.Cond.code B'.y B'.bs B'.ml B'.rt).before a0 Z = true) (wz : (Jvm.Cond.initialized B'.y.cls).before a0 Z = true)
    (hf : B'.rm.frames + 1 ≤ R.frames) (hl : W + (B'.ml + 11) + B'.rm.locals ≤ R.locals) (hEL : EW Z a0 EL) (H : CHv Z EL vm0 h) (hO : Old Z n0 h) (hσ : ∀ x, σ x → Own Z EL n0 vm0 h x) (hK : kn = true → vm0.MethodsKnown ∧ vm0.FramesKnown below) :
    BackS l R p e below (s.setVm vm0) args B'.y len W (fun A a => a = as ∧ A.U.heap = h ∧ A.cells + B'.rm.cells ≤ R.cells ∧ A.slots + B'.rm.slots ≤ R.slots)
      (fun A _ v Bp => ∃ L, (Q' v Bp.U.heap (Own Z EL n0 Bp.U.vm Bp.U.heap) ∧ Fr n0 L ∧ Old Z n0 Bp.U.heap) ∧ Bp.locs = A.locs ++ L ∧ Bp.cells = A.cells + B'.rm.cells ∧ Bp.slots = A.slots + B'.rm.slots ∧ CHr Z EL vm0 h Bp.U.vm Bp.U.heap) :=
  BackS.of_freeWG (bytes := B'.bs) (maxL := B'.ml) (ret := B'.rt) (E := fun _ first o t L k n => k = B'.rm.cells ∧ n = B'.rm.slots ∧ (∃ v, o = .returned v ∧ Q' v t.heap (Own Z EL n0 t.vm t.heap) ∧ Fr n0 L ∧ Old Z n0 t.heap) ∧ CHr Z EL first.vm first.heap t.vm t.heap) hM hf hl
    (fun m meth c A a Y hp => have hU : Z.Warmed39 A.U.vm := wtrans (s := s.setVm vm0) hZ Y.warmed
      ⟨by show (Cond.and _ .tt).before a A.U = true; rw [Cond.before_and, mv hU wc]; rfl, mv hU wc, mv hU wz, hp.2.2.1, hp.2.2.2⟩)
    (fun m meth c A a g mk Y hp => ⟨hp.1, wtrans (s := s.setVm vm0) hZ Y.warmed, hp.2.1, (CHv.at Y hZ hEL H).1, hO, fun x hx => ⟨(CHv.at Y hZ hEL H).safe (hσ x hx).2.2 (hσ x hx).1, (hσ x hx).2⟩⟩)
    (fun m meth c A a g mk Y _ hg hkn => known_frames Y hg (hK hkn).1 (hK hkn).2)
    (fun _ _ _ _ ⟨v, L, h1, h2, h3, h4, h5, h6⟩ => ⟨L, _, _, h6, rfl, rfl, ⟨v, h1, h2, h3, h5⟩, h4⟩)
    (fun m meth c A a g mk v t L k n Y hp _ _ ⟨e1, e2, ⟨v', e3, e4⟩, e5⟩ => by
      cases e3; subst e1 e2
      refine ⟨L, e4, rfl, rfl, rfl, (CHv.at Y hZ hEL H).trans ?_⟩
      rw [← hp.2.1]; exact e5)
/-- behind a call -/
theorem called {pc len : Nat} {rest : List Value} {as : Array Value} (W : Nat) (hM : Con l Z EL n0 kn B' [] σ as h Q') (wc : (Jvm.Cond.code B'.y B'.bs B'.ml B'.rt).before a0 Z = true) (wz : (Jvm.Cond.initialized B'.y.cls).before a0 Z = true)
    (hf : B'.rm.frames + 1 ≤ B.rm.frames) (hl : W + (B'.ml + 11) + B'.rm.locals ≤ B.rm.locals) (hc : ce + B'.rm.cells ≤ B.rm.cells) (hs : sl + B'.rm.slots ≤ B.rm.slots)
    (k : ∀ T vm0 locs, Stand D.p l D.e B.rm (D.s.setVm vm0) D.m D.args D.bl D.meth D.c T locs ce sl → T.heap = h → Z.Warmed39 vm0 → vm0.findClass B.y.cls = some D.m.cls → Ok B D →
      ∀ {Pre : Pt → Array Value → Prop} {Pst : Pt → Array Value → Option Value → Pt → Prop}, BackS l B.rm D.p D.e D.bl (D.s.setVm vm0) D.args B'.y len W Pre Pst → (∀ vm₁, (D.s.setVm vm0).WarmedH vm₁ → Pre ⟨T.setVm vm₁, locs, ce, sl⟩ as) →
      ∃ (v : Option Value) (vm₁ : Vm) (Bp : Pt), (D.s.setVm vm0).WarmedH vm₁ ∧ Stand D.p l D.e B.rm ((D.s.setVm vm0).setVm Bp.U.vm) D.m D.args D.bl D.meth D.c Bp.U Bp.locs Bp.cells Bp.slots ∧ (D.s.setVm vm0).Since Bp.U.vm Bp.U.heap.size ∧ T.heap.size ≤ Bp.U.heap.size ∧ Pst ⟨T.setVm vm₁, locs, ce, sl⟩ as v Bp ∧
        Steps D.p.tables D.e D.bl (T.setTop (mkF D.m pc Ls st)) (Bp.U.setTop (mkF D.m (pc + len) Ls (v.toList ++ rest))))
    (r : ∀ v h' σ', (∀ x, σ x → σ' x) → Q' v h' σ' → Go l Z a0 EL n0 kn B D Q h' σ' (ce + B'.rm.cells) (sl + B'.rm.slots) (pc + len) Ls (push v rest)) : Go l Z a0 EL n0 kn B D Q h σ ce sl pc Ls st := by
  intro ok ew T vm0 I
  obtain ⟨k0, locs, X, h1, h2, h3, h4, h5, h6, h7, h8, h9, h10⟩ := I
  obtain ⟨v, vm₁, ⟨U, Lc, kc, ks⟩, -, X', hS', hgr, ⟨L, ⟨hQ, hFr, hOld⟩, e1, e2, e3, hCr⟩, stp⟩ := k T vm0 locs X h1 h4 h5 ok (Con.back (s := D.s) hM h4 wc wz hf hl ew h6.1 h8 h9 h10) (fun vm₁ _ => ⟨rfl, h1, hc, hs⟩)
  dsimp only [Pt.U, Pt.locs, Pt.cells, Pt.slots] at X' hS' hgr hQ hOld e1 e2 e3 hCr stp
  subst e1 e2 e3
  obtain ⟨Y, hS2, hZ2, ho2⟩ := rebS h2 (by rw [← h1] at h3; exact h3) X' hS' hgr h4 h5
  have hal : vm0.Alike U.vm := hS'.1.alike
  rw [push_eq] at stp
  obtain ⟨s2, o, q, rest'⟩ := r v U.heap (Own Z EL n0 U.vm U.heap) (fun x hx => ⟨hCr.safe (h9 x hx).2.2 (h9 x hx).1, (h9 x hx).2.1, Nat.lt_of_lt_of_le (h9 x hx).2.2 (by rw [← h1]; exact hgr)⟩) hQ ok ew U U.vm
    ⟨U.heap.size, _, Y, rfl, hS2, Nat.le_refl _, hZ2, ho2, h6.trans hCr, h7.app hFr, hOld, fun x hx => hx, fun z => ⟨(h10 z).1.alikeC hal, (h10 z).2.alikeC hal⟩⟩
  exact ⟨s2, o, stp.trans q, rest'⟩
abbrev notMH (y : MethodName) : Prop := y.cls ≠ "java/lang/invoke/MethodHandle" ∧ y.cls ≠ "java/lang/invoke/VarHandle"
theorem callS (pc : Nat) {ix : Nat} {argsL rest : List Value} (W : Nat) (hd : decode B.bs pc = .ok (.invokestatic ix, 3)) (w1 : (Jvm.Cond.methodLink B.y.cls ix B'.y).before a0 Z = true) (w2 : (Jvm.Cond.static B'.y).before a0 Z = true) (w3 : (Jvm.Cond.initialized B'.y.cls).before a0 Z = true) (w4 : (Jvm.Cond.code B'.y B'.bs B'.ml B'.rt).before a0 Z = true) (hy : notMH B'.y)
    (hM : Con l Z EL n0 kn B' [] σ argsL.toArray h Q') (hlen : ∀ sig, parseMethodDescriptor B'.y.desc = some sig → argsL.length = sig.parameters.length) (hst : st = argsL.reverse ++ rest) (hW : (rest.map fun v => v.category).sum = W) (hsz : Ls.size = B.ml)
    (hf : B'.rm.frames + 1 ≤ B.rm.frames) (hl : W + (B'.ml + 11) + B'.rm.locals ≤ B.rm.locals) {ce' sl' : Nat} (hce : ce + B'.rm.cells = ce') (hsl : sl + B'.rm.slots = sl') (hc : ce' ≤ B.rm.cells) (hs : sl' ≤ B.rm.slots)
    (r : ∀ v h' σ', (∀ x, σ x → σ' x) → Q' v h' σ' → Go l Z a0 EL n0 kn B D Q h' σ' ce' sl' (pc + 3) Ls (push v rest)) : Go l Z a0 EL n0 kn B D Q h σ ce sl pc Ls st := by
  subst hce hsl
  exact called W hM w4 w3 hf hl hc hs (fun T vm0 locs X h1 h4 h5 ok {Pre Pst} hB hpre =>
    callSS X ok.1 (s := D.s.setVm vm0) h5 (mv (s := D.s.setVm vm0) h4 w1) (mv (s := D.s.setVm vm0) h4 w2) (mv (s := D.s.setVm vm0) h4 w3) (mv (s := D.s.setVm vm0) h4 w4) hy hB (g := mkF D.m pc Ls st) rfl (hsz.trans ok.2.2.1.symm) (argsL := argsL) (rest := rest) hlen hst (by show 2 * 0 + _ ≤ _; rw [hW]; omega) (Jvm.hb ok.2.1 hd) hpre) r
theorem callI (pc : Nat) {ix : Nat} {argsL rest : List Value} (W : Nat) (hd : decode B.bs pc = .ok (.invokespecial ix, 3)) (w1 : (Jvm.Cond.methodLink B.y.cls ix B'.y).before a0 Z = true) (w2 : (Jvm.Cond.instanceMethod B'.y).before a0 Z = true) (w3 : (Jvm.Cond.initialized B'.y.cls).before a0 Z = true) (w4 : (Jvm.Cond.code B'.y B'.bs B'.ml B'.rt).before a0 Z = true) (hi : B'.y.name = "<init>") (hrt : B'.rt = none) (hy : notMH B'.y)
    (hM : Con l Z EL n0 kn B' [] σ (.ref a :: argsL).toArray h Q') (hlen : ∀ sig, parseMethodDescriptor B'.y.desc = some sig → argsL.length = sig.parameters.length) (hst : st = argsL.reverse ++ .ref a :: rest) (hW : (rest.map fun v => v.category).sum = W) (hsz : Ls.size = B.ml)
    (hf : B'.rm.frames + 1 ≤ B.rm.frames) (hl : W + (B'.ml + 11) + B'.rm.locals ≤ B.rm.locals) {ce' sl' : Nat} (hce : ce + B'.rm.cells = ce') (hsl : sl + B'.rm.slots = sl') (hc : ce' ≤ B.rm.cells) (hs : sl' ≤ B.rm.slots)
    (r : ∀ v h' σ', (∀ x, σ x → σ' x) → Q' v h' σ' → Go l Z a0 EL n0 kn B D Q h' σ' ce' sl' (pc + 3) Ls (push v rest)) : Go l Z a0 EL n0 kn B D Q h σ ce sl pc Ls st := by
  subst hce hsl
  exact called W hM w4 w3 hf hl hc hs (fun T vm0 locs X h1 h4 h5 ok {Pre Pst} hB hpre =>
    X.specialBackS ok.1 hi (s := D.s.setVm vm0) h5 (mv (s := D.s.setVm vm0) h4 w1) (mv (s := D.s.setVm vm0) h4 w2) (bytes := B'.bs) (maxL := B'.ml) (mv (s := D.s.setVm vm0) h4 (hrt ▸ w4)) hy hB (g := mkF D.m pc Ls st) rfl (hsz.trans ok.2.2.1.symm) (Steps.refl _) (argsL := argsL) (rest := rest) hlen hst (by show 2 * 0 + _ ≤ _; rw [hW]; omega) (Jvm.hb ok.2.1 hd) hpre) r
theorem callV (pc : Nat) {ix : Nat} {y : MethodName} {argsL rest : List Value} (C : String) (W : Nat) (hd : decode B.bs pc = .ok (.invokevirtual ix, 3)) (w1 : (Jvm.Cond.methodLink B.y.cls ix y).before a0 Z = true) (w2 : (Jvm.Cond.declares y).before a0 Z = true) (nf : ∀ vm0, Z.Warmed39 vm0 → NotFace (D.s.setVm vm0) y) (w5 : (Jvm.Cond.selects C y B'.y).before a0 Z = true) (w6 : (Jvm.Cond.instanceMethod B'.y).before a0 Z = true) (w3 : (Jvm.Cond.initialized B'.y.cls).before a0 Z = true) (w4 : (Jvm.Cond.code B'.y B'.bs B'.ml B'.rt).before a0 Z = true) (hy : notMH y)
    (E : Exa Z h a C) (hM : Con l Z EL n0 kn B' [] σ (.ref a :: argsL).toArray h Q') (hlen : ∀ sig, parseMethodDescriptor y.desc = some sig → argsL.length = sig.parameters.length) (hst : st = argsL.reverse ++ .ref a :: rest) (hW : (rest.map fun v => v.category).sum = W) (hsz : Ls.size = B.ml)
    (hf : B'.rm.frames + 1 ≤ B.rm.frames) (hl : W + (B'.ml + 11) + B'.rm.locals ≤ B.rm.locals) {ce' sl' : Nat} (hce : ce + B'.rm.cells = ce') (hsl : sl + B'.rm.slots = sl') (hc : ce' ≤ B.rm.cells) (hs : sl' ≤ B.rm.slots)
    (r : ∀ v h' σ', (∀ x, σ x → σ' x) → Q' v h' σ' → Go l Z a0 EL n0 kn B D Q h' σ' ce' sl' (pc + 3) Ls (push v rest)) : Go l Z a0 EL n0 kn B D Q h σ ce sl pc Ls st := by
  subst hce hsl
  exact called W hM w4 w3 hf hl hc hs (fun T vm0 locs X h1 h4 h5 ok {Pre Pst} hB hpre => by
    obtain ⟨cq, kq, qa, qb, qc⟩ := isOf (s := D.s.setVm vm0) h4 h1 E
    exact X.virtualBackS ok.1 (s := D.s.setVm vm0) (C := C) h5 (mv (s := D.s.setVm vm0) h4 w1) (mv (s := D.s.setVm vm0) h4 w2) (nf vm0 h4) (mv (s := D.s.setVm vm0) h4 w5) (mv (s := D.s.setVm vm0) h4 w6) hy hB qa qc (g := mkF D.m pc Ls st) rfl (hsz.trans ok.2.2.1.symm) (Steps.refl _) (argsL := argsL) (rest := rest) hlen hst (by show 2 * 0 + _ ≤ _; rw [hW]; omega) (Jvm.hb ok.2.1 hd) hpre) r
/-- Object.<init> -/
theorem initObj (pc : Nat) {ix : Nat} (hd : decode B.bs pc = .ok (.invokespecial ix, 3)) (w1 : (Jvm.Cond.methodLink B.y.cls ix Lib.objectInit).before a0 Z = true) (w2 : (Jvm.Cond.instanceMethod Lib.objectInit).before a0 Z = true) (w3 : (Jvm.Cond.code Lib.objectInit ⟨#[0xb1]⟩ 1 none).before a0 Z = true) (W : Nat) (hW : (st.map fun v => v.category).sum = W) (hsz : Ls.size = B.ml) (hf : 1 ≤ B.rm.frames) (hl : W + 12 ≤ B.rm.locals)
    (r : Go l Z a0 EL n0 kn B D Q h σ ce sl (pc + 3) Ls st) : Go l Z a0 EL n0 kn B D Q h σ ce sl pc Ls (.ref a :: st) := by
  intro ok ew T vm0 I
  obtain ⟨k0, locs, X, h1, h2, h3, h4, h5, h6, h7, h8, h9, h10⟩ := I
  obtain ⟨T', X', e', s'⟩ := initO X ok.1 (s := D.s.setVm vm0) h4 h5 w1 w2 w3 h1 (g := mkF D.m pc Ls (.ref a :: st)) rfl (hsz.trans ok.2.2.1.symm) rfl (Jvm.hb ok.2.1 hd) hf (W := W) (by show 2 * 0 + _ ≤ _; rw [hW]; omega) hl
  obtain ⟨s2, o, q, rest⟩ := r ok ew T' vm0 ⟨k0, locs, X', e', h2, h3, h4, h5, h6, h7, h8, h9, h10⟩
  exact ⟨s2, o, s' _ q, rest⟩
end Calls
end Jvm.Road
namespace Jvm.Road
open Jvm Jvm.ClassFile Sem Op Lib Jvm.Free Jvm.Stand Jvm.LawKit Jvm.RoadKit Bundle
theorem n32 {i : Nat} (h : i < 2147483648) : i.toInt32.toInt = (i : Int) := len_toInt h
theorem succ32 (i : Nat) : i.toInt32 + 1 = (i + 1).toInt32 := (Int32.ofNat_add i 1).symm
theorem add32n (i j : Nat) : i.toInt32 + j.toInt32 = (i + j).toInt32 := (Int32.ofNat_add i j).symm
theorem lt32 {i j : Nat} (hi : i < 2147483648) (hj : j < 2147483648) : i.toInt32 < j.toInt32 ↔ i < j := by
  rw [Int32.lt_iff_toInt_lt, n32 hi, n32 hj]; omega
theorem eq32 {i j : Nat} (hi : i < 2147483648) (hj : j < 2147483648) : i.toInt32 = j.toInt32 ↔ i = j := by
  rw [← Int32.toInt_inj, n32 hi, n32 hj]; omega
/-- a slot that an int may be stored in -/
def W1 (w : Slot) : Prop := w = .unset ∨ ∃ v, w = .val (.int v)
theorem nar_byte (x : Int32) : nar .byte (Int8.toInt32 (Int32.toInt8 x)) = Int8.toInt32 (Int32.toInt8 x) := by simp [nar]
theorem nar_chr (x : Int32) : nar .char (chr x) = chr x := by simp only [nar, chr, UInt32.toUInt32_toInt32, UInt16.toUInt16_toUInt32]
theorem set_mid {α β : Type} (f : α → β) (cs : List α) (z : β) (k r : Nat) (hk : k < cs.length) : ((cs.take k).map f ++ List.replicate (r + 1) z).set k (f cs[k]) = (cs.take (k + 1)).map f ++ List.replicate r z := by
  have hl : ((cs.take k).map f).length = k := by simp; omega
  rw [List.set_append, if_neg (by omega), hl, Nat.sub_self, List.replicate_succ, List.set_cons_zero, List.take_succ_eq_append_getElem hk, List.map_append]
  simp
end Jvm.Road
namespace Jvm.Road
open Jvm Jvm.ClassFile Sem Op Lib Jvm.Free Jvm.Stand Jvm.LawKit Jvm.RoadKit Bundle
theorem narRef {t : FieldType} {v : Value} (ht : t.isReference = true) (hv : v.isRef = true) : narrow t v = v := by
  rcases ref_cases hv with rfl | ⟨_, rfl⟩ <;> cases t <;> first | rfl | (cases ht; done)
theorem fitRef {t : FieldType} {v : Value} (ht : t.isReference = true) (hv : v.isRef = true) : fits t v = true := by
  rcases ref_cases hv with rfl | ⟨_, rfl⟩ <;> cases t <;> first | rfl | (cases ht; done)
theorem and255 (x : Int32) : 0 ≤ (chr (x &&& 255)).toInt ∧ (chr (x &&& 255)).toInt < 256 := by
  rw [show chr (x &&& 255) = x &&& 255 from i2c_mask x]
  have h1 : (x &&& 255).toInt = ((x.toBitVec &&& 255#32).toInt) := rfl
  have h2 : (x.toBitVec &&& 255#32).toNat ≤ 255 := by rw [BitVec.toNat_and]; exact Nat.and_le_right
  have h3 : (x.toBitVec &&& 255#32).toInt = ((x.toBitVec &&& 255#32).toNat : Int) := BitVec.toInt_eq_toNat_of_lt (by omega)
  rw [h1, h3]; omega
end Jvm.Road
namespace Jvm.Road
open Jvm Jvm.ClassFile Sem Op Lib Jvm.Free Jvm.Stand Jvm.LawKit Jvm.RoadKit Bundle
theorem nameI {l : Launch} {Z : State} {a0 : Array Value} {EL : List (String × Nat)} {n0 : Nat} {kn : Bool} {B : Bdy} {D : Dyn} {Q : Post} {h : Heap} {σ : Addr → Prop} {ce sl : Nat} {Ls : Array Slot} {st : List Value} {pc : Nat} {x : Int32}
    (r : ∀ z, z = x → Go l Z a0 EL n0 kn B D Q h σ ce sl pc Ls (.int z :: st)) : Go l Z a0 EL n0 kn B D Q h σ ce sl pc Ls (.int x :: st) := r x rfl
theorem nameJ {l : Launch} {Z : State} {a0 : Array Value} {EL : List (String × Nat)} {n0 : Nat} {kn : Bool} {B : Bdy} {D : Dyn} {Q : Post} {h : Heap} {σ : Addr → Prop} {ce sl : Nat} {Ls : Array Slot} {st : List Value} {pc : Nat} {x : Int64}
    (r : ∀ z, z = x → Go l Z a0 EL n0 kn B D Q h σ ce sl pc Ls (.long z :: st)) : Go l Z a0 EL n0 kn B D Q h σ ce sl pc Ls (.long x :: st) := r x rfl
theorem and3 (x : Int32) : x &&& 3 = 0 ∨ x &&& 3 = 1 ∨ x &&& 3 = 2 ∨ x &&& 3 = 3 := by
  have h1 : (x &&& 3).toInt = ((x.toBitVec &&& 3#32).toInt) := rfl
  have h2 : (x.toBitVec &&& 3#32).toNat ≤ 3 := by rw [BitVec.toNat_and]; exact Nat.and_le_right
  have h3 : (x.toBitVec &&& 3#32).toInt = ((x.toBitVec &&& 3#32).toNat : Int) := BitVec.toInt_eq_toNat_of_lt (by omega)
  have h4 : (x &&& 3).toInt = 0 ∨ (x &&& 3).toInt = 1 ∨ (x &&& 3).toInt = 2 ∨ (x &&& 3).toInt = 3 := by rw [h1, h3]; omega
  rcases h4 with h | h | h | h
  · exact Or.inl (Int32.toInt_inj.mp h)
  · exact Or.inr (Or.inl (Int32.toInt_inj.mp h))
  · exact Or.inr (Or.inr (Or.inl (Int32.toInt_inj.mp h)))
  · exact Or.inr (Or.inr (Or.inr (Int32.toInt_inj.mp h)))
/-- a slot that a reference may be stored in -/
def W2 (w : Slot) : Prop := w = .unset ∨ ∃ v, w = .val (.ref v)
end Jvm.Road
namespace Jvm.Road
open Jvm Jvm.ClassFile Sem Op Lib Jvm.Free Jvm.Stand Jvm.LawKit Jvm.RoadKit Bundle
theorem shr0 (x : Int32) : x >>> ((0 : Int32) &&& 31) = x := by
  apply Int32.toBitVec_inj.mp; simp [Int32.toBitVec_shiftRight]
theorem lat_nat {c : Int32} (h : 0 ≤ c.toInt ∧ c.toInt < 256) : ∃ i : Fin 256, c = Int32.ofInt (i.1 : Int) := by
  refine ⟨⟨c.toInt.toNat, by omega⟩, ?_⟩
  apply Int32.toInt_inj.mp
  show c.toInt = (Int32.ofInt ((c.toInt.toNat : Nat) : Int)).toInt
  rw [Int.toNat_of_nonneg h.1, Int32.ofInt_toInt]
theorem byte_back {c : Int32} (h : 0 ≤ c.toInt ∧ c.toInt < 256) : nar .char (chr (Int8.toInt32 (Int32.toInt8 c) &&& 255)) = c := by
  obtain ⟨i, rfl⟩ := lat_nat h
  exact (by decide +kernel : ∀ i : Fin 256, nar .char (chr (Int8.toInt32 (Int32.toInt8 (Int32.ofInt (i.1 : Int))) &&& 255)) = Int32.ofInt (i.1 : Int)) i
theorem nar_lat {c : Int32} (h : 0 ≤ c.toInt ∧ c.toInt < 256) : nar .char c = c := by
  obtain ⟨i, rfl⟩ := lat_nat h
  exact (by decide +kernel : ∀ i : Fin 256, nar .char (Int32.ofInt (i.1 : Int)) = Int32.ofInt (i.1 : Int)) i
end Jvm.Road
namespace Jvm.Road
open Jvm Jvm.ClassFile Sem Op Lib Jvm.Free Jvm.Stand Jvm.LawKit Jvm.RoadKit Bundle
/-- an int's 32 bits as a number -/
def u32 (x : Int32) : Nat := x.toBitVec.toNat
theorem u32_lt (x : Int32) : u32 x < 4294967296 := x.toBitVec.isLt
theorem u32_inj {x y : Int32} (h : u32 x = u32 y) : x = y := Int32.toBitVec_inj.mp (BitVec.eq_of_toNat_eq h)
theorem toInt_u32 {x : Int32} (h : u32 x < 2147483648) : x.toInt = (u32 x : Int) := by
  show x.toBitVec.toInt = _
  exact BitVec.toInt_eq_toNat_of_lt (by show 2 * u32 x < 2 ^ 32; omega)
theorem u32_and (x y : Int32) : u32 (x &&& y) = u32 x &&& u32 y := BitVec.toNat_and ..
theorem u32_chr (x : Int32) : u32 (chr x) = u32 x % 65536 := by
  show ((x.toBitVec.setWidth 16).setWidth 32).toNat = _
  rw [BitVec.toNat_setWidth, BitVec.toNat_setWidth]
  show x.toBitVec.toNat % 65536 % 4294967296 = _
  show _ = x.toBitVec.toNat % 65536
  omega
theorem u32_ushr (x y : Int32) : u32 (XT.ushr x y) = u32 x >>> (u32 y % 32) := by
  show ((x.toBitVec >>> ((y &&& 31).toBitVec.umod 32#32)).toNat) = _
  have h : ((y &&& 31).toBitVec.umod 32#32).toNat = u32 y % 32 := by
    show (BitVec.umod (y.toBitVec &&& 31#32) 32#32).toNat = _
    rw [show (BitVec.umod (y.toBitVec &&& 31#32) 32#32) = (y.toBitVec &&& 31#32) % 32#32 from rfl, BitVec.toNat_umod, BitVec.toNat_and]
    show (u32 y &&& 31) % 32 = _
    rw [show (31 : Nat) = 2 ^ 5 - 1 from rfl, Nat.and_two_pow_sub_one_eq_mod]
    omega
  rw [← h]
  exact BitVec.toNat_ushiftRight ..
theorem and_mask (x : Nat) (k : Nat) : x &&& (2 ^ k - 1) = x % 2 ^ k := Nat.and_two_pow_sub_one_eq_mod x k
theorem u32_and255 (x : Int32) : u32 (x &&& 255) = u32 x % 256 := by rw [u32_and]; exact and_mask _ 8
theorem u32_and7 (x : Int32) : u32 (x &&& 7) = u32 x % 8 := by rw [u32_and]; exact and_mask _ 3
theorem u32_and3 (x : Int32) : u32 (x &&& 3) = u32 x % 4 := by rw [u32_and]; exact and_mask _ 2
theorem u32_and1 (x : Int32) : u32 (x &&& 1) = u32 x % 2 := by rw [u32_and]; exact and_mask _ 1
theorem chr_id {x : Int32} (h : u32 x < 65536) : chr x = x := u32_inj (by rw [u32_chr]; omega)
end Jvm.Road
namespace Jvm.Road
open Jvm Jvm.ClassFile Sem Op Lib Jvm.Free Jvm.Stand Jvm.LawKit Jvm.RoadKit Bundle
/-- the byte of a char, as an int -/
def bf (c : Int32) : Int32 := Int8.toInt32 (Int32.toInt8 c)
theorem bf_inj {c d : Int32} (hc : 0 ≤ c.toInt ∧ c.toInt < 256) (hd : 0 ≤ d.toInt ∧ d.toInt < 256) (h : bf c = bf d) : c = d := by
  rw [← byte_back hc, ← byte_back hd]
  show nar .char (chr (bf c &&& 255)) = nar .char (chr (bf d &&& 255))
  rw [h]
theorem bfs_inj : ∀ {cs ds : List Int32}, (∀ c ∈ cs, 0 ≤ c.toInt ∧ c.toInt < 256) → (∀ c ∈ ds, 0 ≤ c.toInt ∧ c.toInt < 256) → cs.map bf = ds.map bf → cs = ds
  | [], [], _, _, _ => rfl
  | [], d :: ds, _, _, h => by simp at h
  | c :: cs, [], _, _, h => by simp at h
  | c :: cs, d :: ds, h1, h2, h => by
    simp only [List.map_cons, List.cons.injEq] at h
    rw [bf_inj (h1 _ (by simp)) (h2 _ (by simp)) h.1, bfs_inj (fun x hx => h1 x (by simp [hx])) (fun x hx => h2 x (by simp [hx])) h.2]
theorem byts (cs : List Int32) : cs.map byt = (cs.map bf).map Value.int := by rw [List.map_map]; rfl
theorem ints_inj : ∀ {xs ys : List Int32}, xs.map Value.int = ys.map Value.int → xs = ys
  | [], [], _ => rfl
  | [], d :: ds, h => by simp at h
  | c :: cs, [], h => by simp at h
  | c :: cs, d :: ds, h => by
    simp only [List.map_cons, List.cons.injEq, Value.int.injEq] at h
    rw [h.1, ints_inj h.2]
theorem Str.uniq {Z : State} {h : Heap} {a b b' : Addr} {cs ds : List Int32} (S : Str Z h a b cs) (S' : Str Z h a b' ds) : cs = ds := by
  have e := Value.ref.inj (Fld.uniq S.2.2.1 S'.2.2.1)
  subst e
  have q := Ary.uniq S.2.2.2.1 S'.2.2.2.1
  rw [byts, byts] at q
  exact bfs_inj S.2.2.2.2 S'.2.2.2.2 (ints_inj q)
theorem take_ext {xs ys : List Int32} {k : Nat} (hk : k < xs.length) (hk' : k < ys.length) (h : xs.take k = ys.take k) (e : xs[k] = ys[k]) : xs.take (k + 1) = ys.take (k + 1) := by
  rw [List.take_succ_eq_append_getElem hk, List.take_succ_eq_append_getElem hk', h, e]
theorem u32_mask31 (x : Int32) : u32 (x &&& 2147483647) = u32 x % 2147483648 := by rw [u32_and]; exact and_mask _ 31
theorem rem_pos {x y : Int32} {n : Nat} (hx : u32 x < 2147483648) (hy : y.toInt = (n : Int)) (hn : 0 < n) : (x % y).toInt = ((u32 x % n : Nat) : Int) := by
  rw [Int32.toInt_mod, toInt_u32 hx, hy]
  rfl
theorem small_of {x : Int32} {n : Nat} {k : Nat} (h : x.toInt = ((k % n : Nat) : Int)) (hn : 0 < n) : ∃ i : Fin n, x = Int32.ofInt (i.1 : Int) := by
  refine ⟨⟨k % n, Nat.mod_lt _ hn⟩, ?_⟩
  have := congrArg Int32.ofInt h
  rwa [Int32.ofInt_toInt] at this
end Jvm.Road
namespace Jvm.Road
open Jvm Jvm.ClassFile Sem Op Lib Jvm.Free Jvm.Stand Jvm.LawKit Jvm.RoadKit Bundle Jvm.Free.Exc
section Exc
variable {l : Launch} {Z : State} {a0 : Array Value} {EL : List (String × Nat)} {n0 : Nat} {kn : Bool} {B : Bdy} {D : Dyn} {Q : Post} {h : Heap} {σ : Addr → Prop} {ce sl : Nat} {Ls : Array Slot} {st : List Value} {a : Addr}
/-- super(msg) of a Throwable, down a chain of constructors that only pass it on -/
theorem excInit (pc : Nat) {ix n : Nat} {rc : String} {links : List Link} {msg : Value} (W : Nat) (hd : decode B.bs pc = .ok (.invokespecial ix, 3)) (hok : linksOk 1 links = true)
    (w1 : (Jvm.Cond.methodLink B.y.cls ix (ctor 1 (headName links))).before a0 Z = true) (w2 : (Jvm.Cond.instanceMethod (ctor 1 (headName links))).before a0 Z = true) (wT : (chainTab 1 rc links).before a0 Z = true) (wi : (Jvm.Cond.instantiable rc n).before a0 Z = true) (r2 : ∀ d ∈ twoRefs, d.before a0 Z = true)
    (hl : l.stackTraces = true) (hkn : kn = true) (hO : Old Z n0 D.s.heap) (E : Exa Z h a rc) (N : Unt h a) (F1 : Fld Z h a tN "backtrace" obD .null) (F2 : Fld Z h a tN "detailMessage" msgD .null) (hmsg : msg.isRef = true) (hσ : σ a)
    (hW : (st.map fun v => v.category).sum = W) (hsz : Ls.size = B.ml) (hf : 4 + links.length ≤ B.rm.frames) (hlo : W + (56 + 14 * links.length) ≤ B.rm.locals) {ce' sl' : Nat} (hce : ce + 1 = ce') (hsl : sl + 2752 = sl') (hc : ce' ≤ B.rm.cells) (hs : sl' ≤ B.rm.slots)
    (r : ∀ h', Kp Z h h' a → Keep h h' [a] → Exa Z h' a rc → Unt h' a → Fld Z h' a tN "detailMessage" msgD msg → Fld Z h' a tN "cause" thD (.ref a) → Go l Z a0 EL n0 kn B D Q h' σ ce' sl' (pc + 3) Ls st) : Go l Z a0 EL n0 kn B D Q h σ ce sl pc Ls (msg :: .ref a :: st) := by
  subst hce hsl
  intro ok ew T vm0 I
  obtain ⟨k0, locs, X, h1, h2, h3, h4, h5, h6, h7, h8, h9, h10⟩ := I
  obtain ⟨T', h', X', e', K, E', N', M', C', -, s'⟩ := excL1 X ok.1 hl (s := D.s.setVm vm0) h4 h5 hok w1 w2 wT wi r2 (ThS.start.ext hO.2) (ThS.start.ext h8.2) (h10 hkn).1 (h10 hkn).2 h1 E N F1 F2 hmsg (g := mkF D.m pc Ls (msg :: .ref a :: st)) rfl (hsz.trans ok.2.2.1.symm) (rest := st) rfl (Jvm.hb ok.2.1 hd) hf (by show 2 * 0 + _ + _ ≤ _; rw [hW]; omega) hc hs
  have ha := h9 a hσ
  have K2 : Keep h h' [a] := keep_of_kp K
  have hsf : ∀ x ∈ [a], Safe Z EL vm0 h x := fun x hx => by cases List.mem_singleton.mp hx; exact ha.1
  obtain ⟨s2, o, q, rest⟩ := r h' K K2 E' N' M' C' ok ew T' vm0
    ⟨k0, _, X', e', h2, Nat.le_trans h3 K2.1, h4, h5, h6.trans (CHr.keep K2 hsf h6.1), Fr.six h7 ha.2.1, h8.keep K2 (fun x hx => by cases List.mem_singleton.mp hx; exact ha.2.1), fun x hx => ⟨Safe.keep K2 hsf h6.1 (h9 x hx).1, (h9 x hx).2.1, Nat.lt_of_lt_of_le (h9 x hx).2.2 K2.1⟩, h10⟩
  exact ⟨s2, o, s' _ q, rest⟩
end Exc
section Up
variable {l : Launch} {Z : State} {a0 : Array Value} {EL : List (String × Nat)} {n0 : Nat} {kn : Bool} {B B' : Bdy} {D : Dyn} {Q Q' : Post} {h : Heap} {σ : Addr → Prop} {ce sl : Nat} {Ls : Array Slot} {st : List Value} {a : Addr}
/-- invokevirtual whose entry names the method by a subclass of the one that declares it -/
theorem callU (pc : Nat) {ix : Nat} {y : MethodName} {argsL rest : List Value} (C owner : String) (W : Nat) (hd : decode B.bs pc = .ok (.invokevirtual ix, 3)) (w1 : (Jvm.Cond.methodLink B.y.cls ix y).before a0 Z = true) (w2 : (Jvm.Cond.sameMethod y.cls owner y.name y.desc).before a0 Z = true) (w2' : (Jvm.Cond.declares ⟨owner, y.name, y.desc⟩).before a0 Z = true) (hy : owner ≠ "java/lang/invoke/MethodHandle" ∧ owner ≠ "java/lang/invoke/VarHandle") (w5 : (Jvm.Cond.selects C y B'.y).before a0 Z = true) (w6 : (Jvm.Cond.instanceMethod B'.y).before a0 Z = true) (w3 : (Jvm.Cond.initialized B'.y.cls).before a0 Z = true) (w4 : (Jvm.Cond.code B'.y B'.bs B'.ml B'.rt).before a0 Z = true)
    (E : Exa Z h a C) (hM : Con l Z EL n0 kn B' [] σ (.ref a :: argsL).toArray h Q') (hlen : ∀ sig, parseMethodDescriptor y.desc = some sig → argsL.length = sig.parameters.length) (hst : st = argsL.reverse ++ .ref a :: rest) (hW : (rest.map fun v => v.category).sum = W) (hsz : Ls.size = B.ml)
    (hf : B'.rm.frames + 1 ≤ B.rm.frames) (hl : W + (B'.ml + 11) + B'.rm.locals ≤ B.rm.locals) {ce' sl' : Nat} (hce : ce + B'.rm.cells = ce') (hsl : sl + B'.rm.slots = sl') (hc : ce' ≤ B.rm.cells) (hs : sl' ≤ B.rm.slots)
    (r : ∀ v h' σ', (∀ x, σ x → σ' x) → Q' v h' σ' → Go l Z a0 EL n0 kn B D Q h' σ' ce' sl' (pc + 3) Ls (push v rest)) : Go l Z a0 EL n0 kn B D Q h σ ce sl pc Ls st := by
  subst hce hsl
  exact called W hM w4 w3 hf hl hc hs (fun T vm0 locs X h1 h4 h5 ok {Pre Pst} hB hpre => by
    obtain ⟨cq, kq, qa, qb, qc⟩ := isOf (s := D.s.setVm vm0) h4 h1 E
    exact X.virtualBackUpS ok.1 (s := D.s.setVm vm0) (C := C) h5 (mv (s := D.s.setVm vm0) h4 w1) (mv (s := D.s.setVm vm0) h4 w2) (mv (s := D.s.setVm vm0) h4 w2') hy (mv (s := D.s.setVm vm0) h4 w5) (mv (s := D.s.setVm vm0) h4 w6) hB qa qc (g := mkF D.m pc Ls st) rfl (hsz.trans ok.2.2.1.symm) (Steps.refl _) (argsL := argsL) (rest := rest) hlen hst (by show 2 * 0 + _ ≤ _; rw [hW]; omega) (Jvm.hb ok.2.1 hd) hpre) r
end Up
end Jvm.Road
namespace Jvm.Road
open Jvm Jvm.ClassFile Sem Op Lib Jvm.Free Jvm.Stand Jvm.LawKit Jvm.RoadKit Bundle
section Start
variable {Z : State} {a : Addr} {args : Array Value} {t b : Term} {ty : FieldType}
theorem eq_int_of {n : Int32} (h : (Cond.eq t (Term.int n)).value args Z none Z [] = some true) : t.eval args Z none [] Z = some (.int n) := by
  obtain ⟨x, y, q1, q2, -, k2⟩ := cmp_v (Or.inl h)
  cases q2
  obtain ⟨z, rfl⟩ := k2
  have := gotT (Cond.eq_ints q1 (Term.int_eval n)) h
  rw [← this]; exact q1
theorem eq_ref_of {q : Addr} (h : (Cond.eq t b).value args Z none Z [] = some true) (hb : b.eval args Z none [] Z = some (.ref q)) : t.eval args Z none [] Z = some (.ref q) := by
  obtain ⟨x, y, q1, q2, -, k2⟩ := cmp_v (Or.inl h)
  cases hb.symm.trans q2
  have := gotT (eq_R q1 hb k2.2 rfl) h
  rw [← this]; exact q1
theorem len_lt {v : Value} (h : (Term.length t).eval args Z none [] Z = some v) (ev : t.eval args Z none [] Z = some (.ref a)) : ∃ c, Z.arrayAt? a = some c ∧ c.slots.size < 2 ^ 31 ∧ v = .int c.slots.size.toInt32 := by
  obtain ⟨x, c, e1, e2, e3⟩ := Term.length_spec h
  cases ev.symm.trans e1
  refine ⟨c, e2, ?_, e3⟩
  by_cases q : c.slots.size < 2 ^ 31
  · exact q
  · simp [Term.eval, ev, e2, q] at h
theorem Ary.start {n : Int32} {vs : List Value} (ev : t.eval args Z none [] Z = some (.ref a)) (hx : (Cond.arrayOf t ty).value args Z none Z [] = some true)
    (hl : (Cond.eq (Term.length t) (Term.int n)).value args Z none Z [] = some true) (hn : n.toInt = vs.length)
    (he : ∀ i, i < vs.length → ∃ j : Int32, j.toInt = (i : Int) ∧ (Term.elem t (Term.int j)).eval args Z none [] Z = vs[i]?) (hf : ∀ v ∈ vs, fits ty v = true) : Ary Z Z.heap a ty vs := by
  obtain ⟨c, A⟩ := Arr.start ev hx
  obtain ⟨c', e1, e2, e3⟩ := len_lt (eq_int_of hl) ev
  have e4 : Z.heap[a]? = some c' := (arrayAt_spec e1).1
  cases A.1.symm.trans e4
  have e5 : c.slots.size = vs.length := by
    have : n.toInt = (c.slots.size : Int) := by
      injection e3 with q; rw [q]; exact len_toInt e2
    omega
  refine ⟨c, A, ?_, by omega, hf⟩
  apply List.ext_getElem?
  intro i
  by_cases hi : i < vs.length
  · obtain ⟨j, j1, j2⟩ := he i hi
    rw [List.getElem?_eq_getElem hi] at j2 ⊢
    have := (elem_in j2 ev (Term.int_eval j) A.1).2
    rw [(ix_of j1).2] at this
    rw [Array.getElem?_toList]; exact this
  · rw [List.getElem?_eq_none (Nat.le_of_not_lt hi), List.getElem?_eq_none (by rw [Array.length_toList, e5]; exact Nat.le_of_not_lt hi)]
end Start
end Jvm.Road
namespace Jvm.Road
open Jvm Jvm.ClassFile Sem Op Lib Jvm.Free Jvm.Stand Jvm.LawKit Jvm.RoadKit Bundle
section Copy
variable {l : Launch} {Z : State} {a0 : Array Value} {EL : List (String × Nat)} {n0 : Nat} {kn : Bool} {B : Bdy} {D : Dyn} {Q : Post} {h : Heap} {σ : Addr → Prop} {ce sl : Nat} {Ls : Array Slot} {st : List Value} {a b : Addr}
theorem arv_of {ty : FieldType} {vs : List Value} (A : Ary Z h a ty vs) : ∃ k, Arv Z h a k ty (Nat.toInt32 vs.length) vs .null ∧ (Nat.toInt32 vs.length).toNatClampNeg = vs.length := by
  obtain ⟨c, A, e, q, f⟩ := A
  have e1 : (Nat.toInt32 vs.length).toInt = vs.length := len_toInt q
  have e2 := ix_of e1
  have e3 : c.slots.size = vs.length := by rw [← Array.length_toList, e]
  refine ⟨_, ⟨c, A, rfl, e3.trans e2.2.symm, e2.1, fun i hi => ?_, fun i hi => ?_⟩, e2.2⟩
  · rw [← Array.getElem?_toList, e, List.getElem?_eq_getElem (by omega), List.getD_eq_getElem?_getD, List.getElem?_eq_getElem (by omega)]; rfl
  · rw [List.getD_eq_getElem?_getD, List.getElem?_eq_getElem (by omega)]; exact f _ (List.getElem_mem _)
theorem stretch_eq (vs : List Value) (i n : Nat) (h : i + n ≤ vs.length) : (List.range n).map (fun k => vs.getD (i + k) .null) = (vs.drop i).take n := by
  apply List.ext_getElem?
  intro k
  by_cases hk : k < n
  · rw [List.getElem?_map, List.getElem?_range hk, List.getElem?_take_of_lt hk, List.getElem?_drop, List.getElem?_eq_getElem (by omega)]
    simp [List.getD_eq_getElem?_getD, List.getElem?_eq_getElem (show i + k < vs.length by omega)]
  · rw [List.getElem?_eq_none (by simp; omega), List.getElem?_eq_none (by simp; omega)]
theorem acopy (pc : Nat) {ix : Nat} {ty : FieldType} {vs vd : List Value} {sp dp nn : Int32} (i j n W : Nat) (hd : decode B.bs pc = .ok (.invokestatic ix, 3))
    (w1 : (Jvm.Cond.methodLink B.y.cls ix Jvm.Stand.acN).before a0 Z = true) (w2 : (Jvm.Cond.native Jvm.Stand.acN).before a0 Z = true) (w3 : (Jvm.Cond.static Jvm.Stand.acN).before a0 Z = true) (w4 : (Jvm.Cond.initialized "java/lang/System").before a0 Z = true)
    (A : Ary Z h a ty vs) (Ab : Ary Z h b ty vd) (hr : refKind ty = false) (h1 : sp.toInt = (i : Int)) (h2 : dp.toInt = (j : Int)) (h3 : nn.toInt = (n : Int)) (h4 : i + n ≤ vs.length) (h5 : j + n ≤ vd.length) (hσ : σ b)
    (hW : (st.map fun v => v.category).sum = W) (hsz : Ls.size = B.ml) (hf : 1 ≤ B.rm.frames) (hl : W + 18 ≤ B.rm.locals)
    (r : ∀ h', Keep h h' [b] → Ary Z h' b ty (vd.take j ++ (vs.drop i).take n ++ vd.drop (j + n)) → Go l Z a0 EL n0 kn B D Q h' σ ce sl (pc + 3) Ls st) :
    Go l Z a0 EL n0 kn B D Q h σ ce sl pc Ls (.int nn :: .int dp :: .ref b :: .int sp :: .ref a :: st) := by
  intro ok ew T vm0 I
  obtain ⟨k0, locs, X, g1, g2, g3, g4, g5, g6, g7, g8, g9, g10⟩ := I
  obtain ⟨k1, A1, z1⟩ := arv_of A
  obtain ⟨k2, A2, z2⟩ := arv_of Ab
  have ha := g9 b hσ
  obtain ⟨s1, s1'⟩ := ix_of h1
  obtain ⟨s2, s2'⟩ := ix_of h2
  obtain ⟨s3, s3'⟩ := ix_of h3
  obtain ⟨T', h', L, X', e', N, K, A3, s'⟩ := cpA X ok.1 (s := D.s.setVm vm0) g4 g5 w1 w2 w3 w4 g1 A1 A2 (Or.inl ⟨rfl, hr⟩) (sp := sp) (dp := dp) (nn := nn) s1 s2 s3 (by rw [s1', s3', z1]; exact h4) (by rw [s2', s3', z2]; exact h5) rfl (by rw [s2', s3']; exact h5) g7 ha.2.1
    (g := mkF D.m pc Ls (.int nn :: .int dp :: .ref b :: .int sp :: .ref a :: st)) rfl (hsz.trans ok.2.2.1.symm) rfl (Jvm.hb ok.2.1 hd) hf (W := W) (by show 2 * 0 + _ ≤ _; rw [hW]; omega) (by show W + 18 ≤ _; exact hl)
  rw [s1', s2', s3', stretch_eq _ _ _ h4] at A3
  have hlen : (vd.take j ++ (vs.drop i).take n ++ vd.drop (j + n)).length = vd.length := by
    simp only [List.length_append, List.length_take, List.length_drop]; omega
  have hs : ∀ x ∈ [b], Safe Z EL vm0 h x := fun x hx => by cases List.mem_singleton.mp hx; exact ha.1
  obtain ⟨s2, o, q, rest⟩ := r h' K (Ary.of_arv A3 (by rw [z2, hlen])) ok ew T' vm0 ⟨k0, _, X', e', g2, Nat.le_trans g3 K.1, g4, g5, g6.trans (CHr.keep K hs g6.1), N, g8.keep K (fun x hx => by cases List.mem_singleton.mp hx; exact ha.2.1),
    fun x hx => ⟨Safe.keep K hs g6.1 (g9 x hx).1, (g9 x hx).2.1, Nat.lt_of_lt_of_le (g9 x hx).2.2 K.1⟩, g10⟩
  exact ⟨s2, o, s' _ q, rest⟩
end Copy
theorem shl0 (x : Int32) : x <<< ((0 : Int32) &&& 31) = x := by
  apply Int32.toBitVec_inj.mp; simp [Int32.toBitVec_shiftLeft]
theorem sub32n {i j : Nat} (h : j ≤ i) : i.toInt32 - j.toInt32 = (i - j).toInt32 := by
  have e : (i - j).toInt32 + j.toInt32 = i.toInt32 := by rw [add32n, Nat.sub_add_cancel h]
  rw [← e, Int32.add_sub_cancel]
theorem gsub {m N : Nat} (hm : m < 2147483648) (hN : N < 2147483648) : (0 : Int32) < m.toInt32 - N.toInt32 ↔ N < m := by
  by_cases h : N ≤ m
  · rw [sub32n h, show (0 : Int32) = (0 : Nat).toInt32 from rfl, lt32 (by omega) (by omega)]; omega
  · have e : m.toInt32 - N.toInt32 = -((N - m).toInt32) := by rw [← sub32n (show m ≤ N by omega), Int32.neg_sub]
    rw [e, Int32.lt_iff_toInt_lt]
    have : (-((N - m).toInt32)).toInt = -((N - m : Nat) : Int) := by
      rw [Int32.toInt_neg, n32 (by omega)]
      rw [Int.bmod_eq_of_le] <;> omega
    rw [this]
    have : (0 : Int32).toInt = 0 := rfl
    omega
abbrev SB : String := "java/lang/StringBuilder"
abbrev AB : String := "java/lang/AbstractStringBuilder"
/-- the StringBuilder at a holds these chars; its bytes at b, of which there are N -/
def Sb (Z : State) (h : Heap) (a b : Addr) (cs : List Int32) (N : Nat) : Prop := Exa Z h a SB ∧ Fld Z h a AB "coder" "B" (.int 0) ∧ Fld Z h a AB "value" "[B" (.ref b) ∧ Fld Z h a AB "count" "I" (.int (Nat.toInt32 cs.length)) ∧ (∃ r : List Value, Ary Z h b .byte (cs.map byt ++ r) ∧ cs.length + r.length = N) ∧ (∀ c ∈ cs, 0 ≤ c.toInt ∧ c.toInt < 256)
section Builder
variable {Z : State} {h h' : Heap} {a b : Addr} {cs : List Int32} {N : Nat} {ws : List Addr}
theorem Sb.keep (F : Sb Z h a b cs N) (K : Keep h h' ws) (q : a ∉ ws) (q' : b ∉ ws) : Sb Z h' a b cs N := by
  obtain ⟨f1, f2, f3, f4, ⟨r, f5, f6⟩, f7⟩ := F
  exact ⟨f1.keep K, f2.keep K q, f3.keep K q, f4.keep K q, ⟨r, f5.keep K q', f6⟩, f7⟩
theorem Sb.lt (F : Sb Z h a b cs N) : a < h.size := F.1.lt
theorem Sb.ltb (F : Sb Z h a b cs N) : b < h.size := by obtain ⟨_, _, _, _, ⟨r, f5, -⟩, _⟩ := F; exact f5.lt
theorem Sb.le (F : Sb Z h a b cs N) : cs.length ≤ N := by obtain ⟨_, _, _, _, ⟨r, -, f6⟩, _⟩ := F; omega
theorem Sb.small (F : Sb Z h a b cs N) : N < 2147483648 := by obtain ⟨_, _, _, _, ⟨r, f5, f6⟩, _⟩ := F; have := f5.small; simp only [List.length_append, List.length_map] at this; omega
theorem put_str (cs ds : List Int32) (r : List Value) (hl : ds.length ≤ r.length) : (cs.map byt ++ r).take cs.length ++ ((ds.map byt).drop 0).take ds.length ++ (cs.map byt ++ r).drop (cs.length + ds.length) = (cs ++ ds).map byt ++ r.drop ds.length := by
  have e1 : (cs.map byt).length = cs.length := List.length_map _
  have e2 : (ds.map byt).length = ds.length := List.length_map _
  rw [List.take_append_of_le_length (by omega), List.take_of_length_le (by omega), List.drop_zero, List.take_of_length_le (by omega), List.map_append, ← e1, ← List.drop_drop, List.drop_left]
theorem put_chr (cs : List Int32) (x : Int32) (r : List Value) (hl : 1 ≤ r.length) : (cs.map byt ++ r).set cs.length (byt x) = (cs ++ [x]).map byt ++ r.drop 1 := by
  have e1 : (cs.map byt).length = cs.length := List.length_map _
  cases r with
  | nil => simp at hl
  | cons v r => rw [List.set_append_right _ _ (by omega), e1, Nat.sub_self]; simp
theorem keep2 {h2 : Heap} (K : Keep h h' [b]) (K' : Keep h' h2 [a]) : Keep h h2 [a, b] :=
  Keep.trans (ws := [a, b]) ⟨K.1, fun x c q r => K.2.1 x c q (fun z => r (by cases List.mem_singleton.mp z; simp)), K.2.2⟩ K' (by simp)
theorem keep2' {h2 : Heap} (K : Keep h h' [a]) (K' : Keep h' h2 [b]) : Keep h h2 [a, b] :=
  Keep.trans (ws := [a, b]) ⟨K.1, fun x c q r => K.2.1 x c q (fun z => r (by cases List.mem_singleton.mp z; simp)), K.2.2⟩ K' (by simp)
end Builder
end Jvm.Road
namespace Jvm.Road
open Jvm Jvm.ClassFile Sem Op Lib Jvm.Free Jvm.Stand Jvm.LawKit Jvm.RoadKit Bundle
/-- a method's class is no interface, by another method of the same class -/
theorem notFace_sib {args : Array Value} {s : State} {C : String} {y z : MethodName} (hsel : (Jvm.Cond.selects C y y).before args s = true) (e : z.cls = y.cls) : NotFace s z := fun r0 h0 => by
  obtain ⟨c2, r2, m2, q1, q2, q3, q4, kP, hkP, hkPi⟩ := Cond.selects_spec hsel
  have e1 := findClass_of_methodNamed h0
  have e2 := findClass_of_methodNamed q3
  rw [e] at e1
  have e3 := Option.some.inj (e1.symm.trans e2)
  exact ⟨kP, by rw [e3]; exact hkP, hkPi⟩
theorem same_of {args : Array Value} {s : State} {y : MethodName} (hi : (Jvm.Cond.instanceMethod y).before args s = true) (nf : NotFace s y) (hy : y.cls ≠ "java/lang/invoke/MethodHandle" ∧ y.cls ≠ "java/lang/invoke/VarHandle") : (Jvm.Cond.sameMethod y.cls y.cls y.name y.desc).before args s = true := by
  obtain ⟨mk, meth, hnamed, -⟩ := Cond.instanceMethod_spec hi
  have h1 := findClass_of_methodNamed hnamed
  have h2 := State.methodFound?_of_named hnamed hy
  obtain ⟨kr, hk, hni⟩ := nf _ hnamed
  simp [Cond.before, Cond.holds, Cond.value, h1, h2, hnamed, hk, hni]
section Calls2
variable {l : Launch} {Z : State} {a0 : Array Value} {EL : List (String × Nat)} {n0 : Nat} {kn : Bool} {B B' : Bdy} {D : Dyn} {Q Q' : Post} {h : Heap} {σ : Addr → Prop} {ce sl : Nat} {Ls : Array Slot} {st : List Value} {a : Addr}
/-- a private method by invokevirtual -/
theorem callP (pc : Nat) {ix : Nat} {argsL rest : List Value} (C : String) (W : Nat) (hd : decode B.bs pc = .ok (.invokevirtual ix, 3)) (w1 : (Jvm.Cond.methodLink B.y.cls ix B'.y).before a0 Z = true) (w2 : (Jvm.Cond.privateMethod B'.y).before a0 Z = true) (w5 : (Jvm.Cond.selects C B'.y B'.y).before a0 Z = true) (w6 : (Jvm.Cond.instanceMethod B'.y).before a0 Z = true) (w3 : (Jvm.Cond.initialized B'.y.cls).before a0 Z = true) (w4 : (Jvm.Cond.code B'.y B'.bs B'.ml B'.rt).before a0 Z = true) (hy : notMH B'.y)
    (E : Exa Z h a C) (hM : Con l Z EL n0 kn B' [] σ (.ref a :: argsL).toArray h Q') (hlen : ∀ sig, parseMethodDescriptor B'.y.desc = some sig → argsL.length = sig.parameters.length) (hst : st = argsL.reverse ++ .ref a :: rest) (hW : (rest.map fun v => v.category).sum = W) (hsz : Ls.size = B.ml)
    (hf : B'.rm.frames + 1 ≤ B.rm.frames) (hl : W + (B'.ml + 11) + B'.rm.locals ≤ B.rm.locals) {ce' sl' : Nat} (hce : ce + B'.rm.cells = ce') (hsl : sl + B'.rm.slots = sl') (hc : ce' ≤ B.rm.cells) (hs : sl' ≤ B.rm.slots)
    (r : ∀ v h' σ', (∀ x, σ x → σ' x) → Q' v h' σ' → Go l Z a0 EL n0 kn B D Q h' σ' ce' sl' (pc + 3) Ls (push v rest)) : Go l Z a0 EL n0 kn B D Q h σ ce sl pc Ls st := by
  subst hce hsl
  refine called W hM w4 w3 hf hl hc hs (fun T vm0 locs X h1 h4 h5 ok {Pre Pst} hB hpre => ?_) r
  obtain ⟨mk, methM, hnamed, hmethM, hstM, habM⟩ := Cond.instanceMethod_spec (mv (s := D.s.setVm vm0) (args := D.args) h4 w6)
  obtain ⟨methM', cM, hmethM', -, -, -, -, -, -, hsigM⟩ := Cond.code_spec hnamed (mv (s := D.s.setVm vm0) (args := D.args) h4 w4)
  cases hmethM.symm.trans hmethM'
  obtain ⟨c2, r2, m2, -, -, q3, -, kP, hkP, hkPi⟩ := Cond.selects_spec (mv (s := D.s.setVm vm0) (args := D.args) h4 w5)
  cases hnamed.symm.trans q3
  have hpriv := Cond.privateMethod_at (mvP (s := D.s.setVm vm0) (args := D.args) h4 w2)
  obtain ⟨cell, k, hcell, -, -, hns, -⟩ := E
  have hselP : selectMethod D.e.platform (D.s.setVm vm0).vm cell.cls mk = .method mk := selectMethod_private hmethM (hpriv mk methM hnamed hmethM)
  obtain ⟨vm₁, X₁, hstep₁⟩ := X.invokevirtual ok.1 (s := D.s.setVm vm0) h5 (mv (s := D.s.setVm vm0) h4 w1) hnamed hmethM hstM hkP hkPi hy (a := a) (cell := cell) (by rw [h1]; exact hcell) (fun q e => by rw [e] at hns; cases hns) hselP hmethM habM hkP hkPi (g := mkF D.m pc Ls st) rfl (argsL := argsL) (rest := rest) (hlen _ hsigM) hst (Jvm.hb ok.2.1 hd)
  obtain ⟨v, Bp, X', hS, hgr, hpost, hsteps⟩ := hB D.m D.meth D.c ⟨T.setVm vm₁, locs, ce, sl⟩ { mkF D.m pc Ls st with stack := rest } (.invokevirtual ix) mk (.ref a :: argsL).toArray X₁ rfl (hsz.trans ok.2.2.1.symm) (Jvm.hb ok.2.1 hd) (by show 2 * 0 + _ ≤ _; rw [hW]; omega) (X₁.named hnamed) (hpre vm₁ X₁.warmed)
  exact ⟨v, vm₁, Bp, X₁.warmed, X', hS, hgr, hpost, (hstep₁ _ fun acts => by rw [doInvoke_state]; exact Steps.refl _).trans hsteps⟩
/-- super.m(..) -/
theorem callUp (pc : Nat) {ix : Nat} {argsL rest : List Value} (C : String) (W : Nat) (hd : decode B.bs pc = .ok (.invokespecial ix, 3)) (w1 : (Jvm.Cond.methodLink B.y.cls ix B'.y).before a0 Z = true) (nf : NotFace Z B'.y) (w6 : (Jvm.Cond.instanceMethod B'.y).before a0 Z = true) (w7 : (Jvm.Cond.superclass B.y.cls B'.y.cls).before a0 Z = true) (w3 : (Jvm.Cond.initialized B'.y.cls).before a0 Z = true) (w4 : (Jvm.Cond.code B'.y B'.bs B'.ml B'.rt).before a0 Z = true) (hn : B'.y.name ≠ "<init>") (hy : notMH B'.y)
    (E : Exa Z h a C) (hM : Con l Z EL n0 kn B' [] σ (.ref a :: argsL).toArray h Q') (hlen : ∀ sig, parseMethodDescriptor B'.y.desc = some sig → argsL.length = sig.parameters.length) (hst : st = argsL.reverse ++ .ref a :: rest) (hW : (rest.map fun v => v.category).sum = W) (hsz : Ls.size = B.ml)
    (hf : B'.rm.frames + 1 ≤ B.rm.frames) (hl : W + (B'.ml + 11) + B'.rm.locals ≤ B.rm.locals) {ce' sl' : Nat} (hce : ce + B'.rm.cells = ce') (hsl : sl + B'.rm.slots = sl') (hc : ce' ≤ B.rm.cells) (hs : sl' ≤ B.rm.slots)
    (r : ∀ v h' σ', (∀ x, σ x → σ' x) → Q' v h' σ' → Go l Z a0 EL n0 kn B D Q h' σ' ce' sl' (pc + 3) Ls (push v rest)) : Go l Z a0 EL n0 kn B D Q h σ ce sl pc Ls st := by
  subst hce hsl
  exact called W hM w4 w3 hf hl hc hs (fun T vm0 locs X h1 h4 h5 ok {Pre Pst} hB hpre =>
    superBackS X ok.1 (s := D.s.setVm vm0) h4 h5 w1 (same_of w6 nf hy) w6 w7 hn hB h1 (Ins.self E) (g := mkF D.m pc Ls st) rfl (hsz.trans ok.2.2.1.symm) w4 (argsL := argsL) (rest := rest) hlen hst (by show 2 * 0 + _ ≤ _; rw [hW]; omega) (Jvm.hb ok.2.1 hd) hpre) r
end Calls2
end Jvm.Road
namespace Jvm.Road
open Jvm Jvm.ClassFile Sem Op Lib Jvm.Free Jvm.Stand Jvm.LawKit Jvm.RoadKit Bundle
/-- a digit's char -/
def dc (k : Nat) : Int32 := Nat.toInt32 (48 + k)
def decN (n : Nat) : List Int32 := if n < 10 then [dc n] else decN (n / 10) ++ [dc (n % 10)]
termination_by n
theorem decN_lt {n : Nat} (h : n < 10) : decN n = [dc n] := by rw [decN, if_pos h]
theorem decN_ge {n : Nat} (h : 10 ≤ n) : decN n = decN (n / 10) ++ [dc (n % 10)] := by rw [decN, if_neg (by omega)]
theorem decN_100 {n : Nat} (h : 100 ≤ n) : decN n = decN (n / 100) ++ [dc (n % 100 / 10), dc (n % 100 % 10)] := by
  rw [decN_ge (by omega), decN_ge (show 10 ≤ n / 10 by omega), List.append_assoc, Nat.div_div_eq_div_mul, show n / 10 % 10 = n % 100 / 10 by omega, show n % 10 = n % 100 % 10 by omega]; rfl
theorem decN_len : ∀ (k n : Nat), n < 10 ^ (k + 1) → (k = 0 ∨ 10 ^ k ≤ n) → (decN n).length = k + 1
  | 0, n, h, _ => by rw [decN_lt (by simpa using h)]; rfl
  | k + 1, n, h, q => by
    have q : 10 ^ (k + 1) ≤ n := q.resolve_left (by omega)
    have e : 10 ^ (k + 1 + 1) = 10 ^ (k + 1) * 10 := Nat.pow_succ ..
    have e2 : 10 ^ (k + 1) = 10 ^ k * 10 := Nat.pow_succ ..
    have e3 : 0 < 10 ^ k := Nat.pow_pos (by omega)
    rw [decN_ge (by omega), List.length_append, decN_len k (n / 10) (by omega) (by by_cases hk : k = 0; exact Or.inl hk; exact Or.inr (by omega))]; rfl
theorem decN_pos (n : Nat) : 1 ≤ (decN n).length := by
  rw [decN]; split
  · simp
  · simp
theorem dc_int {k : Nat} (h : k < 10) : (dc k).toInt = 48 + k := by unfold dc; rw [n32 (by omega)]; omega
theorem decN_lat (n : Nat) : ∀ c ∈ decN n, 0 ≤ c.toInt ∧ c.toInt < 256 := by
  induction n using Nat.strongRecOn with
  | _ n ih =>
    intro c hc
    by_cases h : n < 10
    · rw [decN_lt h] at hc; cases List.mem_singleton.mp hc; rw [dc_int h]; omega
    · rw [decN_ge (by omega)] at hc
      rcases List.mem_append.mp hc with q | q
      · exact ih _ (by omega) c q
      · cases List.mem_singleton.mp q; rw [dc_int (by omega)]; omega
theorem decN_get : ∀ (n i : Nat) (hi : i < (decN n).length), (decN n)[i] = dc (n / 10 ^ ((decN n).length - 1 - i) % 10) := by
  intro n
  induction n using Nat.strongRecOn with
  | _ n ih =>
    intro i hi
    by_cases h : n < 10
    · simp only [decN_lt h, List.length_singleton] at hi ⊢
      have : i = 0 := by omega
      subst this
      simp [Nat.mod_eq_of_lt h]
    · have e := decN_ge (show 10 ≤ n by omega)
      have hl : (decN n).length = (decN (n / 10)).length + 1 := by rw [e, List.length_append]; rfl
      by_cases hk : i < (decN (n / 10)).length
      · have h1 : (decN n)[i] = (decN (n / 10))[i] := by simp only [e]; rw [List.getElem_append_left hk]
        rw [h1, ih _ (by omega) i hk, hl]
        have e2 : (decN (n / 10)).length + 1 - 1 - i = ((decN (n / 10)).length - 1 - i) + 1 := by omega
        rw [e2, Nat.pow_succ, Nat.mul_comm, Nat.div_div_eq_div_mul]
      · have hi2 : i = (decN (n / 10)).length := by omega
        have h1 : (decN n)[i] = dc (n % 10) := by simp only [e]; rw [List.getElem_append_right (by omega)]; simp [hi2]
        rw [h1, hl, hi2]; simp
/-- an int in decimal -/
def dec (x : Int32) : List Int32 := if x.toInt < 0 then 45 :: decN x.toInt.natAbs else decN x.toInt.natAbs
theorem dec_lat (x : Int32) : ∀ c ∈ dec x, 0 ≤ c.toInt ∧ c.toInt < 256 := by
  intro c hc; unfold dec at hc; split at hc
  · rcases List.mem_cons.mp hc with q | q
    · rw [q]; decide
    · exact decN_lat _ c q
  · exact decN_lat _ c hc
theorem set_last (U T : List Value) (v : Value) (P : Nat) (h : U.length = P + 1) : (U ++ T).set P v = U.take P ++ v :: T := by
  rw [List.set_append_left _ _ (by omega), List.set_eq_take_append_cons_drop, if_pos (by omega), List.drop_of_length_le (by omega), List.append_assoc]; rfl
theorem put_wr (cs ds : List Int32) (r : List Value) (hl : ds.length ≤ r.length) : (cs.map byt ++ r).take cs.length ++ (ds.map byt ++ (cs.map byt ++ r).drop (cs.length + ds.length)) = (cs ++ ds).map byt ++ r.drop ds.length := by
  have e1 : (cs.map byt).length = cs.length := List.length_map _
  rw [List.take_append_of_le_length (by omega), List.take_of_length_le (by omega), List.map_append, ← e1, ← List.drop_drop, List.drop_left, List.append_assoc]
def OnesL : List Value := (List.range 100).map fun i => byt (dc (i % 10))
def TensL : List Value := (List.range 100).map fun i => byt (dc (i / 10))
theorem ones_at {k : Nat} (h : k < 100) : OnesL[k]? = some (byt (dc (k % 10))) := by unfold OnesL; rw [List.getElem?_map, List.getElem?_range h]; rfl
theorem tens_at {k : Nat} (h : k < 100) : TensL[k]? = some (byt (dc (k / 10))) := by unfold TensL; rw [List.getElem?_map, List.getElem?_range h]; rfl
theorem byt_dc {k : Nat} (h : k < 10) : byt (dc k) = .int (dc k) := (by decide +kernel : ∀ i : Fin 10, byt (dc i.1) = .int (dc i.1)) ⟨k, h⟩
theorem nar_dc {k : Nat} (h : k < 10) : nar .byte (dc k) = dc k := (by decide +kernel : ∀ i : Fin 10, nar .byte (dc i.1) = dc i.1) ⟨k, h⟩
theorem div100 {x : Int32} {m : Nat} (hm : m ≤ 2147483648) (hx : x.toInt = -(m : Int)) : (x / 100).toInt = -((m / 100 : Nat) : Int) := by
  rw [Int32.toInt_div, hx, show (100 : Int32).toInt = 100 from rfl, Int.neg_tdiv]
  rw [show (m : Int).tdiv 100 = ((m / 100 : Nat) : Int) by rw [Int.tdiv_eq_ediv_of_nonneg (by omega)]; omega]
  rw [Int.bmod_eq_of_le] <;> omega
theorem rem100 {x : Int32} {m : Nat} (hm : m ≤ 2147483648) (hx : x.toInt = -(m : Int)) : (x / 100 * 100 - x).toInt = ((m % 100 : Nat) : Int) := by
  have h1 := div100 hm hx
  rw [Int32.toInt_sub, Int32.toInt_mul, h1, hx, show (100 : Int32).toInt = 100 from rfl]
  rw [Int.bmod_eq_of_le (n := -((m / 100 : Nat) : Int) * 100) (by omega) (by omega)]
  rw [Int.bmod_eq_of_le] <;> omega
theorem neg_int {x : Int32} {m : Nat} (hm : m < 2147483648) (hx : x.toInt = -(m : Int)) : (-x).toInt = (m : Int) := by
  rw [Int32.toInt_neg, hx, Int.bmod_eq_of_le] <;> omega
theorem neg_nat {x : Int32} (hx : 0 ≤ x.toInt) : (-x).toInt = -((x.toInt.natAbs : Nat) : Int) := by
  have := Int32.toInt_lt x
  rw [Int32.toInt_neg, Int.bmod_eq_of_le] <;> omega
theorem nat_le (x : Int32) : x.toInt.natAbs ≤ 2147483648 := by
  have := Int32.toInt_lt x; have := Int32.le_toInt x; omega
theorem lt0 (x : Int32) : x < 0 ↔ x.toInt < 0 := by rw [Int32.lt_iff_toInt_lt]; rfl
theorem pred32 (i : Nat) : (i + 1).toInt32 + (-1) = i.toInt32 := by rw [← succ32, Int32.add_assoc]; exact Int32.add_zero _
theorem decN_le : ∀ (k n : Nat), n < 10 ^ (k + 1) → (decN n).length ≤ k + 1
  | 0, n, h => by rw [decN_lt (by simpa using h)]; exact Nat.le_refl _
  | k + 1, n, h => by
    by_cases q : n < 10
    · rw [decN_lt q]; simp
    · have e : 10 ^ (k + 1 + 1) = 10 ^ (k + 1) * 10 := Nat.pow_succ ..
      rw [decN_ge (by omega), List.length_append]
      have := decN_le k (n / 10) (by omega)
      simp only [List.length_singleton]; omega
theorem dec_le (x : Int32) : (dec x).length ≤ 11 := by
  have h := decN_le 9 x.toInt.natAbs (by have := nat_le x; omega)
  unfold dec; split
  · rw [List.length_cons]; omega
  · omega
theorem dec_pos (x : Int32) : 1 ≤ (dec x).length := by
  unfold dec; split
  · simp
  · exact decN_pos _
def PWL : List Value := [.long 1, .long 10, .long 100, .long 1000, .long 10000, .long 100000, .long 1000000, .long 10000000, .long 100000000, .long 1000000000]
def pw (e : Nat) : Int64 := Int64.ofNat (10 ^ e)
theorem pw_at {e : Nat} (h : e < 10) : PWL[e]? = some (.long (pw e)) := (fun | 0 => rfl | 1 => rfl | 2 => rfl | 3 => rfl | 4 => rfl | 5 => rfl | 6 => rfl | 7 => rfl | 8 => rfl | 9 => rfl : ∀ i : Fin 10, PWL[i.1]? = some (.long (pw i.1))) ⟨e, h⟩
theorem pw_int {e : Nat} (h : e < 10) : (pw e).toInt = ((10 ^ e : Nat) : Int) := (by decide +kernel : ∀ i : Fin 10, (pw i.1).toInt = ((10 ^ i.1 : Nat) : Int)) ⟨e, h⟩
theorem pw_ne {e : Nat} (h : e < 10) : pw e ≠ 0 := (by decide +kernel : ∀ i : Fin 10, pw i.1 ≠ 0) ⟨e, h⟩
theorem ldiv_nat {v w : Int64} {m k : Nat} (hm : m ≤ 2147483648) (hk : 0 < k) (hv : v.toInt = (m : Int)) (hw : w.toInt = (k : Int)) : (v / w).toInt = ((m / k : Nat) : Int) := by
  have hle : m / k ≤ m := Nat.div_le_self m k
  rw [Int64.toInt_div, hv, hw, Int.tdiv_eq_ediv_of_nonneg (by omega), ← Int.natCast_ediv]
  generalize m / k = c at *
  rw [Int.bmod_eq_of_le] <;> omega
theorem lrem_nat {v : Int64} {m : Nat} (hm : m ≤ 2147483648) (hv : v.toInt = (m : Int)) : (v - v / 10 * 10).toInt = ((m % 10 : Nat) : Int) := by
  have h1 := ldiv_nat (w := 10) (k := 10) hm (by omega) hv rfl
  rw [Int64.toInt_sub, Int64.toInt_mul, h1, hv, show (10 : Int64).toInt = 10 from rfl]
  rw [Int.bmod_eq_of_le (n := ((m / 10 : Nat) : Int) * 10) (by omega) (by omega)]
  rw [Int.bmod_eq_of_le] <;> omega
theorem l2i_nat {v : Int64} {m : Nat} (hm : m < 2147483648) (hv : v.toInt = (m : Int)) : v.toInt32 = Nat.toInt32 m := by
  apply Int32.toInt_inj.mp
  rw [n32 hm, Int64.toInt_toInt32, hv, Int.bmod_eq_of_le] <;> omega
theorem digit_char {k : Nat} (h : k < 10) : nar .char (chr ((48 : Int32) + Nat.toInt32 k)) = dc k := (by decide +kernel : ∀ i : Fin 10, nar .char (chr ((48 : Int32) + Nat.toInt32 i.1)) = dc i.1) ⟨k, h⟩
theorem i2l_int (x : Int32) : (Int32.toInt64 x).toInt = x.toInt := Int32.toInt_toInt64 x
theorem lneg_nat {v : Int64} {m : Nat} (hm : m ≤ 2147483648) (hv : v.toInt = -(m : Int)) : (-v).toInt = (m : Int) := by
  rw [Int64.toInt_neg, hv, Int.bmod_eq_of_le] <;> omega
end Jvm.Road
namespace Jvm.Road
open Jvm Jvm.ClassFile Sem Op Lib Jvm.Free Jvm.Stand Jvm.LawKit Jvm.RoadKit Bundle
section Boot
variable {Z : State} {a : Addr} {args a0 : Array Value}
theorem Ary.boot {C n d : String} {k : Int32} {vs : List Value} {body : Term} (ev : (Term.static C n d).eval args Z none [] Z = some (.ref a)) (hx : (Cond.exactly (Term.static C n d) "[B").value args Z none Z [] = some true)
    (wa : (Jvm.Cond.arrayClass .byte).before a0 Z = true) (hl : (Cond.eq (Term.length (Term.static C n d)) (Term.int k)).value args Z none Z [] = some true) (hn : k.toInt = vs.length)
    (hall : (Cond.all (Term.static C n d) (Cond.eq (Term.elem (Term.static C n d) (Term.index 0)) body)).value args Z none Z [] = some true)
    (hb : ∀ i, i < vs.length → ∃ w, vs[i]? = some (.int w) ∧ fits .byte (.int w) = true ∧ body.eval args Z none [i] Z = some (.int w)) : Ary Z Z.heap a .byte vs := by
  obtain ⟨c, e1, e2, e3⟩ := len_lt (eq_int_of hl) ev
  have e4 := (arrayAt_spec e1).1
  have e5 : c.slots.size = vs.length := by
    have : k.toInt = (c.slots.size : Int) := by
      injection e3 with q; rw [q]; exact len_toInt e2
    omega
  obtain ⟨cell, kk, g1, g2, g3, g4, -⟩ := Exa.start ev hx
  cases e4.symm.trans g1
  obtain ⟨cA, kA, comp, hfind, hk, hkind⟩ := Cond.arrayClass_spec wa
  have hfind : Z.vm.findClass "[B" = some cA := hfind
  cases g2.symm.trans hfind
  have A : Arr Z Z.heap a c .byte := ⟨e4, ⟨(fun q e => by rw [e] at g4; cases g4), kA, hk, comp, hkind⟩, arrayAt_known e1⟩
  have hat : ∀ i, i < vs.length → c.slots[i]? = vs[i]? ∧ ∃ w, vs[i]? = some (.int w) ∧ fits .byte (.int w) = true := fun i hi => by
    obtain ⟨w, w1, w2, w3⟩ := hb i hi
    have q := Cond.all_elim ev e1 hall i (by omega)
    obtain ⟨x, y, q1, q2, -, k2⟩ := cmp_v (Or.inl q)
    cases w3.symm.trans q2
    obtain ⟨z, rfl⟩ := k2
    have r := gotT (Cond.eq_ints q1 w3) q
    subst r
    have hj : (Term.index 0).eval args Z none [i] Z = some (.int (Nat.toInt32 i)) := rfl
    have ev' : (Term.static C n d).eval args Z none [i] Z = some (.ref a) := ev
    have := (elem_in q1 ev' hj e4).2
    rw [(ix_of (n32 (i := i) (by omega))).2] at this
    exact ⟨this.trans w1.symm, _, w1, w2⟩
  refine ⟨c, A, ?_, by omega, fun v hv => ?_⟩
  · apply List.ext_getElem?
    intro i
    by_cases hi : i < vs.length
    · rw [Array.getElem?_toList]; exact (hat i hi).1
    · rw [List.getElem?_eq_none (Nat.le_of_not_lt hi), List.getElem?_eq_none (by rw [Array.length_toList, e5]; exact Nat.le_of_not_lt hi)]
  · obtain ⟨i, hi, rfl⟩ := List.getElem_of_mem hv
    obtain ⟨-, w, w1, w2⟩ := hat i hi
    rw [List.getElem?_eq_getElem hi] at w1
    rw [Option.some.inj w1]; exact w2
theorem ones_boot : ∀ i, i < OnesL.length → ∃ w, OnesL[i]? = some (.int w) ∧ fits .byte (.int w) = true ∧ (Term.add (Term.int 48) (Term.rem (Term.index 0) (Term.int 10))).eval args Z none [i] Z = some (.int w) := fun i hi => by
  have hi : i < 100 := by simpa [OnesL] using hi
  refine ⟨dc (i % 10), by rw [ones_at hi, byt_dc (by omega)], (by decide +kernel : ∀ i : Fin 10, fits .byte (.int (dc i.1)) = true) ⟨i % 10, by omega⟩, ?_⟩
  simp only [Term.eval, List.getElem?_cons_zero, Option.map_some, Option.bind_eq_bind, Option.bind_some]
  have := (by decide +kernel : ∀ i : Fin 100, (48 : Int32) + (Nat.toInt32 i.1) % 10 = dc (i.1 % 10)) ⟨i, hi⟩
  simpa using this
theorem tens_boot : ∀ i, i < TensL.length → ∃ w, TensL[i]? = some (.int w) ∧ fits .byte (.int w) = true ∧ (Term.add (Term.int 48) (Term.div (Term.index 0) (Term.int 10))).eval args Z none [i] Z = some (.int w) := fun i hi => by
  have hi : i < 100 := by simpa [TensL] using hi
  refine ⟨dc (i / 10), by rw [tens_at hi, byt_dc (by omega)], (by decide +kernel : ∀ i : Fin 10, fits .byte (.int (dc i.1)) = true) ⟨i / 10, by omega⟩, ?_⟩
  simp only [Term.eval, List.getElem?_cons_zero, Option.map_some, Option.bind_eq_bind, Option.bind_some]
  have := (by decide +kernel : ∀ i : Fin 100, (48 : Int32) + (Nat.toInt32 i.1) / 10 = dc (i.1 / 10)) ⟨i, hi⟩
  simpa using this
end Boot
end Jvm.Road
namespace Jvm.Pilot.@@N@@
open Jvm Jvm.ClassFile Sem Op Lib Jvm.Free Jvm.Stand Jvm.LawKit Jvm.RoadKit Bundle Jvm.Pilot.@@N@@.Jvm.D
set_option maxRecDepth 65536
def bCmp5 : Road.Bdy := (⟨"java/lang/StringUTF16", "compress", "([CI[BII)I"⟩, jdk_52_method_21_code, 7, (some .int), { frames := 0, cells := 0, slots := 0, locals := 0 })
theorem bCmp5_d0 : decode bCmp5.bs 0 = .ok (.iconst 0, 1) := by decide +kernel
theorem bCmp5_d1 : decode bCmp5.bs 1 = .ok (.istore 5, 2) := by decide +kernel
theorem bCmp5_d3 : decode bCmp5.bs 3 = .ok (.iload 5, 2) := by decide +kernel
theorem bCmp5_d5 : decode bCmp5.bs 5 = .ok (.iload 4, 2) := by decide +kernel
theorem bCmp5_d7 : decode bCmp5.bs 7 = .ok (.if_icmp .ge 37, 3) := by decide +kernel
theorem bCmp5_d10 : decode bCmp5.bs 10 = .ok (.aload_n 0, 1) := by decide +kernel
theorem bCmp5_d11 : decode bCmp5.bs 11 = .ok (.iload_n 1, 1) := by decide +kernel
theorem bCmp5_d12 : decode bCmp5.bs 12 = .ok (.caload, 1) := by decide +kernel
theorem bCmp5_d13 : decode bCmp5.bs 13 = .ok (.istore 6, 2) := by decide +kernel
theorem bCmp5_d15 : decode bCmp5.bs 15 = .ok (.iload 6, 2) := by decide +kernel
theorem bCmp5_d17 : decode bCmp5.bs 17 = .ok (.sipush 255, 3) := by decide +kernel
theorem bCmp5_d20 : decode bCmp5.bs 20 = .ok (.if_icmp .le 6, 3) := by decide +kernel
theorem bCmp5_d23 : decode bCmp5.bs 23 = .ok (.iload 5, 2) := by decide +kernel
theorem bCmp5_d25 : decode bCmp5.bs 25 = .ok (.ireturn, 1) := by decide +kernel
theorem bCmp5_d26 : decode bCmp5.bs 26 = .ok (.aload_n 2, 1) := by decide +kernel
theorem bCmp5_d27 : decode bCmp5.bs 27 = .ok (.iload_n 3, 1) := by decide +kernel
theorem bCmp5_d28 : decode bCmp5.bs 28 = .ok (.iload 6, 2) := by decide +kernel
theorem bCmp5_d30 : decode bCmp5.bs 30 = .ok (.i2b, 1) := by decide +kernel
theorem bCmp5_d31 : decode bCmp5.bs 31 = .ok (.bastore, 1) := by decide +kernel
theorem bCmp5_d32 : decode bCmp5.bs 32 = .ok (.iinc 1 1, 3) := by decide +kernel
theorem bCmp5_d35 : decode bCmp5.bs 35 = .ok (.iinc 3 1, 3) := by decide +kernel
theorem bCmp5_d38 : decode bCmp5.bs 38 = .ok (.iinc 5 1, 3) := by decide +kernel
theorem bCmp5_d41 : decode bCmp5.bs 41 = .ok (.goto (-38), 3) := by decide +kernel
theorem bCmp5_d44 : decode bCmp5.bs 44 = .ok (.iload 4, 2) := by decide +kernel
theorem bCmp5_d46 : decode bCmp5.bs 46 = .ok (.ireturn, 1) := by decide +kernel
theorem bCmp5_pd : parseMethodDescriptor "([CI[BII)I" = some ⟨[(.array .char), .int, (.array .byte), .int, .int], (some .int)⟩ := by decide +kernel
theorem bCmp5_pn : plainFor bCmp5.y = true := plainFor_of_name (show plainName "java/lang/StringUTF16" = true from by first | (simp [plainName, overriddenIn]; done) | decide +kernel)
theorem cCmp5 (l : Launch) (Z : State) (a0 : Array Value) (hw : ∀ d ∈ tables_1, d.before a0 Z = true) (n0 : Nat) (hEW : EW Z a0 consts_1) (b d : Addr) (cs : List Int32) (h0 : Heap) (σ : Addr → Prop) (A : Road.Ary Z h0 b .char (cs.map .int)) (Dd : Road.Ary Z h0 d .byte (List.replicate cs.length (.int 0))) (hlat : ∀ c ∈ cs, 0 ≤ c.toInt ∧ c.toInt < 256) (hbd : b ≠ d) (sd : σ d) :
    Road.Con l Z consts_1 n0 false bCmp5 [] σ #[(.ref b), (.int (0 : Int32)), (.ref d), (.int (0 : Int32)), (.int (Nat.toInt32 cs.length))] h0 (fun v h2 _ => v = some (.int (Nat.toInt32 cs.length)) ∧ Keep h0 h2 [d] ∧ Road.Ary Z h2 d .byte (cs.map Road.byt)) := by
  refine Road.Con.of bCmp5_pn hEW #[.val (.ref b), .val (.int (0 : Int32)), .val (.ref d), .val (.int (0 : Int32)), .val (.int (Nat.toInt32 cs.length)), .unset, .unset] (fun m => Road.ent (Road.laid1 rfl (Road.laid1 rfl (Road.laid1 rfl (Road.laid1 rfl (Road.laid1 rfl Road.laid0))))) (k := 2) rfl rfl) ?_
  intro D hD
  have hn : cs.length < 2147483648 := by have := A.small; rwa [List.length_map] at this
  refine Road.iconst 0 (0 : Int32) bCmp5_d0 rfl ?_
  refine Road.istore 1 #[.val (.ref b), .val (.int (0 : Int32)), .val (.ref d), .val (.int (0 : Int32)), .val (.int (Nat.toInt32 cs.length)), .val (.int (0 : Int32)), .unset] bCmp5_d1 rfl ?_
  have loop : ∀ r k, k + r = cs.length → ∀ (h : Heap) (w : Slot), Road.W1 w → Keep h0 h [d] → Road.Ary Z h d .byte ((cs.take k).map Road.byt ++ List.replicate r (.int 0)) → Road.Go l Z a0 consts_1 n0 false bCmp5 D (fun v h2 _ => v = some (.int (Nat.toInt32 cs.length)) ∧ Keep h0 h2 [d] ∧ Road.Ary Z h2 d .byte (cs.map Road.byt)) h σ 0 0 3 #[.val (.ref b), .val (.int (Nat.toInt32 k)), .val (.ref d), .val (.int (Nat.toInt32 k)), .val (.int (Nat.toInt32 cs.length)), .val (.int (Nat.toInt32 k)), w] [] := by
    intro r
    induction r with
    | zero =>
      intro k hk h w hw1 K1 A1
      have hk' : k = cs.length := by omega
      subst hk'
      refine Road.iload 3 bCmp5_d3 rfl ?_
      refine Road.iload 5 bCmp5_d5 rfl ?_
      refine Road.icmp_ge 7 44 bCmp5_d7 rfl (fun hc7 => ?_) (fun q => absurd q Int32.lt_irrefl)
      refine Road.iload 44 bCmp5_d44 rfl ?_
      exact Road.iretI 46 bCmp5_d46 rfl (by decide) (by decide) (fun σ' m => ⟨rfl, K1, by simpa using A1⟩)
    | succ r ih =>
      intro k hk h w hw1 K1 A1
      have hk' : k < cs.length := by omega
      have hc := hlat _ (List.getElem_mem hk')
      have A2 := A.keep K1 (ninS hbd nin0)
      refine Road.iload 3 bCmp5_d3 rfl ?_
      refine Road.iload 5 bCmp5_d5 rfl ?_
      refine Road.icmp_ge 7 44 bCmp5_d7 rfl (fun q => absurd q (by rw [Decidable.not_not, Road.lt32 (by omega) hn]; omega)) (fun hc7 => ?_)
      refine Road.aloadN 10 bCmp5_d10 rfl ?_
      refine Road.iloadN 11 bCmp5_d11 rfl ?_
      refine Road.caload 12 k bCmp5_d12 A2 (Road.n32 (by omega)) (by rw [List.getElem?_map, List.getElem?_eq_getElem hk']; rfl) ?_
      refine Road.istore 13 #[.val (.ref b), .val (.int (Nat.toInt32 k)), .val (.ref d), .val (.int (Nat.toInt32 k)), .val (.int (Nat.toInt32 cs.length)), .val (.int (Nat.toInt32 k)), .val (.int cs[k])] bCmp5_d13 (by rcases hw1 with rfl | ⟨x, rfl⟩ <;> rfl) ?_
      refine Road.iload 15 bCmp5_d15 rfl ?_
      refine Road.sipush 17 (255 : Int32) bCmp5_d17 rfl ?_
      refine Road.icmp_le 20 26 bCmp5_d20 rfl (fun hc20 => ?_) (fun q => absurd q (by rw [Int32.lt_iff_toInt_lt]; have : (255 : Int32).toInt = 255 := rfl; omega))
      refine Road.aloadN 26 bCmp5_d26 rfl ?_
      refine Road.iloadN 27 bCmp5_d27 rfl ?_
      refine Road.iload 28 bCmp5_d28 rfl ?_
      refine Road.i2b 30 bCmp5_d30 ?_
      refine Road.bastore 31 k (Int8.toInt32 (Int32.toInt8 cs[k])) bCmp5_d31 A1 (Road.n32 (by omega)) (by simp; omega) (Road.nar_byte _) sd ?_
      intro h_1 K_2 A_3
      replace A1 := A_3
      refine Road.iinc 32 (1) #[.val (.ref b), .val (.int ((Nat.toInt32 k) + 1)), .val (.ref d), .val (.int (Nat.toInt32 k)), .val (.int (Nat.toInt32 cs.length)), .val (.int (Nat.toInt32 k)), .val (.int cs[k])] bCmp5_d32 rfl rfl rfl ?_
      refine Road.iinc 35 (1) #[.val (.ref b), .val (.int ((Nat.toInt32 k) + 1)), .val (.ref d), .val (.int ((Nat.toInt32 k) + 1)), .val (.int (Nat.toInt32 cs.length)), .val (.int (Nat.toInt32 k)), .val (.int cs[k])] bCmp5_d35 rfl rfl rfl ?_
      refine Road.iinc 38 (1) #[.val (.ref b), .val (.int ((Nat.toInt32 k) + 1)), .val (.ref d), .val (.int ((Nat.toInt32 k) + 1)), .val (.int (Nat.toInt32 cs.length)), .val (.int ((Nat.toInt32 k) + 1)), .val (.int cs[k])] bCmp5_d38 rfl rfl rfl ?_
      refine Road.goto 41 3 bCmp5_d41 rfl ?_
      rw [show (Value.int (Int8.toInt32 (Int32.toInt8 cs[k]))) = Road.byt cs[k] from rfl, Road.set_mid] at A1
      have := ih (k + 1) (by omega) h_1 (.val (.int cs[k])) (Or.inr ⟨_, rfl⟩) (K1.trans K_2 (by simp)) A1
      rw [← Road.succ32] at this
      exact this
  exact loop cs.length 0 (by omega) h0 .unset (Or.inl rfl) (Keep.refl _ _) (by simpa using Dd)
def bCfa : Road.Bdy := (⟨"java/lang/StringUTF16", "coderFromArrayLen", "([BI)B"⟩, jdk_52_method_15_code, 2, (some .byte), { frames := 0, cells := 0, slots := 0, locals := 0 })
theorem bCfa_d0 : decode bCfa.bs 0 = .ok (.iload_n 1, 1) := by decide +kernel
theorem bCfa_d1 : decode bCfa.bs 1 = .ok (.aload_n 0, 1) := by decide +kernel
theorem bCfa_d2 : decode bCfa.bs 2 = .ok (.arraylength, 1) := by decide +kernel
theorem bCfa_d3 : decode bCfa.bs 3 = .ok (.isub, 1) := by decide +kernel
theorem bCfa_d4 : decode bCfa.bs 4 = .ok (.bipush 31, 2) := by decide +kernel
theorem bCfa_d6 : decode bCfa.bs 6 = .ok (.iushr, 1) := by decide +kernel
theorem bCfa_d7 : decode bCfa.bs 7 = .ok (.i2b, 1) := by decide +kernel
theorem bCfa_d8 : decode bCfa.bs 8 = .ok (.ireturn, 1) := by decide +kernel
theorem bCfa_pd : parseMethodDescriptor "([BI)B" = some ⟨[(.array .byte), .int], (some .byte)⟩ := by decide +kernel
theorem bCfa_pn : plainFor bCfa.y = true := plainFor_of_name (show plainName "java/lang/StringUTF16" = true from by first | (simp [plainName, overriddenIn]; done) | decide +kernel)
theorem cCfa (l : Launch) (Z : State) (a0 : Array Value) (hw : ∀ d ∈ tables_1, d.before a0 Z = true) (n0 : Nat) (hEW : EW Z a0 consts_1) (d : Addr) (vs : List Value) (h0 : Heap) (σ : Addr → Prop) (A : Road.Ary Z h0 d .byte vs) :
    Road.Con l Z consts_1 n0 false bCfa [] σ #[(.ref d), (.int (Nat.toInt32 vs.length))] h0 (fun v h2 _ => v = some (.int 0) ∧ h0 = h2) := by
  refine Road.Con.of bCfa_pn hEW #[.val (.ref d), .val (.int (Nat.toInt32 vs.length))] (fun m => Road.ent (Road.laid1 rfl (Road.laid1 rfl Road.laid0)) (k := 0) rfl rfl) ?_
  intro D hD
  refine Road.iloadN 0 bCfa_d0 rfl ?_
  refine Road.aloadN 1 bCfa_d1 rfl ?_
  refine Road.alen 2 (Nat.toInt32 vs.length) bCfa_d2 A (n := vs.length) rfl rfl ?_
  refine Road.isub 3 bCfa_d3 ?_
  refine Road.bipush 4 (31 : Int32) bCfa_d4 rfl ?_
  refine Road.iushr 6 bCfa_d6 ?_
  refine Road.i2b 7 bCfa_d7 ?_
  exact Road.iret 8 0 bCfa_d8 (t := .byte) rfl (by simp) (by rw [Int32.sub_self]; rfl) (by decide) (by decide) (fun σ' m => ⟨rfl, rfl⟩)
def bCmp4 : Road.Bdy := (⟨"java/lang/StringUTF16", "compress", "([CII)[B"⟩, jdk_52_method_16_code, 6, (some (.array .byte)), { frames := 1, cells := 1, slots := 3, locals := 18 })
theorem bCmp4_d0 : decode bCmp4.bs 0 = .ok (.iload_n 2, 1) := by decide +kernel
theorem bCmp4_d1 : decode bCmp4.bs 1 = .ok (.newarray .byte, 2) := by decide +kernel
theorem bCmp4_d3 : decode bCmp4.bs 3 = .ok (.astore_n 3, 1) := by decide +kernel
theorem bCmp4_d4 : decode bCmp4.bs 4 = .ok (.aload_n 0, 1) := by decide +kernel
theorem bCmp4_d5 : decode bCmp4.bs 5 = .ok (.iload_n 1, 1) := by decide +kernel
theorem bCmp4_d6 : decode bCmp4.bs 6 = .ok (.aload_n 3, 1) := by decide +kernel
theorem bCmp4_d7 : decode bCmp4.bs 7 = .ok (.iconst 0, 1) := by decide +kernel
theorem bCmp4_d8 : decode bCmp4.bs 8 = .ok (.iload_n 2, 1) := by decide +kernel
theorem bCmp4_d9 : decode bCmp4.bs 9 = .ok (.invokestatic 115, 3) := by decide +kernel
theorem bCmp4_d12 : decode bCmp4.bs 12 = .ok (.istore 4, 2) := by decide +kernel
theorem bCmp4_d14 : decode bCmp4.bs 14 = .ok (.iload 4, 2) := by decide +kernel
theorem bCmp4_d16 : decode bCmp4.bs 16 = .ok (.iload_n 2, 1) := by decide +kernel
theorem bCmp4_d17 : decode bCmp4.bs 17 = .ok (.if_icmp .eq 40, 3) := by decide +kernel
theorem bCmp4_d20 : decode bCmp4.bs 20 = .ok (.aload_n 0, 1) := by decide +kernel
theorem bCmp4_d21 : decode bCmp4.bs 21 = .ok (.iload_n 1, 1) := by decide +kernel
theorem bCmp4_d22 : decode bCmp4.bs 22 = .ok (.iload_n 2, 1) := by decide +kernel
theorem bCmp4_d23 : decode bCmp4.bs 23 = .ok (.invokestatic 119, 3) := by decide +kernel
theorem bCmp4_d26 : decode bCmp4.bs 26 = .ok (.astore 5, 2) := by decide +kernel
theorem bCmp4_d28 : decode bCmp4.bs 28 = .ok (.aload 5, 2) := by decide +kernel
theorem bCmp4_d30 : decode bCmp4.bs 30 = .ok (.iload 4, 2) := by decide +kernel
theorem bCmp4_d32 : decode bCmp4.bs 32 = .ok (.invokestatic 71, 3) := by decide +kernel
theorem bCmp4_d35 : decode bCmp4.bs 35 = .ok (.sipush 255, 3) := by decide +kernel
theorem bCmp4_d38 : decode bCmp4.bs 38 = .ok (.if_icmp .gt 16, 3) := by decide +kernel
theorem bCmp4_d41 : decode bCmp4.bs 41 = .ok (.aload 5, 2) := by decide +kernel
theorem bCmp4_d43 : decode bCmp4.bs 43 = .ok (.iconst 0, 1) := by decide +kernel
theorem bCmp4_d44 : decode bCmp4.bs 44 = .ok (.aload_n 3, 1) := by decide +kernel
theorem bCmp4_d45 : decode bCmp4.bs 45 = .ok (.iconst 0, 1) := by decide +kernel
theorem bCmp4_d46 : decode bCmp4.bs 46 = .ok (.iload_n 2, 1) := by decide +kernel
theorem bCmp4_d47 : decode bCmp4.bs 47 = .ok (.invokestatic 123, 3) := by decide +kernel
theorem bCmp4_d50 : decode bCmp4.bs 50 = .ok (.iload_n 2, 1) := by decide +kernel
theorem bCmp4_d51 : decode bCmp4.bs 51 = .ok (.if_icmp .eq 6, 3) := by decide +kernel
theorem bCmp4_d54 : decode bCmp4.bs 54 = .ok (.aload 5, 2) := by decide +kernel
theorem bCmp4_d56 : decode bCmp4.bs 56 = .ok (.areturn, 1) := by decide +kernel
theorem bCmp4_d57 : decode bCmp4.bs 57 = .ok (.aload_n 3, 1) := by decide +kernel
theorem bCmp4_d58 : decode bCmp4.bs 58 = .ok (.areturn, 1) := by decide +kernel
theorem bCmp4_pd : parseMethodDescriptor "([CII)[B" = some ⟨[(.array .char), .int, .int], (some (.array .byte))⟩ := by decide +kernel
theorem bCmp4_pn : plainFor bCmp4.y = true := plainFor_of_name (show plainName "java/lang/StringUTF16" = true from by first | (simp [plainName, overriddenIn]; done) | decide +kernel)
theorem cCmp4 (l : Launch) (Z : State) (a0 : Array Value) (hw : ∀ d ∈ tables_1, d.before a0 Z = true) (n0 : Nat) (hEW : EW Z a0 consts_1) (b : Addr) (cs : List Int32) (h0 : Heap) (σ : Addr → Prop) (A : Road.Ary Z h0 b .char (cs.map .int)) (hcap : cs.length ≤ 3) (hlat : ∀ c ∈ cs, 0 ≤ c.toInt ∧ c.toInt < 256) :
    Road.Con l Z consts_1 n0 false bCmp4 [] σ #[(.ref b), (.int (0 : Int32)), (.int (Nat.toInt32 cs.length))] h0 (fun v h2 s2 => ∃ d, v = some (.ref d) ∧ h0.size ≤ d ∧ Keep h0 h2 [] ∧ s2 d ∧ Road.Ary Z h2 d .byte (cs.map Road.byt)) := by
  refine Road.Con.of bCmp4_pn hEW #[.val (.ref b), .val (.int (0 : Int32)), .val (.int (Nat.toInt32 cs.length)), .unset, .unset, .unset] (fun m => Road.ent (Road.laid1 rfl (Road.laid1 rfl (Road.laid1 rfl Road.laid0))) (k := 3) rfl rfl) ?_
  intro D hD
  refine Road.iloadN 0 bCmp4_d0 rfl ?_
  refine Road.newarray 1 .byte cs.length 3 bCmp4_d1 rfl (hw _ (List.mem_of_getElem? (i := 15) rfl)) (Road.n32 (by omega)) hcap (by decide) (ce' := 1) (sl' := 3) rfl rfl (by decide) (by decide) ?_
  intro d h_1 σ_2 g_3 K_4 lt_5 m_6 s_7 Ad
  have ne_b_d : b ≠ d := Nat.ne_of_lt (Nat.lt_of_lt_of_le A.lt (Nat.le_of_eq g_3.symm))
  replace A := A.keep K_4 nin0
  refine Road.astoreN 3 #[.val (.ref b), .val (.int (0 : Int32)), .val (.int (Nat.toInt32 cs.length)), .val (.ref d), .unset, .unset] bCmp4_d3 rfl ?_
  refine Road.aloadN 4 bCmp4_d4 rfl ?_
  refine Road.iloadN 5 bCmp4_d5 rfl ?_
  refine Road.aloadN 6 bCmp4_d6 rfl ?_
  refine Road.iconst 7 (0 : Int32) bCmp4_d7 rfl ?_
  refine Road.iloadN 8 bCmp4_d8 rfl ?_
  refine Road.callS (B' := bCmp5) 9 (argsL := [(.ref b), (.int (0 : Int32)), (.ref d), (.int (0 : Int32)), (.int (Nat.toInt32 cs.length))]) (rest := []) 0 bCmp4_d9 (hw _ (List.mem_of_getElem? (i := 221) rfl)) (hw _ (List.mem_of_getElem? (i := 222) rfl)) (hw _ (List.mem_of_getElem? (i := 219) rfl)) (hw _ (List.mem_of_getElem? (i := 223) rfl)) (by decide) (cCmp5 l Z a0 hw n0 hEW b d cs h_1 σ_2 A Ad hlat ne_b_d s_7) (lenOf bCmp5_pd rfl) rfl rfl rfl (by decide) (by decide) (ce' := 1) (sl' := 3) rfl rfl (by decide) (by decide) ?_
  rintro _ h_8 σ_9 m_10 ⟨rfl, K_11, Ad2⟩
  replace A := A.keep K_11 (ninS ne_b_d nin0)
  replace s_7 := m_10 _ s_7
  refine Road.istore 12 #[.val (.ref b), .val (.int (0 : Int32)), .val (.int (Nat.toInt32 cs.length)), .val (.ref d), .val (.int (Nat.toInt32 cs.length)), .unset] bCmp4_d12 rfl ?_
  refine Road.iload 14 bCmp4_d14 rfl ?_
  refine Road.iloadN 16 bCmp4_d16 rfl ?_
  refine Road.icmp_eq 17 57 bCmp4_d17 rfl (fun hc17 => ?_) (fun q => absurd q (by simp))
  refine Road.aloadN 57 bCmp4_d57 rfl ?_
  exact Road.aret 58 bCmp4_d58 (t := (.array .byte)) rfl rfl rfl (by decide) (by decide) (fun σ' m => ⟨d, rfl, Nat.le_of_eq g_3.symm, K_4.trans K_11 (by intro x hx; cases List.mem_singleton.mp hx; exact Or.inr (Nat.le_of_eq g_3.symm)), m _ s_7, Ad2⟩)
def bStr2 : Road.Bdy := (⟨"java/lang/String", "<init>", "([CIILjava/lang/Void;)V"⟩, jdk_42_method_149_code, 6, none, { frames := 2, cells := 4, slots := 8, locals := 39 })
theorem bStr2_d0 : decode bStr2.bs 0 = .ok (.aload_n 0, 1) := by decide +kernel
theorem bStr2_d1 : decode bStr2.bs 1 = .ok (.invokespecial 1, 3) := by decide +kernel
theorem bStr2_d4 : decode bStr2.bs 4 = .ok (.iload_n 3, 1) := by decide +kernel
theorem bStr2_d5 : decode bStr2.bs 5 = .ok (.ifCond .ne 22, 3) := by decide +kernel
theorem bStr2_d8 : decode bStr2.bs 8 = .ok (.aload_n 0, 1) := by decide +kernel
theorem bStr2_d9 : decode bStr2.bs 9 = .ok (.ldc 7, 2) := by decide +kernel
theorem bStr2_d11 : decode bStr2.bs 11 = .ok (.getfield 9, 3) := by decide +kernel
theorem bStr2_d14 : decode bStr2.bs 14 = .ok (.putfield 9, 3) := by decide +kernel
theorem bStr2_d17 : decode bStr2.bs 17 = .ok (.aload_n 0, 1) := by decide +kernel
theorem bStr2_d18 : decode bStr2.bs 18 = .ok (.ldc 7, 2) := by decide +kernel
theorem bStr2_d20 : decode bStr2.bs 20 = .ok (.getfield 15, 3) := by decide +kernel
theorem bStr2_d23 : decode bStr2.bs 23 = .ok (.putfield 15, 3) := by decide +kernel
theorem bStr2_d26 : decode bStr2.bs 26 = .ok (.return_, 1) := by decide +kernel
theorem bStr2_d27 : decode bStr2.bs 27 = .ok (.getstatic 38, 3) := by decide +kernel
theorem bStr2_d30 : decode bStr2.bs 30 = .ok (.ifCond .eq 28, 3) := by decide +kernel
theorem bStr2_d33 : decode bStr2.bs 33 = .ok (.aload_n 1, 1) := by decide +kernel
theorem bStr2_d34 : decode bStr2.bs 34 = .ok (.iload_n 2, 1) := by decide +kernel
theorem bStr2_d35 : decode bStr2.bs 35 = .ok (.iload_n 3, 1) := by decide +kernel
theorem bStr2_d36 : decode bStr2.bs 36 = .ok (.invokestatic 177, 3) := by decide +kernel
theorem bStr2_d39 : decode bStr2.bs 39 = .ok (.astore 5, 2) := by decide +kernel
theorem bStr2_d41 : decode bStr2.bs 41 = .ok (.aload_n 0, 1) := by decide +kernel
theorem bStr2_d42 : decode bStr2.bs 42 = .ok (.aload 5, 2) := by decide +kernel
theorem bStr2_d44 : decode bStr2.bs 44 = .ok (.iload_n 3, 1) := by decide +kernel
theorem bStr2_d45 : decode bStr2.bs 45 = .ok (.invokestatic 47, 3) := by decide +kernel
theorem bStr2_d48 : decode bStr2.bs 48 = .ok (.putfield 15, 3) := by decide +kernel
theorem bStr2_d51 : decode bStr2.bs 51 = .ok (.aload_n 0, 1) := by decide +kernel
theorem bStr2_d52 : decode bStr2.bs 52 = .ok (.aload 5, 2) := by decide +kernel
theorem bStr2_d54 : decode bStr2.bs 54 = .ok (.putfield 9, 3) := by decide +kernel
theorem bStr2_d57 : decode bStr2.bs 57 = .ok (.return_, 1) := by decide +kernel
theorem bStr2_d58 : decode bStr2.bs 58 = .ok (.aload_n 0, 1) := by decide +kernel
theorem bStr2_d59 : decode bStr2.bs 59 = .ok (.iconst 1, 1) := by decide +kernel
theorem bStr2_d60 : decode bStr2.bs 60 = .ok (.putfield 15, 3) := by decide +kernel
theorem bStr2_d63 : decode bStr2.bs 63 = .ok (.aload_n 0, 1) := by decide +kernel
theorem bStr2_d64 : decode bStr2.bs 64 = .ok (.aload_n 1, 1) := by decide +kernel
theorem bStr2_d65 : decode bStr2.bs 65 = .ok (.iload_n 2, 1) := by decide +kernel
theorem bStr2_d66 : decode bStr2.bs 66 = .ok (.iload_n 3, 1) := by decide +kernel
theorem bStr2_d67 : decode bStr2.bs 67 = .ok (.invokestatic 180, 3) := by decide +kernel
theorem bStr2_d70 : decode bStr2.bs 70 = .ok (.putfield 9, 3) := by decide +kernel
theorem bStr2_d73 : decode bStr2.bs 73 = .ok (.return_, 1) := by decide +kernel
theorem bStr2_pd : parseMethodDescriptor "([CIILjava/lang/Void;)V" = some ⟨[(.array .char), .int, .int, (.object "java/lang/Void")], none⟩ := by decide +kernel
theorem bStr2_pn : plainFor bStr2.y = true := plainFor_of_name (show plainName "java/lang/String" = true from by first | (simp [plainName, overriddenIn]; done) | decide +kernel)
theorem cStr2 (l : Launch) (Z : State) (a0 : Array Value) (hw : ∀ d ∈ tables_1, d.before a0 Z = true) (n0 : Nat) (hEW : EW Z a0 consts_1) (a b : Addr) (cs : List Int32) (h0 : Heap) (σ : Addr → Prop) (E : Exa Z h0 a Road.SN) (Fc : Fld Z h0 a Road.SN "coder" "B" (.int 0)) (Fv : Fld Z h0 a Road.SN "value" "[B" .null) (A : Road.Ary Z h0 b .char (cs.map .int)) (hcap : cs.length ≤ 3) (hlat : ∀ c ∈ cs, 0 ≤ c.toInt ∧ c.toInt < 256) (sa : σ a) (cp : Int32) (Hc : Sta Z Z.heap Road.SN "COMPACT_STRINGS" "Z" (.int cp)) (hcp : ¬ cp = 0) :
    Road.Con l Z consts_1 n0 false bStr2 [] σ #[(.ref a), (.ref b), (.int (0 : Int32)), (.int (Nat.toInt32 cs.length)), .null] h0 (fun v h2 s2 => v = none ∧ Keep h0 h2 [a] ∧ ∃ d, Road.Str Z h2 a d cs ∧ ∀ x, σ x → x ≠ d) := by
  have wS : ∀ d ∈ Bundle.stringAtoms, d.before a0 Z = true := fun d hd => hw d ((by decide +kernel : ∀ d ∈ Bundle.stringAtoms, d ∈ tables_1) d hd)
  have nab : a ≠ b := by obtain ⟨c, Ar, -⟩ := A; exact ne_arr E (hw _ (List.mem_of_getElem? (i := 2) rfl)) Ar
  refine Road.Con.of bStr2_pn hEW #[.val (.ref a), .val (.ref b), .val (.int (0 : Int32)), .val (.int (Nat.toInt32 cs.length)), .val .null, .unset] (fun m => Road.ent (Road.laid1 rfl (Road.laid1 rfl (Road.laid1 rfl (Road.laid1 rfl (Road.laid1 rfl Road.laid0))))) (k := 1) rfl rfl) ?_
  intro D hD
  refine Road.Go.ownAll ?_
  intro hall
  refine Road.aloadN 0 bStr2_d0 rfl ?_
  refine Road.initObj 1 bStr2_d1 (hw _ (List.mem_of_getElem? (i := 11) rfl)) (hw _ (List.mem_of_getElem? (i := 12) rfl)) (hw _ (List.mem_of_getElem? (i := 13) rfl)) 0 rfl rfl (by decide) (by decide) ?_
  refine Road.iloadN 4 bStr2_d4 rfl ?_
  refine Road.if_ne 5 27 bStr2_d5 rfl (fun hc5 => ?_) (fun hc5 => ?_)
  · skip
    refine Road.getstatic 27 bStr2_d27 (hw _ (List.mem_of_getElem? (i := 81) rfl)) Via.refl Hc ?_
    refine Road.if_eq 30 58 bStr2_d30 rfl (fun q => absurd q hcp) (fun hc30 => ?_)
    refine Road.aloadN 33 bStr2_d33 rfl ?_
    refine Road.iloadN 34 bStr2_d34 rfl ?_
    refine Road.iloadN 35 bStr2_d35 rfl ?_
    refine Road.callS (B' := bCmp4) 36 (argsL := [(.ref b), (.int (0 : Int32)), (.int (Nat.toInt32 cs.length))]) (rest := []) 0 bStr2_d36 (hw _ (List.mem_of_getElem? (i := 217) rfl)) (hw _ (List.mem_of_getElem? (i := 218) rfl)) (hw _ (List.mem_of_getElem? (i := 219) rfl)) (hw _ (List.mem_of_getElem? (i := 220) rfl)) (by decide) (cCmp4 l Z a0 hw n0 hEW b cs h0 σ A hcap hlat) (lenOf bCmp4_pd rfl) rfl rfl rfl (by decide) (by decide) (ce' := 1) (sl' := 3) rfl rfl (by decide) (by decide) ?_
    rintro _ h_1 σ_2 m_3 ⟨d, rfl, gd, K_4, sd, Ad⟩
    have ne_a_d : a ≠ d := Nat.ne_of_lt (Nat.lt_of_lt_of_le E.lt gd)
    have ne_b_d : b ≠ d := Nat.ne_of_lt (Nat.lt_of_lt_of_le A.lt gd)
    replace E := E.keep K_4
    replace Fc := Fc.keep K_4 nin0
    replace Fv := Fv.keep K_4 nin0
    replace A := A.keep K_4 nin0
    replace sa := m_3 _ sa
    refine Road.astore 39 #[.val (.ref a), .val (.ref b), .val (.int (0 : Int32)), .val (.int (Nat.toInt32 cs.length)), .val .null, .val (.ref d)] bStr2_d39 rfl ?_
    refine Road.aloadN 41 bStr2_d41 rfl ?_
    refine Road.aload 42 bStr2_d42 rfl ?_
    refine Road.iloadN 44 bStr2_d44 rfl ?_
    have hlm : (cs.map Road.byt).length = cs.length := List.length_map _
    refine Road.callS (B' := bCfa) 45 (argsL := [(.ref d), (.int (Nat.toInt32 cs.length))]) (rest := [(.ref a)]) 1 bStr2_d45 (hw _ (List.mem_of_getElem? (i := 224) rfl)) (hw _ (List.mem_of_getElem? (i := 225) rfl)) (hw _ (List.mem_of_getElem? (i := 219) rfl)) (hw _ (List.mem_of_getElem? (i := 226) rfl)) (by decide) (by rw [← List.length_map (f := Road.byt) (as := cs)]; exact cCfa l Z a0 hw n0 hEW d (cs.map Road.byt) h_1 σ_2 Ad) (lenOf bCfa_pd rfl) rfl rfl rfl (by decide) (by decide) (ce' := 1) (sl' := 3) rfl rfl (by decide) (by decide) ?_
    rintro _ h_5 σ_6 m_7 ⟨rfl, rfl⟩
    refine Road.Go.weaken (σ' := σ_2) m_7 (Nat.le_refl _) (Nat.le_refl _) ?_
    refine Road.putfield 48 bStr2_d48 (hw _ (List.mem_of_getElem? (i := 21) rfl)) Via.refl Fc E (Or.inr ⟨(hw _ (List.mem_of_getElem? (i := 17) rfl)), rfl, rfl⟩) (hw _ (List.mem_of_getElem? (i := 2) rfl)) (ty := .byte) (by decide) rfl rfl sa ?_
    intro h_11 W_9 K_10
    replace Fc := Fc.same W_9
    replace Fv := Fv.other W_9 (Or.inr (slot_ne (Or.inr (hw _ (List.mem_of_getElem? (i := 16) rfl))) (Or.inr (hw _ (List.mem_of_getElem? (i := 17) rfl))) (by decide) (t := (.array .byte)) (by decide) (t' := .byte) (by decide)))
    replace E := E.keep K_10
    replace A := A.keep K_10 (ninS (Ne.symm nab) nin0)
    replace Ad := Ad.keep K_10 (ninS (Ne.symm ne_a_d) nin0)
    refine Road.aloadN 51 bStr2_d51 rfl ?_
    refine Road.aload 52 bStr2_d52 rfl ?_
    refine Road.putfield 54 bStr2_d54 (hw _ (List.mem_of_getElem? (i := 20) rfl)) Via.refl Fv E (Or.inr ⟨(hw _ (List.mem_of_getElem? (i := 16) rfl)), rfl, rfl⟩) (hw _ (List.mem_of_getElem? (i := 2) rfl)) (ty := (.array .byte)) (by decide) rfl rfl sa ?_
    intro h_14 W_12 K_13
    replace Fv := Fv.same W_12
    replace Fc := Fc.other W_12 (Or.inr (slot_ne (Or.inr (hw _ (List.mem_of_getElem? (i := 17) rfl))) (Or.inr (hw _ (List.mem_of_getElem? (i := 16) rfl))) (by decide) (t := .byte) (by decide) (t' := (.array .byte)) (by decide)))
    replace E := E.keep K_13
    replace A := A.keep K_13 (ninS (Ne.symm nab) nin0)
    replace Ad := Ad.keep K_13 (ninS (Ne.symm ne_a_d) nin0)
    exact Road.ret 57 bStr2_d57 rfl (by decide) (by decide) (fun σ' m => ⟨rfl, ((Road.keep_more K_4).trans K_10 (by simp)).trans K_13 (by simp), d, ⟨E, Fc, Fv, Ad, hlat⟩, fun x hx => Nat.ne_of_lt (Nat.lt_of_lt_of_le (hall x hx).2 gd)⟩)
  · skip
    have hc0 : cs = [] := List.eq_nil_of_length_eq_zero (by have := (Road.eq32 (i := cs.length) (j := 0) (by omega) (by omega)).mp hc5; exact this)
    subst hc0
    refine Road.aloadN 8 bStr2_d8 rfl ?_
    refine Road.ldcS 9 "" [] 0 bStr2_d9 (hw _ (List.mem_of_getElem? (i := 14) rfl)) wS (List.mem_of_getElem? (i := 1) rfl) (by decide) (by decide +kernel) (by decide) (by decide) (by decide) (ce' := 2) (sl' := 4) rfl rfl (by decide) (by decide) ?_
    intro a1 b1 h_15 σ_16 K_17 m_18 S1 q_19
    replace E := E.keep K_17
    replace Fc := Fc.keep K_17 nin0
    replace Fv := Fv.keep K_17 nin0
    replace A := A.keep K_17 nin0
    replace sa := m_18 _ sa
    have ne_a_a1 : a ≠ a1 := (q_19 a sa).1
    have ne_a_b1 : a ≠ b1 := (q_19 a sa).2
    refine Road.getfield 11 bStr2_d11 (hw _ (List.mem_of_getElem? (i := 20) rfl)) Via.refl S1.2.2.1 ?_
    refine Road.putfield 14 bStr2_d14 (hw _ (List.mem_of_getElem? (i := 20) rfl)) Via.refl Fv E (Or.inr ⟨(hw _ (List.mem_of_getElem? (i := 16) rfl)), rfl, rfl⟩) (hw _ (List.mem_of_getElem? (i := 2) rfl)) (ty := (.array .byte)) (by decide) rfl rfl sa ?_
    intro h_22 W_20 K_21
    replace Fv := Fv.same W_20
    replace Fc := Fc.other W_20 (Or.inr (slot_ne (Or.inr (hw _ (List.mem_of_getElem? (i := 17) rfl))) (Or.inr (hw _ (List.mem_of_getElem? (i := 16) rfl))) (by decide) (t := .byte) (by decide) (t' := (.array .byte)) (by decide)))
    replace E := E.keep K_21
    replace A := A.keep K_21 (ninS (Ne.symm nab) nin0)
    replace S1 := S1.keep K_21 (ninS (Ne.symm ne_a_a1) nin0) (ninS (Ne.symm ne_a_b1) nin0)
    refine Road.aloadN 17 bStr2_d17 rfl ?_
    refine Road.ldcS 18 "" [] 0 bStr2_d18 (hw _ (List.mem_of_getElem? (i := 14) rfl)) wS (List.mem_of_getElem? (i := 1) rfl) (by decide) (by decide +kernel) (by decide) (by decide) (by decide) (ce' := 4) (sl' := 8) rfl rfl (by decide) (by decide) ?_
    intro a2 b2 h_23 σ_24 K_25 m_26 S2 q_27
    replace E := E.keep K_25
    replace Fc := Fc.keep K_25 nin0
    replace Fv := Fv.keep K_25 nin0
    replace A := A.keep K_25 nin0
    replace S1 := S1.keep K_25 nin0 nin0
    replace sa := m_26 _ sa
    have ne_a_a2 : a ≠ a2 := (q_27 a sa).1
    have ne_a_b2 : a ≠ b2 := (q_27 a sa).2
    refine Road.getfield 20 bStr2_d20 (hw _ (List.mem_of_getElem? (i := 21) rfl)) Via.refl S2.2.1 ?_
    refine Road.putfield 23 bStr2_d23 (hw _ (List.mem_of_getElem? (i := 21) rfl)) Via.refl Fc E (Or.inr ⟨(hw _ (List.mem_of_getElem? (i := 17) rfl)), rfl, rfl⟩) (hw _ (List.mem_of_getElem? (i := 2) rfl)) (ty := .byte) (by decide) rfl rfl sa ?_
    intro h_30 W_28 K_29
    replace Fc := Fc.same W_28
    replace Fv := Fv.other W_28 (Or.inr (slot_ne (Or.inr (hw _ (List.mem_of_getElem? (i := 16) rfl))) (Or.inr (hw _ (List.mem_of_getElem? (i := 17) rfl))) (by decide) (t := (.array .byte)) (by decide) (t' := .byte) (by decide)))
    replace E := E.keep K_29
    replace A := A.keep K_29 (ninS (Ne.symm nab) nin0)
    replace S1 := S1.keep K_29 (ninS (Ne.symm ne_a_a1) nin0) (ninS (Ne.symm ne_a_b1) nin0)
    replace S2 := S2.keep K_29 (ninS (Ne.symm ne_a_a2) nin0) (ninS (Ne.symm ne_a_b2) nin0)
    exact Road.ret 26 bStr2_d26 rfl (by decide) (by decide) (fun σ' m => ⟨rfl, (((((Road.keep_more K_17).trans K_21 (by simp)).trans K_25 (by simp)).trans K_29 (by simp))), b1, ⟨E, Fc, Fv, S1.2.2.2.1, S1.2.2.2.2⟩, fun x hx => (q_19 x (m_18 x hx)).2⟩)
def bStr1 : Road.Bdy := (⟨"java/lang/String", "<init>", "([C)V"⟩, jdk_42_method_3_code, 2, none, { frames := 3, cells := 4, slots := 8, locals := 56 })
theorem bStr1_d0 : decode bStr1.bs 0 = .ok (.aload_n 0, 1) := by decide +kernel
theorem bStr1_d1 : decode bStr1.bs 1 = .ok (.aload_n 1, 1) := by decide +kernel
theorem bStr1_d2 : decode bStr1.bs 2 = .ok (.iconst 0, 1) := by decide +kernel
theorem bStr1_d3 : decode bStr1.bs 3 = .ok (.aload_n 1, 1) := by decide +kernel
theorem bStr1_d4 : decode bStr1.bs 4 = .ok (.arraylength, 1) := by decide +kernel
theorem bStr1_d5 : decode bStr1.bs 5 = .ok (.aconst_null, 1) := by decide +kernel
theorem bStr1_d6 : decode bStr1.bs 6 = .ok (.invokespecial 27, 3) := by decide +kernel
theorem bStr1_d9 : decode bStr1.bs 9 = .ok (.return_, 1) := by decide +kernel
theorem bStr1_pd : parseMethodDescriptor "([C)V" = some ⟨[(.array .char)], none⟩ := by decide +kernel
theorem bStr1_pn : plainFor bStr1.y = true := plainFor_of_name (show plainName "java/lang/String" = true from by first | (simp [plainName, overriddenIn]; done) | decide +kernel)
theorem cStr1 (l : Launch) (Z : State) (a0 : Array Value) (hw : ∀ d ∈ tables_1, d.before a0 Z = true) (n0 : Nat) (hEW : EW Z a0 consts_1) (a b : Addr) (cs : List Int32) (h0 : Heap) (σ : Addr → Prop) (E : Exa Z h0 a Road.SN) (Fc : Fld Z h0 a Road.SN "coder" "B" (.int 0)) (Fv : Fld Z h0 a Road.SN "value" "[B" .null) (A : Road.Ary Z h0 b .char (cs.map .int)) (hcap : cs.length ≤ 3) (hlat : ∀ c ∈ cs, 0 ≤ c.toInt ∧ c.toInt < 256) (sa : σ a) (cp : Int32) (Hc : Sta Z Z.heap Road.SN "COMPACT_STRINGS" "Z" (.int cp)) (hcp : ¬ cp = 0) :
    Road.Con l Z consts_1 n0 false bStr1 [] σ #[(.ref a), (.ref b)] h0 (fun v h2 s2 => v = none ∧ Keep h0 h2 [a] ∧ ∃ d, Road.Str Z h2 a d cs ∧ ∀ x, σ x → x ≠ d) := by
  refine Road.Con.of bStr1_pn hEW #[.val (.ref a), .val (.ref b)] (fun m => Road.ent (Road.laid1 rfl (Road.laid1 rfl Road.laid0)) (k := 0) rfl rfl) ?_
  intro D hD
  refine Road.aloadN 0 bStr1_d0 rfl ?_
  refine Road.aloadN 1 bStr1_d1 rfl ?_
  refine Road.iconst 2 (0 : Int32) bStr1_d2 rfl ?_
  refine Road.aloadN 3 bStr1_d3 rfl ?_
  refine Road.alen 4 (Nat.toInt32 cs.length) bStr1_d4 A (n := cs.length) (List.length_map _) rfl ?_
  refine Road.aconstNull 5 bStr1_d5 ?_
  refine Road.callI (B' := bStr2) (a := a) 6 (argsL := [(.ref b), (.int (0 : Int32)), (.int (Nat.toInt32 cs.length)), .null]) (rest := []) 0 bStr1_d6 (hw _ (List.mem_of_getElem? (i := 7) rfl)) (hw _ (List.mem_of_getElem? (i := 8) rfl)) (hw _ (List.mem_of_getElem? (i := 3) rfl)) (hw _ (List.mem_of_getElem? (i := 10) rfl)) rfl rfl (by decide) (cStr2 l Z a0 hw n0 hEW a b cs h0 σ E Fc Fv A hcap hlat sa cp Hc hcp) (lenOf bStr2_pd rfl) rfl rfl rfl (by decide) (by decide) (ce' := 4) (sl' := 8) rfl rfl (by decide) (by decide) ?_
  rintro _ h_1 σ_2 m_3 ⟨rfl, K_4, d, S, hd⟩
  exact Road.ret 9 bStr1_d9 rfl (by decide) (by decide) (fun σ' m => ⟨rfl, K_4, d, S, hd⟩)
def bCod : Road.Bdy := (⟨"java/lang/String", "coder", "()B"⟩, jdk_42_method_152_code, 1, (some .byte), { frames := 0, cells := 0, slots := 0, locals := 0 })
theorem bCod_d0 : decode bCod.bs 0 = .ok (.getstatic 38, 3) := by decide +kernel
theorem bCod_d3 : decode bCod.bs 3 = .ok (.ifCond .eq 10, 3) := by decide +kernel
theorem bCod_d6 : decode bCod.bs 6 = .ok (.aload_n 0, 1) := by decide +kernel
theorem bCod_d7 : decode bCod.bs 7 = .ok (.getfield 15, 3) := by decide +kernel
theorem bCod_d10 : decode bCod.bs 10 = .ok (.goto 4, 3) := by decide +kernel
theorem bCod_d13 : decode bCod.bs 13 = .ok (.iconst 1, 1) := by decide +kernel
theorem bCod_d14 : decode bCod.bs 14 = .ok (.ireturn, 1) := by decide +kernel
theorem bCod_pd : parseMethodDescriptor "()B" = some ⟨[], (some .byte)⟩ := by decide +kernel
theorem bCod_pn : plainFor bCod.y = true := plainFor_of_name (show plainName "java/lang/String" = true from by first | (simp [plainName, overriddenIn]; done) | decide +kernel)
theorem cCod (l : Launch) (Z : State) (a0 : Array Value) (hw : ∀ d ∈ tables_1, d.before a0 Z = true) (n0 : Nat) (hEW : EW Z a0 consts_1) (a : Addr) (h0 : Heap) (σ : Addr → Prop) (Fc : Fld Z h0 a Road.SN "coder" "B" (.int 0)) (cp : Int32) (Hc : Sta Z Z.heap Road.SN "COMPACT_STRINGS" "Z" (.int cp)) (hcp : ¬ cp = 0) :
    Road.Con l Z consts_1 n0 false bCod [] σ #[(.ref a)] h0 (fun v h2 _ => v = some (.int 0) ∧ h0 = h2) := by
  refine Road.Con.of bCod_pn hEW #[.val (.ref a)] (fun m => Road.ent (Road.laid1 rfl Road.laid0) (k := 0) rfl rfl) ?_
  intro D hD
  refine Road.getstatic 0 bCod_d0 (hw _ (List.mem_of_getElem? (i := 81) rfl)) Via.refl Hc ?_
  refine Road.if_eq 3 13 bCod_d3 rfl (fun q => absurd q hcp) (fun hc3 => ?_)
  refine Road.aloadN 6 bCod_d6 rfl ?_
  refine Road.getfield 7 bCod_d7 (hw _ (List.mem_of_getElem? (i := 21) rfl)) Via.refl Fc ?_
  refine Road.goto 10 14 bCod_d10 rfl ?_
  exact Road.iret 14 0 bCod_d14 (t := .byte) rfl (by simp) rfl (by decide) (by decide) (fun σ' m => ⟨rfl, rfl⟩)
def bLen : Road.Bdy := (⟨"java/lang/String", "length", "()I"⟩, jdk_42_method_54_code, 1, (some .int), { frames := 1, cells := 0, slots := 0, locals := 13 })
theorem bLen_d0 : decode bLen.bs 0 = .ok (.aload_n 0, 1) := by decide +kernel
theorem bLen_d1 : decode bLen.bs 1 = .ok (.getfield 9, 3) := by decide +kernel
theorem bLen_d4 : decode bLen.bs 4 = .ok (.arraylength, 1) := by decide +kernel
theorem bLen_d5 : decode bLen.bs 5 = .ok (.aload_n 0, 1) := by decide +kernel
theorem bLen_d6 : decode bLen.bs 6 = .ok (.invokevirtual 335, 3) := by decide +kernel
theorem bLen_d9 : decode bLen.bs 9 = .ok (.ishr, 1) := by decide +kernel
theorem bLen_d10 : decode bLen.bs 10 = .ok (.ireturn, 1) := by decide +kernel
theorem bLen_pd : parseMethodDescriptor "()I" = some ⟨[], (some .int)⟩ := by decide +kernel
theorem bLen_pn : plainFor bLen.y = true := plainFor_of_name (show plainName "java/lang/String" = true from by first | (simp [plainName, overriddenIn]; done) | decide +kernel)
theorem cLen (l : Launch) (Z : State) (a0 : Array Value) (hw : ∀ d ∈ tables_1, d.before a0 Z = true) (n0 : Nat) (hEW : EW Z a0 consts_1) (a b : Addr) (cs : List Int32) (h0 : Heap) (σ : Addr → Prop) (S : Road.Str Z h0 a b cs) (cp : Int32) (Hc : Sta Z Z.heap Road.SN "COMPACT_STRINGS" "Z" (.int cp)) (hcp : ¬ cp = 0) :
    Road.Con l Z consts_1 n0 false bLen [] σ #[(.ref a)] h0 (fun v h2 _ => v = some (.int (Nat.toInt32 cs.length)) ∧ h0 = h2) := by
  refine Road.Con.of bLen_pn hEW #[.val (.ref a)] (fun m => Road.ent (Road.laid1 rfl Road.laid0) (k := 0) rfl rfl) ?_
  intro D hD
  refine Road.aloadN 0 bLen_d0 rfl ?_
  refine Road.getfield 1 bLen_d1 (hw _ (List.mem_of_getElem? (i := 20) rfl)) Via.refl S.2.2.1 ?_
  refine Road.alen 4 (Nat.toInt32 cs.length) bLen_d4 S.2.2.2.1 (n := cs.length) (List.length_map _) rfl ?_
  refine Road.aloadN 5 bLen_d5 rfl ?_
  refine Road.callV (B' := bCod) (a := a) 6 (argsL := []) (rest := [(.int (Nat.toInt32 cs.length))]) "java/lang/String" 1 bLen_d6 (hw _ (List.mem_of_getElem? (i := 76) rfl)) (hw _ (List.mem_of_getElem? (i := 77) rfl)) (fun vm hz => Road.notFace_sib (args := #[]) (mv (s := D.s.setVm vm) hz (hw _ (List.mem_of_getElem? (i := 74) rfl))) rfl) (hw _ (List.mem_of_getElem? (i := 79) rfl)) (hw _ (List.mem_of_getElem? (i := 78) rfl)) (hw _ (List.mem_of_getElem? (i := 3) rfl)) (hw _ (List.mem_of_getElem? (i := 80) rfl)) (by decide) S.1 (cCod l Z a0 hw n0 hEW a h0 σ S.2.1 cp Hc hcp) (lenOf bCod_pd rfl) rfl rfl rfl (by decide) (by decide) (ce' := 0) (sl' := 0) rfl rfl (by decide) (by decide) ?_
  rintro _ h_1 σ_2 m_3 ⟨rfl, rfl⟩
  refine Road.Go.weaken (σ' := σ) m_3 (Nat.le_refl _) (Nat.le_refl _) ?_
  refine Road.ishr 9 bLen_d9 ?_
  exact Road.iretI 10 bLen_d10 rfl (by decide) (by decide) (fun σ' m => ⟨by rw [Road.shr0], rfl⟩)
def bIsL : Road.Bdy := (⟨"java/lang/String", "isLatin1", "()Z"⟩, jdk_42_method_154_code, 1, (some .boolean), { frames := 0, cells := 0, slots := 0, locals := 0 })
theorem bIsL_d0 : decode bIsL.bs 0 = .ok (.getstatic 38, 3) := by decide +kernel
theorem bIsL_d3 : decode bIsL.bs 3 = .ok (.ifCond .eq 14, 3) := by decide +kernel
theorem bIsL_d6 : decode bIsL.bs 6 = .ok (.aload_n 0, 1) := by decide +kernel
theorem bIsL_d7 : decode bIsL.bs 7 = .ok (.getfield 15, 3) := by decide +kernel
theorem bIsL_d10 : decode bIsL.bs 10 = .ok (.ifCond .ne 7, 3) := by decide +kernel
theorem bIsL_d13 : decode bIsL.bs 13 = .ok (.iconst 1, 1) := by decide +kernel
theorem bIsL_d14 : decode bIsL.bs 14 = .ok (.goto 4, 3) := by decide +kernel
theorem bIsL_d17 : decode bIsL.bs 17 = .ok (.iconst 0, 1) := by decide +kernel
theorem bIsL_d18 : decode bIsL.bs 18 = .ok (.ireturn, 1) := by decide +kernel
theorem bIsL_pd : parseMethodDescriptor "()Z" = some ⟨[], (some .boolean)⟩ := by decide +kernel
theorem bIsL_pn : plainFor bIsL.y = true := plainFor_of_name (show plainName "java/lang/String" = true from by first | (simp [plainName, overriddenIn]; done) | decide +kernel)
theorem cIsL (l : Launch) (Z : State) (a0 : Array Value) (hw : ∀ d ∈ tables_1, d.before a0 Z = true) (n0 : Nat) (hEW : EW Z a0 consts_1) (a : Addr) (h0 : Heap) (σ : Addr → Prop) (Fc : Fld Z h0 a Road.SN "coder" "B" (.int 0)) (cp : Int32) (Hc : Sta Z Z.heap Road.SN "COMPACT_STRINGS" "Z" (.int cp)) (hcp : ¬ cp = 0) :
    Road.Con l Z consts_1 n0 false bIsL [] σ #[(.ref a)] h0 (fun v h2 _ => v = some (.int 1) ∧ h0 = h2) := by
  refine Road.Con.of bIsL_pn hEW #[.val (.ref a)] (fun m => Road.ent (Road.laid1 rfl Road.laid0) (k := 0) rfl rfl) ?_
  intro D hD
  refine Road.getstatic 0 bIsL_d0 (hw _ (List.mem_of_getElem? (i := 81) rfl)) Via.refl Hc ?_
  refine Road.if_eq 3 17 bIsL_d3 rfl (fun q => absurd q hcp) (fun hc3 => ?_)
  refine Road.aloadN 6 bIsL_d6 rfl ?_
  refine Road.getfield 7 bIsL_d7 (hw _ (List.mem_of_getElem? (i := 21) rfl)) Via.refl Fc ?_
  refine Road.if_ne 10 17 bIsL_d10 rfl (fun q => absurd q (by decide)) (fun hc10 => ?_)
  refine Road.iconst 13 (1 : Int32) bIsL_d13 rfl ?_
  refine Road.goto 14 18 bIsL_d14 rfl ?_
  exact Road.iret 18 1 bIsL_d18 (t := .boolean) rfl (by simp) rfl (by decide) (by decide) (fun σ' m => ⟨rfl, rfl⟩)
def bPre : Road.Bdy := (⟨"jdk/internal/util/Preconditions", "checkIndex", "(IILjava/util/function/BiFunction;)I"⟩, jdk_41_method_11_code, 3, (some .int), { frames := 0, cells := 0, slots := 0, locals := 0 })
theorem bPre_d0 : decode bPre.bs 0 = .ok (.iload_n 0, 1) := by decide +kernel
theorem bPre_d1 : decode bPre.bs 1 = .ok (.ifCond .lt 8, 3) := by decide +kernel
theorem bPre_d4 : decode bPre.bs 4 = .ok (.iload_n 0, 1) := by decide +kernel
theorem bPre_d5 : decode bPre.bs 5 = .ok (.iload_n 1, 1) := by decide +kernel
theorem bPre_d6 : decode bPre.bs 6 = .ok (.if_icmp .lt 10, 3) := by decide +kernel
theorem bPre_d9 : decode bPre.bs 9 = .ok (.aload_n 2, 1) := by decide +kernel
theorem bPre_d10 : decode bPre.bs 10 = .ok (.iload_n 0, 1) := by decide +kernel
theorem bPre_d11 : decode bPre.bs 11 = .ok (.iload_n 1, 1) := by decide +kernel
theorem bPre_d12 : decode bPre.bs 12 = .ok (.invokestatic 95, 3) := by decide +kernel
theorem bPre_d15 : decode bPre.bs 15 = .ok (.athrow, 1) := by decide +kernel
theorem bPre_d16 : decode bPre.bs 16 = .ok (.iload_n 0, 1) := by decide +kernel
theorem bPre_d17 : decode bPre.bs 17 = .ok (.ireturn, 1) := by decide +kernel
theorem bPre_pd : parseMethodDescriptor "(IILjava/util/function/BiFunction;)I" = some ⟨[.int, .int, (.object "java/util/function/BiFunction")], (some .int)⟩ := by decide +kernel
theorem bPre_pn : plainFor bPre.y = true := plainFor_of_name (show plainName "jdk/internal/util/Preconditions" = true from by first | (simp [plainName, overriddenIn]; done) | decide +kernel)
theorem cPre (l : Launch) (Z : State) (a0 : Array Value) (hw : ∀ d ∈ tables_1, d.before a0 Z = true) (n0 : Nat) (hEW : EW Z a0 consts_1) (j n : Int32) (fm : Value) (h0 : Heap) (σ : Addr → Prop) (hfm : fm.isRef = true) (hj : ¬ j < 0) (hjn : j < n) :
    Road.Con l Z consts_1 n0 false bPre [] σ #[(.int j), (.int n), fm] h0 (fun v h2 _ => v = some (.int j) ∧ h0 = h2) := by
  refine Road.Con.of bPre_pn hEW #[.val (.int j), .val (.int n), .val fm] (fun m => Road.ent (Road.laid1 rfl (Road.laid1 rfl (Road.laid1 (XT.cat1 hfm) Road.laid0))) (k := 0) rfl rfl) ?_
  intro D hD
  refine Road.iloadN 0 bPre_d0 rfl ?_
  refine Road.if_lt 1 9 bPre_d1 rfl (fun q => absurd q hj) (fun hc1 => ?_)
  refine Road.iloadN 4 bPre_d4 rfl ?_
  refine Road.iloadN 5 bPre_d5 rfl ?_
  refine Road.icmp_lt 6 16 bPre_d6 rfl (fun hc6 => ?_) (fun q => absurd q (by simpa using hjn))
  refine Road.iloadN 16 bPre_d16 rfl ?_
  exact Road.iretI 17 bPre_d17 rfl (by decide) (by decide) (fun σ' m => ⟨rfl, rfl⟩)
def bChk : Road.Bdy := (⟨"java/lang/String", "checkIndex", "(II)V"⟩, jdk_42_method_155_code, 2, none, { frames := 1, cells := 0, slots := 0, locals := 14 })
theorem bChk_d0 : decode bChk.bs 0 = .ok (.iload_n 0, 1) := by decide +kernel
theorem bChk_d1 : decode bChk.bs 1 = .ok (.iload_n 1, 1) := by decide +kernel
theorem bChk_d2 : decode bChk.bs 2 = .ok (.getstatic 1053, 3) := by decide +kernel
theorem bChk_d5 : decode bChk.bs 5 = .ok (.invokestatic 1059, 3) := by decide +kernel
theorem bChk_d8 : decode bChk.bs 8 = .ok (.pop, 1) := by decide +kernel
theorem bChk_d9 : decode bChk.bs 9 = .ok (.return_, 1) := by decide +kernel
theorem bChk_pd : parseMethodDescriptor "(II)V" = some ⟨[.int, .int], none⟩ := by decide +kernel
theorem bChk_pn : plainFor bChk.y = true := plainFor_of_name (show plainName "java/lang/String" = true from by first | (simp [plainName, overriddenIn]; done) | decide +kernel)
theorem cChk (l : Launch) (Z : State) (a0 : Array Value) (hw : ∀ d ∈ tables_1, d.before a0 Z = true) (n0 : Nat) (hEW : EW Z a0 consts_1) (j n : Int32) (h0 : Heap) (σ : Addr → Prop) (fm : Value) (hfm : fm.isRef = true) (Hf : Sta Z Z.heap "jdk/internal/util/Preconditions" "SIOOBE_FORMATTER" "Ljava/util/function/BiFunction;" fm) (hj : ¬ j < 0) (hjn : j < n) :
    Road.Con l Z consts_1 n0 false bChk [] σ #[(.int j), (.int n)] h0 (fun v h2 _ => v = none ∧ h0 = h2) := by
  refine Road.Con.of bChk_pn hEW #[.val (.int j), .val (.int n)] (fun m => Road.ent (Road.laid1 rfl (Road.laid1 rfl Road.laid0)) (k := 0) rfl rfl) ?_
  intro D hD
  refine Road.iloadN 0 bChk_d0 rfl ?_
  refine Road.iloadN 1 bChk_d1 rfl ?_
  refine Road.getstatic 2 bChk_d2 (hw _ (List.mem_of_getElem? (i := 204) rfl)) Via.refl Hf ?_
  refine Road.callS (B' := bPre) 5 (argsL := [(.int j), (.int n), fm]) (rest := []) 0 bChk_d5 (hw _ (List.mem_of_getElem? (i := 206) rfl)) (hw _ (List.mem_of_getElem? (i := 207) rfl)) (hw _ (List.mem_of_getElem? (i := 205) rfl)) (hw _ (List.mem_of_getElem? (i := 208) rfl)) (by decide) (cPre l Z a0 hw n0 hEW j n fm h0 σ hfm hj hjn) (lenOf bPre_pd rfl) rfl rfl rfl (by decide) (by decide) (ce' := 0) (sl' := 0) rfl rfl (by decide) (by decide) ?_
  rintro _ h_1 σ_2 m_3 ⟨rfl, rfl⟩
  refine Road.Go.weaken (σ' := σ) m_3 (Nat.le_refl _) (Nat.le_refl _) ?_
  refine Road.pop 8 bChk_d8 ?_
  exact Road.ret 9 bChk_d9 rfl (by decide) (by decide) (fun σ' m => ⟨rfl, rfl⟩)
def bLch : Road.Bdy := (⟨"java/lang/StringLatin1", "charAt", "([BI)C"⟩, jdk_43_method_2_code, 2, (some .char), { frames := 2, cells := 0, slots := 0, locals := 27 })
theorem bLch_d0 : decode bLch.bs 0 = .ok (.iload_n 1, 1) := by decide +kernel
theorem bLch_d1 : decode bLch.bs 1 = .ok (.aload_n 0, 1) := by decide +kernel
theorem bLch_d2 : decode bLch.bs 2 = .ok (.arraylength, 1) := by decide +kernel
theorem bLch_d3 : decode bLch.bs 3 = .ok (.invokestatic 9, 3) := by decide +kernel
theorem bLch_d6 : decode bLch.bs 6 = .ok (.aload_n 0, 1) := by decide +kernel
theorem bLch_d7 : decode bLch.bs 7 = .ok (.iload_n 1, 1) := by decide +kernel
theorem bLch_d8 : decode bLch.bs 8 = .ok (.baload, 1) := by decide +kernel
theorem bLch_d9 : decode bLch.bs 9 = .ok (.sipush 255, 3) := by decide +kernel
theorem bLch_d12 : decode bLch.bs 12 = .ok (.iand, 1) := by decide +kernel
theorem bLch_d13 : decode bLch.bs 13 = .ok (.i2c, 1) := by decide +kernel
theorem bLch_d14 : decode bLch.bs 14 = .ok (.ireturn, 1) := by decide +kernel
theorem bLch_pd : parseMethodDescriptor "([BI)C" = some ⟨[(.array .byte), .int], (some .char)⟩ := by decide +kernel
theorem bLch_pn : plainFor bLch.y = true := plainFor_of_name (show plainName "java/lang/StringLatin1" = true from by first | (simp [plainName, overriddenIn]; done) | decide +kernel)
theorem cLch (l : Launch) (Z : State) (a0 : Array Value) (hw : ∀ d ∈ tables_1, d.before a0 Z = true) (n0 : Nat) (hEW : EW Z a0 consts_1) (b : Addr) (cs : List Int32) (j : Int32) (i : Nat) (h0 : Heap) (σ : Addr → Prop) (A : Road.Ary Z h0 b .byte (cs.map Road.byt)) (hlat : ∀ c ∈ cs, 0 ≤ c.toInt ∧ c.toInt < 256) (hj : j.toInt = (i : Int)) (hi : i < cs.length) (fm : Value) (hfm : fm.isRef = true) (Hf : Sta Z Z.heap "jdk/internal/util/Preconditions" "SIOOBE_FORMATTER" "Ljava/util/function/BiFunction;" fm) :
    Road.Con l Z consts_1 n0 false bLch [] σ #[(.ref b), (.int j)] h0 (fun v h2 _ => v = some (.int cs[i]) ∧ h0 = h2) := by
  refine Road.Con.of bLch_pn hEW #[.val (.ref b), .val (.int j)] (fun m => Road.ent (Road.laid1 rfl (Road.laid1 rfl Road.laid0)) (k := 0) rfl rfl) ?_
  intro D hD
  have hn : cs.length < 2147483648 := by have := A.small; rwa [List.length_map] at this
  have hjn : j < Nat.toInt32 cs.length := by rw [Int32.lt_iff_toInt_lt, Road.n32 hn, hj]; omega
  refine Road.iloadN 0 bLch_d0 rfl ?_
  refine Road.aloadN 1 bLch_d1 rfl ?_
  refine Road.alen 2 (Nat.toInt32 cs.length) bLch_d2 A (n := cs.length) (List.length_map _) rfl ?_
  refine Road.callS (B' := bChk) 3 (argsL := [(.int j), (.int (Nat.toInt32 cs.length))]) (rest := []) 0 bLch_d3 (hw _ (List.mem_of_getElem? (i := 201) rfl)) (hw _ (List.mem_of_getElem? (i := 202) rfl)) (hw _ (List.mem_of_getElem? (i := 3) rfl)) (hw _ (List.mem_of_getElem? (i := 203) rfl)) (by decide) (cChk l Z a0 hw n0 hEW j (Nat.toInt32 cs.length) h0 σ fm hfm Hf (Road.ix_of hj).1 hjn) (lenOf bChk_pd rfl) rfl rfl rfl (by decide) (by decide) (ce' := 0) (sl' := 0) rfl rfl (by decide) (by decide) ?_
  rintro _ h_1 σ_2 m_3 ⟨rfl, rfl⟩
  refine Road.Go.weaken (σ' := σ) m_3 (Nat.le_refl _) (Nat.le_refl _) ?_
  refine Road.aloadN 6 bLch_d6 rfl ?_
  refine Road.iloadN 7 bLch_d7 rfl ?_
  refine Road.baload 8 i bLch_d8 A hj (by rw [List.getElem?_map, List.getElem?_eq_getElem hi]; rfl) ?_
  refine Road.sipush 9 (255 : Int32) bLch_d9 rfl ?_
  refine Road.iand 12 bLch_d12 ?_
  refine Road.i2c 13 bLch_d13 ?_
  exact Road.iret 14 cs[i] bLch_d14 (t := .char) rfl (by simp) (Road.byte_back (hlat _ (List.getElem_mem hi))) (by decide) (by decide) (fun σ' m => ⟨rfl, rfl⟩)
def bChA : Road.Bdy := (⟨"java/lang/String", "charAt", "(I)C"⟩, jdk_42_method_56_code, 2, (some .char), { frames := 3, cells := 0, slots := 0, locals := 40 })
theorem bChA_d0 : decode bChA.bs 0 = .ok (.aload_n 0, 1) := by decide +kernel
theorem bChA_d1 : decode bChA.bs 1 = .ok (.invokevirtual 492, 3) := by decide +kernel
theorem bChA_d4 : decode bChA.bs 4 = .ok (.ifCond .eq 12, 3) := by decide +kernel
theorem bChA_d7 : decode bChA.bs 7 = .ok (.aload_n 0, 1) := by decide +kernel
theorem bChA_d8 : decode bChA.bs 8 = .ok (.getfield 9, 3) := by decide +kernel
theorem bChA_d11 : decode bChA.bs 11 = .ok (.iload_n 1, 1) := by decide +kernel
theorem bChA_d12 : decode bChA.bs 12 = .ok (.invokestatic 495, 3) := by decide +kernel
theorem bChA_d15 : decode bChA.bs 15 = .ok (.ireturn, 1) := by decide +kernel
theorem bChA_d16 : decode bChA.bs 16 = .ok (.aload_n 0, 1) := by decide +kernel
theorem bChA_d17 : decode bChA.bs 17 = .ok (.getfield 9, 3) := by decide +kernel
theorem bChA_d20 : decode bChA.bs 20 = .ok (.iload_n 1, 1) := by decide +kernel
theorem bChA_d21 : decode bChA.bs 21 = .ok (.invokestatic 498, 3) := by decide +kernel
theorem bChA_d24 : decode bChA.bs 24 = .ok (.ireturn, 1) := by decide +kernel
theorem bChA_pd : parseMethodDescriptor "(I)C" = some ⟨[.int], (some .char)⟩ := by decide +kernel
theorem bChA_pn : plainFor bChA.y = true := plainFor_of_name (show plainName "java/lang/String" = true from by first | (simp [plainName, overriddenIn]; done) | decide +kernel)
theorem cChA (l : Launch) (Z : State) (a0 : Array Value) (hw : ∀ d ∈ tables_1, d.before a0 Z = true) (n0 : Nat) (hEW : EW Z a0 consts_1) (a b : Addr) (cs : List Int32) (j : Int32) (i : Nat) (h0 : Heap) (σ : Addr → Prop) (S : Road.Str Z h0 a b cs) (hj : j.toInt = (i : Int)) (hi : i < cs.length) (cp : Int32) (Hc : Sta Z Z.heap Road.SN "COMPACT_STRINGS" "Z" (.int cp)) (hcp : ¬ cp = 0) (fm : Value) (hfm : fm.isRef = true) (Hf : Sta Z Z.heap "jdk/internal/util/Preconditions" "SIOOBE_FORMATTER" "Ljava/util/function/BiFunction;" fm) :
    Road.Con l Z consts_1 n0 false bChA [] σ #[(.ref a), (.int j)] h0 (fun v h2 _ => v = some (.int cs[i]) ∧ h0 = h2) := by
  refine Road.Con.of bChA_pn hEW #[.val (.ref a), .val (.int j)] (fun m => Road.ent (Road.laid1 rfl (Road.laid1 rfl Road.laid0)) (k := 0) rfl rfl) ?_
  intro D hD
  refine Road.aloadN 0 bChA_d0 rfl ?_
  refine Road.callV (B' := bIsL) (a := a) 1 (argsL := []) (rest := []) "java/lang/String" 0 bChA_d1 (hw _ (List.mem_of_getElem? (i := 192) rfl)) (hw _ (List.mem_of_getElem? (i := 193) rfl)) (fun vm hz => Road.notFace_sib (args := #[]) (mv (s := D.s.setVm vm) hz (hw _ (List.mem_of_getElem? (i := 74) rfl))) rfl) (hw _ (List.mem_of_getElem? (i := 195) rfl)) (hw _ (List.mem_of_getElem? (i := 194) rfl)) (hw _ (List.mem_of_getElem? (i := 3) rfl)) (hw _ (List.mem_of_getElem? (i := 196) rfl)) (by decide) S.1 (cIsL l Z a0 hw n0 hEW a h0 σ S.2.1 cp Hc hcp) (lenOf bIsL_pd rfl) rfl rfl rfl (by decide) (by decide) (ce' := 0) (sl' := 0) rfl rfl (by decide) (by decide) ?_
  rintro _ h_1 σ_2 m_3 ⟨rfl, rfl⟩
  refine Road.Go.weaken (σ' := σ) m_3 (Nat.le_refl _) (Nat.le_refl _) ?_
  refine Road.if_eq 4 16 bChA_d4 rfl (fun q => absurd q (by decide)) (fun hc4 => ?_)
  refine Road.aloadN 7 bChA_d7 rfl ?_
  refine Road.getfield 8 bChA_d8 (hw _ (List.mem_of_getElem? (i := 20) rfl)) Via.refl S.2.2.1 ?_
  refine Road.iloadN 11 bChA_d11 rfl ?_
  refine Road.callS (B' := bLch) 12 (argsL := [(.ref b), (.int j)]) (rest := []) 0 bChA_d12 (hw _ (List.mem_of_getElem? (i := 197) rfl)) (hw _ (List.mem_of_getElem? (i := 198) rfl)) (hw _ (List.mem_of_getElem? (i := 199) rfl)) (hw _ (List.mem_of_getElem? (i := 200) rfl)) (by decide) (cLch l Z a0 hw n0 hEW b cs j i h0 σ S.2.2.2.1 S.2.2.2.2 hj hi fm hfm Hf) (lenOf bLch_pd rfl) rfl rfl rfl (by decide) (by decide) (ce' := 0) (sl' := 0) rfl rfl (by decide) (by decide) ?_
  rintro _ h_5 σ_6 m_7 ⟨rfl, rfl⟩
  refine Road.Go.weaken (σ' := σ) m_7 (Nat.le_refl _) (Nat.le_refl _) ?_
  exact Road.iret 15 cs[i] bChA_d15 (t := .char) rfl (by simp) (Road.nar_lat (S.2.2.2.2 _ (List.getElem_mem hi))) (by decide) (by decide) (fun σ' m => ⟨rfl, rfl⟩)
def bRec : Road.Bdy := (⟨"java/lang/Record", "<init>", "()V"⟩, jdk_30_method_1_code, 1, none, { frames := 1, cells := 0, slots := 0, locals := 12 })
theorem bRec_d0 : decode bRec.bs 0 = .ok (.aload_n 0, 1) := by decide +kernel
theorem bRec_d1 : decode bRec.bs 1 = .ok (.invokespecial 1, 3) := by decide +kernel
theorem bRec_d4 : decode bRec.bs 4 = .ok (.return_, 1) := by decide +kernel
theorem bRec_pd : parseMethodDescriptor "()V" = some ⟨[], none⟩ := by decide +kernel
theorem bRec_pn : plainFor bRec.y = true := plainFor_of_name (show plainName "java/lang/Record" = true from by first | (simp [plainName, overriddenIn]; done) | decide +kernel)
theorem cRec (l : Launch) (Z : State) (a0 : Array Value) (hw : ∀ d ∈ tables_1, d.before a0 Z = true) (n0 : Nat) (hEW : EW Z a0 consts_1) (a : Addr) (h0 : Heap) (σ : Addr → Prop) :
    Road.Con l Z consts_1 n0 false bRec [] σ #[(.ref a)] h0 (fun v h2 _ => v = none ∧ h0 = h2) := by
  refine Road.Con.of bRec_pn hEW #[.val (.ref a)] (fun m => Road.ent (Road.laid1 rfl Road.laid0) (k := 0) rfl rfl) ?_
  intro D hD
  refine Road.aloadN 0 bRec_d0 rfl ?_
  refine Road.initObj 1 bRec_d1 (hw _ (List.mem_of_getElem? (i := 33) rfl)) (hw _ (List.mem_of_getElem? (i := 12) rfl)) (hw _ (List.mem_of_getElem? (i := 13) rfl)) 0 rfl rfl (by decide) (by decide) ?_
  exact Road.ret 4 bRec_d4 rfl (by decide) (by decide) (fun σ' m => ⟨rfl, rfl⟩)
def bAbI : Road.Bdy := (⟨"java/lang/AbstractStringBuilder", "<init>", "(I)V"⟩, jdk_68_method_2_code, 2, none, { frames := 1, cells := 1, slots := 16, locals := 14 })
theorem bAbI_d0 : decode bAbI.bs 0 = .ok (.aload_n 0, 1) := by decide +kernel
theorem bAbI_d1 : decode bAbI.bs 1 = .ok (.invokespecial 3, 3) := by decide +kernel
theorem bAbI_d4 : decode bAbI.bs 4 = .ok (.getstatic 18, 3) := by decide +kernel
theorem bAbI_d7 : decode bAbI.bs 7 = .ok (.ifCond .eq 18, 3) := by decide +kernel
theorem bAbI_d10 : decode bAbI.bs 10 = .ok (.aload_n 0, 1) := by decide +kernel
theorem bAbI_d11 : decode bAbI.bs 11 = .ok (.iload_n 1, 1) := by decide +kernel
theorem bAbI_d12 : decode bAbI.bs 12 = .ok (.newarray .byte, 2) := by decide +kernel
theorem bAbI_d14 : decode bAbI.bs 14 = .ok (.putfield 15, 3) := by decide +kernel
theorem bAbI_d17 : decode bAbI.bs 17 = .ok (.aload_n 0, 1) := by decide +kernel
theorem bAbI_d18 : decode bAbI.bs 18 = .ok (.iconst 0, 1) := by decide +kernel
theorem bAbI_d19 : decode bAbI.bs 19 = .ok (.putfield 22, 3) := by decide +kernel
theorem bAbI_d22 : decode bAbI.bs 22 = .ok (.goto 16, 3) := by decide +kernel
theorem bAbI_d25 : decode bAbI.bs 25 = .ok (.aload_n 0, 1) := by decide +kernel
theorem bAbI_d26 : decode bAbI.bs 26 = .ok (.iload_n 1, 1) := by decide +kernel
theorem bAbI_d27 : decode bAbI.bs 27 = .ok (.invokestatic 26, 3) := by decide +kernel
theorem bAbI_d30 : decode bAbI.bs 30 = .ok (.putfield 15, 3) := by decide +kernel
theorem bAbI_d33 : decode bAbI.bs 33 = .ok (.aload_n 0, 1) := by decide +kernel
theorem bAbI_d34 : decode bAbI.bs 34 = .ok (.iconst 1, 1) := by decide +kernel
theorem bAbI_d35 : decode bAbI.bs 35 = .ok (.putfield 22, 3) := by decide +kernel
theorem bAbI_d38 : decode bAbI.bs 38 = .ok (.return_, 1) := by decide +kernel
theorem bAbI_pd : parseMethodDescriptor "(I)V" = some ⟨[.int], none⟩ := by decide +kernel
theorem bAbI_pn : plainFor bAbI.y = true := plainFor_of_name (show plainName "java/lang/AbstractStringBuilder" = true from by first | (simp [plainName, overriddenIn]; done) | decide +kernel)
theorem cAbI (l : Launch) (Z : State) (a0 : Array Value) (hw : ∀ d ∈ tables_1, d.before a0 Z = true) (n0 : Nat) (hEW : EW Z a0 consts_1) (q : Addr) (h0 : Heap) (σ : Addr → Prop) (E : Exa Z h0 q Road.SB) (Fc : Fld Z h0 q Road.AB "coder" "B" (.int 0)) (Fv : Fld Z h0 q Road.AB "value" "[B" .null) (Fn : Fld Z h0 q Road.AB "count" "I" (.int 0)) (sq : σ q) (cp : Int32) (Hc : Sta Z Z.heap Road.SN "COMPACT_STRINGS" "Z" (.int cp)) (hcp : ¬ cp = 0) :
    Road.Con l Z consts_1 n0 false bAbI [] σ #[(.ref q), (.int (16 : Int32))] h0 (fun v h2 s2 => v = none ∧ Keep h0 h2 [q] ∧ ∃ b, Road.Sb Z h2 q b [] 16 ∧ h0.size ≤ b ∧ s2 b) := by
  refine Road.Con.of bAbI_pn hEW #[.val (.ref q), .val (.int (16 : Int32))] (fun m => Road.ent (Road.laid1 rfl (Road.laid1 rfl Road.laid0)) (k := 0) rfl rfl) ?_
  intro D hD
  refine Road.aloadN 0 bAbI_d0 rfl ?_
  refine Road.initObj 1 bAbI_d1 (hw _ (List.mem_of_getElem? (i := 55) rfl)) (hw _ (List.mem_of_getElem? (i := 12) rfl)) (hw _ (List.mem_of_getElem? (i := 13) rfl)) 0 rfl rfl (by decide) (by decide) ?_
  refine Road.getstatic 4 bAbI_d4 (hw _ (List.mem_of_getElem? (i := 56) rfl)) Via.refl Hc ?_
  refine Road.if_eq 7 25 bAbI_d7 rfl (fun q => absurd q hcp) (fun hc7 => ?_)
  refine Road.aloadN 10 bAbI_d10 rfl ?_
  refine Road.iloadN 11 bAbI_d11 rfl ?_
  refine Road.newarray 12 .byte 16 16 bAbI_d12 rfl (hw _ (List.mem_of_getElem? (i := 15) rfl)) (by decide) (by decide) (by decide) (ce' := 1) (sl' := 16) rfl rfl (by decide) (by decide) ?_
  intro b h_1 σ_2 g_3 K_4 lt_5 m_6 s_7 Ab
  have ne_q_b : q ≠ b := Nat.ne_of_lt (Nat.lt_of_lt_of_le E.lt (Nat.le_of_eq g_3.symm))
  replace E := E.keep K_4
  replace Fc := Fc.keep K_4 nin0
  replace Fv := Fv.keep K_4 nin0
  replace Fn := Fn.keep K_4 nin0
  replace sq := m_6 _ sq
  refine Road.putfield 14 bAbI_d14 (hw _ (List.mem_of_getElem? (i := 57) rfl)) Via.refl Fv E (Or.inl (hw _ (List.mem_of_getElem? (i := 58) rfl))) (hw _ (List.mem_of_getElem? (i := 44) rfl)) (ty := (.array .byte)) (by decide) rfl rfl sq ?_
  intro h_10 W_8 K_9
  replace Fv := Fv.same W_8
  replace Fc := Fc.other W_8 (Or.inr (slot_ne (Or.inl (hw _ (List.mem_of_getElem? (i := 60) rfl))) (Or.inl (hw _ (List.mem_of_getElem? (i := 58) rfl))) (by decide) (t := .byte) (by decide) (t' := (.array .byte)) (by decide)))
  replace Fn := Fn.other W_8 (Or.inr (slot_ne (Or.inl (hw _ (List.mem_of_getElem? (i := 83) rfl))) (Or.inl (hw _ (List.mem_of_getElem? (i := 58) rfl))) (by decide) (t := .int) (by decide) (t' := (.array .byte)) (by decide)))
  replace E := E.keep K_9
  replace Ab := Ab.keep K_9 (ninS (Ne.symm ne_q_b) nin0)
  refine Road.aloadN 17 bAbI_d17 rfl ?_
  refine Road.iconst 18 (0 : Int32) bAbI_d18 rfl ?_
  refine Road.putfield 19 bAbI_d19 (hw _ (List.mem_of_getElem? (i := 59) rfl)) Via.refl Fc E (Or.inl (hw _ (List.mem_of_getElem? (i := 60) rfl))) (hw _ (List.mem_of_getElem? (i := 44) rfl)) (ty := .byte) (by decide) rfl rfl sq ?_
  intro h_13 W_11 K_12
  replace Fc := Fc.same W_11
  replace Fv := Fv.other W_11 (Or.inr (slot_ne (Or.inl (hw _ (List.mem_of_getElem? (i := 58) rfl))) (Or.inl (hw _ (List.mem_of_getElem? (i := 60) rfl))) (by decide) (t := (.array .byte)) (by decide) (t' := .byte) (by decide)))
  replace Fn := Fn.other W_11 (Or.inr (slot_ne (Or.inl (hw _ (List.mem_of_getElem? (i := 83) rfl))) (Or.inl (hw _ (List.mem_of_getElem? (i := 60) rfl))) (by decide) (t := .int) (by decide) (t' := .byte) (by decide)))
  replace E := E.keep K_12
  replace Ab := Ab.keep K_12 (ninS (Ne.symm ne_q_b) nin0)
  refine Road.goto 22 38 bAbI_d22 rfl ?_
  exact Road.ret 38 bAbI_d38 rfl (by decide) (by decide) (fun σ' m => ⟨rfl, ((Road.keep_more K_4).trans K_9 (by simp)).trans K_12 (by simp), b, ⟨E, Fc, Fv, Fn, ⟨_, Ab, rfl⟩, by simp⟩, Nat.le_of_eq g_3.symm, m _ s_7⟩)
def bSbI : Road.Bdy := (⟨"java/lang/StringBuilder", "<init>", "()V"⟩, jdk_67_method_1_code, 1, none, { frames := 2, cells := 1, slots := 16, locals := 27 })
theorem bSbI_d0 : decode bSbI.bs 0 = .ok (.aload_n 0, 1) := by decide +kernel
theorem bSbI_d1 : decode bSbI.bs 1 = .ok (.bipush 16, 2) := by decide +kernel
theorem bSbI_d3 : decode bSbI.bs 3 = .ok (.invokespecial 1, 3) := by decide +kernel
theorem bSbI_d6 : decode bSbI.bs 6 = .ok (.return_, 1) := by decide +kernel
theorem bSbI_pd : parseMethodDescriptor "()V" = some ⟨[], none⟩ := by decide +kernel
theorem bSbI_pn : plainFor bSbI.y = true := plainFor_of_name (show plainName "java/lang/StringBuilder" = true from by first | (simp [plainName, overriddenIn]; done) | decide +kernel)
theorem cSbI (l : Launch) (Z : State) (a0 : Array Value) (hw : ∀ d ∈ tables_1, d.before a0 Z = true) (n0 : Nat) (hEW : EW Z a0 consts_1) (q : Addr) (h0 : Heap) (σ : Addr → Prop) (E : Exa Z h0 q Road.SB) (Fc : Fld Z h0 q Road.AB "coder" "B" (.int 0)) (Fv : Fld Z h0 q Road.AB "value" "[B" .null) (Fn : Fld Z h0 q Road.AB "count" "I" (.int 0)) (sq : σ q) (cp : Int32) (Hc : Sta Z Z.heap Road.SN "COMPACT_STRINGS" "Z" (.int cp)) (hcp : ¬ cp = 0) :
    Road.Con l Z consts_1 n0 false bSbI [] σ #[(.ref q)] h0 (fun v h2 s2 => v = none ∧ Keep h0 h2 [q] ∧ ∃ b, Road.Sb Z h2 q b [] 16 ∧ h0.size ≤ b ∧ s2 b) := by
  refine Road.Con.of bSbI_pn hEW #[.val (.ref q)] (fun m => Road.ent (Road.laid1 rfl Road.laid0) (k := 0) rfl rfl) ?_
  intro D hD
  refine Road.aloadN 0 bSbI_d0 rfl ?_
  refine Road.bipush 1 (16 : Int32) bSbI_d1 rfl ?_
  refine Road.callI (B' := bAbI) (a := q) 3 (argsL := [(.int (16 : Int32))]) (rest := []) 0 bSbI_d3 (hw _ (List.mem_of_getElem? (i := 49) rfl)) (hw _ (List.mem_of_getElem? (i := 50) rfl)) (hw _ (List.mem_of_getElem? (i := 53) rfl)) (hw _ (List.mem_of_getElem? (i := 54) rfl)) rfl rfl (by decide) (cAbI l Z a0 hw n0 hEW q h0 σ E Fc Fv Fn sq cp Hc hcp) (lenOf bAbI_pd rfl) rfl rfl rfl (by decide) (by decide) (ce' := 1) (sl' := 16) rfl rfl (by decide) (by decide) ?_
  rintro _ h_1 σ_2 m_3 ⟨rfl, K_4, b, S, gb, sb⟩
  exact Road.ret 6 bSbI_d6 rfl (by decide) (by decide) (fun σ' m => ⟨rfl, K_4, b, S, gb, m _ sb⟩)
def bEn0 : Road.Bdy := (⟨"java/lang/AbstractStringBuilder", "ensureCapacityInternal", "(I)V"⟩, jdk_68_method_9_code, 3, none, { frames := 0, cells := 0, slots := 0, locals := 0 })
theorem bEn0_d0 : decode bEn0.bs 0 = .ok (.aload_n 0, 1) := by decide +kernel
theorem bEn0_d1 : decode bEn0.bs 1 = .ok (.getfield 15, 3) := by decide +kernel
theorem bEn0_d4 : decode bEn0.bs 4 = .ok (.arraylength, 1) := by decide +kernel
theorem bEn0_d5 : decode bEn0.bs 5 = .ok (.aload_n 0, 1) := by decide +kernel
theorem bEn0_d6 : decode bEn0.bs 6 = .ok (.getfield 22, 3) := by decide +kernel
theorem bEn0_d9 : decode bEn0.bs 9 = .ok (.ishr, 1) := by decide +kernel
theorem bEn0_d10 : decode bEn0.bs 10 = .ok (.istore_n 2, 1) := by decide +kernel
theorem bEn0_d11 : decode bEn0.bs 11 = .ok (.iload_n 1, 1) := by decide +kernel
theorem bEn0_d12 : decode bEn0.bs 12 = .ok (.iload_n 2, 1) := by decide +kernel
theorem bEn0_d13 : decode bEn0.bs 13 = .ok (.isub, 1) := by decide +kernel
theorem bEn0_d14 : decode bEn0.bs 14 = .ok (.ifCond .le 24, 3) := by decide +kernel
theorem bEn0_d17 : decode bEn0.bs 17 = .ok (.aload_n 0, 1) := by decide +kernel
theorem bEn0_d18 : decode bEn0.bs 18 = .ok (.aload_n 0, 1) := by decide +kernel
theorem bEn0_d19 : decode bEn0.bs 19 = .ok (.getfield 15, 3) := by decide +kernel
theorem bEn0_d22 : decode bEn0.bs 22 = .ok (.aload_n 0, 1) := by decide +kernel
theorem bEn0_d23 : decode bEn0.bs 23 = .ok (.iload_n 1, 1) := by decide +kernel
theorem bEn0_d24 : decode bEn0.bs 24 = .ok (.invokevirtual 104, 3) := by decide +kernel
theorem bEn0_d27 : decode bEn0.bs 27 = .ok (.aload_n 0, 1) := by decide +kernel
theorem bEn0_d28 : decode bEn0.bs 28 = .ok (.getfield 22, 3) := by decide +kernel
theorem bEn0_d31 : decode bEn0.bs 31 = .ok (.ishl, 1) := by decide +kernel
theorem bEn0_d32 : decode bEn0.bs 32 = .ok (.invokestatic 108, 3) := by decide +kernel
theorem bEn0_d35 : decode bEn0.bs 35 = .ok (.putfield 15, 3) := by decide +kernel
theorem bEn0_d38 : decode bEn0.bs 38 = .ok (.return_, 1) := by decide +kernel
theorem bEn0_pd : parseMethodDescriptor "(I)V" = some ⟨[.int], none⟩ := by decide +kernel
theorem bEn0_pn : plainFor bEn0.y = true := plainFor_of_name (show plainName "java/lang/AbstractStringBuilder" = true from by first | (simp [plainName, overriddenIn]; done) | decide +kernel)
theorem cEn0 (l : Launch) (Z : State) (a0 : Array Value) (hw : ∀ d ∈ tables_1, d.before a0 Z = true) (n0 : Nat) (hEW : EW Z a0 consts_1) (q b : Addr) (cs : List Int32) (N : Nat) (m : Nat) (h0 : Heap) (σ : Addr → Prop) (S : Road.Sb Z h0 q b cs N) (hm : m ≤ N) :
    Road.Con l Z consts_1 n0 false bEn0 [] σ #[(.ref q), (.int (Nat.toInt32 m))] h0 (fun v h2 _ => v = none ∧ h0 = h2) := by
  have hN := S.small
  have hle := S.le
  obtain ⟨E, Fc, Fv, Fn, ⟨r, Ab, hr⟩, hlt⟩ := S
  refine Road.Con.of bEn0_pn hEW #[.val (.ref q), .val (.int (Nat.toInt32 m)), .unset] (fun m => Road.ent (Road.laid1 rfl (Road.laid1 rfl Road.laid0)) (k := 1) rfl rfl) ?_
  intro D hD
  refine Road.aloadN 0 bEn0_d0 rfl ?_
  refine Road.getfield 1 bEn0_d1 (hw _ (List.mem_of_getElem? (i := 57) rfl)) Via.refl Fv ?_
  refine Road.alen 4 (Nat.toInt32 N) bEn0_d4 Ab (n := N) (by rw [List.length_append, List.length_map]; exact hr) rfl ?_
  refine Road.aloadN 5 bEn0_d5 rfl ?_
  refine Road.getfield 6 bEn0_d6 (hw _ (List.mem_of_getElem? (i := 59) rfl)) Via.refl Fc ?_
  refine Road.ishr 9 bEn0_d9 ?_
  refine Road.nameI ?_
  intro z_1 hz_1
  obtain rfl : z_1 = (Nat.toInt32 N) := by rw [hz_1]; exact Road.shr0 _
  refine Road.istoreN 10 #[.val (.ref q), .val (.int (Nat.toInt32 m)), .val (.int (Nat.toInt32 N))] bEn0_d10 rfl ?_
  refine Road.iloadN 11 bEn0_d11 rfl ?_
  refine Road.iloadN 12 bEn0_d12 rfl ?_
  refine Road.isub 13 bEn0_d13 ?_
  refine Road.if_le 14 38 bEn0_d14 rfl (fun hc14 => ?_) (fun q => absurd q (by rw [Road.gsub (by omega) hN]; omega))
  exact Road.ret 38 bEn0_d38 rfl (by decide) (by decide) (fun σ' m => ⟨rfl, rfl⟩)
def bInf : Road.Bdy := (⟨"java/lang/AbstractStringBuilder", "inflateIfNeededFor", "(Ljava/lang/String;)V"⟩, jdk_68_method_71_code, 2, none, { frames := 1, cells := 0, slots := 0, locals := 13 })
theorem bInf_d0 : decode bInf.bs 0 = .ok (.getstatic 18, 3) := by decide +kernel
theorem bInf_d3 : decode bInf.bs 3 = .ok (.ifCond .eq 18, 3) := by decide +kernel
theorem bInf_d6 : decode bInf.bs 6 = .ok (.aload_n 0, 1) := by decide +kernel
theorem bInf_d7 : decode bInf.bs 7 = .ok (.getfield 22, 3) := by decide +kernel
theorem bInf_d10 : decode bInf.bs 10 = .ok (.aload_n 1, 1) := by decide +kernel
theorem bInf_d11 : decode bInf.bs 11 = .ok (.invokevirtual 40, 3) := by decide +kernel
theorem bInf_d14 : decode bInf.bs 14 = .ok (.if_icmp .eq 7, 3) := by decide +kernel
theorem bInf_d17 : decode bInf.bs 17 = .ok (.aload_n 0, 1) := by decide +kernel
theorem bInf_d18 : decode bInf.bs 18 = .ok (.invokevirtual 195, 3) := by decide +kernel
theorem bInf_d21 : decode bInf.bs 21 = .ok (.return_, 1) := by decide +kernel
theorem bInf_pd : parseMethodDescriptor "(Ljava/lang/String;)V" = some ⟨[(.object "java/lang/String")], none⟩ := by decide +kernel
theorem bInf_pn : plainFor bInf.y = true := plainFor_of_name (show plainName "java/lang/AbstractStringBuilder" = true from by first | (simp [plainName, overriddenIn]; done) | decide +kernel)
theorem cInf (l : Launch) (Z : State) (a0 : Array Value) (hw : ∀ d ∈ tables_1, d.before a0 Z = true) (n0 : Nat) (hEW : EW Z a0 consts_1) (q s sb : Addr) (ds : List Int32) (h0 : Heap) (σ : Addr → Prop) (Fc : Fld Z h0 q Road.AB "coder" "B" (.int 0)) (T : Road.Str Z h0 s sb ds) (cp : Int32) (Hc : Sta Z Z.heap Road.SN "COMPACT_STRINGS" "Z" (.int cp)) (hcp : ¬ cp = 0) :
    Road.Con l Z consts_1 n0 false bInf [] σ #[(.ref q), (.ref s)] h0 (fun v h2 _ => v = none ∧ h0 = h2) := by
  refine Road.Con.of bInf_pn hEW #[.val (.ref q), .val (.ref s)] (fun m => Road.ent (Road.laid1 rfl (Road.laid1 rfl Road.laid0)) (k := 0) rfl rfl) ?_
  intro D hD
  refine Road.getstatic 0 bInf_d0 (hw _ (List.mem_of_getElem? (i := 56) rfl)) Via.refl Hc ?_
  refine Road.if_eq 3 21 bInf_d3 rfl (fun q => absurd q hcp) (fun hc3 => ?_)
  refine Road.aloadN 6 bInf_d6 rfl ?_
  refine Road.getfield 7 bInf_d7 (hw _ (List.mem_of_getElem? (i := 59) rfl)) Via.refl Fc ?_
  refine Road.aloadN 10 bInf_d10 rfl ?_
  refine Road.callV (B' := bCod) (a := s) 11 (argsL := []) (rest := [(.int (0 : Int32))]) "java/lang/String" 1 bInf_d11 (hw _ (List.mem_of_getElem? (i := 99) rfl)) (hw _ (List.mem_of_getElem? (i := 77) rfl)) (fun vm hz => Road.notFace_sib (args := #[]) (mv (s := D.s.setVm vm) hz (hw _ (List.mem_of_getElem? (i := 74) rfl))) rfl) (hw _ (List.mem_of_getElem? (i := 79) rfl)) (hw _ (List.mem_of_getElem? (i := 78) rfl)) (hw _ (List.mem_of_getElem? (i := 3) rfl)) (hw _ (List.mem_of_getElem? (i := 80) rfl)) (by decide) T.1 (cCod l Z a0 hw n0 hEW s h0 σ T.2.1 cp Hc hcp) (lenOf bCod_pd rfl) rfl rfl rfl (by decide) (by decide) (ce' := 0) (sl' := 0) rfl rfl (by decide) (by decide) ?_
  rintro _ h_1 σ_2 m_3 ⟨rfl, rfl⟩
  refine Road.Go.weaken (σ' := σ) m_3 (Nat.le_refl _) (Nat.le_refl _) ?_
  refine Road.icmp_eq 14 21 bInf_d14 rfl (fun hc14 => ?_) (fun q => absurd q (by decide))
  exact Road.ret 21 bInf_d21 rfl (by decide) (by decide) (fun σ' m => ⟨rfl, rfl⟩)
def bGeB : Road.Bdy := (⟨"java/lang/String", "getBytes", "([BIB)V"⟩, jdk_42_method_147_code, 4, none, { frames := 1, cells := 0, slots := 0, locals := 18 })
theorem bGeB_d0 : decode bGeB.bs 0 = .ok (.aload_n 0, 1) := by decide +kernel
theorem bGeB_d1 : decode bGeB.bs 1 = .ok (.invokevirtual 335, 3) := by decide +kernel
theorem bGeB_d4 : decode bGeB.bs 4 = .ok (.iload_n 3, 1) := by decide +kernel
theorem bGeB_d5 : decode bGeB.bs 5 = .ok (.if_icmp .ne 23, 3) := by decide +kernel
theorem bGeB_d8 : decode bGeB.bs 8 = .ok (.aload_n 0, 1) := by decide +kernel
theorem bGeB_d9 : decode bGeB.bs 9 = .ok (.getfield 9, 3) := by decide +kernel
theorem bGeB_d12 : decode bGeB.bs 12 = .ok (.iconst 0, 1) := by decide +kernel
theorem bGeB_d13 : decode bGeB.bs 13 = .ok (.aload_n 1, 1) := by decide +kernel
theorem bGeB_d14 : decode bGeB.bs 14 = .ok (.iload_n 2, 1) := by decide +kernel
theorem bGeB_d15 : decode bGeB.bs 15 = .ok (.iload_n 3, 1) := by decide +kernel
theorem bGeB_d16 : decode bGeB.bs 16 = .ok (.ishl, 1) := by decide +kernel
theorem bGeB_d17 : decode bGeB.bs 17 = .ok (.aload_n 0, 1) := by decide +kernel
theorem bGeB_d18 : decode bGeB.bs 18 = .ok (.getfield 9, 3) := by decide +kernel
theorem bGeB_d21 : decode bGeB.bs 21 = .ok (.arraylength, 1) := by decide +kernel
theorem bGeB_d22 : decode bGeB.bs 22 = .ok (.invokestatic 212, 3) := by decide +kernel
theorem bGeB_d25 : decode bGeB.bs 25 = .ok (.goto 18, 3) := by decide +kernel
theorem bGeB_d28 : decode bGeB.bs 28 = .ok (.aload_n 0, 1) := by decide +kernel
theorem bGeB_d29 : decode bGeB.bs 29 = .ok (.getfield 9, 3) := by decide +kernel
theorem bGeB_d32 : decode bGeB.bs 32 = .ok (.iconst 0, 1) := by decide +kernel
theorem bGeB_d33 : decode bGeB.bs 33 = .ok (.aload_n 1, 1) := by decide +kernel
theorem bGeB_d34 : decode bGeB.bs 34 = .ok (.iload_n 2, 1) := by decide +kernel
theorem bGeB_d35 : decode bGeB.bs 35 = .ok (.aload_n 0, 1) := by decide +kernel
theorem bGeB_d36 : decode bGeB.bs 36 = .ok (.getfield 9, 3) := by decide +kernel
theorem bGeB_d39 : decode bGeB.bs 39 = .ok (.arraylength, 1) := by decide +kernel
theorem bGeB_d40 : decode bGeB.bs 40 = .ok (.invokestatic 106, 3) := by decide +kernel
theorem bGeB_d43 : decode bGeB.bs 43 = .ok (.return_, 1) := by decide +kernel
theorem bGeB_pd : parseMethodDescriptor "([BIB)V" = some ⟨[(.array .byte), .int, .byte], none⟩ := by decide +kernel
theorem bGeB_pn : plainFor bGeB.y = true := plainFor_of_name (show plainName "java/lang/String" = true from by first | (simp [plainName, overriddenIn]; done) | decide +kernel)
theorem cGeB (l : Launch) (Z : State) (a0 : Array Value) (hw : ∀ d ∈ tables_1, d.before a0 Z = true) (n0 : Nat) (hEW : EW Z a0 consts_1) (s sb d : Addr) (ds : List Int32) (vd : List Value) (i : Nat) (h0 : Heap) (σ : Addr → Prop) (T : Road.Str Z h0 s sb ds) (Ad : Road.Ary Z h0 d .byte vd) (hi : i + ds.length ≤ vd.length) (sd : σ d) (cp : Int32) (Hc : Sta Z Z.heap Road.SN "COMPACT_STRINGS" "Z" (.int cp)) (hcp : ¬ cp = 0) :
    Road.Con l Z consts_1 n0 false bGeB [] σ #[(.ref s), (.ref d), (.int (Nat.toInt32 i)), (.int (0 : Int32))] h0 (fun v h2 _ => v = none ∧ Keep h0 h2 [d] ∧ Road.Ary Z h2 d .byte (vd.take i ++ ((ds.map Road.byt).drop 0).take ds.length ++ vd.drop (i + ds.length))) := by
  have hsm := Ad.small
  refine Road.Con.of bGeB_pn hEW #[.val (.ref s), .val (.ref d), .val (.int (Nat.toInt32 i)), .val (.int (0 : Int32))] (fun m => Road.ent (Road.laid1 rfl (Road.laid1 rfl (Road.laid1 rfl (Road.laid1 rfl Road.laid0)))) (k := 0) rfl rfl) ?_
  intro D hD
  refine Road.aloadN 0 bGeB_d0 rfl ?_
  refine Road.callV (B' := bCod) (a := s) 1 (argsL := []) (rest := []) "java/lang/String" 0 bGeB_d1 (hw _ (List.mem_of_getElem? (i := 76) rfl)) (hw _ (List.mem_of_getElem? (i := 77) rfl)) (fun vm hz => Road.notFace_sib (args := #[]) (mv (s := D.s.setVm vm) hz (hw _ (List.mem_of_getElem? (i := 74) rfl))) rfl) (hw _ (List.mem_of_getElem? (i := 79) rfl)) (hw _ (List.mem_of_getElem? (i := 78) rfl)) (hw _ (List.mem_of_getElem? (i := 3) rfl)) (hw _ (List.mem_of_getElem? (i := 80) rfl)) (by decide) T.1 (cCod l Z a0 hw n0 hEW s h0 σ T.2.1 cp Hc hcp) (lenOf bCod_pd rfl) rfl rfl rfl (by decide) (by decide) (ce' := 0) (sl' := 0) rfl rfl (by decide) (by decide) ?_
  rintro _ h_1 σ_2 m_3 ⟨rfl, rfl⟩
  refine Road.Go.weaken (σ' := σ) m_3 (Nat.le_refl _) (Nat.le_refl _) ?_
  refine Road.iloadN 4 bGeB_d4 rfl ?_
  refine Road.icmp_ne 5 28 bGeB_d5 rfl (fun q => absurd q (by decide)) (fun hc5 => ?_)
  refine Road.aloadN 8 bGeB_d8 rfl ?_
  refine Road.getfield 9 bGeB_d9 (hw _ (List.mem_of_getElem? (i := 20) rfl)) Via.refl T.2.2.1 ?_
  refine Road.iconst 12 (0 : Int32) bGeB_d12 rfl ?_
  refine Road.aloadN 13 bGeB_d13 rfl ?_
  refine Road.iloadN 14 bGeB_d14 rfl ?_
  refine Road.iloadN 15 bGeB_d15 rfl ?_
  refine Road.ishl 16 bGeB_d16 ?_
  refine Road.nameI ?_
  intro z_5 hz_5
  obtain rfl : z_5 = (Nat.toInt32 i) := by rw [hz_5]; exact Road.shl0 _
  refine Road.aloadN 17 bGeB_d17 rfl ?_
  refine Road.getfield 18 bGeB_d18 (hw _ (List.mem_of_getElem? (i := 20) rfl)) Via.refl T.2.2.1 ?_
  refine Road.alen 21 (Nat.toInt32 ds.length) bGeB_d21 T.2.2.2.1 (n := ds.length) (List.length_map _) rfl ?_
  refine Road.acopy 22 0 i ds.length 0 bGeB_d22 (hw _ (List.mem_of_getElem? (i := 105) rfl)) (hw _ (List.mem_of_getElem? (i := 108) rfl)) (hw _ (List.mem_of_getElem? (i := 106) rfl)) (hw _ (List.mem_of_getElem? (i := 107) rfl)) T.2.2.2.1 Ad rfl rfl (Road.n32 (by omega)) (Road.n32 (by omega)) (by rw [List.length_map]; omega) hi sd rfl rfl (by decide) (by decide) ?_
  intro h_6 K_7 Ae
  refine Road.goto 25 43 bGeB_d25 rfl ?_
  exact Road.ret 43 bGeB_d43 rfl (by decide) (by decide) (fun σ' m => ⟨rfl, K_7, Ae⟩)
def bPut : Road.Bdy := (⟨"java/lang/AbstractStringBuilder", "putStringAt", "(ILjava/lang/String;)V"⟩, jdk_68_method_73_code, 3, none, { frames := 2, cells := 0, slots := 0, locals := 33 })
theorem bPut_d0 : decode bPut.bs 0 = .ok (.aload_n 0, 1) := by decide +kernel
theorem bPut_d1 : decode bPut.bs 1 = .ok (.aload_n 2, 1) := by decide +kernel
theorem bPut_d2 : decode bPut.bs 2 = .ok (.invokevirtual 397, 3) := by decide +kernel
theorem bPut_d5 : decode bPut.bs 5 = .ok (.aload_n 2, 1) := by decide +kernel
theorem bPut_d6 : decode bPut.bs 6 = .ok (.aload_n 0, 1) := by decide +kernel
theorem bPut_d7 : decode bPut.bs 7 = .ok (.getfield 15, 3) := by decide +kernel
theorem bPut_d10 : decode bPut.bs 10 = .ok (.iload_n 1, 1) := by decide +kernel
theorem bPut_d11 : decode bPut.bs 11 = .ok (.aload_n 0, 1) := by decide +kernel
theorem bPut_d12 : decode bPut.bs 12 = .ok (.getfield 22, 3) := by decide +kernel
theorem bPut_d15 : decode bPut.bs 15 = .ok (.invokevirtual 399, 3) := by decide +kernel
theorem bPut_d18 : decode bPut.bs 18 = .ok (.return_, 1) := by decide +kernel
theorem bPut_pd : parseMethodDescriptor "(ILjava/lang/String;)V" = some ⟨[.int, (.object "java/lang/String")], none⟩ := by decide +kernel
theorem bPut_pn : plainFor bPut.y = true := plainFor_of_name (show plainName "java/lang/AbstractStringBuilder" = true from by first | (simp [plainName, overriddenIn]; done) | decide +kernel)
theorem cPut (l : Launch) (Z : State) (a0 : Array Value) (hw : ∀ d ∈ tables_1, d.before a0 Z = true) (n0 : Nat) (hEW : EW Z a0 consts_1) (q b : Addr) (cs : List Int32) (N : Nat) (s sb : Addr) (ds : List Int32) (h0 : Heap) (σ : Addr → Prop) (S : Road.Sb Z h0 q b cs N) (T : Road.Str Z h0 s sb ds) (hm : cs.length + ds.length ≤ N) (sb_ : σ b) (cp : Int32) (Hc : Sta Z Z.heap Road.SN "COMPACT_STRINGS" "Z" (.int cp)) (hcp : ¬ cp = 0) :
    Road.Con l Z consts_1 n0 false bPut [] σ #[(.ref q), (.int (Nat.toInt32 cs.length)), (.ref s)] h0 (fun v h2 _ => v = none ∧ Keep h0 h2 [b] ∧ ∃ r, Road.Ary Z h2 b .byte ((cs ++ ds).map Road.byt ++ r) ∧ (cs ++ ds).length + r.length = N) := by
  have hN := S.small
  have hle := S.le
  obtain ⟨E, Fc, Fv, Fn, ⟨r, Ab, hr⟩, hlt⟩ := S
  refine Road.Con.of bPut_pn hEW #[.val (.ref q), .val (.int (Nat.toInt32 cs.length)), .val (.ref s)] (fun m => Road.ent (Road.laid1 rfl (Road.laid1 rfl (Road.laid1 rfl Road.laid0))) (k := 0) rfl rfl) ?_
  intro D hD
  refine Road.aloadN 0 bPut_d0 rfl ?_
  refine Road.aloadN 1 bPut_d1 rfl ?_
  refine Road.callP (B' := bInf) (a := q) 2 (argsL := [(.ref s)]) (rest := []) "java/lang/StringBuilder" 0 bPut_d2 (hw _ (List.mem_of_getElem? (i := 94) rfl)) (hw _ (List.mem_of_getElem? (i := 96) rfl)) (hw _ (List.mem_of_getElem? (i := 97) rfl)) (hw _ (List.mem_of_getElem? (i := 95) rfl)) (hw _ (List.mem_of_getElem? (i := 53) rfl)) (hw _ (List.mem_of_getElem? (i := 98) rfl)) (by decide) E (cInf l Z a0 hw n0 hEW q s sb ds h0 σ Fc T cp Hc hcp) (lenOf bInf_pd rfl) rfl rfl rfl (by decide) (by decide) (ce' := 0) (sl' := 0) rfl rfl (by decide) (by decide) ?_
  rintro _ h_1 σ_2 m_3 ⟨rfl, rfl⟩
  refine Road.Go.weaken (σ' := σ) m_3 (Nat.le_refl _) (Nat.le_refl _) ?_
  refine Road.aloadN 5 bPut_d5 rfl ?_
  refine Road.aloadN 6 bPut_d6 rfl ?_
  refine Road.getfield 7 bPut_d7 (hw _ (List.mem_of_getElem? (i := 57) rfl)) Via.refl Fv ?_
  refine Road.iloadN 10 bPut_d10 rfl ?_
  refine Road.aloadN 11 bPut_d11 rfl ?_
  refine Road.getfield 12 bPut_d12 (hw _ (List.mem_of_getElem? (i := 59) rfl)) Via.refl Fc ?_
  refine Road.callV (B' := bGeB) (a := s) 15 (argsL := [(.ref b), (.int (Nat.toInt32 cs.length)), (.int (0 : Int32))]) (rest := []) "java/lang/String" 0 bPut_d15 (hw _ (List.mem_of_getElem? (i := 100) rfl)) (hw _ (List.mem_of_getElem? (i := 101) rfl)) (fun vm hz => Road.notFace_sib (args := #[]) (mv (s := D.s.setVm vm) hz (hw _ (List.mem_of_getElem? (i := 74) rfl))) rfl) (hw _ (List.mem_of_getElem? (i := 103) rfl)) (hw _ (List.mem_of_getElem? (i := 102) rfl)) (hw _ (List.mem_of_getElem? (i := 3) rfl)) (hw _ (List.mem_of_getElem? (i := 104) rfl)) (by decide) T.1 (cGeB l Z a0 hw n0 hEW s sb b ds _ cs.length h0 σ T Ab (by rw [List.length_append, List.length_map]; omega) sb_ cp Hc hcp) (lenOf bGeB_pd rfl) rfl rfl rfl (by decide) (by decide) (ce' := 0) (sl' := 0) rfl rfl (by decide) (by decide) ?_
  rintro _ h_5 σ_6 m_7 ⟨rfl, K_8, A2⟩
  rw [Road.put_str _ _ _ (by omega)] at A2
  exact Road.ret 18 bPut_d18 rfl (by decide) (by decide) (fun σ' m => ⟨rfl, K_8, _, A2, by rw [List.length_append, List.length_drop]; omega⟩)
def bAp0 : Road.Bdy := (⟨"java/lang/AbstractStringBuilder", "append", "(Ljava/lang/String;)Ljava/lang/AbstractStringBuilder;"⟩, jdk_68_method_22_code, 3, (some (.object "java/lang/AbstractStringBuilder")), { frames := 3, cells := 0, slots := 0, locals := 48 })
theorem bAp0_d0 : decode bAp0.bs 0 = .ok (.aload_n 1, 1) := by decide +kernel
theorem bAp0_d1 : decode bAp0.bs 1 = .ok (.ifnonnull 8, 3) := by decide +kernel
theorem bAp0_d4 : decode bAp0.bs 4 = .ok (.aload_n 0, 1) := by decide +kernel
theorem bAp0_d5 : decode bAp0.bs 5 = .ok (.invokevirtual 204, 3) := by decide +kernel
theorem bAp0_d8 : decode bAp0.bs 8 = .ok (.areturn, 1) := by decide +kernel
theorem bAp0_d9 : decode bAp0.bs 9 = .ok (.aload_n 1, 1) := by decide +kernel
theorem bAp0_d10 : decode bAp0.bs 10 = .ok (.invokevirtual 32, 3) := by decide +kernel
theorem bAp0_d13 : decode bAp0.bs 13 = .ok (.istore_n 2, 1) := by decide +kernel
theorem bAp0_d14 : decode bAp0.bs 14 = .ok (.aload_n 0, 1) := by decide +kernel
theorem bAp0_d15 : decode bAp0.bs 15 = .ok (.aload_n 0, 1) := by decide +kernel
theorem bAp0_d16 : decode bAp0.bs 16 = .ok (.getfield 79, 3) := by decide +kernel
theorem bAp0_d19 : decode bAp0.bs 19 = .ok (.iload_n 2, 1) := by decide +kernel
theorem bAp0_d20 : decode bAp0.bs 20 = .ok (.iadd, 1) := by decide +kernel
theorem bAp0_d21 : decode bAp0.bs 21 = .ok (.invokevirtual 100, 3) := by decide +kernel
theorem bAp0_d24 : decode bAp0.bs 24 = .ok (.aload_n 0, 1) := by decide +kernel
theorem bAp0_d25 : decode bAp0.bs 25 = .ok (.aload_n 0, 1) := by decide +kernel
theorem bAp0_d26 : decode bAp0.bs 26 = .ok (.getfield 79, 3) := by decide +kernel
theorem bAp0_d29 : decode bAp0.bs 29 = .ok (.aload_n 1, 1) := by decide +kernel
theorem bAp0_d30 : decode bAp0.bs 30 = .ok (.invokevirtual 208, 3) := by decide +kernel
theorem bAp0_d33 : decode bAp0.bs 33 = .ok (.aload_n 0, 1) := by decide +kernel
theorem bAp0_d34 : decode bAp0.bs 34 = .ok (.dup, 1) := by decide +kernel
theorem bAp0_d35 : decode bAp0.bs 35 = .ok (.getfield 79, 3) := by decide +kernel
theorem bAp0_d38 : decode bAp0.bs 38 = .ok (.iload_n 2, 1) := by decide +kernel
theorem bAp0_d39 : decode bAp0.bs 39 = .ok (.iadd, 1) := by decide +kernel
theorem bAp0_d40 : decode bAp0.bs 40 = .ok (.putfield 79, 3) := by decide +kernel
theorem bAp0_d43 : decode bAp0.bs 43 = .ok (.aload_n 0, 1) := by decide +kernel
theorem bAp0_d44 : decode bAp0.bs 44 = .ok (.areturn, 1) := by decide +kernel
theorem bAp0_pd : parseMethodDescriptor "(Ljava/lang/String;)Ljava/lang/AbstractStringBuilder;" = some ⟨[(.object "java/lang/String")], (some (.object "java/lang/AbstractStringBuilder"))⟩ := by decide +kernel
theorem bAp0_pn : plainFor bAp0.y = true := plainFor_of_name (show plainName "java/lang/AbstractStringBuilder" = true from by first | (simp [plainName, overriddenIn]; done) | decide +kernel)
theorem cAp0 (l : Launch) (Z : State) (a0 : Array Value) (hw : ∀ d ∈ tables_1, d.before a0 Z = true) (n0 : Nat) (hEW : EW Z a0 consts_1) (q b : Addr) (cs : List Int32) (N : Nat) (s sb : Addr) (ds : List Int32) (h0 : Heap) (σ : Addr → Prop) (S : Road.Sb Z h0 q b cs N) (T : Road.Str Z h0 s sb ds) (hm : cs.length + ds.length ≤ N) (sb_ : σ b) (sq : σ q) (cp : Int32) (Hc : Sta Z Z.heap Road.SN "COMPACT_STRINGS" "Z" (.int cp)) (hcp : ¬ cp = 0) :
    Road.Con l Z consts_1 n0 false bAp0 [] σ #[(.ref q), (.ref s)] h0 (fun v h2 s2 => v = some (.ref q) ∧ Keep h0 h2 [q, b] ∧ Road.Sb Z h2 q b (cs ++ ds) N) := by
  have S0 := S
  have hN := S.small
  have hle := S.le
  obtain ⟨E, Fc, Fv, Fn, ⟨r, Ab, hr⟩, hlt⟩ := S
  have nqb : q ≠ b := by obtain ⟨c, Ar, -⟩ := Ab; exact ne_arr E (hw _ (List.mem_of_getElem? (i := 44) rfl)) Ar
  refine Road.Con.of bAp0_pn hEW #[.val (.ref q), .val (.ref s), .unset] (fun m => Road.ent (Road.laid1 rfl (Road.laid1 rfl Road.laid0)) (k := 1) rfl rfl) ?_
  intro D hD
  refine Road.aloadN 0 bAp0_d0 rfl ?_
  refine Road.ifnonnull 1 9 rfl bAp0_d1 rfl (fun hc1 => ?_) (fun q => absurd q (by simp))
  refine Road.aloadN 9 bAp0_d9 rfl ?_
  refine Road.callV (B' := bLen) (a := s) 10 (argsL := []) (rest := []) "java/lang/String" 0 bAp0_d10 (hw _ (List.mem_of_getElem? (i := 71) rfl)) (hw _ (List.mem_of_getElem? (i := 72) rfl)) (fun vm hz => Road.notFace_sib (args := #[]) (mv (s := D.s.setVm vm) hz (hw _ (List.mem_of_getElem? (i := 74) rfl))) rfl) (hw _ (List.mem_of_getElem? (i := 74) rfl)) (hw _ (List.mem_of_getElem? (i := 73) rfl)) (hw _ (List.mem_of_getElem? (i := 3) rfl)) (hw _ (List.mem_of_getElem? (i := 75) rfl)) (by decide) T.1 (cLen l Z a0 hw n0 hEW s sb ds h0 σ T cp Hc hcp) (lenOf bLen_pd rfl) rfl rfl rfl (by decide) (by decide) (ce' := 0) (sl' := 0) rfl rfl (by decide) (by decide) ?_
  rintro _ h_1 σ_2 m_3 ⟨rfl, rfl⟩
  refine Road.Go.weaken (σ' := σ) m_3 (Nat.le_refl _) (Nat.le_refl _) ?_
  refine Road.istoreN 13 #[.val (.ref q), .val (.ref s), .val (.int (Nat.toInt32 ds.length))] bAp0_d13 rfl ?_
  refine Road.aloadN 14 bAp0_d14 rfl ?_
  refine Road.aloadN 15 bAp0_d15 rfl ?_
  refine Road.getfield 16 bAp0_d16 (hw _ (List.mem_of_getElem? (i := 82) rfl)) Via.refl Fn ?_
  refine Road.iloadN 19 bAp0_d19 rfl ?_
  refine Road.iadd 20 bAp0_d20 ?_
  refine Road.nameI ?_
  intro z_5 hz_5
  obtain rfl : z_5 = (Nat.toInt32 (cs.length + ds.length)) := by rw [hz_5]; exact Road.add32n _ _
  refine Road.callP (B' := bEn0) (a := q) 21 (argsL := [(.int (Nat.toInt32 (cs.length + ds.length)))]) (rest := []) "java/lang/StringBuilder" 0 bAp0_d21 (hw _ (List.mem_of_getElem? (i := 84) rfl)) (hw _ (List.mem_of_getElem? (i := 86) rfl)) (hw _ (List.mem_of_getElem? (i := 87) rfl)) (hw _ (List.mem_of_getElem? (i := 85) rfl)) (hw _ (List.mem_of_getElem? (i := 53) rfl)) (hw _ (List.mem_of_getElem? (i := 88) rfl)) (by decide) E (cEn0 l Z a0 hw n0 hEW q b cs N (cs.length + ds.length) h0 σ S0 hm) (lenOf bEn0_pd rfl) rfl rfl rfl (by decide) (by decide) (ce' := 0) (sl' := 0) rfl rfl (by decide) (by decide) ?_
  rintro _ h_6 σ_7 m_8 ⟨rfl, rfl⟩
  refine Road.Go.weaken (σ' := σ) m_8 (Nat.le_refl _) (Nat.le_refl _) ?_
  refine Road.aloadN 24 bAp0_d24 rfl ?_
  refine Road.aloadN 25 bAp0_d25 rfl ?_
  refine Road.getfield 26 bAp0_d26 (hw _ (List.mem_of_getElem? (i := 82) rfl)) Via.refl Fn ?_
  refine Road.aloadN 29 bAp0_d29 rfl ?_
  refine Road.callP (B' := bPut) (a := q) 30 (argsL := [(.int (Nat.toInt32 cs.length)), (.ref s)]) (rest := []) "java/lang/StringBuilder" 0 bAp0_d30 (hw _ (List.mem_of_getElem? (i := 89) rfl)) (hw _ (List.mem_of_getElem? (i := 91) rfl)) (hw _ (List.mem_of_getElem? (i := 92) rfl)) (hw _ (List.mem_of_getElem? (i := 90) rfl)) (hw _ (List.mem_of_getElem? (i := 53) rfl)) (hw _ (List.mem_of_getElem? (i := 93) rfl)) (by decide) E (cPut l Z a0 hw n0 hEW q b cs N s sb ds h0 σ S0 T hm sb_ cp Hc hcp) (lenOf bPut_pd rfl) rfl rfl rfl (by decide) (by decide) (ce' := 0) (sl' := 0) rfl rfl (by decide) (by decide) ?_
  rintro _ h_10 σ_11 m_12 ⟨rfl, K_13, r3, A3, hr3⟩
  replace E := E.keep K_13
  replace Fc := Fc.keep K_13 (ninS nqb nin0)
  replace Fv := Fv.keep K_13 (ninS nqb nin0)
  replace Fn := Fn.keep K_13 (ninS nqb nin0)
  replace sq := m_12 _ sq
  replace sb_ := m_12 _ sb_
  refine Road.aloadN 33 bAp0_d33 rfl ?_
  refine Road.dup 34 bAp0_d34 ?_
  refine Road.getfield 35 bAp0_d35 (hw _ (List.mem_of_getElem? (i := 82) rfl)) Via.refl Fn ?_
  refine Road.iloadN 38 bAp0_d38 rfl ?_
  refine Road.iadd 39 bAp0_d39 ?_
  refine Road.nameI ?_
  intro z_14 hz_14
  obtain rfl : z_14 = (Nat.toInt32 (cs ++ ds).length) := by rw [hz_14]; rw [Road.add32n, List.length_append]
  refine Road.putfield 40 bAp0_d40 (hw _ (List.mem_of_getElem? (i := 82) rfl)) Via.refl Fn E (Or.inl (hw _ (List.mem_of_getElem? (i := 83) rfl))) (hw _ (List.mem_of_getElem? (i := 44) rfl)) (ty := .int) (by decide) rfl rfl sq ?_
  intro h_17 W_15 K_16
  replace Fn := Fn.same W_15
  replace Fc := Fc.other W_15 (Or.inr (slot_ne (Or.inl (hw _ (List.mem_of_getElem? (i := 60) rfl))) (Or.inl (hw _ (List.mem_of_getElem? (i := 83) rfl))) (by decide) (t := .byte) (by decide) (t' := .int) (by decide)))
  replace Fv := Fv.other W_15 (Or.inr (slot_ne (Or.inl (hw _ (List.mem_of_getElem? (i := 58) rfl))) (Or.inl (hw _ (List.mem_of_getElem? (i := 83) rfl))) (by decide) (t := (.array .byte)) (by decide) (t' := .int) (by decide)))
  replace E := E.keep K_16
  replace A3 := A3.keep K_16 (ninS (Ne.symm nqb) nin0)
  refine Road.aloadN 43 bAp0_d43 rfl ?_
  exact Road.aret 44 bAp0_d44 (t := (.object "java/lang/AbstractStringBuilder")) rfl rfl rfl (by decide) (by decide) (fun σ' m => ⟨rfl, (Road.keep2 K_13 K_16), ⟨E, Fc, Fv, Fn, ⟨r3, A3, hr3⟩, (fun c hc => (List.mem_append.mp hc).elim (hlt c) (T.2.2.2.2 c))⟩⟩)
def bSp0 : Road.Bdy := (⟨"java/lang/StringBuilder", "append", "(Ljava/lang/String;)Ljava/lang/StringBuilder;"⟩, jdk_67_method_7_code, 2, (some (.object "java/lang/StringBuilder")), { frames := 4, cells := 0, slots := 0, locals := 62 })
theorem bSp0_d0 : decode bSp0.bs 0 = .ok (.aload_n 0, 1) := by decide +kernel
theorem bSp0_d1 : decode bSp0.bs 1 = .ok (.aload_n 1, 1) := by decide +kernel
theorem bSp0_d2 : decode bSp0.bs 2 = .ok (.invokespecial 29, 3) := by decide +kernel
theorem bSp0_d5 : decode bSp0.bs 5 = .ok (.pop, 1) := by decide +kernel
theorem bSp0_d6 : decode bSp0.bs 6 = .ok (.aload_n 0, 1) := by decide +kernel
theorem bSp0_d7 : decode bSp0.bs 7 = .ok (.areturn, 1) := by decide +kernel
theorem bSp0_pd : parseMethodDescriptor "(Ljava/lang/String;)Ljava/lang/StringBuilder;" = some ⟨[(.object "java/lang/String")], (some (.object "java/lang/StringBuilder"))⟩ := by decide +kernel
theorem bSp0_pn : plainFor bSp0.y = true := plainFor_of_name (show plainName "java/lang/StringBuilder" = true from by first | (simp [plainName, overriddenIn]; done) | decide +kernel)
theorem cSp0 (l : Launch) (Z : State) (a0 : Array Value) (hw : ∀ d ∈ tables_1, d.before a0 Z = true) (n0 : Nat) (hEW : EW Z a0 consts_1) (q b : Addr) (cs : List Int32) (N : Nat) (s sb : Addr) (ds : List Int32) (h0 : Heap) (σ : Addr → Prop) (S : Road.Sb Z h0 q b cs N) (T : Road.Str Z h0 s sb ds) (hm : cs.length + ds.length ≤ N) (sb_ : σ b) (sq : σ q) (cp : Int32) (Hc : Sta Z Z.heap Road.SN "COMPACT_STRINGS" "Z" (.int cp)) (hcp : ¬ cp = 0) :
    Road.Con l Z consts_1 n0 false bSp0 [] σ #[(.ref q), (.ref s)] h0 (fun v h2 s2 => v = some (.ref q) ∧ Keep h0 h2 [q, b] ∧ Road.Sb Z h2 q b (cs ++ ds) N) := by
  refine Road.Con.of bSp0_pn hEW #[.val (.ref q), .val (.ref s)] (fun m => Road.ent (Road.laid1 rfl (Road.laid1 rfl Road.laid0)) (k := 0) rfl rfl) ?_
  intro D hD
  refine Road.aloadN 0 bSp0_d0 rfl ?_
  refine Road.aloadN 1 bSp0_d1 rfl ?_
  refine Road.callUp (B' := bAp0) (a := q) 2 (argsL := [(.ref s)]) (rest := []) "java/lang/StringBuilder" 0 bSp0_d2 (hw _ (List.mem_of_getElem? (i := 66) rfl)) (Road.notFace_sib (hw _ (List.mem_of_getElem? (i := 87) rfl)) rfl) (hw _ (List.mem_of_getElem? (i := 67) rfl)) (hw _ (List.mem_of_getElem? (i := 68) rfl)) (hw _ (List.mem_of_getElem? (i := 53) rfl)) (hw _ (List.mem_of_getElem? (i := 70) rfl)) (by decide) (by decide) S.1 (cAp0 l Z a0 hw n0 hEW q b cs N s sb ds h0 σ S T hm sb_ sq cp Hc hcp) (lenOf bAp0_pd rfl) rfl rfl rfl (by decide) (by decide) (ce' := 0) (sl' := 0) rfl rfl (by decide) (by decide) ?_
  rintro _ h_1 σ_2 m_3 ⟨rfl, K_4, S2⟩
  refine Road.pop 5 bSp0_d5 ?_
  refine Road.aloadN 6 bSp0_d6 rfl ?_
  exact Road.aret 7 bSp0_d7 (t := (.object "java/lang/StringBuilder")) rfl rfl rfl (by decide) (by decide) (fun σ' m => ⟨rfl, K_4, S2⟩)
def bAbL : Road.Bdy := (⟨"java/lang/AbstractStringBuilder", "isLatin1", "()Z"⟩, jdk_68_method_68_code, 1, (some .boolean), { frames := 0, cells := 0, slots := 0, locals := 0 })
theorem bAbL_d0 : decode bAbL.bs 0 = .ok (.getstatic 18, 3) := by decide +kernel
theorem bAbL_d3 : decode bAbL.bs 3 = .ok (.ifCond .eq 14, 3) := by decide +kernel
theorem bAbL_d6 : decode bAbL.bs 6 = .ok (.aload_n 0, 1) := by decide +kernel
theorem bAbL_d7 : decode bAbL.bs 7 = .ok (.getfield 22, 3) := by decide +kernel
theorem bAbL_d10 : decode bAbL.bs 10 = .ok (.ifCond .ne 7, 3) := by decide +kernel
theorem bAbL_d13 : decode bAbL.bs 13 = .ok (.iconst 1, 1) := by decide +kernel
theorem bAbL_d14 : decode bAbL.bs 14 = .ok (.goto 4, 3) := by decide +kernel
theorem bAbL_d17 : decode bAbL.bs 17 = .ok (.iconst 0, 1) := by decide +kernel
theorem bAbL_d18 : decode bAbL.bs 18 = .ok (.ireturn, 1) := by decide +kernel
theorem bAbL_pd : parseMethodDescriptor "()Z" = some ⟨[], (some .boolean)⟩ := by decide +kernel
theorem bAbL_pn : plainFor bAbL.y = true := plainFor_of_name (show plainName "java/lang/AbstractStringBuilder" = true from by first | (simp [plainName, overriddenIn]; done) | decide +kernel)
theorem cAbL (l : Launch) (Z : State) (a0 : Array Value) (hw : ∀ d ∈ tables_1, d.before a0 Z = true) (n0 : Nat) (hEW : EW Z a0 consts_1) (q : Addr) (h0 : Heap) (σ : Addr → Prop) (Fc : Fld Z h0 q Road.AB "coder" "B" (.int 0)) (cp : Int32) (Hc : Sta Z Z.heap Road.SN "COMPACT_STRINGS" "Z" (.int cp)) (hcp : ¬ cp = 0) :
    Road.Con l Z consts_1 n0 false bAbL [] σ #[(.ref q)] h0 (fun v h2 _ => v = some (.int 1) ∧ h0 = h2) := by
  refine Road.Con.of bAbL_pn hEW #[.val (.ref q)] (fun m => Road.ent (Road.laid1 rfl Road.laid0) (k := 0) rfl rfl) ?_
  intro D hD
  refine Road.getstatic 0 bAbL_d0 (hw _ (List.mem_of_getElem? (i := 56) rfl)) Via.refl Hc ?_
  refine Road.if_eq 3 17 bAbL_d3 rfl (fun q => absurd q hcp) (fun hc3 => ?_)
  refine Road.aloadN 6 bAbL_d6 rfl ?_
  refine Road.getfield 7 bAbL_d7 (hw _ (List.mem_of_getElem? (i := 59) rfl)) Via.refl Fc ?_
  refine Road.if_ne 10 17 bAbL_d10 rfl (fun q => absurd q (by decide)) (fun hc10 => ?_)
  refine Road.iconst 13 (1 : Int32) bAbL_d13 rfl ?_
  refine Road.goto 14 18 bAbL_d14 rfl ?_
  exact Road.iret 18 1 bAbL_d18 (t := .boolean) rfl (by simp) rfl (by decide) (by decide) (fun σ' m => ⟨rfl, rfl⟩)
def bSz : Road.Bdy := (⟨"java/lang/Integer", "stringSize", "(I)I"⟩, jdk_33_method_13_code, 4, (some .int), { frames := 0, cells := 0, slots := 0, locals := 0 })
theorem bSz_d0 : decode bSz.bs 0 = .ok (.iconst 1, 1) := by decide +kernel
theorem bSz_d1 : decode bSz.bs 1 = .ok (.istore_n 1, 1) := by decide +kernel
theorem bSz_d2 : decode bSz.bs 2 = .ok (.iload_n 0, 1) := by decide +kernel
theorem bSz_d3 : decode bSz.bs 3 = .ok (.ifCond .lt 8, 3) := by decide +kernel
theorem bSz_d6 : decode bSz.bs 6 = .ok (.iconst 0, 1) := by decide +kernel
theorem bSz_d7 : decode bSz.bs 7 = .ok (.istore_n 1, 1) := by decide +kernel
theorem bSz_d8 : decode bSz.bs 8 = .ok (.iload_n 0, 1) := by decide +kernel
theorem bSz_d9 : decode bSz.bs 9 = .ok (.ineg, 1) := by decide +kernel
theorem bSz_d10 : decode bSz.bs 10 = .ok (.istore_n 0, 1) := by decide +kernel
theorem bSz_d11 : decode bSz.bs 11 = .ok (.bipush (-10), 2) := by decide +kernel
theorem bSz_d13 : decode bSz.bs 13 = .ok (.istore_n 2, 1) := by decide +kernel
theorem bSz_d14 : decode bSz.bs 14 = .ok (.iconst 1, 1) := by decide +kernel
theorem bSz_d15 : decode bSz.bs 15 = .ok (.istore_n 3, 1) := by decide +kernel
theorem bSz_d16 : decode bSz.bs 16 = .ok (.iload_n 3, 1) := by decide +kernel
theorem bSz_d17 : decode bSz.bs 17 = .ok (.bipush 10, 2) := by decide +kernel
theorem bSz_d19 : decode bSz.bs 19 = .ok (.if_icmp .ge 23, 3) := by decide +kernel
theorem bSz_d22 : decode bSz.bs 22 = .ok (.iload_n 0, 1) := by decide +kernel
theorem bSz_d23 : decode bSz.bs 23 = .ok (.iload_n 2, 1) := by decide +kernel
theorem bSz_d24 : decode bSz.bs 24 = .ok (.if_icmp .le 7, 3) := by decide +kernel
theorem bSz_d27 : decode bSz.bs 27 = .ok (.iload_n 3, 1) := by decide +kernel
theorem bSz_d28 : decode bSz.bs 28 = .ok (.iload_n 1, 1) := by decide +kernel
theorem bSz_d29 : decode bSz.bs 29 = .ok (.iadd, 1) := by decide +kernel
theorem bSz_d30 : decode bSz.bs 30 = .ok (.ireturn, 1) := by decide +kernel
theorem bSz_d31 : decode bSz.bs 31 = .ok (.bipush 10, 2) := by decide +kernel
theorem bSz_d33 : decode bSz.bs 33 = .ok (.iload_n 2, 1) := by decide +kernel
theorem bSz_d34 : decode bSz.bs 34 = .ok (.imul, 1) := by decide +kernel
theorem bSz_d35 : decode bSz.bs 35 = .ok (.istore_n 2, 1) := by decide +kernel
theorem bSz_d36 : decode bSz.bs 36 = .ok (.iinc 3 1, 3) := by decide +kernel
theorem bSz_d39 : decode bSz.bs 39 = .ok (.goto (-23), 3) := by decide +kernel
theorem bSz_d42 : decode bSz.bs 42 = .ok (.bipush 10, 2) := by decide +kernel
theorem bSz_d44 : decode bSz.bs 44 = .ok (.iload_n 1, 1) := by decide +kernel
theorem bSz_d45 : decode bSz.bs 45 = .ok (.iadd, 1) := by decide +kernel
theorem bSz_d46 : decode bSz.bs 46 = .ok (.ireturn, 1) := by decide +kernel
theorem bSz_pd : parseMethodDescriptor "(I)I" = some ⟨[.int], (some .int)⟩ := by decide +kernel
theorem bSz_pn : plainFor bSz.y = true := plainFor_of_name (show plainName "java/lang/Integer" = true from by first | (simp [plainName, overriddenIn]; done) | decide +kernel)
theorem cSz (l : Launch) (Z : State) (a0 : Array Value) (hw : ∀ d ∈ tables_1, d.before a0 Z = true) (n0 : Nat) (hEW : EW Z a0 consts_1) (x : Int32) (h0 : Heap) (σ : Addr → Prop)  :
    Road.Con l Z consts_1 n0 false bSz [] σ #[(.int x)] h0 (fun v h2 _ => v = some (.int (Nat.toInt32 (Road.dec x).length)) ∧ h0 = h2) := by
  refine Road.Con.of bSz_pn hEW #[.val (.int x), .unset, .unset, .unset] (fun m => Road.ent (Road.laid1 rfl Road.laid0) (k := 3) rfl rfl) ?_
  intro D hD
  have hmx := Road.nat_le x
  obtain ⟨m, hm⟩ : ∃ m, m = x.toInt.natAbs := ⟨_, rfl⟩
  rw [← hm] at hmx
  have tail : ∀ (y d : Int32) (dn : Nat), y.toInt = -(m : Int) → d = Nat.toInt32 dn → (Road.dec x).length = (Road.decN m).length + dn → Road.Go l Z a0 consts_1 n0 false bSz D (fun v h2 _ => v = some (.int (Nat.toInt32 (Road.dec x).length)) ∧ h0 = h2) h0 σ 0 0 11 #[.val (.int y), .val (.int d), .unset, .unset] [] := by
    intro y d dn hy hd hl
    refine Road.bipush 11 (-10 : Int32) bSz_d11 rfl ?_
    refine Road.istoreN 13 #[.val (.int y), .val (.int d), .val (.int (-10 : Int32)), .unset] bSz_d13 rfl ?_
    refine Road.iconst 14 (1 : Int32) bSz_d14 rfl ?_
    refine Road.istoreN 15 #[.val (.int y), .val (.int d), .val (.int (-10 : Int32)), .val (.int (1 : Int32))] bSz_d15 rfl ?_
    refine Road.iloadN 16 bSz_d16 rfl ?_
    refine Road.bipush 17 (10 : Int32) bSz_d17 rfl ?_
    refine Road.icmp_ge 19 42 bSz_d19 rfl (fun q => absurd q (by decide)) (fun hc19 => ?_)
    refine Road.iloadN 22 bSz_d22 rfl ?_
    refine Road.iloadN 23 bSz_d23 rfl ?_
    refine Road.icmp_le 24 31 bSz_d24 rfl (fun e1 => ?_) (fun e1 => ?_)
    · skip
      have g1 : 10 ^ 1 ≤ m := by rw [Int32.lt_iff_toInt_lt, hy, show ((-10) : Int32).toInt = -10 from rfl] at e1; omega
      refine Road.bipush 31 (10 : Int32) bSz_d31 rfl ?_
      refine Road.iloadN 33 bSz_d33 rfl ?_
      refine Road.imul 34 bSz_d34 ?_
      refine Road.nameI ?_
      intro z_1 hz_1
      obtain rfl : z_1 = (-100 : Int32) := by rw [hz_1]; decide
      refine Road.istoreN 35 #[.val (.int y), .val (.int d), .val (.int (-100 : Int32)), .val (.int (1 : Int32))] bSz_d35 rfl ?_
      refine Road.iinc 36 (1) #[.val (.int y), .val (.int d), .val (.int (-100 : Int32)), .val (.int ((1 : Int32) + 1))] bSz_d36 rfl rfl rfl ?_
      rw [show (1 : Int32) + 1 = 2 from by decide]
      refine Road.goto 39 16 bSz_d39 rfl ?_
      refine Road.iloadN 16 bSz_d16 rfl ?_
      refine Road.bipush 17 (10 : Int32) bSz_d17 rfl ?_
      refine Road.icmp_ge 19 42 bSz_d19 rfl (fun q => absurd q (by decide)) (fun hc19 => ?_)
      refine Road.iloadN 22 bSz_d22 rfl ?_
      refine Road.iloadN 23 bSz_d23 rfl ?_
      refine Road.icmp_le 24 31 bSz_d24 rfl (fun e2 => ?_) (fun e2 => ?_)
      · skip
        have g2 : 10 ^ 2 ≤ m := by rw [Int32.lt_iff_toInt_lt, hy, show ((-100) : Int32).toInt = -100 from rfl] at e2; omega
        refine Road.bipush 31 (10 : Int32) bSz_d31 rfl ?_
        refine Road.iloadN 33 bSz_d33 rfl ?_
        refine Road.imul 34 bSz_d34 ?_
        refine Road.nameI ?_
        intro z_2 hz_2
        obtain rfl : z_2 = (-1000 : Int32) := by rw [hz_2]; decide
        refine Road.istoreN 35 #[.val (.int y), .val (.int d), .val (.int (-1000 : Int32)), .val (.int (2 : Int32))] bSz_d35 rfl ?_
        refine Road.iinc 36 (1) #[.val (.int y), .val (.int d), .val (.int (-1000 : Int32)), .val (.int ((2 : Int32) + 1))] bSz_d36 rfl rfl rfl ?_
        rw [show (2 : Int32) + 1 = 3 from by decide]
        refine Road.goto 39 16 bSz_d39 rfl ?_
        refine Road.iloadN 16 bSz_d16 rfl ?_
        refine Road.bipush 17 (10 : Int32) bSz_d17 rfl ?_
        refine Road.icmp_ge 19 42 bSz_d19 rfl (fun q => absurd q (by decide)) (fun hc19 => ?_)
        refine Road.iloadN 22 bSz_d22 rfl ?_
        refine Road.iloadN 23 bSz_d23 rfl ?_
        refine Road.icmp_le 24 31 bSz_d24 rfl (fun e3 => ?_) (fun e3 => ?_)
        · skip
          have g3 : 10 ^ 3 ≤ m := by rw [Int32.lt_iff_toInt_lt, hy, show ((-1000) : Int32).toInt = -1000 from rfl] at e3; omega
          refine Road.bipush 31 (10 : Int32) bSz_d31 rfl ?_
          refine Road.iloadN 33 bSz_d33 rfl ?_
          refine Road.imul 34 bSz_d34 ?_
          refine Road.nameI ?_
          intro z_3 hz_3
          obtain rfl : z_3 = (-10000 : Int32) := by rw [hz_3]; decide
          refine Road.istoreN 35 #[.val (.int y), .val (.int d), .val (.int (-10000 : Int32)), .val (.int (3 : Int32))] bSz_d35 rfl ?_
          refine Road.iinc 36 (1) #[.val (.int y), .val (.int d), .val (.int (-10000 : Int32)), .val (.int ((3 : Int32) + 1))] bSz_d36 rfl rfl rfl ?_
          rw [show (3 : Int32) + 1 = 4 from by decide]
          refine Road.goto 39 16 bSz_d39 rfl ?_
          refine Road.iloadN 16 bSz_d16 rfl ?_
          refine Road.bipush 17 (10 : Int32) bSz_d17 rfl ?_
          refine Road.icmp_ge 19 42 bSz_d19 rfl (fun q => absurd q (by decide)) (fun hc19 => ?_)
          refine Road.iloadN 22 bSz_d22 rfl ?_
          refine Road.iloadN 23 bSz_d23 rfl ?_
          refine Road.icmp_le 24 31 bSz_d24 rfl (fun e4 => ?_) (fun e4 => ?_)
          · skip
            have g4 : 10 ^ 4 ≤ m := by rw [Int32.lt_iff_toInt_lt, hy, show ((-10000) : Int32).toInt = -10000 from rfl] at e4; omega
            refine Road.bipush 31 (10 : Int32) bSz_d31 rfl ?_
            refine Road.iloadN 33 bSz_d33 rfl ?_
            refine Road.imul 34 bSz_d34 ?_
            refine Road.nameI ?_
            intro z_4 hz_4
            obtain rfl : z_4 = (-100000 : Int32) := by rw [hz_4]; decide
            refine Road.istoreN 35 #[.val (.int y), .val (.int d), .val (.int (-100000 : Int32)), .val (.int (4 : Int32))] bSz_d35 rfl ?_
            refine Road.iinc 36 (1) #[.val (.int y), .val (.int d), .val (.int (-100000 : Int32)), .val (.int ((4 : Int32) + 1))] bSz_d36 rfl rfl rfl ?_
            rw [show (4 : Int32) + 1 = 5 from by decide]
            refine Road.goto 39 16 bSz_d39 rfl ?_
            refine Road.iloadN 16 bSz_d16 rfl ?_
            refine Road.bipush 17 (10 : Int32) bSz_d17 rfl ?_
            refine Road.icmp_ge 19 42 bSz_d19 rfl (fun q => absurd q (by decide)) (fun hc19 => ?_)
            refine Road.iloadN 22 bSz_d22 rfl ?_
            refine Road.iloadN 23 bSz_d23 rfl ?_
            refine Road.icmp_le 24 31 bSz_d24 rfl (fun e5 => ?_) (fun e5 => ?_)
            · skip
              have g5 : 10 ^ 5 ≤ m := by rw [Int32.lt_iff_toInt_lt, hy, show ((-100000) : Int32).toInt = -100000 from rfl] at e5; omega
              refine Road.bipush 31 (10 : Int32) bSz_d31 rfl ?_
              refine Road.iloadN 33 bSz_d33 rfl ?_
              refine Road.imul 34 bSz_d34 ?_
              refine Road.nameI ?_
              intro z_5 hz_5
              obtain rfl : z_5 = (-1000000 : Int32) := by rw [hz_5]; decide
              refine Road.istoreN 35 #[.val (.int y), .val (.int d), .val (.int (-1000000 : Int32)), .val (.int (5 : Int32))] bSz_d35 rfl ?_
              refine Road.iinc 36 (1) #[.val (.int y), .val (.int d), .val (.int (-1000000 : Int32)), .val (.int ((5 : Int32) + 1))] bSz_d36 rfl rfl rfl ?_
              rw [show (5 : Int32) + 1 = 6 from by decide]
              refine Road.goto 39 16 bSz_d39 rfl ?_
              refine Road.iloadN 16 bSz_d16 rfl ?_
              refine Road.bipush 17 (10 : Int32) bSz_d17 rfl ?_
              refine Road.icmp_ge 19 42 bSz_d19 rfl (fun q => absurd q (by decide)) (fun hc19 => ?_)
              refine Road.iloadN 22 bSz_d22 rfl ?_
              refine Road.iloadN 23 bSz_d23 rfl ?_
              refine Road.icmp_le 24 31 bSz_d24 rfl (fun e6 => ?_) (fun e6 => ?_)
              · skip
                have g6 : 10 ^ 6 ≤ m := by rw [Int32.lt_iff_toInt_lt, hy, show ((-1000000) : Int32).toInt = -1000000 from rfl] at e6; omega
                refine Road.bipush 31 (10 : Int32) bSz_d31 rfl ?_
                refine Road.iloadN 33 bSz_d33 rfl ?_
                refine Road.imul 34 bSz_d34 ?_
                refine Road.nameI ?_
                intro z_6 hz_6
                obtain rfl : z_6 = (-10000000 : Int32) := by rw [hz_6]; decide
                refine Road.istoreN 35 #[.val (.int y), .val (.int d), .val (.int (-10000000 : Int32)), .val (.int (6 : Int32))] bSz_d35 rfl ?_
                refine Road.iinc 36 (1) #[.val (.int y), .val (.int d), .val (.int (-10000000 : Int32)), .val (.int ((6 : Int32) + 1))] bSz_d36 rfl rfl rfl ?_
                rw [show (6 : Int32) + 1 = 7 from by decide]
                refine Road.goto 39 16 bSz_d39 rfl ?_
                refine Road.iloadN 16 bSz_d16 rfl ?_
                refine Road.bipush 17 (10 : Int32) bSz_d17 rfl ?_
                refine Road.icmp_ge 19 42 bSz_d19 rfl (fun q => absurd q (by decide)) (fun hc19 => ?_)
                refine Road.iloadN 22 bSz_d22 rfl ?_
                refine Road.iloadN 23 bSz_d23 rfl ?_
                refine Road.icmp_le 24 31 bSz_d24 rfl (fun e7 => ?_) (fun e7 => ?_)
                · skip
                  have g7 : 10 ^ 7 ≤ m := by rw [Int32.lt_iff_toInt_lt, hy, show ((-10000000) : Int32).toInt = -10000000 from rfl] at e7; omega
                  refine Road.bipush 31 (10 : Int32) bSz_d31 rfl ?_
                  refine Road.iloadN 33 bSz_d33 rfl ?_
                  refine Road.imul 34 bSz_d34 ?_
                  refine Road.nameI ?_
                  intro z_7 hz_7
                  obtain rfl : z_7 = (-100000000 : Int32) := by rw [hz_7]; decide
                  refine Road.istoreN 35 #[.val (.int y), .val (.int d), .val (.int (-100000000 : Int32)), .val (.int (7 : Int32))] bSz_d35 rfl ?_
                  refine Road.iinc 36 (1) #[.val (.int y), .val (.int d), .val (.int (-100000000 : Int32)), .val (.int ((7 : Int32) + 1))] bSz_d36 rfl rfl rfl ?_
                  rw [show (7 : Int32) + 1 = 8 from by decide]
                  refine Road.goto 39 16 bSz_d39 rfl ?_
                  refine Road.iloadN 16 bSz_d16 rfl ?_
                  refine Road.bipush 17 (10 : Int32) bSz_d17 rfl ?_
                  refine Road.icmp_ge 19 42 bSz_d19 rfl (fun q => absurd q (by decide)) (fun hc19 => ?_)
                  refine Road.iloadN 22 bSz_d22 rfl ?_
                  refine Road.iloadN 23 bSz_d23 rfl ?_
                  refine Road.icmp_le 24 31 bSz_d24 rfl (fun e8 => ?_) (fun e8 => ?_)
                  · skip
                    have g8 : 10 ^ 8 ≤ m := by rw [Int32.lt_iff_toInt_lt, hy, show ((-100000000) : Int32).toInt = -100000000 from rfl] at e8; omega
                    refine Road.bipush 31 (10 : Int32) bSz_d31 rfl ?_
                    refine Road.iloadN 33 bSz_d33 rfl ?_
                    refine Road.imul 34 bSz_d34 ?_
                    refine Road.nameI ?_
                    intro z_8 hz_8
                    obtain rfl : z_8 = (-1000000000 : Int32) := by rw [hz_8]; decide
                    refine Road.istoreN 35 #[.val (.int y), .val (.int d), .val (.int (-1000000000 : Int32)), .val (.int (8 : Int32))] bSz_d35 rfl ?_
                    refine Road.iinc 36 (1) #[.val (.int y), .val (.int d), .val (.int (-1000000000 : Int32)), .val (.int ((8 : Int32) + 1))] bSz_d36 rfl rfl rfl ?_
                    rw [show (8 : Int32) + 1 = 9 from by decide]
                    refine Road.goto 39 16 bSz_d39 rfl ?_
                    refine Road.iloadN 16 bSz_d16 rfl ?_
                    refine Road.bipush 17 (10 : Int32) bSz_d17 rfl ?_
                    refine Road.icmp_ge 19 42 bSz_d19 rfl (fun q => absurd q (by decide)) (fun hc19 => ?_)
                    refine Road.iloadN 22 bSz_d22 rfl ?_
                    refine Road.iloadN 23 bSz_d23 rfl ?_
                    refine Road.icmp_le 24 31 bSz_d24 rfl (fun e9 => ?_) (fun e9 => ?_)
                    · skip
                      have g9 : 10 ^ 9 ≤ m := by rw [Int32.lt_iff_toInt_lt, hy, show ((-1000000000) : Int32).toInt = -1000000000 from rfl] at e9; omega
                      refine Road.bipush 31 (10 : Int32) bSz_d31 rfl ?_
                      refine Road.iloadN 33 bSz_d33 rfl ?_
                      refine Road.imul 34 bSz_d34 ?_
                      refine Road.nameI ?_
                      intro z_9 hz_9
                      obtain rfl : z_9 = (-1410065408 : Int32) := by rw [hz_9]; decide
                      refine Road.istoreN 35 #[.val (.int y), .val (.int d), .val (.int (-1410065408 : Int32)), .val (.int (9 : Int32))] bSz_d35 rfl ?_
                      refine Road.iinc 36 (1) #[.val (.int y), .val (.int d), .val (.int (-1410065408 : Int32)), .val (.int ((9 : Int32) + 1))] bSz_d36 rfl rfl rfl ?_
                      rw [show (9 : Int32) + 1 = 10 from by decide]
                      refine Road.goto 39 16 bSz_d39 rfl ?_
                      refine Road.iloadN 16 bSz_d16 rfl ?_
                      refine Road.bipush 17 (10 : Int32) bSz_d17 rfl ?_
                      refine Road.icmp_ge 19 42 bSz_d19 rfl (fun hc19 => ?_) (fun q => absurd q (by decide))
                      refine Road.bipush 42 (10 : Int32) bSz_d42 rfl ?_
                      refine Road.iloadN 44 bSz_d44 rfl ?_
                      have hlen := Road.decN_len 9 m (by omega) (Or.inr g9)
                      refine Road.iadd 45 bSz_d45 ?_
                      exact Road.iretI 46 bSz_d46 rfl (by decide) (by decide) (fun σ' m => ⟨by rw [hl, hlen, hd, ← Road.add32n]; rfl, rfl⟩)
                    · skip
                      have q9 : m < 10 ^ 9 := by rw [Int32.lt_iff_toInt_lt, hy, show ((-1000000000) : Int32).toInt = -1000000000 from rfl] at e9; omega
                      have hlen := Road.decN_len 8 m q9 (Or.inr g8)
                      refine Road.iloadN 27 bSz_d27 rfl ?_
                      refine Road.iloadN 28 bSz_d28 rfl ?_
                      refine Road.iadd 29 bSz_d29 ?_
                      exact Road.iretI 30 bSz_d30 rfl (by decide) (by decide) (fun σ' m => ⟨by rw [hl, hlen, hd, ← Road.add32n]; rfl, rfl⟩)
                  · skip
                    have q8 : m < 10 ^ 8 := by rw [Int32.lt_iff_toInt_lt, hy, show ((-100000000) : Int32).toInt = -100000000 from rfl] at e8; omega
                    have hlen := Road.decN_len 7 m q8 (Or.inr g7)
                    refine Road.iloadN 27 bSz_d27 rfl ?_
                    refine Road.iloadN 28 bSz_d28 rfl ?_
                    refine Road.iadd 29 bSz_d29 ?_
                    exact Road.iretI 30 bSz_d30 rfl (by decide) (by decide) (fun σ' m => ⟨by rw [hl, hlen, hd, ← Road.add32n]; rfl, rfl⟩)
                · skip
                  have q7 : m < 10 ^ 7 := by rw [Int32.lt_iff_toInt_lt, hy, show ((-10000000) : Int32).toInt = -10000000 from rfl] at e7; omega
                  have hlen := Road.decN_len 6 m q7 (Or.inr g6)
                  refine Road.iloadN 27 bSz_d27 rfl ?_
                  refine Road.iloadN 28 bSz_d28 rfl ?_
                  refine Road.iadd 29 bSz_d29 ?_
                  exact Road.iretI 30 bSz_d30 rfl (by decide) (by decide) (fun σ' m => ⟨by rw [hl, hlen, hd, ← Road.add32n]; rfl, rfl⟩)
              · skip
                have q6 : m < 10 ^ 6 := by rw [Int32.lt_iff_toInt_lt, hy, show ((-1000000) : Int32).toInt = -1000000 from rfl] at e6; omega
                have hlen := Road.decN_len 5 m q6 (Or.inr g5)
                refine Road.iloadN 27 bSz_d27 rfl ?_
                refine Road.iloadN 28 bSz_d28 rfl ?_
                refine Road.iadd 29 bSz_d29 ?_
                exact Road.iretI 30 bSz_d30 rfl (by decide) (by decide) (fun σ' m => ⟨by rw [hl, hlen, hd, ← Road.add32n]; rfl, rfl⟩)
            · skip
              have q5 : m < 10 ^ 5 := by rw [Int32.lt_iff_toInt_lt, hy, show ((-100000) : Int32).toInt = -100000 from rfl] at e5; omega
              have hlen := Road.decN_len 4 m q5 (Or.inr g4)
              refine Road.iloadN 27 bSz_d27 rfl ?_
              refine Road.iloadN 28 bSz_d28 rfl ?_
              refine Road.iadd 29 bSz_d29 ?_
              exact Road.iretI 30 bSz_d30 rfl (by decide) (by decide) (fun σ' m => ⟨by rw [hl, hlen, hd, ← Road.add32n]; rfl, rfl⟩)
          · skip
            have q4 : m < 10 ^ 4 := by rw [Int32.lt_iff_toInt_lt, hy, show ((-10000) : Int32).toInt = -10000 from rfl] at e4; omega
            have hlen := Road.decN_len 3 m q4 (Or.inr g3)
            refine Road.iloadN 27 bSz_d27 rfl ?_
            refine Road.iloadN 28 bSz_d28 rfl ?_
            refine Road.iadd 29 bSz_d29 ?_
            exact Road.iretI 30 bSz_d30 rfl (by decide) (by decide) (fun σ' m => ⟨by rw [hl, hlen, hd, ← Road.add32n]; rfl, rfl⟩)
        · skip
          have q3 : m < 10 ^ 3 := by rw [Int32.lt_iff_toInt_lt, hy, show ((-1000) : Int32).toInt = -1000 from rfl] at e3; omega
          have hlen := Road.decN_len 2 m q3 (Or.inr g2)
          refine Road.iloadN 27 bSz_d27 rfl ?_
          refine Road.iloadN 28 bSz_d28 rfl ?_
          refine Road.iadd 29 bSz_d29 ?_
          exact Road.iretI 30 bSz_d30 rfl (by decide) (by decide) (fun σ' m => ⟨by rw [hl, hlen, hd, ← Road.add32n]; rfl, rfl⟩)
      · skip
        have q2 : m < 10 ^ 2 := by rw [Int32.lt_iff_toInt_lt, hy, show ((-100) : Int32).toInt = -100 from rfl] at e2; omega
        have hlen := Road.decN_len 1 m q2 (Or.inr g1)
        refine Road.iloadN 27 bSz_d27 rfl ?_
        refine Road.iloadN 28 bSz_d28 rfl ?_
        refine Road.iadd 29 bSz_d29 ?_
        exact Road.iretI 30 bSz_d30 rfl (by decide) (by decide) (fun σ' m => ⟨by rw [hl, hlen, hd, ← Road.add32n]; rfl, rfl⟩)
    · skip
      have q1 : m < 10 ^ 1 := by rw [Int32.lt_iff_toInt_lt, hy, show ((-10) : Int32).toInt = -10 from rfl] at e1; omega
      have hlen := Road.decN_len 0 m q1 (Or.inl rfl)
      refine Road.iloadN 27 bSz_d27 rfl ?_
      refine Road.iloadN 28 bSz_d28 rfl ?_
      refine Road.iadd 29 bSz_d29 ?_
      exact Road.iretI 30 bSz_d30 rfl (by decide) (by decide) (fun σ' m => ⟨by rw [hl, hlen, hd, ← Road.add32n]; rfl, rfl⟩)
  refine Road.iconst 0 (1 : Int32) bSz_d0 rfl ?_
  refine Road.istoreN 1 #[.val (.int x), .val (.int (1 : Int32)), .unset, .unset] bSz_d1 rfl ?_
  refine Road.iloadN 2 bSz_d2 rfl ?_
  refine Road.if_lt 3 11 bSz_d3 rfl (fun hc3 => ?_) (fun hc3 => ?_)
  · skip
    rw [Road.lt0] at hc3
    exact tail x 1 1 (by omega) rfl (by unfold Road.dec; rw [if_pos hc3, ← hm]; rfl)
  · skip
    rw [Road.lt0] at hc3
    refine Road.iconst 6 (0 : Int32) bSz_d6 rfl ?_
    refine Road.istoreN 7 #[.val (.int x), .val (.int (0 : Int32)), .unset, .unset] bSz_d7 rfl ?_
    refine Road.iloadN 8 bSz_d8 rfl ?_
    refine Road.ineg 9 bSz_d9 ?_
    refine Road.istoreN 10 #[.val (.int (-x)), .val (.int (0 : Int32)), .unset, .unset] bSz_d10 rfl ?_
    exact tail (-x) 0 0 (by rw [Road.neg_nat (by omega)]; omega) rfl (by unfold Road.dec; rw [if_neg hc3, ← hm]; rfl)
def bGch : Road.Bdy := (⟨"java/lang/Integer", "getChars", "(II[B)I"⟩, jdk_33_method_12_code, 7, (some .int), { frames := 0, cells := 0, slots := 0, locals := 0 })
theorem bGch_d0 : decode bGch.bs 0 = .ok (.iload_n 1, 1) := by decide +kernel
theorem bGch_d1 : decode bGch.bs 1 = .ok (.istore 5, 2) := by decide +kernel
theorem bGch_d3 : decode bGch.bs 3 = .ok (.iload_n 0, 1) := by decide +kernel
theorem bGch_d4 : decode bGch.bs 4 = .ok (.ifCond .ge 7, 3) := by decide +kernel
theorem bGch_d7 : decode bGch.bs 7 = .ok (.iconst 1, 1) := by decide +kernel
theorem bGch_d8 : decode bGch.bs 8 = .ok (.goto 4, 3) := by decide +kernel
theorem bGch_d11 : decode bGch.bs 11 = .ok (.iconst 0, 1) := by decide +kernel
theorem bGch_d12 : decode bGch.bs 12 = .ok (.istore 6, 2) := by decide +kernel
theorem bGch_d14 : decode bGch.bs 14 = .ok (.iload 6, 2) := by decide +kernel
theorem bGch_d16 : decode bGch.bs 16 = .ok (.ifCond .ne 6, 3) := by decide +kernel
theorem bGch_d19 : decode bGch.bs 19 = .ok (.iload_n 0, 1) := by decide +kernel
theorem bGch_d20 : decode bGch.bs 20 = .ok (.ineg, 1) := by decide +kernel
theorem bGch_d21 : decode bGch.bs 21 = .ok (.istore_n 0, 1) := by decide +kernel
theorem bGch_d22 : decode bGch.bs 22 = .ok (.iload_n 0, 1) := by decide +kernel
theorem bGch_d23 : decode bGch.bs 23 = .ok (.bipush (-100), 2) := by decide +kernel
theorem bGch_d25 : decode bGch.bs 25 = .ok (.if_icmp .gt 47, 3) := by decide +kernel
theorem bGch_d28 : decode bGch.bs 28 = .ok (.iload_n 0, 1) := by decide +kernel
theorem bGch_d29 : decode bGch.bs 29 = .ok (.bipush 100, 2) := by decide +kernel
theorem bGch_d31 : decode bGch.bs 31 = .ok (.idiv, 1) := by decide +kernel
theorem bGch_d32 : decode bGch.bs 32 = .ok (.istore_n 3, 1) := by decide +kernel
theorem bGch_d33 : decode bGch.bs 33 = .ok (.iload_n 3, 1) := by decide +kernel
theorem bGch_d34 : decode bGch.bs 34 = .ok (.bipush 100, 2) := by decide +kernel
theorem bGch_d36 : decode bGch.bs 36 = .ok (.imul, 1) := by decide +kernel
theorem bGch_d37 : decode bGch.bs 37 = .ok (.iload_n 0, 1) := by decide +kernel
theorem bGch_d38 : decode bGch.bs 38 = .ok (.isub, 1) := by decide +kernel
theorem bGch_d39 : decode bGch.bs 39 = .ok (.istore 4, 2) := by decide +kernel
theorem bGch_d41 : decode bGch.bs 41 = .ok (.iload_n 3, 1) := by decide +kernel
theorem bGch_d42 : decode bGch.bs 42 = .ok (.istore_n 0, 1) := by decide +kernel
theorem bGch_d43 : decode bGch.bs 43 = .ok (.aload_n 2, 1) := by decide +kernel
theorem bGch_d44 : decode bGch.bs 44 = .ok (.iinc 5 (-1), 3) := by decide +kernel
theorem bGch_d47 : decode bGch.bs 47 = .ok (.iload 5, 2) := by decide +kernel
theorem bGch_d49 : decode bGch.bs 49 = .ok (.getstatic 83, 3) := by decide +kernel
theorem bGch_d52 : decode bGch.bs 52 = .ok (.iload 4, 2) := by decide +kernel
theorem bGch_d54 : decode bGch.bs 54 = .ok (.baload, 1) := by decide +kernel
theorem bGch_d55 : decode bGch.bs 55 = .ok (.bastore, 1) := by decide +kernel
theorem bGch_d56 : decode bGch.bs 56 = .ok (.aload_n 2, 1) := by decide +kernel
theorem bGch_d57 : decode bGch.bs 57 = .ok (.iinc 5 (-1), 3) := by decide +kernel
theorem bGch_d60 : decode bGch.bs 60 = .ok (.iload 5, 2) := by decide +kernel
theorem bGch_d62 : decode bGch.bs 62 = .ok (.getstatic 87, 3) := by decide +kernel
theorem bGch_d65 : decode bGch.bs 65 = .ok (.iload 4, 2) := by decide +kernel
theorem bGch_d67 : decode bGch.bs 67 = .ok (.baload, 1) := by decide +kernel
theorem bGch_d68 : decode bGch.bs 68 = .ok (.bastore, 1) := by decide +kernel
theorem bGch_d69 : decode bGch.bs 69 = .ok (.goto (-47), 3) := by decide +kernel
theorem bGch_d72 : decode bGch.bs 72 = .ok (.aload_n 2, 1) := by decide +kernel
theorem bGch_d73 : decode bGch.bs 73 = .ok (.iinc 5 (-1), 3) := by decide +kernel
theorem bGch_d76 : decode bGch.bs 76 = .ok (.iload 5, 2) := by decide +kernel
theorem bGch_d78 : decode bGch.bs 78 = .ok (.getstatic 83, 3) := by decide +kernel
theorem bGch_d81 : decode bGch.bs 81 = .ok (.iload_n 0, 1) := by decide +kernel
theorem bGch_d82 : decode bGch.bs 82 = .ok (.ineg, 1) := by decide +kernel
theorem bGch_d83 : decode bGch.bs 83 = .ok (.baload, 1) := by decide +kernel
theorem bGch_d84 : decode bGch.bs 84 = .ok (.bastore, 1) := by decide +kernel
theorem bGch_d85 : decode bGch.bs 85 = .ok (.iload_n 0, 1) := by decide +kernel
theorem bGch_d86 : decode bGch.bs 86 = .ok (.bipush (-9), 2) := by decide +kernel
theorem bGch_d88 : decode bGch.bs 88 = .ok (.if_icmp .ge 16, 3) := by decide +kernel
theorem bGch_d91 : decode bGch.bs 91 = .ok (.aload_n 2, 1) := by decide +kernel
theorem bGch_d92 : decode bGch.bs 92 = .ok (.iinc 5 (-1), 3) := by decide +kernel
theorem bGch_d95 : decode bGch.bs 95 = .ok (.iload 5, 2) := by decide +kernel
theorem bGch_d97 : decode bGch.bs 97 = .ok (.getstatic 87, 3) := by decide +kernel
theorem bGch_d100 : decode bGch.bs 100 = .ok (.iload_n 0, 1) := by decide +kernel
theorem bGch_d101 : decode bGch.bs 101 = .ok (.ineg, 1) := by decide +kernel
theorem bGch_d102 : decode bGch.bs 102 = .ok (.baload, 1) := by decide +kernel
theorem bGch_d103 : decode bGch.bs 103 = .ok (.bastore, 1) := by decide +kernel
theorem bGch_d104 : decode bGch.bs 104 = .ok (.iload 6, 2) := by decide +kernel
theorem bGch_d106 : decode bGch.bs 106 = .ok (.ifCond .eq 12, 3) := by decide +kernel
theorem bGch_d109 : decode bGch.bs 109 = .ok (.aload_n 2, 1) := by decide +kernel
theorem bGch_d110 : decode bGch.bs 110 = .ok (.iinc 5 (-1), 3) := by decide +kernel
theorem bGch_d113 : decode bGch.bs 113 = .ok (.iload 5, 2) := by decide +kernel
theorem bGch_d115 : decode bGch.bs 115 = .ok (.bipush 45, 2) := by decide +kernel
theorem bGch_d117 : decode bGch.bs 117 = .ok (.bastore, 1) := by decide +kernel
theorem bGch_d118 : decode bGch.bs 118 = .ok (.iload 5, 2) := by decide +kernel
theorem bGch_d120 : decode bGch.bs 120 = .ok (.ireturn, 1) := by decide +kernel
theorem bGch_pd : parseMethodDescriptor "(II[B)I" = some ⟨[.int, .int, (.array .byte)], (some .int)⟩ := by decide +kernel
theorem bGch_pn : plainFor bGch.y = true := plainFor_of_name (show plainName "java/lang/Integer" = true from by first | (simp [plainName, overriddenIn]; done) | decide +kernel)
theorem cGch (l : Launch) (Z : State) (a0 : Array Value) (hw : ∀ d ∈ tables_1, d.before a0 Z = true) (n0 : Nat) (hEW : EW Z a0 consts_1) (x : Int32) (d : Addr) (vd : List Value) (p : Nat) (h0 : Heap) (σ : Addr → Prop) (A : Road.Ary Z h0 d .byte vd) (hp : p + (Road.dec x).length ≤ vd.length) (sd : σ d) (o1 o2 : Addr) (HO : Sta Z Z.heap "java/lang/Integer" "DigitOnes" "[B" (.ref o1)) (AO : Road.Ary Z Z.heap o1 .byte Road.OnesL) (HT : Sta Z Z.heap "java/lang/Integer" "DigitTens" "[B" (.ref o2)) (AT : Road.Ary Z Z.heap o2 .byte Road.TensL) :
    Road.Con l Z consts_1 n0 false bGch [] σ #[(.int x), (.int (Nat.toInt32 (p + (Road.dec x).length))), (.ref d)] h0 (fun v h2 _ => v = some (.int (Nat.toInt32 p)) ∧ Keep h0 h2 [d] ∧ Road.Ary Z h2 d .byte (vd.take p ++ ((Road.dec x).map Road.byt ++ vd.drop (p + (Road.dec x).length)))) := by
  refine Road.Con.of bGch_pn hEW #[.val (.int x), .val (.int (Nat.toInt32 (p + (Road.dec x).length))), .val (.ref d), .unset, .unset, .unset, .unset] (fun m => Road.ent (Road.laid1 rfl (Road.laid1 rfl (Road.laid1 rfl Road.laid0))) (k := 4) rfl rfl) ?_
  intro D hD
  have hmx := Road.nat_le x
  have hsm := A.small
  obtain ⟨m0, hm0⟩ : ∃ m, m = x.toInt.natAbs := ⟨_, rfl⟩
  rw [← hm0] at hmx
  obtain ⟨ix, hix⟩ : ∃ i, i = Nat.toInt32 (p + (Road.dec x).length) := ⟨_, rfl⟩
  rw [← hix]
  have loop : ∀ (g : Int32) (p1 : Nat) (R1 : List Value), (∀ (h : Heap) (y : Int32) (w3 w4 : Slot), Keep h0 h [d] → Road.Ary Z h d .byte R1 → Road.Go l Z a0 consts_1 n0 false bGch D (fun v h2 _ => v = some (.int (Nat.toInt32 p)) ∧ Keep h0 h2 [d] ∧ Road.Ary Z h2 d .byte (vd.take p ++ ((Road.dec x).map Road.byt ++ vd.drop (p + (Road.dec x).length)))) h σ 0 0 104 #[.val (.int y), .val (.int ix), .val (.ref d), w3, w4, .val (.int (Nat.toInt32 p1)), .val (.int g)] []) → ∀ (m : Nat), m ≤ 2147483648 → ∀ (h : Heap) (y : Int32) (U T : List Value) (w3 w4 : Slot), Road.W1 w3 → Road.W1 w4 → y.toInt = -(m : Int) → Keep h0 h [d] → Road.Ary Z h d .byte (U ++ T) → U.length = p1 + (Road.decN m).length → U.take p1 ++ ((Road.decN m).map Road.byt ++ T) = R1 → Road.Go l Z a0 consts_1 n0 false bGch D (fun v h2 _ => v = some (.int (Nat.toInt32 p)) ∧ Keep h0 h2 [d] ∧ Road.Ary Z h2 d .byte (vd.take p ++ ((Road.dec x).map Road.byt ++ vd.drop (p + (Road.dec x).length)))) h σ 0 0 22 #[.val (.int y), .val (.int ix), .val (.ref d), w3, w4, .val (.int (Nat.toInt32 (p1 + (Road.decN m).length))), .val (.int g)] [] := by
    intro g p1 R1 hex m
    induction m using Nat.strongRecOn with
    | _ m ih =>
      intro hm h y U T w3 w4 hw3 hw4 hy KT A hU hR
      have hsm := A.small
      rw [List.length_append] at hsm
      refine Road.iloadN 22 bGch_d22 rfl ?_
      refine Road.bipush 23 (-100 : Int32) bGch_d23 rfl ?_
      refine Road.icmp_gt 25 72 bGch_d25 rfl (fun e25 => ?_) (fun e25 => ?_)
      · skip
        rw [Int32.lt_iff_toInt_lt, hy, show ((-100) : Int32).toInt = -100 from rfl] at e25
        by_cases h10 : m < 10
        · skip
          have hl1 : (Road.decN m).length = 1 := by rw [Road.decN_lt h10]; rfl
          rw [hl1] at hU ⊢
          refine Road.aloadN 72 bGch_d72 rfl ?_
          refine Road.iinc 73 (-1) #[.val (.int y), .val (.int ix), .val (.ref d), w3, w4, .val (.int ((Nat.toInt32 (p1 + 1)) + (-1))), .val (.int g)] bGch_d73 rfl rfl rfl ?_
          rw [Road.pred32]
          refine Road.iload 76 bGch_d76 rfl ?_
          refine Road.getstatic 78 bGch_d78 (hw _ (List.mem_of_getElem? (i := 131) rfl)) Via.refl HO ?_
          refine Road.iloadN 81 bGch_d81 rfl ?_
          refine Road.ineg 82 bGch_d82 ?_
          refine Road.Go.old ?_
          intro hO
          have KZ_1 := Road.keep_ext hO.2
          have AO' := AO.keep KZ_1 nin0
          refine Road.baload 83 m bGch_d83 AO' (Road.neg_int (by omega) hy) (by rw [Road.ones_at (by omega), Road.byt_dc (by omega)]) ?_
          refine Road.bastore 84 p1 (Road.dc (m % 10)) bGch_d84 A (Road.n32 (by omega)) (by rw [List.length_append]; omega) (Road.nar_dc (by omega)) sd ?_
          intro h_2 K_3 A_4
          replace KT := KT.trans K_3 (by intro z hz; simp only [List.mem_cons, List.not_mem_nil, or_false] at hz; rcases hz with rfl <;> first | (exact Or.inr (by assumption)) | (simp; done))
          replace A := A_4
          rw [Road.set_last U T _ p1 (by omega)] at A
          refine Road.iloadN 85 bGch_d85 rfl ?_
          refine Road.bipush 86 (-9 : Int32) bGch_d86 rfl ?_
          refine Road.icmp_ge 88 104 bGch_d88 rfl (fun hc88 => ?_) (fun q => absurd q (by rw [Int32.lt_iff_toInt_lt, hy, show ((-9) : Int32).toInt = -9 from rfl]; omega))
          rw [Road.decN_lt h10] at hR
          exact hex h_2 y w3 w4 KT (by rw [← hR]; rw [Nat.mod_eq_of_lt h10, ← Road.byt_dc h10] at A; exact A)
        · skip
          have hd2 : Road.decN m = [Road.dc (m / 10), Road.dc (m % 10)] := by rw [Road.decN_ge (by omega), Road.decN_lt (by omega)]; rfl
          have hl2 : (Road.decN m).length = 2 := by rw [hd2]; rfl
          rw [hl2] at hU ⊢
          rw [show p1 + 2 = p1 + 1 + 1 from rfl]
          refine Road.aloadN 72 bGch_d72 rfl ?_
          refine Road.iinc 73 (-1) #[.val (.int y), .val (.int ix), .val (.ref d), w3, w4, .val (.int ((Nat.toInt32 (p1 + 1 + 1)) + (-1))), .val (.int g)] bGch_d73 rfl rfl rfl ?_
          rw [Road.pred32]
          refine Road.iload 76 bGch_d76 rfl ?_
          refine Road.getstatic 78 bGch_d78 (hw _ (List.mem_of_getElem? (i := 131) rfl)) Via.refl HO ?_
          refine Road.iloadN 81 bGch_d81 rfl ?_
          refine Road.ineg 82 bGch_d82 ?_
          refine Road.Go.old ?_
          intro hO
          have KZ_5 := Road.keep_ext hO.2
          have AO' := AO.keep KZ_5 nin0
          refine Road.baload 83 m bGch_d83 AO' (Road.neg_int (by omega) hy) (by rw [Road.ones_at (by omega), Road.byt_dc (by omega)]) ?_
          refine Road.bastore 84 (p1 + 1) (Road.dc (m % 10)) bGch_d84 A (Road.n32 (by omega)) (by rw [List.length_append]; omega) (Road.nar_dc (by omega)) sd ?_
          intro h_6 K_7 A_8
          replace KT := KT.trans K_7 (by intro z hz; simp only [List.mem_cons, List.not_mem_nil, or_false] at hz; rcases hz with rfl <;> first | (exact Or.inr (by assumption)) | (simp; done))
          replace A := A_8
          rw [Road.set_last U T _ (p1 + 1) (by omega)] at A
          refine Road.iloadN 85 bGch_d85 rfl ?_
          refine Road.bipush 86 (-9 : Int32) bGch_d86 rfl ?_
          refine Road.icmp_ge 88 104 bGch_d88 rfl (fun q => absurd q (by rw [Decidable.not_not, Int32.lt_iff_toInt_lt, hy, show ((-9) : Int32).toInt = -9 from rfl]; omega)) (fun hc88 => ?_)
          have hU2 : (U.take (p1 + 1)).length = p1 + 1 := by rw [List.length_take]; omega
          refine Road.aloadN 91 bGch_d91 rfl ?_
          refine Road.iinc 92 (-1) #[.val (.int y), .val (.int ix), .val (.ref d), w3, w4, .val (.int ((Nat.toInt32 (p1 + 1)) + (-1))), .val (.int g)] bGch_d92 rfl rfl rfl ?_
          rw [Road.pred32]
          refine Road.iload 95 bGch_d95 rfl ?_
          refine Road.getstatic 97 bGch_d97 (hw _ (List.mem_of_getElem? (i := 216) rfl)) Via.refl HT ?_
          refine Road.iloadN 100 bGch_d100 rfl ?_
          refine Road.ineg 101 bGch_d101 ?_
          refine Road.Go.old ?_
          intro hO
          have KZ_9 := Road.keep_ext hO.2
          have AT' := AT.keep KZ_9 nin0
          refine Road.baload 102 m bGch_d102 AT' (Road.neg_int (by omega) hy) (by rw [Road.tens_at (by omega), Road.byt_dc (by omega)]) ?_
          refine Road.bastore 103 p1 (Road.dc (m / 10)) bGch_d103 A (Road.n32 (by omega)) (by rw [List.length_append]; omega) (Road.nar_dc (by omega)) sd ?_
          intro h_10 K_11 A_12
          replace KT := KT.trans K_11 (by intro z hz; simp only [List.mem_cons, List.not_mem_nil, or_false] at hz; rcases hz with rfl <;> first | (exact Or.inr (by assumption)) | (simp; done))
          replace A := A_12
          rw [Road.set_last (U.take (p1 + 1)) _ _ p1 (by omega)] at A
          rw [List.take_take, Nat.min_eq_left (by omega), ← Road.byt_dc (show m / 10 < 10 by omega), ← Road.byt_dc (show m % 10 < 10 by omega)] at A
          exact hex h_10 y w3 w4 KT (by rw [← hR, hd2]; exact A)
      · skip
        rw [Int32.lt_iff_toInt_lt, hy, show ((-100) : Int32).toInt = -100 from rfl] at e25
        have h100 := Road.decN_100 (show 100 ≤ m by omega)
        have hl3 : (Road.decN m).length = (Road.decN (m / 100)).length + 1 + 1 := by rw [h100, List.length_append]; rfl
        rw [hl3] at hU ⊢
        rw [show p1 + ((Road.decN (m / 100)).length + 1 + 1) = p1 + (Road.decN (m / 100)).length + 1 + 1 from by omega]
        refine Road.iloadN 28 bGch_d28 rfl ?_
        refine Road.bipush 29 (100 : Int32) bGch_d29 rfl ?_
        refine Road.idiv 31 bGch_d31 (by decide) ?_
        refine Road.nameI ?_
        intro qq hqq
        have hq : qq.toInt = -((m / 100 : Nat) : Int) := by rw [hqq]; exact Road.div100 hm hy
        refine Road.istoreN 32 #[.val (.int y), .val (.int ix), .val (.ref d), .val (.int qq), w4, .val (.int (Nat.toInt32 (p1 + (Road.decN (m / 100)).length + 1 + 1))), .val (.int g)] bGch_d32 (by rcases hw3 with rfl | ⟨x, rfl⟩ <;> rfl) ?_
        refine Road.iloadN 33 bGch_d33 rfl ?_
        refine Road.bipush 34 (100 : Int32) bGch_d34 rfl ?_
        refine Road.imul 36 bGch_d36 ?_
        refine Road.iloadN 37 bGch_d37 rfl ?_
        refine Road.isub 38 bGch_d38 ?_
        refine Road.nameI ?_
        intro rr hrr
        have hr : rr.toInt = ((m % 100 : Nat) : Int) := by rw [hrr, hqq]; exact Road.rem100 hm hy
        refine Road.istore 39 #[.val (.int y), .val (.int ix), .val (.ref d), .val (.int qq), .val (.int rr), .val (.int (Nat.toInt32 (p1 + (Road.decN (m / 100)).length + 1 + 1))), .val (.int g)] bGch_d39 (by rcases hw4 with rfl | ⟨x, rfl⟩ <;> rfl) ?_
        refine Road.iloadN 41 bGch_d41 rfl ?_
        refine Road.istoreN 42 #[.val (.int qq), .val (.int ix), .val (.ref d), .val (.int qq), .val (.int rr), .val (.int (Nat.toInt32 (p1 + (Road.decN (m / 100)).length + 1 + 1))), .val (.int g)] bGch_d42 rfl ?_
        refine Road.aloadN 43 bGch_d43 rfl ?_
        refine Road.iinc 44 (-1) #[.val (.int qq), .val (.int ix), .val (.ref d), .val (.int qq), .val (.int rr), .val (.int ((Nat.toInt32 (p1 + (Road.decN (m / 100)).length + 1 + 1)) + (-1))), .val (.int g)] bGch_d44 rfl rfl rfl ?_
        rw [Road.pred32]
        refine Road.iload 47 bGch_d47 rfl ?_
        refine Road.getstatic 49 bGch_d49 (hw _ (List.mem_of_getElem? (i := 131) rfl)) Via.refl HO ?_
        refine Road.iload 52 bGch_d52 rfl ?_
        refine Road.Go.old ?_
        intro hO
        have KZ_13 := Road.keep_ext hO.2
        have AO' := AO.keep KZ_13 nin0
        refine Road.baload 54 (m % 100) bGch_d54 AO' hr (by rw [Road.ones_at (by omega), Road.byt_dc (by omega)]) ?_
        refine Road.bastore 55 (p1 + (Road.decN (m / 100)).length + 1) (Road.dc (m % 100 % 10)) bGch_d55 A (Road.n32 (by omega)) (by rw [List.length_append]; omega) (Road.nar_dc (by omega)) sd ?_
        intro h_14 K_15 A_16
        replace KT := KT.trans K_15 (by intro z hz; simp only [List.mem_cons, List.not_mem_nil, or_false] at hz; rcases hz with rfl <;> first | (exact Or.inr (by assumption)) | (simp; done))
        replace A := A_16
        rw [Road.set_last U T _ (p1 + (Road.decN (m / 100)).length + 1) (by omega)] at A
        have hU2 : (U.take (p1 + (Road.decN (m / 100)).length + 1)).length = p1 + (Road.decN (m / 100)).length + 1 := by rw [List.length_take]; omega
        refine Road.aloadN 56 bGch_d56 rfl ?_
        refine Road.iinc 57 (-1) #[.val (.int qq), .val (.int ix), .val (.ref d), .val (.int qq), .val (.int rr), .val (.int ((Nat.toInt32 (p1 + (Road.decN (m / 100)).length + 1)) + (-1))), .val (.int g)] bGch_d57 rfl rfl rfl ?_
        rw [Road.pred32]
        refine Road.iload 60 bGch_d60 rfl ?_
        refine Road.getstatic 62 bGch_d62 (hw _ (List.mem_of_getElem? (i := 216) rfl)) Via.refl HT ?_
        refine Road.iload 65 bGch_d65 rfl ?_
        refine Road.Go.old ?_
        intro hO
        have KZ_17 := Road.keep_ext hO.2
        have AT' := AT.keep KZ_17 nin0
        refine Road.baload 67 (m % 100) bGch_d67 AT' hr (by rw [Road.tens_at (by omega), Road.byt_dc (by omega)]) ?_
        refine Road.bastore 68 (p1 + (Road.decN (m / 100)).length) (Road.dc (m % 100 / 10)) bGch_d68 A (Road.n32 (by omega)) (by rw [List.length_append]; omega) (Road.nar_dc (by omega)) sd ?_
        intro h_18 K_19 A_20
        replace KT := KT.trans K_19 (by intro z hz; simp only [List.mem_cons, List.not_mem_nil, or_false] at hz; rcases hz with rfl <;> first | (exact Or.inr (by assumption)) | (simp; done))
        replace A := A_20
        rw [Road.set_last (U.take (p1 + (Road.decN (m / 100)).length + 1)) _ _ (p1 + (Road.decN (m / 100)).length) (by omega)] at A
        rw [List.take_take, Nat.min_eq_left (by omega), ← Road.byt_dc (show m % 100 / 10 < 10 by omega), ← Road.byt_dc (show m % 100 % 10 < 10 by omega)] at A
        refine Road.goto 69 22 bGch_d69 rfl ?_
        exact ih (m / 100) (by omega) (by omega) h_18 qq _ _ _ _ (Or.inr ⟨_, rfl⟩) (Or.inr ⟨_, rfl⟩) hq KT A (by rw [List.length_take]; omega) (by rw [← hR, h100, List.take_take, Nat.min_eq_left (by omega), List.map_append, List.append_assoc]; rfl)
  refine Road.iloadN 0 bGch_d0 rfl ?_
  refine Road.istore 1 #[.val (.int x), .val (.int ix), .val (.ref d), .unset, .unset, .val (.int ix), .unset] bGch_d1 rfl ?_
  refine Road.iloadN 3 bGch_d3 rfl ?_
  refine Road.if_ge 4 11 bGch_d4 rfl (fun hc4 => ?_) (fun hc4 => ?_)
  · skip
    rw [Road.lt0] at hc4
    have hdx : Road.dec x = Road.decN m0 := by unfold Road.dec; rw [if_neg hc4, ← hm0]
    rw [hdx] at hp hix
    refine Road.iconst 11 (0 : Int32) bGch_d11 rfl ?_
    refine Road.istore 12 #[.val (.int x), .val (.int ix), .val (.ref d), .unset, .unset, .val (.int ix), .val (.int (0 : Int32))] bGch_d12 rfl ?_
    refine Road.iload 14 bGch_d14 rfl ?_
    refine Road.if_ne 16 22 bGch_d16 rfl (fun q => absurd q (by decide)) (fun hc16 => ?_)
    refine Road.iloadN 19 bGch_d19 rfl ?_
    refine Road.ineg 20 bGch_d20 ?_
    refine Road.istoreN 21 #[.val (.int (-x)), .val (.int ix), .val (.ref d), .unset, .unset, .val (.int ix), .val (.int (0 : Int32))] bGch_d21 rfl ?_
    have hix2 : ix = Nat.toInt32 (p + (Road.decN m0).length) := by rw [hix]
    have exit : ∀ (h : Heap) (y : Int32) (w3 w4 : Slot), Keep h0 h [d] → Road.Ary Z h d .byte (vd.take p ++ ((Road.decN m0).map Road.byt ++ vd.drop (p + (Road.decN m0).length))) → Road.Go l Z a0 consts_1 n0 false bGch D (fun v h2 _ => v = some (.int (Nat.toInt32 p)) ∧ Keep h0 h2 [d] ∧ Road.Ary Z h2 d .byte (vd.take p ++ ((Road.dec x).map Road.byt ++ vd.drop (p + (Road.dec x).length)))) h σ 0 0 104 #[.val (.int y), .val (.int ix), .val (.ref d), w3, w4, .val (.int (Nat.toInt32 p)), .val (.int (0 : Int32))] [] := by
      intro h y w3 w4 KT A
      refine Road.iload 104 bGch_d104 rfl ?_
      refine Road.if_eq 106 118 bGch_d106 rfl (fun hc106 => ?_) (fun q => absurd q (by decide))
      refine Road.iload 118 bGch_d118 rfl ?_
      exact Road.iretI 120 bGch_d120 rfl (by decide) (by decide) (fun σ' m => ⟨rfl, KT, by rw [hdx]; exact A⟩)
    have fin := loop (0 : Int32) p (vd.take p ++ ((Road.decN m0).map Road.byt ++ vd.drop (p + (Road.decN m0).length))) exit m0 hmx h0 (-x) (vd.take (p + (Road.decN m0).length)) (vd.drop (p + (Road.decN m0).length)) .unset .unset (Or.inl rfl) (Or.inl rfl) (by rw [Road.neg_nat (by omega)]; omega) (Keep.refl _ _) (by rw [List.take_append_drop]; exact A) (by rw [List.length_take]; omega) (by rw [List.take_take, Nat.min_eq_left (by omega)])
    rw [← hix2] at fin
    exact fin
  · skip
    rw [Road.lt0] at hc4
    have hdx : Road.dec x = 45 :: Road.decN m0 := by unfold Road.dec; rw [if_pos hc4, ← hm0]
    rw [hdx] at hp hix
    rw [List.length_cons] at hp hix
    refine Road.iconst 7 (1 : Int32) bGch_d7 rfl ?_
    refine Road.goto 8 12 bGch_d8 rfl ?_
    refine Road.istore 12 #[.val (.int x), .val (.int ix), .val (.ref d), .unset, .unset, .val (.int ix), .val (.int (1 : Int32))] bGch_d12 rfl ?_
    refine Road.iload 14 bGch_d14 rfl ?_
    refine Road.if_ne 16 22 bGch_d16 rfl (fun hc16 => ?_) (fun q => absurd q (by decide))
    have hix2 : ix = Nat.toInt32 ((p + 1) + (Road.decN m0).length) := by rw [hix]; congr 1; omega
    have exit : ∀ (h : Heap) (y : Int32) (w3 w4 : Slot), Keep h0 h [d] → Road.Ary Z h d .byte (vd.take (p + 1) ++ ((Road.decN m0).map Road.byt ++ vd.drop ((p + 1) + (Road.decN m0).length))) → Road.Go l Z a0 consts_1 n0 false bGch D (fun v h2 _ => v = some (.int (Nat.toInt32 p)) ∧ Keep h0 h2 [d] ∧ Road.Ary Z h2 d .byte (vd.take p ++ ((Road.dec x).map Road.byt ++ vd.drop (p + (Road.dec x).length)))) h σ 0 0 104 #[.val (.int y), .val (.int ix), .val (.ref d), w3, w4, .val (.int (Nat.toInt32 (p + 1))), .val (.int (1 : Int32))] [] := by
      intro h y w3 w4 KT A
      refine Road.iload 104 bGch_d104 rfl ?_
      refine Road.if_eq 106 118 bGch_d106 rfl (fun q => absurd q (by decide)) (fun hc106 => ?_)
      refine Road.aloadN 109 bGch_d109 rfl ?_
      refine Road.iinc 110 (-1) #[.val (.int y), .val (.int ix), .val (.ref d), w3, w4, .val (.int ((Nat.toInt32 (p + 1)) + (-1))), .val (.int (1 : Int32))] bGch_d110 rfl rfl rfl ?_
      rw [Road.pred32]
      refine Road.iload 113 bGch_d113 rfl ?_
      refine Road.bipush 115 (45 : Int32) bGch_d115 rfl ?_
      refine Road.bastore 117 p (45 : Int32) bGch_d117 A (Road.n32 (by omega)) (by rw [List.length_append, List.length_take]; omega) rfl sd ?_
      intro h_21 K_22 A_23
      replace KT := KT.trans K_22 (by intro z hz; simp only [List.mem_cons, List.not_mem_nil, or_false] at hz; rcases hz with rfl <;> first | (exact Or.inr (by assumption)) | (simp; done))
      replace A := A_23
      rw [Road.set_last (vd.take (p + 1)) _ _ p (by rw [List.length_take]; omega), List.take_take, Nat.min_eq_left (by omega)] at A
      refine Road.iload 118 bGch_d118 rfl ?_
      exact Road.iretI 120 bGch_d120 rfl (by decide) (by decide) (fun σ' m => ⟨rfl, KT, by rw [hdx, List.length_cons, show p + ((Road.decN m0).length + 1) = p + 1 + (Road.decN m0).length from by omega]; exact A⟩)
    have fin := loop (1 : Int32) (p + 1) (vd.take (p + 1) ++ ((Road.decN m0).map Road.byt ++ vd.drop ((p + 1) + (Road.decN m0).length))) exit m0 hmx h0 x (vd.take ((p + 1) + (Road.decN m0).length)) (vd.drop ((p + 1) + (Road.decN m0).length)) .unset .unset (Or.inl rfl) (Or.inl rfl) (by omega) (Keep.refl _ _) (by rw [List.take_append_drop]; exact A) (by rw [List.length_take]; omega) (by rw [List.take_take, Nat.min_eq_left (by omega)])
    rw [← hix2] at fin
    exact fin
def bAi0 : Road.Bdy := (⟨"java/lang/AbstractStringBuilder", "append", "(I)Ljava/lang/AbstractStringBuilder;"⟩, jdk_68_method_32_code, 4, (some (.object "java/lang/AbstractStringBuilder")), { frames := 1, cells := 0, slots := 0, locals := 18 })
theorem bAi0_d0 : decode bAi0.bs 0 = .ok (.aload_n 0, 1) := by decide +kernel
theorem bAi0_d1 : decode bAi0.bs 1 = .ok (.getfield 79, 3) := by decide +kernel
theorem bAi0_d4 : decode bAi0.bs 4 = .ok (.istore_n 2, 1) := by decide +kernel
theorem bAi0_d5 : decode bAi0.bs 5 = .ok (.iload_n 2, 1) := by decide +kernel
theorem bAi0_d6 : decode bAi0.bs 6 = .ok (.iload_n 1, 1) := by decide +kernel
theorem bAi0_d7 : decode bAi0.bs 7 = .ok (.invokestatic 245, 3) := by decide +kernel
theorem bAi0_d10 : decode bAi0.bs 10 = .ok (.iadd, 1) := by decide +kernel
theorem bAi0_d11 : decode bAi0.bs 11 = .ok (.istore_n 3, 1) := by decide +kernel
theorem bAi0_d12 : decode bAi0.bs 12 = .ok (.aload_n 0, 1) := by decide +kernel
theorem bAi0_d13 : decode bAi0.bs 13 = .ok (.iload_n 3, 1) := by decide +kernel
theorem bAi0_d14 : decode bAi0.bs 14 = .ok (.invokevirtual 100, 3) := by decide +kernel
theorem bAi0_d17 : decode bAi0.bs 17 = .ok (.aload_n 0, 1) := by decide +kernel
theorem bAi0_d18 : decode bAi0.bs 18 = .ok (.invokevirtual 83, 3) := by decide +kernel
theorem bAi0_d21 : decode bAi0.bs 21 = .ok (.ifCond .eq 16, 3) := by decide +kernel
theorem bAi0_d24 : decode bAi0.bs 24 = .ok (.iload_n 1, 1) := by decide +kernel
theorem bAi0_d25 : decode bAi0.bs 25 = .ok (.iload_n 3, 1) := by decide +kernel
theorem bAi0_d26 : decode bAi0.bs 26 = .ok (.aload_n 0, 1) := by decide +kernel
theorem bAi0_d27 : decode bAi0.bs 27 = .ok (.getfield 15, 3) := by decide +kernel
theorem bAi0_d30 : decode bAi0.bs 30 = .ok (.invokestatic 248, 3) := by decide +kernel
theorem bAi0_d33 : decode bAi0.bs 33 = .ok (.pop, 1) := by decide +kernel
theorem bAi0_d34 : decode bAi0.bs 34 = .ok (.goto 14, 3) := by decide +kernel
theorem bAi0_d37 : decode bAi0.bs 37 = .ok (.iload_n 1, 1) := by decide +kernel
theorem bAi0_d38 : decode bAi0.bs 38 = .ok (.iload_n 2, 1) := by decide +kernel
theorem bAi0_d39 : decode bAi0.bs 39 = .ok (.iload_n 3, 1) := by decide +kernel
theorem bAi0_d40 : decode bAi0.bs 40 = .ok (.aload_n 0, 1) := by decide +kernel
theorem bAi0_d41 : decode bAi0.bs 41 = .ok (.getfield 15, 3) := by decide +kernel
theorem bAi0_d44 : decode bAi0.bs 44 = .ok (.invokestatic 251, 3) := by decide +kernel
theorem bAi0_d47 : decode bAi0.bs 47 = .ok (.pop, 1) := by decide +kernel
theorem bAi0_d48 : decode bAi0.bs 48 = .ok (.aload_n 0, 1) := by decide +kernel
theorem bAi0_d49 : decode bAi0.bs 49 = .ok (.iload_n 3, 1) := by decide +kernel
theorem bAi0_d50 : decode bAi0.bs 50 = .ok (.putfield 79, 3) := by decide +kernel
theorem bAi0_d53 : decode bAi0.bs 53 = .ok (.aload_n 0, 1) := by decide +kernel
theorem bAi0_d54 : decode bAi0.bs 54 = .ok (.areturn, 1) := by decide +kernel
theorem bAi0_pd : parseMethodDescriptor "(I)Ljava/lang/AbstractStringBuilder;" = some ⟨[.int], (some (.object "java/lang/AbstractStringBuilder"))⟩ := by decide +kernel
theorem bAi0_pn : plainFor bAi0.y = true := plainFor_of_name (show plainName "java/lang/AbstractStringBuilder" = true from by first | (simp [plainName, overriddenIn]; done) | decide +kernel)
theorem cAi0 (l : Launch) (Z : State) (a0 : Array Value) (hw : ∀ d ∈ tables_1, d.before a0 Z = true) (n0 : Nat) (hEW : EW Z a0 consts_1) (q b : Addr) (cs : List Int32) (N : Nat) (x : Int32) (h0 : Heap) (σ : Addr → Prop) (S : Road.Sb Z h0 q b cs N) (hm : cs.length + (Road.dec x).length ≤ N) (sb_ : σ b) (sq : σ q) (cp : Int32) (Hc : Sta Z Z.heap Road.SN "COMPACT_STRINGS" "Z" (.int cp)) (hcp : ¬ cp = 0) (o1 o2 : Addr) (HO : Sta Z Z.heap "java/lang/Integer" "DigitOnes" "[B" (.ref o1)) (AO : Road.Ary Z Z.heap o1 .byte Road.OnesL) (HT : Sta Z Z.heap "java/lang/Integer" "DigitTens" "[B" (.ref o2)) (AT : Road.Ary Z Z.heap o2 .byte Road.TensL) :
    Road.Con l Z consts_1 n0 false bAi0 [] σ #[(.ref q), (.int x)] h0 (fun v h2 s2 => v = some (.ref q) ∧ Keep h0 h2 [q, b] ∧ Road.Sb Z h2 q b (cs ++ Road.dec x) N) := by
  have S0 := S
  have hN := S.small
  have hle := S.le
  obtain ⟨E, Fc, Fv, Fn, ⟨r, Ab, hr⟩, hlt⟩ := S
  have nqb : q ≠ b := by obtain ⟨c, Ar, -⟩ := Ab; exact ne_arr E (hw _ (List.mem_of_getElem? (i := 44) rfl)) Ar
  refine Road.Con.of bAi0_pn hEW #[.val (.ref q), .val (.int x), .unset, .unset] (fun m => Road.ent (Road.laid1 rfl (Road.laid1 rfl Road.laid0)) (k := 2) rfl rfl) ?_
  intro D hD
  refine Road.aloadN 0 bAi0_d0 rfl ?_
  refine Road.getfield 1 bAi0_d1 (hw _ (List.mem_of_getElem? (i := 82) rfl)) Via.refl Fn ?_
  refine Road.istoreN 4 #[.val (.ref q), .val (.int x), .val (.int (Nat.toInt32 cs.length)), .unset] bAi0_d4 rfl ?_
  refine Road.iloadN 5 bAi0_d5 rfl ?_
  refine Road.iloadN 6 bAi0_d6 rfl ?_
  refine Road.callS (B' := bSz) 7 (argsL := [(.int x)]) (rest := [(.int (Nat.toInt32 cs.length))]) 1 bAi0_d7 (hw _ (List.mem_of_getElem? (i := 119) rfl)) (hw _ (List.mem_of_getElem? (i := 120) rfl)) (hw _ (List.mem_of_getElem? (i := 121) rfl)) (hw _ (List.mem_of_getElem? (i := 122) rfl)) (by decide) (cSz l Z a0 hw n0 hEW x h0 σ) (lenOf bSz_pd rfl) rfl rfl rfl (by decide) (by decide) (ce' := 0) (sl' := 0) rfl rfl (by decide) (by decide) ?_
  rintro _ h_1 σ_2 m_3 ⟨rfl, rfl⟩
  refine Road.Go.weaken (σ' := σ) m_3 (Nat.le_refl _) (Nat.le_refl _) ?_
  refine Road.iadd 10 bAi0_d10 ?_
  refine Road.nameI ?_
  intro z_5 hz_5
  obtain rfl : z_5 = (Nat.toInt32 (cs.length + (Road.dec x).length)) := by rw [hz_5]; exact Road.add32n _ _
  refine Road.istoreN 11 #[.val (.ref q), .val (.int x), .val (.int (Nat.toInt32 cs.length)), .val (.int (Nat.toInt32 (cs.length + (Road.dec x).length)))] bAi0_d11 rfl ?_
  refine Road.aloadN 12 bAi0_d12 rfl ?_
  refine Road.iloadN 13 bAi0_d13 rfl ?_
  refine Road.callP (B' := bEn0) (a := q) 14 (argsL := [(.int (Nat.toInt32 (cs.length + (Road.dec x).length)))]) (rest := []) "java/lang/StringBuilder" 0 bAi0_d14 (hw _ (List.mem_of_getElem? (i := 84) rfl)) (hw _ (List.mem_of_getElem? (i := 86) rfl)) (hw _ (List.mem_of_getElem? (i := 87) rfl)) (hw _ (List.mem_of_getElem? (i := 85) rfl)) (hw _ (List.mem_of_getElem? (i := 53) rfl)) (hw _ (List.mem_of_getElem? (i := 88) rfl)) (by decide) E (cEn0 l Z a0 hw n0 hEW q b cs N (cs.length + (Road.dec x).length) h0 σ S0 hm) (lenOf bEn0_pd rfl) rfl rfl rfl (by decide) (by decide) (ce' := 0) (sl' := 0) rfl rfl (by decide) (by decide) ?_
  rintro _ h_6 σ_7 m_8 ⟨rfl, rfl⟩
  refine Road.Go.weaken (σ' := σ) m_8 (Nat.le_refl _) (Nat.le_refl _) ?_
  refine Road.aloadN 17 bAi0_d17 rfl ?_
  refine Road.callV (B' := bAbL) (a := q) 18 (argsL := []) (rest := []) "java/lang/StringBuilder" 0 bAi0_d18 (hw _ (List.mem_of_getElem? (i := 123) rfl)) (hw _ (List.mem_of_getElem? (i := 124) rfl)) (fun vm hz => Road.notFace_sib (args := #[]) (mv (s := D.s.setVm vm) hz (hw _ (List.mem_of_getElem? (i := 87) rfl))) rfl) (hw _ (List.mem_of_getElem? (i := 126) rfl)) (hw _ (List.mem_of_getElem? (i := 125) rfl)) (hw _ (List.mem_of_getElem? (i := 53) rfl)) (hw _ (List.mem_of_getElem? (i := 127) rfl)) (by decide) E (cAbL l Z a0 hw n0 hEW q h0 σ Fc cp Hc hcp) (lenOf bAbL_pd rfl) rfl rfl rfl (by decide) (by decide) (ce' := 0) (sl' := 0) rfl rfl (by decide) (by decide) ?_
  rintro _ h_10 σ_11 m_12 ⟨rfl, rfl⟩
  refine Road.Go.weaken (σ' := σ) m_12 (Nat.le_refl _) (Nat.le_refl _) ?_
  refine Road.if_eq 21 37 bAi0_d21 rfl (fun q => absurd q (by decide)) (fun hc21 => ?_)
  refine Road.iloadN 24 bAi0_d24 rfl ?_
  refine Road.iloadN 25 bAi0_d25 rfl ?_
  refine Road.aloadN 26 bAi0_d26 rfl ?_
  refine Road.getfield 27 bAi0_d27 (hw _ (List.mem_of_getElem? (i := 57) rfl)) Via.refl Fv ?_
  refine Road.callS (B' := bGch) 30 (argsL := [(.int x), (.int (Nat.toInt32 (cs.length + (Road.dec x).length))), (.ref b)]) (rest := []) 0 bAi0_d30 (hw _ (List.mem_of_getElem? (i := 128) rfl)) (hw _ (List.mem_of_getElem? (i := 129) rfl)) (hw _ (List.mem_of_getElem? (i := 121) rfl)) (hw _ (List.mem_of_getElem? (i := 130) rfl)) (by decide) (cGch l Z a0 hw n0 hEW x b _ cs.length h0 σ Ab (by rw [List.length_append, List.length_map]; omega) sb_ o1 o2 HO AO HT AT) (lenOf bGch_pd rfl) rfl rfl rfl (by decide) (by decide) (ce' := 0) (sl' := 0) rfl rfl (by decide) (by decide) ?_
  rintro _ h_14 σ_15 m_16 ⟨rfl, K_17, A2⟩
  replace E := E.keep K_17
  replace Fc := Fc.keep K_17 (ninS nqb nin0)
  replace Fv := Fv.keep K_17 (ninS nqb nin0)
  replace Fn := Fn.keep K_17 (ninS nqb nin0)
  replace sq := m_16 _ sq
  replace sb_ := m_16 _ sb_
  rw [Road.put_wr _ _ _ (by omega)] at A2
  refine Road.pop 33 bAi0_d33 ?_
  refine Road.goto 34 48 bAi0_d34 rfl ?_
  refine Road.aloadN 48 bAi0_d48 rfl ?_
  refine Road.iloadN 49 bAi0_d49 rfl ?_
  refine Road.nameI ?_
  intro z_18 hz_18
  obtain rfl : z_18 = (Nat.toInt32 (cs ++ Road.dec x).length) := by rw [hz_18]; rw [List.length_append]
  refine Road.putfield 50 bAi0_d50 (hw _ (List.mem_of_getElem? (i := 82) rfl)) Via.refl Fn E (Or.inl (hw _ (List.mem_of_getElem? (i := 83) rfl))) (hw _ (List.mem_of_getElem? (i := 44) rfl)) (ty := .int) (by decide) rfl rfl sq ?_
  intro h_21 W_19 K_20
  replace Fn := Fn.same W_19
  replace Fc := Fc.other W_19 (Or.inr (slot_ne (Or.inl (hw _ (List.mem_of_getElem? (i := 60) rfl))) (Or.inl (hw _ (List.mem_of_getElem? (i := 83) rfl))) (by decide) (t := .byte) (by decide) (t' := .int) (by decide)))
  replace Fv := Fv.other W_19 (Or.inr (slot_ne (Or.inl (hw _ (List.mem_of_getElem? (i := 58) rfl))) (Or.inl (hw _ (List.mem_of_getElem? (i := 83) rfl))) (by decide) (t := (.array .byte)) (by decide) (t' := .int) (by decide)))
  replace E := E.keep K_20
  replace A2 := A2.keep K_20 (ninS (Ne.symm nqb) nin0)
  refine Road.aloadN 53 bAi0_d53 rfl ?_
  exact Road.aret 54 bAi0_d54 (t := (.object "java/lang/AbstractStringBuilder")) rfl rfl rfl (by decide) (by decide) (fun σ' m => ⟨rfl, Road.keep2 K_17 K_20, ⟨E, Fc, Fv, Fn, ⟨_, A2, by rw [List.length_append, List.length_drop]; omega⟩, (fun c hc => (List.mem_append.mp hc).elim (hlt c) (Road.dec_lat x c))⟩⟩)
def bSi0 : Road.Bdy := (⟨"java/lang/StringBuilder", "append", "(I)Ljava/lang/StringBuilder;"⟩, jdk_67_method_15_code, 2, (some (.object "java/lang/StringBuilder")), { frames := 2, cells := 0, slots := 0, locals := 33 })
theorem bSi0_d0 : decode bSi0.bs 0 = .ok (.aload_n 0, 1) := by decide +kernel
theorem bSi0_d1 : decode bSi0.bs 1 = .ok (.iload_n 1, 1) := by decide +kernel
theorem bSi0_d2 : decode bSi0.bs 2 = .ok (.invokespecial 53, 3) := by decide +kernel
theorem bSi0_d5 : decode bSi0.bs 5 = .ok (.pop, 1) := by decide +kernel
theorem bSi0_d6 : decode bSi0.bs 6 = .ok (.aload_n 0, 1) := by decide +kernel
theorem bSi0_d7 : decode bSi0.bs 7 = .ok (.areturn, 1) := by decide +kernel
theorem bSi0_pd : parseMethodDescriptor "(I)Ljava/lang/StringBuilder;" = some ⟨[.int], (some (.object "java/lang/StringBuilder"))⟩ := by decide +kernel
theorem bSi0_pn : plainFor bSi0.y = true := plainFor_of_name (show plainName "java/lang/StringBuilder" = true from by first | (simp [plainName, overriddenIn]; done) | decide +kernel)
theorem cSi0 (l : Launch) (Z : State) (a0 : Array Value) (hw : ∀ d ∈ tables_1, d.before a0 Z = true) (n0 : Nat) (hEW : EW Z a0 consts_1) (q b : Addr) (cs : List Int32) (N : Nat) (x : Int32) (h0 : Heap) (σ : Addr → Prop) (S : Road.Sb Z h0 q b cs N) (hm : cs.length + (Road.dec x).length ≤ N) (sb_ : σ b) (sq : σ q) (cp : Int32) (Hc : Sta Z Z.heap Road.SN "COMPACT_STRINGS" "Z" (.int cp)) (hcp : ¬ cp = 0) (o1 o2 : Addr) (HO : Sta Z Z.heap "java/lang/Integer" "DigitOnes" "[B" (.ref o1)) (AO : Road.Ary Z Z.heap o1 .byte Road.OnesL) (HT : Sta Z Z.heap "java/lang/Integer" "DigitTens" "[B" (.ref o2)) (AT : Road.Ary Z Z.heap o2 .byte Road.TensL) :
    Road.Con l Z consts_1 n0 false bSi0 [] σ #[(.ref q), (.int x)] h0 (fun v h2 s2 => v = some (.ref q) ∧ Keep h0 h2 [q, b] ∧ Road.Sb Z h2 q b (cs ++ Road.dec x) N) := by
  refine Road.Con.of bSi0_pn hEW #[.val (.ref q), .val (.int x)] (fun m => Road.ent (Road.laid1 rfl (Road.laid1 rfl Road.laid0)) (k := 0) rfl rfl) ?_
  intro D hD
  refine Road.aloadN 0 bSi0_d0 rfl ?_
  refine Road.iloadN 1 bSi0_d1 rfl ?_
  refine Road.callUp (B' := bAi0) (a := q) 2 (argsL := [(.int x)]) (rest := []) "java/lang/StringBuilder" 0 bSi0_d2 (hw _ (List.mem_of_getElem? (i := 115) rfl)) (Road.notFace_sib (hw _ (List.mem_of_getElem? (i := 87) rfl)) rfl) (hw _ (List.mem_of_getElem? (i := 116) rfl)) (hw _ (List.mem_of_getElem? (i := 68) rfl)) (hw _ (List.mem_of_getElem? (i := 53) rfl)) (hw _ (List.mem_of_getElem? (i := 118) rfl)) (by decide) (by decide) S.1 (cAi0 l Z a0 hw n0 hEW q b cs N x h0 σ S hm sb_ sq cp Hc hcp o1 o2 HO AO HT AT) (lenOf bAi0_pd rfl) rfl rfl rfl (by decide) (by decide) (ce' := 0) (sl' := 0) rfl rfl (by decide) (by decide) ?_
  rintro _ h_1 σ_2 m_3 ⟨rfl, K_4, S2⟩
  refine Road.pop 5 bSi0_d5 ?_
  refine Road.aloadN 6 bSi0_d6 rfl ?_
  exact Road.aret 7 bSi0_d7 (t := (.object "java/lang/StringBuilder")) rfl rfl rfl (by decide) (by decide) (fun σ' m => ⟨rfl, K_4, S2⟩)
def bMin : Road.Bdy := (⟨"java/lang/Math", "min", "(II)I"⟩, jdk_29_method_69_code, 2, (some .int), { frames := 0, cells := 0, slots := 0, locals := 0 })
theorem bMin_d0 : decode bMin.bs 0 = .ok (.iload_n 0, 1) := by decide +kernel
theorem bMin_d1 : decode bMin.bs 1 = .ok (.iload_n 1, 1) := by decide +kernel
theorem bMin_d2 : decode bMin.bs 2 = .ok (.if_icmp .gt 7, 3) := by decide +kernel
theorem bMin_d5 : decode bMin.bs 5 = .ok (.iload_n 0, 1) := by decide +kernel
theorem bMin_d6 : decode bMin.bs 6 = .ok (.goto 4, 3) := by decide +kernel
theorem bMin_d9 : decode bMin.bs 9 = .ok (.iload_n 1, 1) := by decide +kernel
theorem bMin_d10 : decode bMin.bs 10 = .ok (.ireturn, 1) := by decide +kernel
theorem bMin_pd : parseMethodDescriptor "(II)I" = some ⟨[.int, .int], (some .int)⟩ := by decide +kernel
theorem bMin_pn : plainFor bMin.y = true := Jvm.Free.JP.mathPlain rfl (by decide +kernel)
theorem cMin (l : Launch) (Z : State) (a0 : Array Value) (hw : ∀ d ∈ tables_1, d.before a0 Z = true) (n0 : Nat) (hEW : EW Z a0 consts_1) (i j : Nat) (h0 : Heap) (σ : Addr → Prop) (hi : i < 2147483648) (hj : j < 2147483648) :
    Road.Con l Z consts_1 n0 false bMin [] σ #[(.int (Nat.toInt32 i)), (.int (Nat.toInt32 j))] h0 (fun v h2 _ => v = some (.int (Nat.toInt32 (min i j))) ∧ h0 = h2) := by
  refine Road.Con.of bMin_pn hEW #[.val (.int (Nat.toInt32 i)), .val (.int (Nat.toInt32 j))] (fun m => Road.ent (Road.laid1 rfl (Road.laid1 rfl Road.laid0)) (k := 0) rfl rfl) ?_
  intro D hD
  refine Road.iloadN 0 bMin_d0 rfl ?_
  refine Road.iloadN 1 bMin_d1 rfl ?_
  refine Road.icmp_gt 2 9 bMin_d2 rfl (fun hc2 => ?_) (fun hc2 => ?_)
  · skip
    refine Road.iloadN 9 bMin_d9 rfl ?_
    exact Road.iretI 10 bMin_d10 rfl (by decide) (by decide) (fun σ' m => ⟨by rw [Road.lt32 hj hi] at hc2; rw [Nat.min_eq_right (by omega)], rfl⟩)
  · skip
    refine Road.iloadN 5 bMin_d5 rfl ?_
    refine Road.goto 6 10 bMin_d6 rfl ?_
    exact Road.iretI 10 bMin_d10 rfl (by decide) (by decide) (fun σ' m => ⟨by rw [Road.lt32 hj hi] at hc2; rw [Nat.min_eq_left (by omega)], rfl⟩)
def bChL : Road.Bdy := (⟨"java/util/Arrays", "checkLength", "(II)V"⟩, jdk_65_method_131_code, 2, none, { frames := 0, cells := 0, slots := 0, locals := 0 })
theorem bChL_d0 : decode bChL.bs 0 = .ok (.iload_n 1, 1) := by decide +kernel
theorem bChL_d1 : decode bChL.bs 1 = .ok (.iload_n 0, 1) := by decide +kernel
theorem bChL_d2 : decode bChL.bs 2 = .ok (.if_icmp .ge 35, 3) := by decide +kernel
theorem bChL_d5 : decode bChL.bs 5 = .ok (.new 43, 3) := by decide +kernel
theorem bChL_d8 : decode bChL.bs 8 = .ok (.dup, 1) := by decide +kernel
theorem bChL_d9 : decode bChL.bs 9 = .ok (.new 45, 3) := by decide +kernel
theorem bChL_d12 : decode bChL.bs 12 = .ok (.dup, 1) := by decide +kernel
theorem bChL_d13 : decode bChL.bs 13 = .ok (.invokespecial 47, 3) := by decide +kernel
theorem bChL_d16 : decode bChL.bs 16 = .ok (.iload_n 0, 1) := by decide +kernel
theorem bChL_d17 : decode bChL.bs 17 = .ok (.invokevirtual 54, 3) := by decide +kernel
theorem bChL_d20 : decode bChL.bs 20 = .ok (.ldc_w 337, 3) := by decide +kernel
theorem bChL_d23 : decode bChL.bs 23 = .ok (.invokevirtual 50, 3) := by decide +kernel
theorem bChL_d26 : decode bChL.bs 26 = .ok (.iload_n 1, 1) := by decide +kernel
theorem bChL_d27 : decode bChL.bs 27 = .ok (.invokevirtual 54, 3) := by decide +kernel
theorem bChL_d30 : decode bChL.bs 30 = .ok (.invokevirtual 61, 3) := by decide +kernel
theorem bChL_d33 : decode bChL.bs 33 = .ok (.invokespecial 65, 3) := by decide +kernel
theorem bChL_d36 : decode bChL.bs 36 = .ok (.athrow, 1) := by decide +kernel
theorem bChL_d37 : decode bChL.bs 37 = .ok (.return_, 1) := by decide +kernel
theorem bChL_pd : parseMethodDescriptor "(II)V" = some ⟨[.int, .int], none⟩ := by decide +kernel
theorem bChL_pn : plainFor bChL.y = true := plainFor_of_name (show plainName "java/util/Arrays" = true from by first | (simp [plainName, overriddenIn]; done) | decide +kernel)
theorem cChL (l : Launch) (Z : State) (a0 : Array Value) (hw : ∀ d ∈ tables_1, d.before a0 Z = true) (n0 : Nat) (hEW : EW Z a0 consts_1) (n : Nat) (h0 : Heap) (σ : Addr → Prop) (hn : n < 2147483648) :
    Road.Con l Z consts_1 n0 false bChL [] σ #[(.int (0 : Int32)), (.int (Nat.toInt32 n))] h0 (fun v h2 _ => v = none ∧ h0 = h2) := by
  refine Road.Con.of bChL_pn hEW #[.val (.int (0 : Int32)), .val (.int (Nat.toInt32 n))] (fun m => Road.ent (Road.laid1 rfl (Road.laid1 rfl Road.laid0)) (k := 0) rfl rfl) ?_
  intro D hD
  refine Road.iloadN 0 bChL_d0 rfl ?_
  refine Road.iloadN 1 bChL_d1 rfl ?_
  refine Road.icmp_ge 2 37 bChL_d2 rfl (fun hc2 => ?_) (fun q => absurd q (by rw [show (0 : Int32) = Nat.toInt32 0 from rfl, Road.lt32 hn (by omega)]; omega))
  exact Road.ret 37 bChL_d37 rfl (by decide) (by decide) (fun σ' m => ⟨rfl, rfl⟩)
def bCrB : Road.Bdy := (⟨"java/util/Arrays", "copyOfRangeByte", "([BII)[B"⟩, jdk_65_method_133_code, 5, (some (.array .byte)), { frames := 1, cells := 1, slots := 15, locals := 22 })
theorem bCrB_d0 : decode bCrB.bs 0 = .ok (.iload_n 1, 1) := by decide +kernel
theorem bCrB_d1 : decode bCrB.bs 1 = .ok (.iload_n 2, 1) := by decide +kernel
theorem bCrB_d2 : decode bCrB.bs 2 = .ok (.invokestatic 343, 3) := by decide +kernel
theorem bCrB_d5 : decode bCrB.bs 5 = .ok (.iload_n 2, 1) := by decide +kernel
theorem bCrB_d6 : decode bCrB.bs 6 = .ok (.iload_n 1, 1) := by decide +kernel
theorem bCrB_d7 : decode bCrB.bs 7 = .ok (.isub, 1) := by decide +kernel
theorem bCrB_d8 : decode bCrB.bs 8 = .ok (.istore_n 3, 1) := by decide +kernel
theorem bCrB_d9 : decode bCrB.bs 9 = .ok (.iload_n 3, 1) := by decide +kernel
theorem bCrB_d10 : decode bCrB.bs 10 = .ok (.newarray .byte, 2) := by decide +kernel
theorem bCrB_d12 : decode bCrB.bs 12 = .ok (.astore 4, 2) := by decide +kernel
theorem bCrB_d14 : decode bCrB.bs 14 = .ok (.aload_n 0, 1) := by decide +kernel
theorem bCrB_d15 : decode bCrB.bs 15 = .ok (.iload_n 1, 1) := by decide +kernel
theorem bCrB_d16 : decode bCrB.bs 16 = .ok (.aload 4, 2) := by decide +kernel
theorem bCrB_d18 : decode bCrB.bs 18 = .ok (.iconst 0, 1) := by decide +kernel
theorem bCrB_d19 : decode bCrB.bs 19 = .ok (.aload_n 0, 1) := by decide +kernel
theorem bCrB_d20 : decode bCrB.bs 20 = .ok (.arraylength, 1) := by decide +kernel
theorem bCrB_d21 : decode bCrB.bs 21 = .ok (.iload_n 1, 1) := by decide +kernel
theorem bCrB_d22 : decode bCrB.bs 22 = .ok (.isub, 1) := by decide +kernel
theorem bCrB_d23 : decode bCrB.bs 23 = .ok (.iload_n 3, 1) := by decide +kernel
theorem bCrB_d24 : decode bCrB.bs 24 = .ok (.invokestatic 304, 3) := by decide +kernel
theorem bCrB_d27 : decode bCrB.bs 27 = .ok (.invokestatic 150, 3) := by decide +kernel
theorem bCrB_d30 : decode bCrB.bs 30 = .ok (.aload 4, 2) := by decide +kernel
theorem bCrB_d32 : decode bCrB.bs 32 = .ok (.areturn, 1) := by decide +kernel
theorem bCrB_pd : parseMethodDescriptor "([BII)[B" = some ⟨[(.array .byte), .int, .int], (some (.array .byte))⟩ := by decide +kernel
theorem bCrB_pn : plainFor bCrB.y = true := plainFor_of_name (show plainName "java/util/Arrays" = true from by first | (simp [plainName, overriddenIn]; done) | decide +kernel)
theorem cCrB (l : Launch) (Z : State) (a0 : Array Value) (hw : ∀ d ∈ tables_1, d.before a0 Z = true) (n0 : Nat) (hEW : EW Z a0 consts_1) (b : Addr) (vs : List Value) (n : Nat) (h0 : Heap) (σ : Addr → Prop) (A : Road.Ary Z h0 b .byte vs) (hn : n < vs.length) (hcap : n ≤ 15) :
    Road.Con l Z consts_1 n0 false bCrB [] σ #[(.ref b), (.int (0 : Int32)), (.int (Nat.toInt32 n))] h0 (fun v h2 s2 => ∃ d, v = some (.ref d) ∧ h0.size ≤ d ∧ Keep h0 h2 [] ∧ s2 d ∧ Road.Ary Z h2 d .byte (vs.take n)) := by
  have hsm := A.small
  refine Road.Con.of bCrB_pn hEW #[.val (.ref b), .val (.int (0 : Int32)), .val (.int (Nat.toInt32 n)), .unset, .unset] (fun m => Road.ent (Road.laid1 rfl (Road.laid1 rfl (Road.laid1 rfl Road.laid0))) (k := 2) rfl rfl) ?_
  intro D hD
  refine Road.iloadN 0 bCrB_d0 rfl ?_
  refine Road.iloadN 1 bCrB_d1 rfl ?_
  refine Road.callS (B' := bChL) 2 (argsL := [(.int (0 : Int32)), (.int (Nat.toInt32 n))]) (rest := []) 0 bCrB_d2 (hw _ (List.mem_of_getElem? (i := 165) rfl)) (hw _ (List.mem_of_getElem? (i := 166) rfl)) (hw _ (List.mem_of_getElem? (i := 160) rfl)) (hw _ (List.mem_of_getElem? (i := 167) rfl)) (by decide) (cChL l Z a0 hw n0 hEW n h0 σ (by omega)) (lenOf bChL_pd rfl) rfl rfl rfl (by decide) (by decide) (ce' := 0) (sl' := 0) rfl rfl (by decide) (by decide) ?_
  rintro _ h_1 σ_2 m_3 ⟨rfl, rfl⟩
  refine Road.Go.weaken (σ' := σ) m_3 (Nat.le_refl _) (Nat.le_refl _) ?_
  refine Road.iloadN 5 bCrB_d5 rfl ?_
  refine Road.iloadN 6 bCrB_d6 rfl ?_
  refine Road.isub 7 bCrB_d7 ?_
  refine Road.nameI ?_
  intro z_5 hz_5
  obtain rfl : z_5 = (Nat.toInt32 n) := by rw [hz_5]; exact Int32.sub_zero _
  refine Road.istoreN 8 #[.val (.ref b), .val (.int (0 : Int32)), .val (.int (Nat.toInt32 n)), .val (.int (Nat.toInt32 n)), .unset] bCrB_d8 rfl ?_
  refine Road.iloadN 9 bCrB_d9 rfl ?_
  refine Road.newarray 10 .byte n 15 bCrB_d10 rfl (hw _ (List.mem_of_getElem? (i := 15) rfl)) (Road.n32 (by omega)) hcap (by decide) (ce' := 1) (sl' := 15) rfl rfl (by decide) (by decide) ?_
  intro d h_6 σ_7 g_8 K_9 lt_10 m_11 s_12 Ad
  have ne_b_d : b ≠ d := Nat.ne_of_lt (Nat.lt_of_lt_of_le A.lt (Nat.le_of_eq g_8.symm))
  replace A := A.keep K_9 nin0
  refine Road.astore 12 #[.val (.ref b), .val (.int (0 : Int32)), .val (.int (Nat.toInt32 n)), .val (.int (Nat.toInt32 n)), .val (.ref d)] bCrB_d12 rfl ?_
  refine Road.aloadN 14 bCrB_d14 rfl ?_
  refine Road.iloadN 15 bCrB_d15 rfl ?_
  refine Road.aload 16 bCrB_d16 rfl ?_
  refine Road.iconst 18 (0 : Int32) bCrB_d18 rfl ?_
  refine Road.aloadN 19 bCrB_d19 rfl ?_
  refine Road.alen 20 (Nat.toInt32 vs.length) bCrB_d20 A (n := vs.length) rfl rfl ?_
  refine Road.iloadN 21 bCrB_d21 rfl ?_
  refine Road.isub 22 bCrB_d22 ?_
  refine Road.nameI ?_
  intro z_13 hz_13
  obtain rfl : z_13 = (Nat.toInt32 vs.length) := by rw [hz_13]; exact Int32.sub_zero _
  refine Road.iloadN 23 bCrB_d23 rfl ?_
  refine Road.callS (B' := bMin) 24 (argsL := [(.int (Nat.toInt32 vs.length)), (.int (Nat.toInt32 n))]) (rest := [(.int (0 : Int32)), (.ref d), (.int (0 : Int32)), (.ref b)]) 4 bCrB_d24 (hw _ (List.mem_of_getElem? (i := 168) rfl)) (hw _ (List.mem_of_getElem? (i := 169) rfl)) (hw _ (List.mem_of_getElem? (i := 170) rfl)) (hw _ (List.mem_of_getElem? (i := 171) rfl)) (by decide) (cMin l Z a0 hw n0 hEW vs.length n h_6 σ_7 hsm (by omega)) (lenOf bMin_pd rfl) rfl rfl rfl (by decide) (by decide) (ce' := 1) (sl' := 15) rfl rfl (by decide) (by decide) ?_
  rintro _ h_14 σ_15 m_16 ⟨rfl, rfl⟩
  refine Road.Go.weaken (σ' := σ_7) m_16 (Nat.le_refl _) (Nat.le_refl _) ?_
  refine Road.acopy 27 0 0 n 0 bCrB_d27 (hw _ (List.mem_of_getElem? (i := 172) rfl)) (hw _ (List.mem_of_getElem? (i := 108) rfl)) (hw _ (List.mem_of_getElem? (i := 106) rfl)) (hw _ (List.mem_of_getElem? (i := 107) rfl)) A Ad rfl rfl rfl (by rw [Nat.min_eq_right (by omega)]; exact Road.n32 (by omega)) (by omega) (by rw [List.length_replicate]; omega) s_12 rfl rfl (by decide) (by decide) ?_
  intro h_18 K_19 Ae
  replace A := A.keep K_19 (ninS ne_b_d nin0)
  refine Road.aload 30 bCrB_d30 rfl ?_
  exact Road.aret 32 bCrB_d32 (t := (.array .byte)) rfl rfl rfl (by decide) (by decide) (fun σ' m => ⟨d, rfl, Nat.le_of_eq g_8.symm, K_9.trans K_19 (by intro x hx; cases List.mem_singleton.mp hx; exact Or.inr (Nat.le_of_eq g_8.symm)), m _ s_12, by simpa using Ae⟩)
def bCrR : Road.Bdy := (⟨"java/util/Arrays", "copyOfRange", "([BII)[B"⟩, jdk_65_method_132_code, 3, (some (.array .byte)), { frames := 2, cells := 1, slots := 15, locals := 38 })
theorem bCrR_d0 : decode bCrR.bs 0 = .ok (.iload_n 1, 1) := by decide +kernel
theorem bCrR_d1 : decode bCrR.bs 1 = .ok (.ifCond .ne 9, 3) := by decide +kernel
theorem bCrR_d4 : decode bCrR.bs 4 = .ok (.iload_n 2, 1) := by decide +kernel
theorem bCrR_d5 : decode bCrR.bs 5 = .ok (.aload_n 0, 1) := by decide +kernel
theorem bCrR_d6 : decode bCrR.bs 6 = .ok (.arraylength, 1) := by decide +kernel
theorem bCrR_d7 : decode bCrR.bs 7 = .ok (.if_icmp .eq 10, 3) := by decide +kernel
theorem bCrR_d10 : decode bCrR.bs 10 = .ok (.aload_n 0, 1) := by decide +kernel
theorem bCrR_d11 : decode bCrR.bs 11 = .ok (.iload_n 1, 1) := by decide +kernel
theorem bCrR_d12 : decode bCrR.bs 12 = .ok (.iload_n 2, 1) := by decide +kernel
theorem bCrR_d13 : decode bCrR.bs 13 = .ok (.invokestatic 339, 3) := by decide +kernel
theorem bCrR_d16 : decode bCrR.bs 16 = .ok (.areturn, 1) := by decide +kernel
theorem bCrR_d17 : decode bCrR.bs 17 = .ok (.aload_n 0, 1) := by decide +kernel
theorem bCrR_d18 : decode bCrR.bs 18 = .ok (.invokevirtual 310, 3) := by decide +kernel
theorem bCrR_d21 : decode bCrR.bs 21 = .ok (.checkcast 311, 3) := by decide +kernel
theorem bCrR_d24 : decode bCrR.bs 24 = .ok (.areturn, 1) := by decide +kernel
theorem bCrR_pd : parseMethodDescriptor "([BII)[B" = some ⟨[(.array .byte), .int, .int], (some (.array .byte))⟩ := by decide +kernel
theorem bCrR_pn : plainFor bCrR.y = true := plainFor_of_name (show plainName "java/util/Arrays" = true from by first | (simp [plainName, overriddenIn]; done) | decide +kernel)
theorem cCrR (l : Launch) (Z : State) (a0 : Array Value) (hw : ∀ d ∈ tables_1, d.before a0 Z = true) (n0 : Nat) (hEW : EW Z a0 consts_1) (b : Addr) (vs : List Value) (n : Nat) (h0 : Heap) (σ : Addr → Prop) (A : Road.Ary Z h0 b .byte vs) (hn : n < vs.length) (hcap : n ≤ 15) :
    Road.Con l Z consts_1 n0 false bCrR [] σ #[(.ref b), (.int (0 : Int32)), (.int (Nat.toInt32 n))] h0 (fun v h2 s2 => ∃ d, v = some (.ref d) ∧ h0.size ≤ d ∧ Keep h0 h2 [] ∧ s2 d ∧ Road.Ary Z h2 d .byte (vs.take n)) := by
  have hsm := A.small
  refine Road.Con.of bCrR_pn hEW #[.val (.ref b), .val (.int (0 : Int32)), .val (.int (Nat.toInt32 n))] (fun m => Road.ent (Road.laid1 rfl (Road.laid1 rfl (Road.laid1 rfl Road.laid0))) (k := 0) rfl rfl) ?_
  intro D hD
  refine Road.iloadN 0 bCrR_d0 rfl ?_
  refine Road.if_ne 1 10 bCrR_d1 rfl (fun q => absurd q (by decide)) (fun hc1 => ?_)
  refine Road.iloadN 4 bCrR_d4 rfl ?_
  refine Road.aloadN 5 bCrR_d5 rfl ?_
  refine Road.alen 6 (Nat.toInt32 vs.length) bCrR_d6 A (n := vs.length) rfl rfl ?_
  refine Road.icmp_eq 7 17 bCrR_d7 rfl (fun q => absurd q (by rw [Road.eq32 (by omega) hsm]; omega)) (fun hc7 => ?_)
  refine Road.aloadN 10 bCrR_d10 rfl ?_
  refine Road.iloadN 11 bCrR_d11 rfl ?_
  refine Road.iloadN 12 bCrR_d12 rfl ?_
  refine Road.callS (B' := bCrB) 13 (argsL := [(.ref b), (.int (0 : Int32)), (.int (Nat.toInt32 n))]) (rest := []) 0 bCrR_d13 (hw _ (List.mem_of_getElem? (i := 162) rfl)) (hw _ (List.mem_of_getElem? (i := 163) rfl)) (hw _ (List.mem_of_getElem? (i := 160) rfl)) (hw _ (List.mem_of_getElem? (i := 164) rfl)) (by decide) (cCrB l Z a0 hw n0 hEW b vs n h0 σ A hn hcap) (lenOf bCrB_pd rfl) rfl rfl rfl (by decide) (by decide) (ce' := 1) (sl' := 15) rfl rfl (by decide) (by decide) ?_
  rintro _ h_1 σ_2 m_3 ⟨d, rfl, gd, K_4, sd, Ad⟩
  exact Road.aret 16 bCrR_d16 (t := (.array .byte)) rfl rfl rfl (by decide) (by decide) (fun σ' m => ⟨d, rfl, gd, K_4, m _ sd, Ad⟩)
def bGtV : Road.Bdy := (⟨"java/lang/AbstractStringBuilder", "getValue", "()[B"⟩, jdk_68_method_64_code, 1, (some (.array .byte)), { frames := 0, cells := 0, slots := 0, locals := 0 })
theorem bGtV_d0 : decode bGtV.bs 0 = .ok (.aload_n 0, 1) := by decide +kernel
theorem bGtV_d1 : decode bGtV.bs 1 = .ok (.getfield 15, 3) := by decide +kernel
theorem bGtV_d4 : decode bGtV.bs 4 = .ok (.areturn, 1) := by decide +kernel
theorem bGtV_pd : parseMethodDescriptor "()[B" = some ⟨[], (some (.array .byte))⟩ := by decide +kernel
theorem bGtV_pn : plainFor bGtV.y = true := plainFor_of_name (show plainName "java/lang/AbstractStringBuilder" = true from by first | (simp [plainName, overriddenIn]; done) | decide +kernel)
theorem cGtV (l : Launch) (Z : State) (a0 : Array Value) (hw : ∀ d ∈ tables_1, d.before a0 Z = true) (n0 : Nat) (hEW : EW Z a0 consts_1) (q b : Addr) (h0 : Heap) (σ : Addr → Prop) (Fv : Fld Z h0 q Road.AB "value" "[B" (.ref b)) :
    Road.Con l Z consts_1 n0 false bGtV [] σ #[(.ref q)] h0 (fun v h2 _ => v = some (.ref b) ∧ h0 = h2) := by
  refine Road.Con.of bGtV_pn hEW #[.val (.ref q)] (fun m => Road.ent (Road.laid1 rfl Road.laid0) (k := 0) rfl rfl) ?_
  intro D hD
  refine Road.aloadN 0 bGtV_d0 rfl ?_
  refine Road.getfield 1 bGtV_d1 (hw _ (List.mem_of_getElem? (i := 57) rfl)) Via.refl Fv ?_
  exact Road.aret 4 bGtV_d4 (t := (.array .byte)) rfl rfl rfl (by decide) (by decide) (fun σ' m => ⟨rfl, rfl⟩)
def bAbN : Road.Bdy := (⟨"java/lang/AbstractStringBuilder", "length", "()I"⟩, jdk_68_method_6_code, 1, (some .int), { frames := 0, cells := 0, slots := 0, locals := 0 })
theorem bAbN_d0 : decode bAbN.bs 0 = .ok (.aload_n 0, 1) := by decide +kernel
theorem bAbN_d1 : decode bAbN.bs 1 = .ok (.getfield 79, 3) := by decide +kernel
theorem bAbN_d4 : decode bAbN.bs 4 = .ok (.ireturn, 1) := by decide +kernel
theorem bAbN_pd : parseMethodDescriptor "()I" = some ⟨[], (some .int)⟩ := by decide +kernel
theorem bAbN_pn : plainFor bAbN.y = true := plainFor_of_name (show plainName "java/lang/AbstractStringBuilder" = true from by first | (simp [plainName, overriddenIn]; done) | decide +kernel)
theorem cAbN (l : Launch) (Z : State) (a0 : Array Value) (hw : ∀ d ∈ tables_1, d.before a0 Z = true) (n0 : Nat) (hEW : EW Z a0 consts_1) (q : Addr) (n : Int32) (h0 : Heap) (σ : Addr → Prop) (Fn : Fld Z h0 q Road.AB "count" "I" (.int n)) :
    Road.Con l Z consts_1 n0 false bAbN [] σ #[(.ref q)] h0 (fun v h2 _ => v = some (.int n) ∧ h0 = h2) := by
  refine Road.Con.of bAbN_pn hEW #[.val (.ref q)] (fun m => Road.ent (Road.laid1 rfl Road.laid0) (k := 0) rfl rfl) ?_
  intro D hD
  refine Road.aloadN 0 bAbN_d0 rfl ?_
  refine Road.getfield 1 bAbN_d1 (hw _ (List.mem_of_getElem? (i := 82) rfl)) Via.refl Fn ?_
  exact Road.iretI 4 bAbN_d4 rfl (by decide) (by decide) (fun σ' m => ⟨rfl, rfl⟩)
def bSbN : Road.Bdy := (⟨"java/lang/StringBuilder", "length", "()I"⟩, jdk_67_method_93_code, 1, (some .int), { frames := 1, cells := 0, slots := 0, locals := 12 })
theorem bSbN_d0 : decode bSbN.bs 0 = .ok (.aload_n 0, 1) := by decide +kernel
theorem bSbN_d1 : decode bSbN.bs 1 = .ok (.invokespecial 343, 3) := by decide +kernel
theorem bSbN_d4 : decode bSbN.bs 4 = .ok (.ireturn, 1) := by decide +kernel
theorem bSbN_pd : parseMethodDescriptor "()I" = some ⟨[], (some .int)⟩ := by decide +kernel
theorem bSbN_pn : plainFor bSbN.y = true := plainFor_of_name (show plainName "java/lang/StringBuilder" = true from by first | (simp [plainName, overriddenIn]; done) | decide +kernel)
theorem cSbN (l : Launch) (Z : State) (a0 : Array Value) (hw : ∀ d ∈ tables_1, d.before a0 Z = true) (n0 : Nat) (hEW : EW Z a0 consts_1) (q : Addr) (n : Int32) (h0 : Heap) (σ : Addr → Prop) (E : Exa Z h0 q Road.SB) (Fn : Fld Z h0 q Road.AB "count" "I" (.int n)) :
    Road.Con l Z consts_1 n0 false bSbN [] σ #[(.ref q)] h0 (fun v h2 _ => v = some (.int n) ∧ h0 = h2) := by
  refine Road.Con.of bSbN_pn hEW #[.val (.ref q)] (fun m => Road.ent (Road.laid1 rfl Road.laid0) (k := 0) rfl rfl) ?_
  intro D hD
  refine Road.aloadN 0 bSbN_d0 rfl ?_
  refine Road.callUp (B' := bAbN) (a := q) 1 (argsL := []) (rest := []) "java/lang/StringBuilder" 0 bSbN_d1 (hw _ (List.mem_of_getElem? (i := 155) rfl)) (Road.notFace_sib (hw _ (List.mem_of_getElem? (i := 87) rfl)) rfl) (hw _ (List.mem_of_getElem? (i := 151) rfl)) (hw _ (List.mem_of_getElem? (i := 68) rfl)) (hw _ (List.mem_of_getElem? (i := 53) rfl)) (hw _ (List.mem_of_getElem? (i := 156) rfl)) (by decide) (by decide) E (cAbN l Z a0 hw n0 hEW q n h0 σ Fn) (lenOf bAbN_pd rfl) rfl rfl rfl (by decide) (by decide) (ce' := 0) (sl' := 0) rfl rfl (by decide) (by decide) ?_
  rintro _ h_1 σ_2 m_3 ⟨rfl, rfl⟩
  refine Road.Go.weaken (σ' := σ) m_3 (Nat.le_refl _) (Nat.le_refl _) ?_
  exact Road.iretI 4 bSbN_d4 rfl (by decide) (by decide) (fun σ' m => ⟨rfl, rfl⟩)
def bStV : Road.Bdy := (⟨"java/lang/String", "<init>", "(Ljava/lang/AbstractStringBuilder;Ljava/lang/Void;)V"⟩, jdk_42_method_150_code, 5, none, { frames := 3, cells := 1, slots := 15, locals := 53 })
theorem bStV_d0 : decode bStV.bs 0 = .ok (.aload_n 0, 1) := by decide +kernel
theorem bStV_d1 : decode bStV.bs 1 = .ok (.invokespecial 1, 3) := by decide +kernel
theorem bStV_d4 : decode bStV.bs 4 = .ok (.aload_n 1, 1) := by decide +kernel
theorem bStV_d5 : decode bStV.bs 5 = .ok (.invokevirtual 552, 3) := by decide +kernel
theorem bStV_d8 : decode bStV.bs 8 = .ok (.astore_n 3, 1) := by decide +kernel
theorem bStV_d9 : decode bStV.bs 9 = .ok (.aload_n 1, 1) := by decide +kernel
theorem bStV_d10 : decode bStV.bs 10 = .ok (.invokevirtual 549, 3) := by decide +kernel
theorem bStV_d13 : decode bStV.bs 13 = .ok (.istore 4, 2) := by decide +kernel
theorem bStV_d15 : decode bStV.bs 15 = .ok (.aload_n 1, 1) := by decide +kernel
theorem bStV_d16 : decode bStV.bs 16 = .ok (.invokevirtual 1047, 3) := by decide +kernel
theorem bStV_d19 : decode bStV.bs 19 = .ok (.ifCond .eq 22, 3) := by decide +kernel
theorem bStV_d22 : decode bStV.bs 22 = .ok (.aload_n 0, 1) := by decide +kernel
theorem bStV_d23 : decode bStV.bs 23 = .ok (.iconst 0, 1) := by decide +kernel
theorem bStV_d24 : decode bStV.bs 24 = .ok (.putfield 15, 3) := by decide +kernel
theorem bStV_d27 : decode bStV.bs 27 = .ok (.aload_n 0, 1) := by decide +kernel
theorem bStV_d28 : decode bStV.bs 28 = .ok (.aload_n 3, 1) := by decide +kernel
theorem bStV_d29 : decode bStV.bs 29 = .ok (.iconst 0, 1) := by decide +kernel
theorem bStV_d30 : decode bStV.bs 30 = .ok (.iload 4, 2) := by decide +kernel
theorem bStV_d32 : decode bStV.bs 32 = .ok (.invokestatic 54, 3) := by decide +kernel
theorem bStV_d35 : decode bStV.bs 35 = .ok (.putfield 9, 3) := by decide +kernel
theorem bStV_d38 : decode bStV.bs 38 = .ok (.goto 59, 3) := by decide +kernel
theorem bStV_d41 : decode bStV.bs 41 = .ok (.getstatic 38, 3) := by decide +kernel
theorem bStV_d44 : decode bStV.bs 44 = .ok (.ifCond .eq 35, 3) := by decide +kernel
theorem bStV_d47 : decode bStV.bs 47 = .ok (.aload_n 1, 1) := by decide +kernel
theorem bStV_d48 : decode bStV.bs 48 = .ok (.getfield 1048, 3) := by decide +kernel
theorem bStV_d51 : decode bStV.bs 51 = .ok (.ifCond .eq 28, 3) := by decide +kernel
theorem bStV_d54 : decode bStV.bs 54 = .ok (.aload_n 0, 1) := by decide +kernel
theorem bStV_d55 : decode bStV.bs 55 = .ok (.aload_n 3, 1) := by decide +kernel
theorem bStV_d56 : decode bStV.bs 56 = .ok (.iconst 0, 1) := by decide +kernel
theorem bStV_d57 : decode bStV.bs 57 = .ok (.iload 4, 2) := by decide +kernel
theorem bStV_d59 : decode bStV.bs 59 = .ok (.invokestatic 1051, 3) := by decide +kernel
theorem bStV_d62 : decode bStV.bs 62 = .ok (.putfield 9, 3) := by decide +kernel
theorem bStV_d65 : decode bStV.bs 65 = .ok (.aload_n 0, 1) := by decide +kernel
theorem bStV_d66 : decode bStV.bs 66 = .ok (.aload_n 0, 1) := by decide +kernel
theorem bStV_d67 : decode bStV.bs 67 = .ok (.getfield 9, 3) := by decide +kernel
theorem bStV_d70 : decode bStV.bs 70 = .ok (.iload 4, 2) := by decide +kernel
theorem bStV_d72 : decode bStV.bs 72 = .ok (.invokestatic 47, 3) := by decide +kernel
theorem bStV_d75 : decode bStV.bs 75 = .ok (.putfield 15, 3) := by decide +kernel
theorem bStV_d78 : decode bStV.bs 78 = .ok (.return_, 1) := by decide +kernel
theorem bStV_d79 : decode bStV.bs 79 = .ok (.aload_n 0, 1) := by decide +kernel
theorem bStV_d80 : decode bStV.bs 80 = .ok (.iconst 1, 1) := by decide +kernel
theorem bStV_d81 : decode bStV.bs 81 = .ok (.putfield 15, 3) := by decide +kernel
theorem bStV_d84 : decode bStV.bs 84 = .ok (.aload_n 0, 1) := by decide +kernel
theorem bStV_d85 : decode bStV.bs 85 = .ok (.aload_n 3, 1) := by decide +kernel
theorem bStV_d86 : decode bStV.bs 86 = .ok (.iconst 0, 1) := by decide +kernel
theorem bStV_d87 : decode bStV.bs 87 = .ok (.iload 4, 2) := by decide +kernel
theorem bStV_d89 : decode bStV.bs 89 = .ok (.iconst 1, 1) := by decide +kernel
theorem bStV_d90 : decode bStV.bs 90 = .ok (.ishl, 1) := by decide +kernel
theorem bStV_d91 : decode bStV.bs 91 = .ok (.invokestatic 54, 3) := by decide +kernel
theorem bStV_d94 : decode bStV.bs 94 = .ok (.putfield 9, 3) := by decide +kernel
theorem bStV_d97 : decode bStV.bs 97 = .ok (.return_, 1) := by decide +kernel
theorem bStV_pd : parseMethodDescriptor "(Ljava/lang/AbstractStringBuilder;Ljava/lang/Void;)V" = some ⟨[(.object "java/lang/AbstractStringBuilder"), (.object "java/lang/Void")], none⟩ := by decide +kernel
theorem bStV_pn : plainFor bStV.y = true := plainFor_of_name (show plainName "java/lang/String" = true from by first | (simp [plainName, overriddenIn]; done) | decide +kernel)
theorem cStV (l : Launch) (Z : State) (a0 : Array Value) (hw : ∀ d ∈ tables_1, d.before a0 Z = true) (n0 : Nat) (hEW : EW Z a0 consts_1) (a : Addr) (q b : Addr) (cs : List Int32) (N : Nat) (h0 : Heap) (σ : Addr → Prop) (E : Exa Z h0 a Road.SN) (Gc : Fld Z h0 a Road.SN "coder" "B" (.int 0)) (Gv : Fld Z h0 a Road.SN "value" "[B" .null) (S : Road.Sb Z h0 q b cs N) (hn : cs.length < N) (hcap : cs.length ≤ 15) (naq : a ≠ q) (sa : σ a) (cp : Int32) (Hc : Sta Z Z.heap Road.SN "COMPACT_STRINGS" "Z" (.int cp)) (hcp : ¬ cp = 0) :
    Road.Con l Z consts_1 n0 false bStV [] σ #[(.ref a), (.ref q), .null] h0 (fun v h2 s2 => v = none ∧ Keep h0 h2 [a] ∧ ∃ d, Road.Str Z h2 a d cs ∧ h0.size ≤ d) := by
  have hN := S.small
  obtain ⟨F, Fc, Fv, Fn, ⟨r, Ab, hr⟩, hlt⟩ := S
  refine Road.Con.of bStV_pn hEW #[.val (.ref a), .val (.ref q), .val .null, .unset, .unset] (fun m => Road.ent (Road.laid1 rfl (Road.laid1 rfl (Road.laid1 rfl Road.laid0))) (k := 2) rfl rfl) ?_
  intro D hD
  refine Road.aloadN 0 bStV_d0 rfl ?_
  refine Road.initObj 1 bStV_d1 (hw _ (List.mem_of_getElem? (i := 11) rfl)) (hw _ (List.mem_of_getElem? (i := 12) rfl)) (hw _ (List.mem_of_getElem? (i := 13) rfl)) 0 rfl rfl (by decide) (by decide) ?_
  refine Road.aloadN 4 bStV_d4 rfl ?_
  refine Road.callV (B' := bGtV) (a := q) 5 (argsL := []) (rest := []) "java/lang/StringBuilder" 0 bStV_d5 (hw _ (List.mem_of_getElem? (i := 144) rfl)) (hw _ (List.mem_of_getElem? (i := 145) rfl)) (fun vm hz => Road.notFace_sib (args := #[]) (mv (s := D.s.setVm vm) hz (hw _ (List.mem_of_getElem? (i := 87) rfl))) rfl) (hw _ (List.mem_of_getElem? (i := 147) rfl)) (hw _ (List.mem_of_getElem? (i := 146) rfl)) (hw _ (List.mem_of_getElem? (i := 53) rfl)) (hw _ (List.mem_of_getElem? (i := 148) rfl)) (by decide) F (cGtV l Z a0 hw n0 hEW q b h0 σ Fv) (lenOf bGtV_pd rfl) rfl rfl rfl (by decide) (by decide) (ce' := 0) (sl' := 0) rfl rfl (by decide) (by decide) ?_
  rintro _ h_1 σ_2 m_3 ⟨rfl, rfl⟩
  refine Road.Go.weaken (σ' := σ) m_3 (Nat.le_refl _) (Nat.le_refl _) ?_
  refine Road.astoreN 8 #[.val (.ref a), .val (.ref q), .val .null, .val (.ref b), .unset] bStV_d8 rfl ?_
  refine Road.aloadN 9 bStV_d9 rfl ?_
  refine Road.callV (B' := bSbN) (a := q) 10 (argsL := []) (rest := []) "java/lang/StringBuilder" 0 bStV_d10 (hw _ (List.mem_of_getElem? (i := 149) rfl)) (hw _ (List.mem_of_getElem? (i := 150) rfl)) (fun vm hz => Road.notFace_sib (args := #[]) (mv (s := D.s.setVm vm) hz (hw _ (List.mem_of_getElem? (i := 87) rfl))) rfl) (hw _ (List.mem_of_getElem? (i := 152) rfl)) (hw _ (List.mem_of_getElem? (i := 153) rfl)) (hw _ (List.mem_of_getElem? (i := 45) rfl)) (hw _ (List.mem_of_getElem? (i := 154) rfl)) (by decide) F (cSbN l Z a0 hw n0 hEW q (Nat.toInt32 cs.length) h0 σ F Fn) (lenOf bSbN_pd rfl) rfl rfl rfl (by decide) (by decide) (ce' := 0) (sl' := 0) rfl rfl (by decide) (by decide) ?_
  rintro _ h_5 σ_6 m_7 ⟨rfl, rfl⟩
  refine Road.Go.weaken (σ' := σ) m_7 (Nat.le_refl _) (Nat.le_refl _) ?_
  refine Road.istore 13 #[.val (.ref a), .val (.ref q), .val .null, .val (.ref b), .val (.int (Nat.toInt32 cs.length))] bStV_d13 rfl ?_
  refine Road.aloadN 15 bStV_d15 rfl ?_
  refine Road.callV (B' := bAbL) (a := q) 16 (argsL := []) (rest := []) "java/lang/StringBuilder" 0 bStV_d16 (hw _ (List.mem_of_getElem? (i := 157) rfl)) (hw _ (List.mem_of_getElem? (i := 124) rfl)) (fun vm hz => Road.notFace_sib (args := #[]) (mv (s := D.s.setVm vm) hz (hw _ (List.mem_of_getElem? (i := 87) rfl))) rfl) (hw _ (List.mem_of_getElem? (i := 126) rfl)) (hw _ (List.mem_of_getElem? (i := 125) rfl)) (hw _ (List.mem_of_getElem? (i := 53) rfl)) (hw _ (List.mem_of_getElem? (i := 127) rfl)) (by decide) F (cAbL l Z a0 hw n0 hEW q h0 σ Fc cp Hc hcp) (lenOf bAbL_pd rfl) rfl rfl rfl (by decide) (by decide) (ce' := 0) (sl' := 0) rfl rfl (by decide) (by decide) ?_
  rintro _ h_9 σ_10 m_11 ⟨rfl, rfl⟩
  refine Road.Go.weaken (σ' := σ) m_11 (Nat.le_refl _) (Nat.le_refl _) ?_
  refine Road.if_eq 19 41 bStV_d19 rfl (fun q => absurd q (by decide)) (fun hc19 => ?_)
  refine Road.aloadN 22 bStV_d22 rfl ?_
  refine Road.iconst 23 (0 : Int32) bStV_d23 rfl ?_
  have nab : a ≠ b := by obtain ⟨c, Ar, -⟩ := Ab; exact ne_arr E (hw _ (List.mem_of_getElem? (i := 2) rfl)) Ar
  refine Road.putfield 24 bStV_d24 (hw _ (List.mem_of_getElem? (i := 21) rfl)) Via.refl Gc E (Or.inr ⟨(hw _ (List.mem_of_getElem? (i := 17) rfl)), rfl, rfl⟩) (hw _ (List.mem_of_getElem? (i := 2) rfl)) (ty := .byte) (by decide) rfl rfl sa ?_
  intro h_15 W_13 K_14
  replace Gc := Gc.same W_13
  replace Gv := Gv.other W_13 (Or.inr (slot_ne (Or.inr (hw _ (List.mem_of_getElem? (i := 16) rfl))) (Or.inr (hw _ (List.mem_of_getElem? (i := 17) rfl))) (by decide) (t := (.array .byte)) (by decide) (t' := .byte) (by decide)))
  replace E := E.keep K_14
  replace Ab := Ab.keep K_14 (ninS (Ne.symm nab) nin0)
  refine Road.aloadN 27 bStV_d27 rfl ?_
  refine Road.aloadN 28 bStV_d28 rfl ?_
  refine Road.iconst 29 (0 : Int32) bStV_d29 rfl ?_
  refine Road.iload 30 bStV_d30 rfl ?_
  refine Road.callS (B' := bCrR) 32 (argsL := [(.ref b), (.int (0 : Int32)), (.int (Nat.toInt32 cs.length))]) (rest := [(.ref a)]) 1 bStV_d32 (hw _ (List.mem_of_getElem? (i := 158) rfl)) (hw _ (List.mem_of_getElem? (i := 159) rfl)) (hw _ (List.mem_of_getElem? (i := 160) rfl)) (hw _ (List.mem_of_getElem? (i := 161) rfl)) (by decide) (cCrR l Z a0 hw n0 hEW b _ cs.length h_15 σ Ab (by rw [List.length_append, List.length_map]; omega) hcap) (lenOf bCrR_pd rfl) rfl rfl rfl (by decide) (by decide) (ce' := 1) (sl' := 15) rfl rfl (by decide) (by decide) ?_
  rintro _ h_16 σ_17 m_18 ⟨d, rfl, gd, K_19, sd, Ad⟩
  have ne_a_d : a ≠ d := Nat.ne_of_lt (Nat.lt_of_lt_of_le E.lt gd)
  have ne_b_d : b ≠ d := Nat.ne_of_lt (Nat.lt_of_lt_of_le Ab.lt gd)
  replace E := E.keep K_19
  replace Gc := Gc.keep K_19 nin0
  replace Gv := Gv.keep K_19 nin0
  replace Ab := Ab.keep K_19 nin0
  replace sa := m_18 _ sa
  refine Road.putfield 35 bStV_d35 (hw _ (List.mem_of_getElem? (i := 20) rfl)) Via.refl Gv E (Or.inr ⟨(hw _ (List.mem_of_getElem? (i := 16) rfl)), rfl, rfl⟩) (hw _ (List.mem_of_getElem? (i := 2) rfl)) (ty := (.array .byte)) (by decide) rfl rfl sa ?_
  intro h_22 W_20 K_21
  replace Gv := Gv.same W_20
  replace Gc := Gc.other W_20 (Or.inr (slot_ne (Or.inr (hw _ (List.mem_of_getElem? (i := 17) rfl))) (Or.inr (hw _ (List.mem_of_getElem? (i := 16) rfl))) (by decide) (t := .byte) (by decide) (t' := (.array .byte)) (by decide)))
  replace E := E.keep K_21
  replace Ab := Ab.keep K_21 (ninS (Ne.symm nab) nin0)
  replace Ad := Ad.keep K_21 (ninS (Ne.symm ne_a_d) nin0)
  refine Road.goto 38 97 bStV_d38 rfl ?_
  rw [List.take_append_of_le_length (by rw [List.length_map]; omega), List.take_of_length_le (by rw [List.length_map]; omega)] at Ad
  exact Road.ret 97 bStV_d97 rfl (by decide) (by decide) (fun σ' m => ⟨rfl, (K_14.trans (Road.keep_more (ws := [a]) K_19) (by simp)).trans K_21 (by simp), d, ⟨E, Gc, Gv, Ad, hlt⟩, Nat.le_trans K_14.1 gd⟩)
def bStS : Road.Bdy := (⟨"java/lang/String", "<init>", "(Ljava/lang/StringBuilder;)V"⟩, jdk_42_method_53_code, 2, none, { frames := 4, cells := 1, slots := 15, locals := 69 })
theorem bStS_d0 : decode bStS.bs 0 = .ok (.aload_n 0, 1) := by decide +kernel
theorem bStS_d1 : decode bStS.bs 1 = .ok (.aload_n 1, 1) := by decide +kernel
theorem bStS_d2 : decode bStS.bs 2 = .ok (.aconst_null, 1) := by decide +kernel
theorem bStS_d3 : decode bStS.bs 3 = .ok (.invokespecial 489, 3) := by decide +kernel
theorem bStS_d6 : decode bStS.bs 6 = .ok (.return_, 1) := by decide +kernel
theorem bStS_pd : parseMethodDescriptor "(Ljava/lang/StringBuilder;)V" = some ⟨[(.object "java/lang/StringBuilder")], none⟩ := by decide +kernel
theorem bStS_pn : plainFor bStS.y = true := plainFor_of_name (show plainName "java/lang/String" = true from by first | (simp [plainName, overriddenIn]; done) | decide +kernel)
theorem cStS (l : Launch) (Z : State) (a0 : Array Value) (hw : ∀ d ∈ tables_1, d.before a0 Z = true) (n0 : Nat) (hEW : EW Z a0 consts_1) (a : Addr) (q b : Addr) (cs : List Int32) (N : Nat) (h0 : Heap) (σ : Addr → Prop) (E : Exa Z h0 a Road.SN) (Gc : Fld Z h0 a Road.SN "coder" "B" (.int 0)) (Gv : Fld Z h0 a Road.SN "value" "[B" .null) (S : Road.Sb Z h0 q b cs N) (hn : cs.length < N) (hcap : cs.length ≤ 15) (naq : a ≠ q) (sa : σ a) (cp : Int32) (Hc : Sta Z Z.heap Road.SN "COMPACT_STRINGS" "Z" (.int cp)) (hcp : ¬ cp = 0) :
    Road.Con l Z consts_1 n0 false bStS [] σ #[(.ref a), (.ref q)] h0 (fun v h2 s2 => v = none ∧ Keep h0 h2 [a] ∧ ∃ d, Road.Str Z h2 a d cs ∧ h0.size ≤ d) := by
  refine Road.Con.of bStS_pn hEW #[.val (.ref a), .val (.ref q)] (fun m => Road.ent (Road.laid1 rfl (Road.laid1 rfl Road.laid0)) (k := 0) rfl rfl) ?_
  intro D hD
  refine Road.aloadN 0 bStS_d0 rfl ?_
  refine Road.aloadN 1 bStS_d1 rfl ?_
  refine Road.aconstNull 2 bStS_d2 ?_
  refine Road.callI (B' := bStV) (a := a) 3 (argsL := [(.ref q), .null]) (rest := []) 0 bStS_d3 (hw _ (List.mem_of_getElem? (i := 141) rfl)) (hw _ (List.mem_of_getElem? (i := 142) rfl)) (hw _ (List.mem_of_getElem? (i := 3) rfl)) (hw _ (List.mem_of_getElem? (i := 143) rfl)) rfl rfl (by decide) (cStV l Z a0 hw n0 hEW a q b cs N h0 σ E Gc Gv S hn hcap naq sa cp Hc hcp) (lenOf bStV_pd rfl) rfl rfl rfl (by decide) (by decide) (ce' := 1) (sl' := 15) rfl rfl (by decide) (by decide) ?_
  rintro _ h_1 σ_2 m_3 ⟨rfl, K_4, d, T, gd⟩
  exact Road.ret 6 bStS_d6 rfl (by decide) (by decide) (fun σ' m => ⟨rfl, K_4, d, T, gd⟩)
def bToS : Road.Bdy := (⟨"java/lang/StringBuilder", "toString", "()Ljava/lang/String;"⟩, jdk_67_method_42_code, 1, (some (.object "java/lang/String")), { frames := 5, cells := 2, slots := 19, locals := 83 })
theorem bToS_d0 : decode bToS.bs 0 = .ok (.new 18, 3) := by decide +kernel
theorem bToS_d3 : decode bToS.bs 3 = .ok (.dup, 1) := by decide +kernel
theorem bToS_d4 : decode bToS.bs 4 = .ok (.aload_n 0, 1) := by decide +kernel
theorem bToS_d5 : decode bToS.bs 5 = .ok (.invokespecial 137, 3) := by decide +kernel
theorem bToS_d8 : decode bToS.bs 8 = .ok (.areturn, 1) := by decide +kernel
theorem bToS_pd : parseMethodDescriptor "()Ljava/lang/String;" = some ⟨[], (some (.object "java/lang/String"))⟩ := by decide +kernel
theorem bToS_pn : plainFor bToS.y = true := plainFor_of_name (show plainName "java/lang/StringBuilder" = true from by first | (simp [plainName, overriddenIn]; done) | decide +kernel)
theorem cToS (l : Launch) (Z : State) (a0 : Array Value) (hw : ∀ d ∈ tables_1, d.before a0 Z = true) (n0 : Nat) (hEW : EW Z a0 consts_1) (q b : Addr) (cs : List Int32) (N : Nat) (h0 : Heap) (σ : Addr → Prop) (S : Road.Sb Z h0 q b cs N) (hn : cs.length < N) (hcap : cs.length ≤ 15) (cp : Int32) (Hc : Sta Z Z.heap Road.SN "COMPACT_STRINGS" "Z" (.int cp)) (hcp : ¬ cp = 0) :
    Road.Con l Z consts_1 n0 false bToS [] σ #[(.ref q)] h0 (fun v h2 s2 => ∃ a d, v = some (.ref a) ∧ h0.size ≤ a ∧ h0.size ≤ d ∧ Keep h0 h2 [] ∧ Road.Str Z h2 a d cs) := by
  refine Road.Con.of bToS_pn hEW #[.val (.ref q)] (fun m => Road.ent (Road.laid1 rfl Road.laid0) (k := 0) rfl rfl) ?_
  intro D hD
  refine Road.new 0 "java/lang/String" bToS_d0 (hw _ (List.mem_of_getElem? (i := 137) rfl)) (hw _ (List.mem_of_getElem? (i := 2) rfl)) (hw _ (List.mem_of_getElem? (i := 3) rfl)) (ce' := 1) (sl' := 4) rfl rfl (by decide) (by decide) ?_
  intro a h_1 σ_2 g_3 K_4 lt_5 m_6 s_7 E D_8 M_9
  have ne_q_a : q ≠ a := Nat.ne_of_lt (Nat.lt_of_lt_of_le S.lt (Nat.le_of_eq g_3.symm))
  have ne_b_a : b ≠ a := Nat.ne_of_lt (Nat.lt_of_lt_of_le S.ltb (Nat.le_of_eq g_3.symm))
  replace S := S.keep K_4 nin0 nin0
  have Gc := D_8 (Or.inr (hw _ (List.mem_of_getElem? (i := 17) rfl))) (ty := .byte) (by decide)
  have Gv := D_8 (Or.inr (hw _ (List.mem_of_getElem? (i := 16) rfl))) (ty := (.array .byte)) (by decide)
  refine Road.dup 3 bToS_d3 ?_
  refine Road.aloadN 4 bToS_d4 rfl ?_
  refine Road.callI (B' := bStS) (a := a) 5 (argsL := [(.ref q)]) (rest := [(.ref a)]) 1 bToS_d5 (hw _ (List.mem_of_getElem? (i := 138) rfl)) (hw _ (List.mem_of_getElem? (i := 139) rfl)) (hw _ (List.mem_of_getElem? (i := 3) rfl)) (hw _ (List.mem_of_getElem? (i := 140) rfl)) rfl rfl (by decide) (cStS l Z a0 hw n0 hEW a q b cs N h_1 σ_2 E Gc Gv S hn hcap (Ne.symm ne_q_a) s_7 cp Hc hcp) (lenOf bStS_pd rfl) rfl rfl rfl (by decide) (by decide) (ce' := 2) (sl' := 19) rfl rfl (by decide) (by decide) ?_
  rintro _ h_10 σ_11 m_12 ⟨rfl, K_13, d, T, gd⟩
  replace s_7 := m_12 _ s_7
  exact Road.aret 8 bToS_d8 (t := (.object "java/lang/String")) rfl rfl rfl (by decide) (by decide) (fun σ' m => ⟨a, d, rfl, Nat.le_of_eq g_3.symm, Nat.le_trans K_4.1 gd, K_4.trans K_13 (by intro x hx; cases List.mem_singleton.mp hx; exact Or.inr (Nat.le_of_eq g_3.symm)), T⟩)
def bOri : Road.Bdy := (⟨"com/example/gridtally/gridtally/engine/Origin", "<init>", "(Ljava/lang/String;I)V"⟩, prog_5_method_1_code, 3, none, { frames := 2, cells := 0, slots := 0, locals := 25 })
theorem bOri_d0 : decode bOri.bs 0 = .ok (.aload_n 0, 1) := by decide +kernel
theorem bOri_d1 : decode bOri.bs 1 = .ok (.invokespecial 1, 3) := by decide +kernel
theorem bOri_d4 : decode bOri.bs 4 = .ok (.aload_n 0, 1) := by decide +kernel
theorem bOri_d5 : decode bOri.bs 5 = .ok (.aload_n 1, 1) := by decide +kernel
theorem bOri_d6 : decode bOri.bs 6 = .ok (.putfield 7, 3) := by decide +kernel
theorem bOri_d9 : decode bOri.bs 9 = .ok (.aload_n 0, 1) := by decide +kernel
theorem bOri_d10 : decode bOri.bs 10 = .ok (.iload_n 2, 1) := by decide +kernel
theorem bOri_d11 : decode bOri.bs 11 = .ok (.putfield 13, 3) := by decide +kernel
theorem bOri_d14 : decode bOri.bs 14 = .ok (.return_, 1) := by decide +kernel
theorem bOri_pd : parseMethodDescriptor "(Ljava/lang/String;I)V" = some ⟨[(.object "java/lang/String"), .int], none⟩ := by decide +kernel
theorem bOri_pn : plainFor bOri.y = true := plainFor_of_name (show plainName "com/example/gridtally/gridtally/engine/Origin" = true from by first | (simp [plainName, overriddenIn]; done) | decide +kernel)
theorem cOri (l : Launch) (Z : State) (a0 : Array Value) (hw : ∀ d ∈ tables_1, d.before a0 Z = true) (n0 : Nat) (hEW : EW Z a0 consts_1) (a : Addr) (q0 : Value) (hq0 : q0.isRef = true) (q1 : Int32) (h0 : Heap) (σ : Addr → Prop) (E : Exa Z h0 a "com/example/gridtally/gridtally/engine/Origin") (F0 : Fld Z h0 a "com/example/gridtally/gridtally/engine/Origin" "file" "Ljava/lang/String;" .null) (F1 : Fld Z h0 a "com/example/gridtally/gridtally/engine/Origin" "line" "I" (.int 0)) (sa : σ a) :
    Road.Con l Z consts_1 n0 false bOri [] σ #[(.ref a), q0, (.int q1)] h0 (fun v h2 s2 => v = none ∧ Keep h0 h2 [a] ∧ Fld Z h2 a "com/example/gridtally/gridtally/engine/Origin" "file" "Ljava/lang/String;" q0 ∧ Fld Z h2 a "com/example/gridtally/gridtally/engine/Origin" "line" "I" (.int q1)) := by
  refine Road.Con.of bOri_pn hEW #[.val (.ref a), .val q0, .val (.int q1)] (fun m => Road.ent (Road.laid1 rfl (Road.laid1 (XT.cat1 hq0) (Road.laid1 rfl Road.laid0))) (k := 0) rfl rfl) ?_
  intro D hD
  refine Road.aloadN 0 bOri_d0 rfl ?_
  refine Road.callI (B' := bRec) (a := a) 1 (argsL := []) (rest := []) 0 bOri_d1 (hw _ (List.mem_of_getElem? (i := 28) rfl)) (hw _ (List.mem_of_getElem? (i := 29) rfl)) (hw _ (List.mem_of_getElem? (i := 31) rfl)) (hw _ (List.mem_of_getElem? (i := 32) rfl)) rfl rfl (by decide) (cRec l Z a0 hw n0 hEW a h0 σ) (lenOf bRec_pd rfl) rfl rfl rfl (by decide) (by decide) (ce' := 0) (sl' := 0) rfl rfl (by decide) (by decide) ?_
  rintro _ h_1 σ_2 m_3 ⟨rfl, rfl⟩
  refine Road.Go.weaken (σ' := σ) m_3 (Nat.le_refl _) (Nat.le_refl _) ?_
  refine Road.aloadN 4 bOri_d4 rfl ?_
  refine Road.aloadN 5 bOri_d5 rfl (hv := hq0) ?_
  refine Road.putfield 6 bOri_d6 (hw _ (List.mem_of_getElem? (i := 34) rfl)) Via.refl F0 E (Or.inr ⟨(hw _ (List.mem_of_getElem? (i := 35) rfl)), rfl, rfl⟩) (hw _ (List.mem_of_getElem? (i := 23) rfl)) (ty := (.object "java/lang/String")) (by decide) (Road.narRef rfl hq0) (Road.fitRef rfl hq0) sa ?_
  intro h_7 W_5 K_6
  replace F0 := F0.same W_5
  replace F1 := F1.other W_5 (Or.inr (slot_ne (Or.inr (hw _ (List.mem_of_getElem? (i := 37) rfl))) (Or.inr (hw _ (List.mem_of_getElem? (i := 35) rfl))) (by decide) (t := .int) (by decide) (t' := (.object "java/lang/String")) (by decide)))
  replace E := E.keep K_6
  refine Road.aloadN 9 bOri_d9 rfl ?_
  refine Road.iloadN 10 bOri_d10 rfl ?_
  refine Road.putfield 11 bOri_d11 (hw _ (List.mem_of_getElem? (i := 36) rfl)) Via.refl F1 E (Or.inr ⟨(hw _ (List.mem_of_getElem? (i := 37) rfl)), rfl, rfl⟩) (hw _ (List.mem_of_getElem? (i := 23) rfl)) (ty := .int) (by decide) rfl rfl sa ?_
  intro h_10 W_8 K_9
  replace F1 := F1.same W_8
  replace F0 := F0.other W_8 (Or.inr (slot_ne (Or.inr (hw _ (List.mem_of_getElem? (i := 35) rfl))) (Or.inr (hw _ (List.mem_of_getElem? (i := 37) rfl))) (by decide) (t := (.object "java/lang/String")) (by decide) (t' := .int) (by decide)))
  replace E := E.keep K_9
  exact Road.ret 14 bOri_d14 rfl (by decide) (by decide) (fun σ' m => ⟨rfl, (K_6.trans K_9 (by simp)), F0, F1⟩)
def bOts : Road.Bdy := (⟨"com/example/gridtally/gridtally/engine/Origin", "toString", "()Ljava/lang/String;"⟩, prog_5_method_4_code, 1, (some (.object "java/lang/String")), { frames := 6, cells := 6, slots := 47, locals := 95 })
theorem bOts_d0 : decode bOts.bs 0 = .ok (.new 22, 3) := by decide +kernel
theorem bOts_d3 : decode bOts.bs 3 = .ok (.dup, 1) := by decide +kernel
theorem bOts_d4 : decode bOts.bs 4 = .ok (.invokespecial 24, 3) := by decide +kernel
theorem bOts_d7 : decode bOts.bs 7 = .ok (.aload_n 0, 1) := by decide +kernel
theorem bOts_d8 : decode bOts.bs 8 = .ok (.getfield 7, 3) := by decide +kernel
theorem bOts_d11 : decode bOts.bs 11 = .ok (.invokevirtual 25, 3) := by decide +kernel
theorem bOts_d14 : decode bOts.bs 14 = .ok (.ldc 42, 2) := by decide +kernel
theorem bOts_d16 : decode bOts.bs 16 = .ok (.invokevirtual 25, 3) := by decide +kernel
theorem bOts_d19 : decode bOts.bs 19 = .ok (.aload_n 0, 1) := by decide +kernel
theorem bOts_d20 : decode bOts.bs 20 = .ok (.getfield 13, 3) := by decide +kernel
theorem bOts_d23 : decode bOts.bs 23 = .ok (.invokevirtual 44, 3) := by decide +kernel
theorem bOts_d26 : decode bOts.bs 26 = .ok (.invokevirtual 34, 3) := by decide +kernel
theorem bOts_d29 : decode bOts.bs 29 = .ok (.areturn, 1) := by decide +kernel
theorem bOts_pd : parseMethodDescriptor "()Ljava/lang/String;" = some ⟨[], (some (.object "java/lang/String"))⟩ := by decide +kernel
theorem bOts_pn : plainFor bOts.y = true := plainFor_of_name (show plainName "com/example/gridtally/gridtally/engine/Origin" = true from by first | (simp [plainName, overriddenIn]; done) | decide +kernel)
theorem cOts (l : Launch) (Z : State) (a0 : Array Value) (hw : ∀ d ∈ tables_1, d.before a0 Z = true) (n0 : Nat) (hEW : EW Z a0 consts_1) (o s sd : Addr) (cs : List Int32) (x : Int32) (h0 : Heap) (σ : Addr → Prop) (F1 : Fld Z h0 o "com/example/gridtally/gridtally/engine/Origin" "file" "Ljava/lang/String;" (.ref s)) (F2 : Fld Z h0 o "com/example/gridtally/gridtally/engine/Origin" "line" "I" (.int x)) (T : Road.Str Z h0 s sd cs) (hl : cs.length ≤ 3) (cp : Int32) (Hc : Sta Z Z.heap Road.SN "COMPACT_STRINGS" "Z" (.int cp)) (hcp : ¬ cp = 0) (o1 o2 : Addr) (HO : Sta Z Z.heap "java/lang/Integer" "DigitOnes" "[B" (.ref o1)) (AO : Road.Ary Z Z.heap o1 .byte Road.OnesL) (HT : Sta Z Z.heap "java/lang/Integer" "DigitTens" "[B" (.ref o2)) (AT : Road.Ary Z Z.heap o2 .byte Road.TensL) :
    Road.Con l Z consts_1 n0 false bOts [] σ #[(.ref o)] h0 (fun v h2 s2 => ∃ a d, v = some (.ref a) ∧ Keep h0 h2 [] ∧ Road.Str Z h2 a d ([] ++ cs ++ [58] ++ Road.dec x)) := by
  have wS : ∀ d ∈ Bundle.stringAtoms, d.before a0 Z = true := fun d hd => hw d ((by decide +kernel : ∀ d ∈ Bundle.stringAtoms, d ∈ tables_1) d hd)
  have hdl := Road.dec_le x
  refine Road.Con.of bOts_pn hEW #[.val (.ref o)] (fun m => Road.ent (Road.laid1 rfl Road.laid0) (k := 0) rfl rfl) ?_
  intro D hD
  have KT := Keep.refl h0 ([] : List Addr)
  refine Road.new 0 "java/lang/StringBuilder" bOts_d0 (hw _ (List.mem_of_getElem? (i := 43) rfl)) (hw _ (List.mem_of_getElem? (i := 44) rfl)) (hw _ (List.mem_of_getElem? (i := 45) rfl)) (ce' := 1) (sl' := 4) rfl rfl (by decide) (by decide) ?_
  intro q h_1 σ_2 g_3 K_4 lt_5 m_6 s_7 Eq D_8 M_9
  have gk_q := Nat.le_trans KT.1 (Nat.le_of_eq g_3.symm)
  have ne_o_q : o ≠ q := Nat.ne_of_lt (Nat.lt_of_lt_of_le F1.lt (Nat.le_of_eq g_3.symm))
  have ne_s_q : s ≠ q := Nat.ne_of_lt (Nat.lt_of_lt_of_le T.lt (Nat.le_of_eq g_3.symm))
  have ne_sd_q : sd ≠ q := Nat.ne_of_lt (Nat.lt_of_lt_of_le T.ltb (Nat.le_of_eq g_3.symm))
  replace KT := KT.trans K_4 (by simp)
  replace F1 := F1.keep K_4 nin0
  replace F2 := F2.keep K_4 nin0
  replace T := T.keep K_4 nin0 nin0
  have Fc := D_8 (Or.inl (hw _ (List.mem_of_getElem? (i := 60) rfl))) (ty := .byte) (by decide)
  have Fv := D_8 (Or.inl (hw _ (List.mem_of_getElem? (i := 58) rfl))) (ty := (.array .byte)) (by decide)
  have Fn := D_8 (Or.inl (hw _ (List.mem_of_getElem? (i := 83) rfl))) (ty := .int) (by decide)
  refine Road.dup 3 bOts_d3 ?_
  refine Road.callI (B' := bSbI) (a := q) 4 (argsL := []) (rest := [(.ref q)]) 1 bOts_d4 (hw _ (List.mem_of_getElem? (i := 46) rfl)) (hw _ (List.mem_of_getElem? (i := 47) rfl)) (hw _ (List.mem_of_getElem? (i := 45) rfl)) (hw _ (List.mem_of_getElem? (i := 48) rfl)) rfl rfl (by decide) (cSbI l Z a0 hw n0 hEW q h_1 σ_2 Eq Fc Fv Fn s_7 cp Hc hcp) (lenOf bSbI_pd rfl) rfl rfl rfl (by decide) (by decide) (ce' := 2) (sl' := 20) rfl rfl (by decide) (by decide) ?_
  rintro _ h_10 σ_11 m_12 ⟨rfl, K_13, b, S, gb, sb⟩
  have gk_b := Nat.le_trans KT.1 gb
  have ne_o_b : o ≠ b := Nat.ne_of_lt (Nat.lt_of_lt_of_le F1.lt gb)
  have ne_s_b : s ≠ b := Nat.ne_of_lt (Nat.lt_of_lt_of_le T.lt gb)
  have ne_sd_b : sd ≠ b := Nat.ne_of_lt (Nat.lt_of_lt_of_le T.ltb gb)
  replace KT := KT.trans K_13 (by intro z hz; simp only [List.mem_cons, List.not_mem_nil, or_false] at hz; rcases hz with rfl <;> first | (exact Or.inr (by assumption)) | (simp; done))
  replace F1 := F1.keep K_13 (ninS ne_o_q nin0)
  replace F2 := F2.keep K_13 (ninS ne_o_q nin0)
  replace T := T.keep K_13 (ninS ne_s_q nin0) (ninS ne_sd_q nin0)
  replace s_7 := m_12 _ s_7
  refine Road.aloadN 7 bOts_d7 rfl ?_
  refine Road.getfield 8 bOts_d8 (hw _ (List.mem_of_getElem? (i := 34) rfl)) Via.refl F1 ?_
  refine Road.callV (B' := bSp0) (a := q) 11 (argsL := [(.ref s)]) (rest := []) "java/lang/StringBuilder" 0 bOts_d11 (hw _ (List.mem_of_getElem? (i := 61) rfl)) (hw _ (List.mem_of_getElem? (i := 62) rfl)) (fun vm hz => Road.notFace_sib (args := #[]) (mv (s := D.s.setVm vm) hz (hw _ (List.mem_of_getElem? (i := 64) rfl))) rfl) (hw _ (List.mem_of_getElem? (i := 64) rfl)) (hw _ (List.mem_of_getElem? (i := 63) rfl)) (hw _ (List.mem_of_getElem? (i := 45) rfl)) (hw _ (List.mem_of_getElem? (i := 65) rfl)) (by decide) S.1 (cSp0 l Z a0 hw n0 hEW q b [] 16 s sd cs h_10 σ_11 S T (by simp only [List.length_append, List.length_cons, List.length_nil]; omega) sb s_7 cp Hc hcp) (lenOf bSp0_pd rfl) rfl rfl rfl (by decide) (by decide) (ce' := 2) (sl' := 20) rfl rfl (by decide) (by decide) ?_
  rintro _ h_14 σ_15 m_16 ⟨rfl, K_17, S⟩
  replace KT := KT.trans K_17 (by intro z hz; simp only [List.mem_cons, List.not_mem_nil, or_false] at hz; rcases hz with rfl | rfl <;> first | (exact Or.inr (by assumption)) | (simp; done))
  replace F1 := F1.keep K_17 (ninS ne_o_q (ninS ne_o_b nin0))
  replace F2 := F2.keep K_17 (ninS ne_o_q (ninS ne_o_b nin0))
  replace T := T.keep K_17 (ninS ne_s_q (ninS ne_s_b nin0)) (ninS ne_sd_q (ninS ne_sd_b nin0))
  replace s_7 := m_16 _ s_7
  replace sb := m_16 _ sb
  refine Road.ldcS 14 ":" [(58 : Int32)] 4 bOts_d14 (hw _ (List.mem_of_getElem? (i := 109) rfl)) wS (List.mem_of_getElem? (i := 0) rfl) (by decide) (by decide +kernel) (by decide) (by decide) (by decide) (ce' := 4) (sl' := 28) rfl rfl (by decide) (by decide) ?_
  intro a1 b1 h_18 σ_19 K_20 m_21 S1 q_22
  replace KT := KT.trans K_20 (by simp)
  replace F1 := F1.keep K_20 nin0
  replace F2 := F2.keep K_20 nin0
  replace T := T.keep K_20 nin0 nin0
  replace S := S.keep K_20 nin0 nin0
  replace s_7 := m_21 _ s_7
  replace sb := m_21 _ sb
  have ne_q_a1 : q ≠ a1 := (q_22 q s_7).1
  have ne_q_b1 : q ≠ b1 := (q_22 q s_7).2
  have ne_b_a1 : b ≠ a1 := (q_22 b sb).1
  have ne_b_b1 : b ≠ b1 := (q_22 b sb).2
  refine Road.callV (B' := bSp0) (a := q) 16 (argsL := [(.ref a1)]) (rest := []) "java/lang/StringBuilder" 0 bOts_d16 (hw _ (List.mem_of_getElem? (i := 61) rfl)) (hw _ (List.mem_of_getElem? (i := 62) rfl)) (fun vm hz => Road.notFace_sib (args := #[]) (mv (s := D.s.setVm vm) hz (hw _ (List.mem_of_getElem? (i := 64) rfl))) rfl) (hw _ (List.mem_of_getElem? (i := 64) rfl)) (hw _ (List.mem_of_getElem? (i := 63) rfl)) (hw _ (List.mem_of_getElem? (i := 45) rfl)) (hw _ (List.mem_of_getElem? (i := 65) rfl)) (by decide) S.1 (cSp0 l Z a0 hw n0 hEW q b ([] ++ cs) 16 a1 b1 [58] h_18 σ_19 S S1 (by simp only [List.length_append, List.length_cons, List.length_nil]; omega) sb s_7 cp Hc hcp) (lenOf bSp0_pd rfl) rfl rfl rfl (by decide) (by decide) (ce' := 4) (sl' := 28) rfl rfl (by decide) (by decide) ?_
  rintro _ h_23 σ_24 m_25 ⟨rfl, K_26, S⟩
  replace KT := KT.trans K_26 (by intro z hz; simp only [List.mem_cons, List.not_mem_nil, or_false] at hz; rcases hz with rfl | rfl <;> first | (exact Or.inr (by assumption)) | (simp; done))
  replace F1 := F1.keep K_26 (ninS ne_o_q (ninS ne_o_b nin0))
  replace F2 := F2.keep K_26 (ninS ne_o_q (ninS ne_o_b nin0))
  replace T := T.keep K_26 (ninS ne_s_q (ninS ne_s_b nin0)) (ninS ne_sd_q (ninS ne_sd_b nin0))
  replace S1 := S1.keep K_26 (ninS (Ne.symm ne_q_a1) (ninS (Ne.symm ne_b_a1) nin0)) (ninS (Ne.symm ne_q_b1) (ninS (Ne.symm ne_b_b1) nin0))
  replace s_7 := m_25 _ s_7
  replace sb := m_25 _ sb
  refine Road.aloadN 19 bOts_d19 rfl ?_
  refine Road.getfield 20 bOts_d20 (hw _ (List.mem_of_getElem? (i := 36) rfl)) Via.refl F2 ?_
  refine Road.callV (B' := bSi0) (a := q) 23 (argsL := [(.int x)]) (rest := []) "java/lang/StringBuilder" 0 bOts_d23 (hw _ (List.mem_of_getElem? (i := 110) rfl)) (hw _ (List.mem_of_getElem? (i := 111) rfl)) (fun vm hz => Road.notFace_sib (args := #[]) (mv (s := D.s.setVm vm) hz (hw _ (List.mem_of_getElem? (i := 64) rfl))) rfl) (hw _ (List.mem_of_getElem? (i := 113) rfl)) (hw _ (List.mem_of_getElem? (i := 112) rfl)) (hw _ (List.mem_of_getElem? (i := 45) rfl)) (hw _ (List.mem_of_getElem? (i := 114) rfl)) (by decide) S.1 (cSi0 l Z a0 hw n0 hEW q b ([] ++ cs ++ [58]) 16 x h_23 σ_24 S (by simp only [List.length_append, List.length_cons, List.length_nil]; omega) sb s_7 cp Hc hcp o1 o2 HO AO HT AT) (lenOf bSi0_pd rfl) rfl rfl rfl (by decide) (by decide) (ce' := 4) (sl' := 28) rfl rfl (by decide) (by decide) ?_
  rintro _ h_27 σ_28 m_29 ⟨rfl, K_30, S⟩
  replace KT := KT.trans K_30 (by intro z hz; simp only [List.mem_cons, List.not_mem_nil, or_false] at hz; rcases hz with rfl | rfl <;> first | (exact Or.inr (by assumption)) | (simp; done))
  replace F1 := F1.keep K_30 (ninS ne_o_q (ninS ne_o_b nin0))
  replace F2 := F2.keep K_30 (ninS ne_o_q (ninS ne_o_b nin0))
  replace T := T.keep K_30 (ninS ne_s_q (ninS ne_s_b nin0)) (ninS ne_sd_q (ninS ne_sd_b nin0))
  replace S1 := S1.keep K_30 (ninS (Ne.symm ne_q_a1) (ninS (Ne.symm ne_b_a1) nin0)) (ninS (Ne.symm ne_q_b1) (ninS (Ne.symm ne_b_b1) nin0))
  replace s_7 := m_29 _ s_7
  replace sb := m_29 _ sb
  refine Road.callV (B' := bToS) (a := q) 26 (argsL := []) (rest := []) "java/lang/StringBuilder" 0 bOts_d26 (hw _ (List.mem_of_getElem? (i := 132) rfl)) (hw _ (List.mem_of_getElem? (i := 133) rfl)) (fun vm hz => Road.notFace_sib (args := #[]) (mv (s := D.s.setVm vm) hz (hw _ (List.mem_of_getElem? (i := 64) rfl))) rfl) (hw _ (List.mem_of_getElem? (i := 135) rfl)) (hw _ (List.mem_of_getElem? (i := 134) rfl)) (hw _ (List.mem_of_getElem? (i := 45) rfl)) (hw _ (List.mem_of_getElem? (i := 136) rfl)) (by decide) S.1 (cToS l Z a0 hw n0 hEW q b ([] ++ cs ++ [58] ++ Road.dec x) 16 h_27 σ_28 S (by simp only [List.length_append, List.length_cons, List.length_nil]; omega) (by simp only [List.length_append, List.length_cons, List.length_nil]; omega) cp Hc hcp) (lenOf bToS_pd rfl) rfl rfl rfl (by decide) (by decide) (ce' := 6) (sl' := 47) rfl rfl (by decide) (by decide) ?_
  rintro _ h_31 σ_32 m_33 ⟨a, d, rfl, ga, gd, K_34, Tr⟩
  replace KT := KT.trans K_34 (by simp)
  replace s_7 := m_33 _ s_7
  replace sb := m_33 _ sb
  exact Road.aret 29 bOts_d29 (t := (.object "java/lang/String")) rfl rfl rfl (by decide) (by decide) (fun σ' m => ⟨a, d, rfl, KT, Tr⟩)
def bDcl : Road.Bdy := (⟨"com/example/gridtally/gridtally/engine/OriginToStringPinLaw", "decLen", "(I)I"⟩, method_2_code, 5, (some .int), { frames := 0, cells := 0, slots := 0, locals := 0 })
theorem bDcl_d0 : decode bDcl.bs 0 = .ok (.iload_n 0, 1) := by decide +kernel
theorem bDcl_d1 : decode bDcl.bs 1 = .ok (.i2l, 1) := by decide +kernel
theorem bDcl_d2 : decode bDcl.bs 2 = .ok (.lstore_n 1, 1) := by decide +kernel
theorem bDcl_d3 : decode bDcl.bs 3 = .ok (.iconst 0, 1) := by decide +kernel
theorem bDcl_d4 : decode bDcl.bs 4 = .ok (.istore_n 3, 1) := by decide +kernel
theorem bDcl_d5 : decode bDcl.bs 5 = .ok (.lload_n 1, 1) := by decide +kernel
theorem bDcl_d6 : decode bDcl.bs 6 = .ok (.lconst 0, 1) := by decide +kernel
theorem bDcl_d7 : decode bDcl.bs 7 = .ok (.lcmp, 1) := by decide +kernel
theorem bDcl_d8 : decode bDcl.bs 8 = .ok (.ifCond .ge 8, 3) := by decide +kernel
theorem bDcl_d11 : decode bDcl.bs 11 = .ok (.lload_n 1, 1) := by decide +kernel
theorem bDcl_d12 : decode bDcl.bs 12 = .ok (.lneg, 1) := by decide +kernel
theorem bDcl_d13 : decode bDcl.bs 13 = .ok (.lstore_n 1, 1) := by decide +kernel
theorem bDcl_d14 : decode bDcl.bs 14 = .ok (.iconst 1, 1) := by decide +kernel
theorem bDcl_d15 : decode bDcl.bs 15 = .ok (.istore_n 3, 1) := by decide +kernel
theorem bDcl_d16 : decode bDcl.bs 16 = .ok (.iconst 1, 1) := by decide +kernel
theorem bDcl_d17 : decode bDcl.bs 17 = .ok (.istore 4, 2) := by decide +kernel
theorem bDcl_d19 : decode bDcl.bs 19 = .ok (.lload_n 1, 1) := by decide +kernel
theorem bDcl_d20 : decode bDcl.bs 20 = .ok (.ldc2_w 7, 3) := by decide +kernel
theorem bDcl_d23 : decode bDcl.bs 23 = .ok (.lcmp, 1) := by decide +kernel
theorem bDcl_d24 : decode bDcl.bs 24 = .ok (.ifCond .lt 6, 3) := by decide +kernel
theorem bDcl_d27 : decode bDcl.bs 27 = .ok (.iconst 2, 1) := by decide +kernel
theorem bDcl_d28 : decode bDcl.bs 28 = .ok (.istore 4, 2) := by decide +kernel
theorem bDcl_d30 : decode bDcl.bs 30 = .ok (.lload_n 1, 1) := by decide +kernel
theorem bDcl_d31 : decode bDcl.bs 31 = .ok (.ldc2_w 9, 3) := by decide +kernel
theorem bDcl_d34 : decode bDcl.bs 34 = .ok (.lcmp, 1) := by decide +kernel
theorem bDcl_d35 : decode bDcl.bs 35 = .ok (.ifCond .lt 6, 3) := by decide +kernel
theorem bDcl_d38 : decode bDcl.bs 38 = .ok (.iconst 3, 1) := by decide +kernel
theorem bDcl_d39 : decode bDcl.bs 39 = .ok (.istore 4, 2) := by decide +kernel
theorem bDcl_d41 : decode bDcl.bs 41 = .ok (.lload_n 1, 1) := by decide +kernel
theorem bDcl_d42 : decode bDcl.bs 42 = .ok (.ldc2_w 11, 3) := by decide +kernel
theorem bDcl_d45 : decode bDcl.bs 45 = .ok (.lcmp, 1) := by decide +kernel
theorem bDcl_d46 : decode bDcl.bs 46 = .ok (.ifCond .lt 6, 3) := by decide +kernel
theorem bDcl_d49 : decode bDcl.bs 49 = .ok (.iconst 4, 1) := by decide +kernel
theorem bDcl_d50 : decode bDcl.bs 50 = .ok (.istore 4, 2) := by decide +kernel
theorem bDcl_d52 : decode bDcl.bs 52 = .ok (.lload_n 1, 1) := by decide +kernel
theorem bDcl_d53 : decode bDcl.bs 53 = .ok (.ldc2_w 13, 3) := by decide +kernel
theorem bDcl_d56 : decode bDcl.bs 56 = .ok (.lcmp, 1) := by decide +kernel
theorem bDcl_d57 : decode bDcl.bs 57 = .ok (.ifCond .lt 6, 3) := by decide +kernel
theorem bDcl_d60 : decode bDcl.bs 60 = .ok (.iconst 5, 1) := by decide +kernel
theorem bDcl_d61 : decode bDcl.bs 61 = .ok (.istore 4, 2) := by decide +kernel
theorem bDcl_d63 : decode bDcl.bs 63 = .ok (.lload_n 1, 1) := by decide +kernel
theorem bDcl_d64 : decode bDcl.bs 64 = .ok (.ldc2_w 15, 3) := by decide +kernel
theorem bDcl_d67 : decode bDcl.bs 67 = .ok (.lcmp, 1) := by decide +kernel
theorem bDcl_d68 : decode bDcl.bs 68 = .ok (.ifCond .lt 7, 3) := by decide +kernel
theorem bDcl_d71 : decode bDcl.bs 71 = .ok (.bipush 6, 2) := by decide +kernel
theorem bDcl_d73 : decode bDcl.bs 73 = .ok (.istore 4, 2) := by decide +kernel
theorem bDcl_d75 : decode bDcl.bs 75 = .ok (.lload_n 1, 1) := by decide +kernel
theorem bDcl_d76 : decode bDcl.bs 76 = .ok (.ldc2_w 17, 3) := by decide +kernel
theorem bDcl_d79 : decode bDcl.bs 79 = .ok (.lcmp, 1) := by decide +kernel
theorem bDcl_d80 : decode bDcl.bs 80 = .ok (.ifCond .lt 7, 3) := by decide +kernel
theorem bDcl_d83 : decode bDcl.bs 83 = .ok (.bipush 7, 2) := by decide +kernel
theorem bDcl_d85 : decode bDcl.bs 85 = .ok (.istore 4, 2) := by decide +kernel
theorem bDcl_d87 : decode bDcl.bs 87 = .ok (.lload_n 1, 1) := by decide +kernel
theorem bDcl_d88 : decode bDcl.bs 88 = .ok (.ldc2_w 19, 3) := by decide +kernel
theorem bDcl_d91 : decode bDcl.bs 91 = .ok (.lcmp, 1) := by decide +kernel
theorem bDcl_d92 : decode bDcl.bs 92 = .ok (.ifCond .lt 7, 3) := by decide +kernel
theorem bDcl_d95 : decode bDcl.bs 95 = .ok (.bipush 8, 2) := by decide +kernel
theorem bDcl_d97 : decode bDcl.bs 97 = .ok (.istore 4, 2) := by decide +kernel
theorem bDcl_d99 : decode bDcl.bs 99 = .ok (.lload_n 1, 1) := by decide +kernel
theorem bDcl_d100 : decode bDcl.bs 100 = .ok (.ldc2_w 21, 3) := by decide +kernel
theorem bDcl_d103 : decode bDcl.bs 103 = .ok (.lcmp, 1) := by decide +kernel
theorem bDcl_d104 : decode bDcl.bs 104 = .ok (.ifCond .lt 7, 3) := by decide +kernel
theorem bDcl_d107 : decode bDcl.bs 107 = .ok (.bipush 9, 2) := by decide +kernel
theorem bDcl_d109 : decode bDcl.bs 109 = .ok (.istore 4, 2) := by decide +kernel
theorem bDcl_d111 : decode bDcl.bs 111 = .ok (.lload_n 1, 1) := by decide +kernel
theorem bDcl_d112 : decode bDcl.bs 112 = .ok (.ldc2_w 23, 3) := by decide +kernel
theorem bDcl_d115 : decode bDcl.bs 115 = .ok (.lcmp, 1) := by decide +kernel
theorem bDcl_d116 : decode bDcl.bs 116 = .ok (.ifCond .lt 7, 3) := by decide +kernel
theorem bDcl_d119 : decode bDcl.bs 119 = .ok (.bipush 10, 2) := by decide +kernel
theorem bDcl_d121 : decode bDcl.bs 121 = .ok (.istore 4, 2) := by decide +kernel
theorem bDcl_d123 : decode bDcl.bs 123 = .ok (.iload 4, 2) := by decide +kernel
theorem bDcl_d125 : decode bDcl.bs 125 = .ok (.iload_n 3, 1) := by decide +kernel
theorem bDcl_d126 : decode bDcl.bs 126 = .ok (.iadd, 1) := by decide +kernel
theorem bDcl_d127 : decode bDcl.bs 127 = .ok (.ireturn, 1) := by decide +kernel
theorem bDcl_pd : parseMethodDescriptor "(I)I" = some ⟨[.int], (some .int)⟩ := by decide +kernel
theorem bDcl_pn : plainFor bDcl.y = true := plainFor_of_name (show plainName "com/example/gridtally/gridtally/engine/OriginToStringPinLaw" = true from by first | (simp [plainName, overriddenIn]; done) | decide +kernel)
theorem cDcl (l : Launch) (Z : State) (a0 : Array Value) (hw : ∀ d ∈ tables_1, d.before a0 Z = true) (n0 : Nat) (hEW : EW Z a0 consts_1) (x : Int32) (h0 : Heap) (σ : Addr → Prop)  :
    Road.Con l Z consts_1 n0 false bDcl [] σ #[(.int x)] h0 (fun v h2 _ => v = some (.int (Nat.toInt32 (Road.dec x).length)) ∧ h0 = h2) := by
  refine Road.Con.of bDcl_pn hEW #[.val (.int x), .unset, .unset, .unset, .unset] (fun m => Road.ent (Road.laid1 rfl Road.laid0) (k := 4) rfl rfl) ?_
  intro D hD
  have hmx := Road.nat_le x
  obtain ⟨m, hm⟩ : ∃ m, m = x.toInt.natAbs := ⟨_, rfl⟩
  rw [← hm] at hmx
  have tail : ∀ (v : Int64) (d : Int32) (dn : Nat), v.toInt = (m : Int) → d = Nat.toInt32 dn → (Road.dec x).length = (Road.decN m).length + dn → Road.Go l Z a0 consts_1 n0 false bDcl D (fun v h2 _ => v = some (.int (Nat.toInt32 (Road.dec x).length)) ∧ h0 = h2) h0 σ 0 0 16 #[.val (.int x), .val (.long v), .second, .val (.int d), .unset] [] := by
    intro v d dn hv hd hl
    have hcs : m < 10 ∨ (10 ≤ m ∧ m < 100) ∨ (100 ≤ m ∧ m < 1000) ∨ (1000 ≤ m ∧ m < 10000) ∨ (10000 ≤ m ∧ m < 100000) ∨ (100000 ≤ m ∧ m < 1000000) ∨ (1000000 ≤ m ∧ m < 10000000) ∨ (10000000 ≤ m ∧ m < 100000000) ∨ (100000000 ≤ m ∧ m < 1000000000) ∨ 1000000000 ≤ m := by omega
    rcases hcs with hq | hq | hq | hq | hq | hq | hq | hq | hq | hq
    · skip
      have hlen := Road.decN_len 0 m (by omega) (Or.inl rfl)
      refine Road.iconst 16 (1 : Int32) bDcl_d16 rfl ?_
      refine Road.istore 17 #[.val (.int x), .val (.long v), .second, .val (.int d), .val (.int (1 : Int32))] bDcl_d17 rfl ?_
      refine Road.lloadN 19 bDcl_d19 rfl ?_
      refine Road.ldc2J 20 bDcl_d20 (hw _ (List.mem_of_getElem? (i := 177) rfl)) ?_
      refine Road.lcmp 23 bDcl_d23 ?_
      refine Road.ifl_lt 24 30 bDcl_d24 rfl (fun hc24 => ?_) (fun q => absurd q (by rw [Decidable.not_not, Int64.lt_iff_toInt_lt, hv, show (10 : Int64).toInt = 10 from rfl]; omega))
      refine Road.lloadN 30 bDcl_d30 rfl ?_
      refine Road.ldc2J 31 bDcl_d31 (hw _ (List.mem_of_getElem? (i := 178) rfl)) ?_
      refine Road.lcmp 34 bDcl_d34 ?_
      refine Road.ifl_lt 35 41 bDcl_d35 rfl (fun hc35 => ?_) (fun q => absurd q (by rw [Decidable.not_not, Int64.lt_iff_toInt_lt, hv, show (100 : Int64).toInt = 100 from rfl]; omega))
      refine Road.lloadN 41 bDcl_d41 rfl ?_
      refine Road.ldc2J 42 bDcl_d42 (hw _ (List.mem_of_getElem? (i := 179) rfl)) ?_
      refine Road.lcmp 45 bDcl_d45 ?_
      refine Road.ifl_lt 46 52 bDcl_d46 rfl (fun hc46 => ?_) (fun q => absurd q (by rw [Decidable.not_not, Int64.lt_iff_toInt_lt, hv, show (1000 : Int64).toInt = 1000 from rfl]; omega))
      refine Road.lloadN 52 bDcl_d52 rfl ?_
      refine Road.ldc2J 53 bDcl_d53 (hw _ (List.mem_of_getElem? (i := 180) rfl)) ?_
      refine Road.lcmp 56 bDcl_d56 ?_
      refine Road.ifl_lt 57 63 bDcl_d57 rfl (fun hc57 => ?_) (fun q => absurd q (by rw [Decidable.not_not, Int64.lt_iff_toInt_lt, hv, show (10000 : Int64).toInt = 10000 from rfl]; omega))
      refine Road.lloadN 63 bDcl_d63 rfl ?_
      refine Road.ldc2J 64 bDcl_d64 (hw _ (List.mem_of_getElem? (i := 181) rfl)) ?_
      refine Road.lcmp 67 bDcl_d67 ?_
      refine Road.ifl_lt 68 75 bDcl_d68 rfl (fun hc68 => ?_) (fun q => absurd q (by rw [Decidable.not_not, Int64.lt_iff_toInt_lt, hv, show (100000 : Int64).toInt = 100000 from rfl]; omega))
      refine Road.lloadN 75 bDcl_d75 rfl ?_
      refine Road.ldc2J 76 bDcl_d76 (hw _ (List.mem_of_getElem? (i := 182) rfl)) ?_
      refine Road.lcmp 79 bDcl_d79 ?_
      refine Road.ifl_lt 80 87 bDcl_d80 rfl (fun hc80 => ?_) (fun q => absurd q (by rw [Decidable.not_not, Int64.lt_iff_toInt_lt, hv, show (1000000 : Int64).toInt = 1000000 from rfl]; omega))
      refine Road.lloadN 87 bDcl_d87 rfl ?_
      refine Road.ldc2J 88 bDcl_d88 (hw _ (List.mem_of_getElem? (i := 183) rfl)) ?_
      refine Road.lcmp 91 bDcl_d91 ?_
      refine Road.ifl_lt 92 99 bDcl_d92 rfl (fun hc92 => ?_) (fun q => absurd q (by rw [Decidable.not_not, Int64.lt_iff_toInt_lt, hv, show (10000000 : Int64).toInt = 10000000 from rfl]; omega))
      refine Road.lloadN 99 bDcl_d99 rfl ?_
      refine Road.ldc2J 100 bDcl_d100 (hw _ (List.mem_of_getElem? (i := 184) rfl)) ?_
      refine Road.lcmp 103 bDcl_d103 ?_
      refine Road.ifl_lt 104 111 bDcl_d104 rfl (fun hc104 => ?_) (fun q => absurd q (by rw [Decidable.not_not, Int64.lt_iff_toInt_lt, hv, show (100000000 : Int64).toInt = 100000000 from rfl]; omega))
      refine Road.lloadN 111 bDcl_d111 rfl ?_
      refine Road.ldc2J 112 bDcl_d112 (hw _ (List.mem_of_getElem? (i := 185) rfl)) ?_
      refine Road.lcmp 115 bDcl_d115 ?_
      refine Road.ifl_lt 116 123 bDcl_d116 rfl (fun hc116 => ?_) (fun q => absurd q (by rw [Decidable.not_not, Int64.lt_iff_toInt_lt, hv, show (1000000000 : Int64).toInt = 1000000000 from rfl]; omega))
      refine Road.iload 123 bDcl_d123 rfl ?_
      refine Road.iloadN 125 bDcl_d125 rfl ?_
      refine Road.iadd 126 bDcl_d126 ?_
      exact Road.iretI 127 bDcl_d127 rfl (by decide) (by decide) (fun σ' m => ⟨by rw [hl, hlen, hd, ← Road.add32n]; rfl, rfl⟩)
    · skip
      have hlen := Road.decN_len 1 m (by omega) (Or.inr (by omega))
      refine Road.iconst 16 (1 : Int32) bDcl_d16 rfl ?_
      refine Road.istore 17 #[.val (.int x), .val (.long v), .second, .val (.int d), .val (.int (1 : Int32))] bDcl_d17 rfl ?_
      refine Road.lloadN 19 bDcl_d19 rfl ?_
      refine Road.ldc2J 20 bDcl_d20 (hw _ (List.mem_of_getElem? (i := 177) rfl)) ?_
      refine Road.lcmp 23 bDcl_d23 ?_
      refine Road.ifl_lt 24 30 bDcl_d24 rfl (fun q => absurd q (by rw [Int64.lt_iff_toInt_lt, hv, show (10 : Int64).toInt = 10 from rfl]; omega)) (fun hc24 => ?_)
      refine Road.iconst 27 (2 : Int32) bDcl_d27 rfl ?_
      refine Road.istore 28 #[.val (.int x), .val (.long v), .second, .val (.int d), .val (.int (2 : Int32))] bDcl_d28 rfl ?_
      refine Road.lloadN 30 bDcl_d30 rfl ?_
      refine Road.ldc2J 31 bDcl_d31 (hw _ (List.mem_of_getElem? (i := 178) rfl)) ?_
      refine Road.lcmp 34 bDcl_d34 ?_
      refine Road.ifl_lt 35 41 bDcl_d35 rfl (fun hc35 => ?_) (fun q => absurd q (by rw [Decidable.not_not, Int64.lt_iff_toInt_lt, hv, show (100 : Int64).toInt = 100 from rfl]; omega))
      refine Road.lloadN 41 bDcl_d41 rfl ?_
      refine Road.ldc2J 42 bDcl_d42 (hw _ (List.mem_of_getElem? (i := 179) rfl)) ?_
      refine Road.lcmp 45 bDcl_d45 ?_
      refine Road.ifl_lt 46 52 bDcl_d46 rfl (fun hc46 => ?_) (fun q => absurd q (by rw [Decidable.not_not, Int64.lt_iff_toInt_lt, hv, show (1000 : Int64).toInt = 1000 from rfl]; omega))
      refine Road.lloadN 52 bDcl_d52 rfl ?_
      refine Road.ldc2J 53 bDcl_d53 (hw _ (List.mem_of_getElem? (i := 180) rfl)) ?_
      refine Road.lcmp 56 bDcl_d56 ?_
      refine Road.ifl_lt 57 63 bDcl_d57 rfl (fun hc57 => ?_) (fun q => absurd q (by rw [Decidable.not_not, Int64.lt_iff_toInt_lt, hv, show (10000 : Int64).toInt = 10000 from rfl]; omega))
      refine Road.lloadN 63 bDcl_d63 rfl ?_
      refine Road.ldc2J 64 bDcl_d64 (hw _ (List.mem_of_getElem? (i := 181) rfl)) ?_
      refine Road.lcmp 67 bDcl_d67 ?_
      refine Road.ifl_lt 68 75 bDcl_d68 rfl (fun hc68 => ?_) (fun q => absurd q (by rw [Decidable.not_not, Int64.lt_iff_toInt_lt, hv, show (100000 : Int64).toInt = 100000 from rfl]; omega))
      refine Road.lloadN 75 bDcl_d75 rfl ?_
      refine Road.ldc2J 76 bDcl_d76 (hw _ (List.mem_of_getElem? (i := 182) rfl)) ?_
      refine Road.lcmp 79 bDcl_d79 ?_
      refine Road.ifl_lt 80 87 bDcl_d80 rfl (fun hc80 => ?_) (fun q => absurd q (by rw [Decidable.not_not, Int64.lt_iff_toInt_lt, hv, show (1000000 : Int64).toInt = 1000000 from rfl]; omega))
      refine Road.lloadN 87 bDcl_d87 rfl ?_
      refine Road.ldc2J 88 bDcl_d88 (hw _ (List.mem_of_getElem? (i := 183) rfl)) ?_
      refine Road.lcmp 91 bDcl_d91 ?_
      refine Road.ifl_lt 92 99 bDcl_d92 rfl (fun hc92 => ?_) (fun q => absurd q (by rw [Decidable.not_not, Int64.lt_iff_toInt_lt, hv, show (10000000 : Int64).toInt = 10000000 from rfl]; omega))
      refine Road.lloadN 99 bDcl_d99 rfl ?_
      refine Road.ldc2J 100 bDcl_d100 (hw _ (List.mem_of_getElem? (i := 184) rfl)) ?_
      refine Road.lcmp 103 bDcl_d103 ?_
      refine Road.ifl_lt 104 111 bDcl_d104 rfl (fun hc104 => ?_) (fun q => absurd q (by rw [Decidable.not_not, Int64.lt_iff_toInt_lt, hv, show (100000000 : Int64).toInt = 100000000 from rfl]; omega))
      refine Road.lloadN 111 bDcl_d111 rfl ?_
      refine Road.ldc2J 112 bDcl_d112 (hw _ (List.mem_of_getElem? (i := 185) rfl)) ?_
      refine Road.lcmp 115 bDcl_d115 ?_
      refine Road.ifl_lt 116 123 bDcl_d116 rfl (fun hc116 => ?_) (fun q => absurd q (by rw [Decidable.not_not, Int64.lt_iff_toInt_lt, hv, show (1000000000 : Int64).toInt = 1000000000 from rfl]; omega))
      refine Road.iload 123 bDcl_d123 rfl ?_
      refine Road.iloadN 125 bDcl_d125 rfl ?_
      refine Road.iadd 126 bDcl_d126 ?_
      exact Road.iretI 127 bDcl_d127 rfl (by decide) (by decide) (fun σ' m => ⟨by rw [hl, hlen, hd, ← Road.add32n]; rfl, rfl⟩)
    · skip
      have hlen := Road.decN_len 2 m (by omega) (Or.inr (by omega))
      refine Road.iconst 16 (1 : Int32) bDcl_d16 rfl ?_
      refine Road.istore 17 #[.val (.int x), .val (.long v), .second, .val (.int d), .val (.int (1 : Int32))] bDcl_d17 rfl ?_
      refine Road.lloadN 19 bDcl_d19 rfl ?_
      refine Road.ldc2J 20 bDcl_d20 (hw _ (List.mem_of_getElem? (i := 177) rfl)) ?_
      refine Road.lcmp 23 bDcl_d23 ?_
      refine Road.ifl_lt 24 30 bDcl_d24 rfl (fun q => absurd q (by rw [Int64.lt_iff_toInt_lt, hv, show (10 : Int64).toInt = 10 from rfl]; omega)) (fun hc24 => ?_)
      refine Road.iconst 27 (2 : Int32) bDcl_d27 rfl ?_
      refine Road.istore 28 #[.val (.int x), .val (.long v), .second, .val (.int d), .val (.int (2 : Int32))] bDcl_d28 rfl ?_
      refine Road.lloadN 30 bDcl_d30 rfl ?_
      refine Road.ldc2J 31 bDcl_d31 (hw _ (List.mem_of_getElem? (i := 178) rfl)) ?_
      refine Road.lcmp 34 bDcl_d34 ?_
      refine Road.ifl_lt 35 41 bDcl_d35 rfl (fun q => absurd q (by rw [Int64.lt_iff_toInt_lt, hv, show (100 : Int64).toInt = 100 from rfl]; omega)) (fun hc35 => ?_)
      refine Road.iconst 38 (3 : Int32) bDcl_d38 rfl ?_
      refine Road.istore 39 #[.val (.int x), .val (.long v), .second, .val (.int d), .val (.int (3 : Int32))] bDcl_d39 rfl ?_
      refine Road.lloadN 41 bDcl_d41 rfl ?_
      refine Road.ldc2J 42 bDcl_d42 (hw _ (List.mem_of_getElem? (i := 179) rfl)) ?_
      refine Road.lcmp 45 bDcl_d45 ?_
      refine Road.ifl_lt 46 52 bDcl_d46 rfl (fun hc46 => ?_) (fun q => absurd q (by rw [Decidable.not_not, Int64.lt_iff_toInt_lt, hv, show (1000 : Int64).toInt = 1000 from rfl]; omega))
      refine Road.lloadN 52 bDcl_d52 rfl ?_
      refine Road.ldc2J 53 bDcl_d53 (hw _ (List.mem_of_getElem? (i := 180) rfl)) ?_
      refine Road.lcmp 56 bDcl_d56 ?_
      refine Road.ifl_lt 57 63 bDcl_d57 rfl (fun hc57 => ?_) (fun q => absurd q (by rw [Decidable.not_not, Int64.lt_iff_toInt_lt, hv, show (10000 : Int64).toInt = 10000 from rfl]; omega))
      refine Road.lloadN 63 bDcl_d63 rfl ?_
      refine Road.ldc2J 64 bDcl_d64 (hw _ (List.mem_of_getElem? (i := 181) rfl)) ?_
      refine Road.lcmp 67 bDcl_d67 ?_
      refine Road.ifl_lt 68 75 bDcl_d68 rfl (fun hc68 => ?_) (fun q => absurd q (by rw [Decidable.not_not, Int64.lt_iff_toInt_lt, hv, show (100000 : Int64).toInt = 100000 from rfl]; omega))
      refine Road.lloadN 75 bDcl_d75 rfl ?_
      refine Road.ldc2J 76 bDcl_d76 (hw _ (List.mem_of_getElem? (i := 182) rfl)) ?_
      refine Road.lcmp 79 bDcl_d79 ?_
      refine Road.ifl_lt 80 87 bDcl_d80 rfl (fun hc80 => ?_) (fun q => absurd q (by rw [Decidable.not_not, Int64.lt_iff_toInt_lt, hv, show (1000000 : Int64).toInt = 1000000 from rfl]; omega))
      refine Road.lloadN 87 bDcl_d87 rfl ?_
      refine Road.ldc2J 88 bDcl_d88 (hw _ (List.mem_of_getElem? (i := 183) rfl)) ?_
      refine Road.lcmp 91 bDcl_d91 ?_
      refine Road.ifl_lt 92 99 bDcl_d92 rfl (fun hc92 => ?_) (fun q => absurd q (by rw [Decidable.not_not, Int64.lt_iff_toInt_lt, hv, show (10000000 : Int64).toInt = 10000000 from rfl]; omega))
      refine Road.lloadN 99 bDcl_d99 rfl ?_
      refine Road.ldc2J 100 bDcl_d100 (hw _ (List.mem_of_getElem? (i := 184) rfl)) ?_
      refine Road.lcmp 103 bDcl_d103 ?_
      refine Road.ifl_lt 104 111 bDcl_d104 rfl (fun hc104 => ?_) (fun q => absurd q (by rw [Decidable.not_not, Int64.lt_iff_toInt_lt, hv, show (100000000 : Int64).toInt = 100000000 from rfl]; omega))
      refine Road.lloadN 111 bDcl_d111 rfl ?_
      refine Road.ldc2J 112 bDcl_d112 (hw _ (List.mem_of_getElem? (i := 185) rfl)) ?_
      refine Road.lcmp 115 bDcl_d115 ?_
      refine Road.ifl_lt 116 123 bDcl_d116 rfl (fun hc116 => ?_) (fun q => absurd q (by rw [Decidable.not_not, Int64.lt_iff_toInt_lt, hv, show (1000000000 : Int64).toInt = 1000000000 from rfl]; omega))
      refine Road.iload 123 bDcl_d123 rfl ?_
      refine Road.iloadN 125 bDcl_d125 rfl ?_
      refine Road.iadd 126 bDcl_d126 ?_
      exact Road.iretI 127 bDcl_d127 rfl (by decide) (by decide) (fun σ' m => ⟨by rw [hl, hlen, hd, ← Road.add32n]; rfl, rfl⟩)
    · skip
      have hlen := Road.decN_len 3 m (by omega) (Or.inr (by omega))
      refine Road.iconst 16 (1 : Int32) bDcl_d16 rfl ?_
      refine Road.istore 17 #[.val (.int x), .val (.long v), .second, .val (.int d), .val (.int (1 : Int32))] bDcl_d17 rfl ?_
      refine Road.lloadN 19 bDcl_d19 rfl ?_
      refine Road.ldc2J 20 bDcl_d20 (hw _ (List.mem_of_getElem? (i := 177) rfl)) ?_
      refine Road.lcmp 23 bDcl_d23 ?_
      refine Road.ifl_lt 24 30 bDcl_d24 rfl (fun q => absurd q (by rw [Int64.lt_iff_toInt_lt, hv, show (10 : Int64).toInt = 10 from rfl]; omega)) (fun hc24 => ?_)
      refine Road.iconst 27 (2 : Int32) bDcl_d27 rfl ?_
      refine Road.istore 28 #[.val (.int x), .val (.long v), .second, .val (.int d), .val (.int (2 : Int32))] bDcl_d28 rfl ?_
      refine Road.lloadN 30 bDcl_d30 rfl ?_
      refine Road.ldc2J 31 bDcl_d31 (hw _ (List.mem_of_getElem? (i := 178) rfl)) ?_
      refine Road.lcmp 34 bDcl_d34 ?_
      refine Road.ifl_lt 35 41 bDcl_d35 rfl (fun q => absurd q (by rw [Int64.lt_iff_toInt_lt, hv, show (100 : Int64).toInt = 100 from rfl]; omega)) (fun hc35 => ?_)
      refine Road.iconst 38 (3 : Int32) bDcl_d38 rfl ?_
      refine Road.istore 39 #[.val (.int x), .val (.long v), .second, .val (.int d), .val (.int (3 : Int32))] bDcl_d39 rfl ?_
      refine Road.lloadN 41 bDcl_d41 rfl ?_
      refine Road.ldc2J 42 bDcl_d42 (hw _ (List.mem_of_getElem? (i := 179) rfl)) ?_
      refine Road.lcmp 45 bDcl_d45 ?_
      refine Road.ifl_lt 46 52 bDcl_d46 rfl (fun q => absurd q (by rw [Int64.lt_iff_toInt_lt, hv, show (1000 : Int64).toInt = 1000 from rfl]; omega)) (fun hc46 => ?_)
      refine Road.iconst 49 (4 : Int32) bDcl_d49 rfl ?_
      refine Road.istore 50 #[.val (.int x), .val (.long v), .second, .val (.int d), .val (.int (4 : Int32))] bDcl_d50 rfl ?_
      refine Road.lloadN 52 bDcl_d52 rfl ?_
      refine Road.ldc2J 53 bDcl_d53 (hw _ (List.mem_of_getElem? (i := 180) rfl)) ?_
      refine Road.lcmp 56 bDcl_d56 ?_
      refine Road.ifl_lt 57 63 bDcl_d57 rfl (fun hc57 => ?_) (fun q => absurd q (by rw [Decidable.not_not, Int64.lt_iff_toInt_lt, hv, show (10000 : Int64).toInt = 10000 from rfl]; omega))
      refine Road.lloadN 63 bDcl_d63 rfl ?_
      refine Road.ldc2J 64 bDcl_d64 (hw _ (List.mem_of_getElem? (i := 181) rfl)) ?_
      refine Road.lcmp 67 bDcl_d67 ?_
      refine Road.ifl_lt 68 75 bDcl_d68 rfl (fun hc68 => ?_) (fun q => absurd q (by rw [Decidable.not_not, Int64.lt_iff_toInt_lt, hv, show (100000 : Int64).toInt = 100000 from rfl]; omega))
      refine Road.lloadN 75 bDcl_d75 rfl ?_
      refine Road.ldc2J 76 bDcl_d76 (hw _ (List.mem_of_getElem? (i := 182) rfl)) ?_
      refine Road.lcmp 79 bDcl_d79 ?_
      refine Road.ifl_lt 80 87 bDcl_d80 rfl (fun hc80 => ?_) (fun q => absurd q (by rw [Decidable.not_not, Int64.lt_iff_toInt_lt, hv, show (1000000 : Int64).toInt = 1000000 from rfl]; omega))
      refine Road.lloadN 87 bDcl_d87 rfl ?_
      refine Road.ldc2J 88 bDcl_d88 (hw _ (List.mem_of_getElem? (i := 183) rfl)) ?_
      refine Road.lcmp 91 bDcl_d91 ?_
      refine Road.ifl_lt 92 99 bDcl_d92 rfl (fun hc92 => ?_) (fun q => absurd q (by rw [Decidable.not_not, Int64.lt_iff_toInt_lt, hv, show (10000000 : Int64).toInt = 10000000 from rfl]; omega))
      refine Road.lloadN 99 bDcl_d99 rfl ?_
      refine Road.ldc2J 100 bDcl_d100 (hw _ (List.mem_of_getElem? (i := 184) rfl)) ?_
      refine Road.lcmp 103 bDcl_d103 ?_
      refine Road.ifl_lt 104 111 bDcl_d104 rfl (fun hc104 => ?_) (fun q => absurd q (by rw [Decidable.not_not, Int64.lt_iff_toInt_lt, hv, show (100000000 : Int64).toInt = 100000000 from rfl]; omega))
      refine Road.lloadN 111 bDcl_d111 rfl ?_
      refine Road.ldc2J 112 bDcl_d112 (hw _ (List.mem_of_getElem? (i := 185) rfl)) ?_
      refine Road.lcmp 115 bDcl_d115 ?_
      refine Road.ifl_lt 116 123 bDcl_d116 rfl (fun hc116 => ?_) (fun q => absurd q (by rw [Decidable.not_not, Int64.lt_iff_toInt_lt, hv, show (1000000000 : Int64).toInt = 1000000000 from rfl]; omega))
      refine Road.iload 123 bDcl_d123 rfl ?_
      refine Road.iloadN 125 bDcl_d125 rfl ?_
      refine Road.iadd 126 bDcl_d126 ?_
      exact Road.iretI 127 bDcl_d127 rfl (by decide) (by decide) (fun σ' m => ⟨by rw [hl, hlen, hd, ← Road.add32n]; rfl, rfl⟩)
    · skip
      have hlen := Road.decN_len 4 m (by omega) (Or.inr (by omega))
      refine Road.iconst 16 (1 : Int32) bDcl_d16 rfl ?_
      refine Road.istore 17 #[.val (.int x), .val (.long v), .second, .val (.int d), .val (.int (1 : Int32))] bDcl_d17 rfl ?_
      refine Road.lloadN 19 bDcl_d19 rfl ?_
      refine Road.ldc2J 20 bDcl_d20 (hw _ (List.mem_of_getElem? (i := 177) rfl)) ?_
      refine Road.lcmp 23 bDcl_d23 ?_
      refine Road.ifl_lt 24 30 bDcl_d24 rfl (fun q => absurd q (by rw [Int64.lt_iff_toInt_lt, hv, show (10 : Int64).toInt = 10 from rfl]; omega)) (fun hc24 => ?_)
      refine Road.iconst 27 (2 : Int32) bDcl_d27 rfl ?_
      refine Road.istore 28 #[.val (.int x), .val (.long v), .second, .val (.int d), .val (.int (2 : Int32))] bDcl_d28 rfl ?_
      refine Road.lloadN 30 bDcl_d30 rfl ?_
      refine Road.ldc2J 31 bDcl_d31 (hw _ (List.mem_of_getElem? (i := 178) rfl)) ?_
      refine Road.lcmp 34 bDcl_d34 ?_
      refine Road.ifl_lt 35 41 bDcl_d35 rfl (fun q => absurd q (by rw [Int64.lt_iff_toInt_lt, hv, show (100 : Int64).toInt = 100 from rfl]; omega)) (fun hc35 => ?_)
      refine Road.iconst 38 (3 : Int32) bDcl_d38 rfl ?_
      refine Road.istore 39 #[.val (.int x), .val (.long v), .second, .val (.int d), .val (.int (3 : Int32))] bDcl_d39 rfl ?_
      refine Road.lloadN 41 bDcl_d41 rfl ?_
      refine Road.ldc2J 42 bDcl_d42 (hw _ (List.mem_of_getElem? (i := 179) rfl)) ?_
      refine Road.lcmp 45 bDcl_d45 ?_
      refine Road.ifl_lt 46 52 bDcl_d46 rfl (fun q => absurd q (by rw [Int64.lt_iff_toInt_lt, hv, show (1000 : Int64).toInt = 1000 from rfl]; omega)) (fun hc46 => ?_)
      refine Road.iconst 49 (4 : Int32) bDcl_d49 rfl ?_
      refine Road.istore 50 #[.val (.int x), .val (.long v), .second, .val (.int d), .val (.int (4 : Int32))] bDcl_d50 rfl ?_
      refine Road.lloadN 52 bDcl_d52 rfl ?_
      refine Road.ldc2J 53 bDcl_d53 (hw _ (List.mem_of_getElem? (i := 180) rfl)) ?_
      refine Road.lcmp 56 bDcl_d56 ?_
      refine Road.ifl_lt 57 63 bDcl_d57 rfl (fun q => absurd q (by rw [Int64.lt_iff_toInt_lt, hv, show (10000 : Int64).toInt = 10000 from rfl]; omega)) (fun hc57 => ?_)
      refine Road.iconst 60 (5 : Int32) bDcl_d60 rfl ?_
      refine Road.istore 61 #[.val (.int x), .val (.long v), .second, .val (.int d), .val (.int (5 : Int32))] bDcl_d61 rfl ?_
      refine Road.lloadN 63 bDcl_d63 rfl ?_
      refine Road.ldc2J 64 bDcl_d64 (hw _ (List.mem_of_getElem? (i := 181) rfl)) ?_
      refine Road.lcmp 67 bDcl_d67 ?_
      refine Road.ifl_lt 68 75 bDcl_d68 rfl (fun hc68 => ?_) (fun q => absurd q (by rw [Decidable.not_not, Int64.lt_iff_toInt_lt, hv, show (100000 : Int64).toInt = 100000 from rfl]; omega))
      refine Road.lloadN 75 bDcl_d75 rfl ?_
      refine Road.ldc2J 76 bDcl_d76 (hw _ (List.mem_of_getElem? (i := 182) rfl)) ?_
      refine Road.lcmp 79 bDcl_d79 ?_
      refine Road.ifl_lt 80 87 bDcl_d80 rfl (fun hc80 => ?_) (fun q => absurd q (by rw [Decidable.not_not, Int64.lt_iff_toInt_lt, hv, show (1000000 : Int64).toInt = 1000000 from rfl]; omega))
      refine Road.lloadN 87 bDcl_d87 rfl ?_
      refine Road.ldc2J 88 bDcl_d88 (hw _ (List.mem_of_getElem? (i := 183) rfl)) ?_
      refine Road.lcmp 91 bDcl_d91 ?_
      refine Road.ifl_lt 92 99 bDcl_d92 rfl (fun hc92 => ?_) (fun q => absurd q (by rw [Decidable.not_not, Int64.lt_iff_toInt_lt, hv, show (10000000 : Int64).toInt = 10000000 from rfl]; omega))
      refine Road.lloadN 99 bDcl_d99 rfl ?_
      refine Road.ldc2J 100 bDcl_d100 (hw _ (List.mem_of_getElem? (i := 184) rfl)) ?_
      refine Road.lcmp 103 bDcl_d103 ?_
      refine Road.ifl_lt 104 111 bDcl_d104 rfl (fun hc104 => ?_) (fun q => absurd q (by rw [Decidable.not_not, Int64.lt_iff_toInt_lt, hv, show (100000000 : Int64).toInt = 100000000 from rfl]; omega))
      refine Road.lloadN 111 bDcl_d111 rfl ?_
      refine Road.ldc2J 112 bDcl_d112 (hw _ (List.mem_of_getElem? (i := 185) rfl)) ?_
      refine Road.lcmp 115 bDcl_d115 ?_
      refine Road.ifl_lt 116 123 bDcl_d116 rfl (fun hc116 => ?_) (fun q => absurd q (by rw [Decidable.not_not, Int64.lt_iff_toInt_lt, hv, show (1000000000 : Int64).toInt = 1000000000 from rfl]; omega))
      refine Road.iload 123 bDcl_d123 rfl ?_
      refine Road.iloadN 125 bDcl_d125 rfl ?_
      refine Road.iadd 126 bDcl_d126 ?_
      exact Road.iretI 127 bDcl_d127 rfl (by decide) (by decide) (fun σ' m => ⟨by rw [hl, hlen, hd, ← Road.add32n]; rfl, rfl⟩)
    · skip
      have hlen := Road.decN_len 5 m (by omega) (Or.inr (by omega))
      refine Road.iconst 16 (1 : Int32) bDcl_d16 rfl ?_
      refine Road.istore 17 #[.val (.int x), .val (.long v), .second, .val (.int d), .val (.int (1 : Int32))] bDcl_d17 rfl ?_
      refine Road.lloadN 19 bDcl_d19 rfl ?_
      refine Road.ldc2J 20 bDcl_d20 (hw _ (List.mem_of_getElem? (i := 177) rfl)) ?_
      refine Road.lcmp 23 bDcl_d23 ?_
      refine Road.ifl_lt 24 30 bDcl_d24 rfl (fun q => absurd q (by rw [Int64.lt_iff_toInt_lt, hv, show (10 : Int64).toInt = 10 from rfl]; omega)) (fun hc24 => ?_)
      refine Road.iconst 27 (2 : Int32) bDcl_d27 rfl ?_
      refine Road.istore 28 #[.val (.int x), .val (.long v), .second, .val (.int d), .val (.int (2 : Int32))] bDcl_d28 rfl ?_
      refine Road.lloadN 30 bDcl_d30 rfl ?_
      refine Road.ldc2J 31 bDcl_d31 (hw _ (List.mem_of_getElem? (i := 178) rfl)) ?_
      refine Road.lcmp 34 bDcl_d34 ?_
      refine Road.ifl_lt 35 41 bDcl_d35 rfl (fun q => absurd q (by rw [Int64.lt_iff_toInt_lt, hv, show (100 : Int64).toInt = 100 from rfl]; omega)) (fun hc35 => ?_)
      refine Road.iconst 38 (3 : Int32) bDcl_d38 rfl ?_
      refine Road.istore 39 #[.val (.int x), .val (.long v), .second, .val (.int d), .val (.int (3 : Int32))] bDcl_d39 rfl ?_
      refine Road.lloadN 41 bDcl_d41 rfl ?_
      refine Road.ldc2J 42 bDcl_d42 (hw _ (List.mem_of_getElem? (i := 179) rfl)) ?_
      refine Road.lcmp 45 bDcl_d45 ?_
      refine Road.ifl_lt 46 52 bDcl_d46 rfl (fun q => absurd q (by rw [Int64.lt_iff_toInt_lt, hv, show (1000 : Int64).toInt = 1000 from rfl]; omega)) (fun hc46 => ?_)
      refine Road.iconst 49 (4 : Int32) bDcl_d49 rfl ?_
      refine Road.istore 50 #[.val (.int x), .val (.long v), .second, .val (.int d), .val (.int (4 : Int32))] bDcl_d50 rfl ?_
      refine Road.lloadN 52 bDcl_d52 rfl ?_
      refine Road.ldc2J 53 bDcl_d53 (hw _ (List.mem_of_getElem? (i := 180) rfl)) ?_
      refine Road.lcmp 56 bDcl_d56 ?_
      refine Road.ifl_lt 57 63 bDcl_d57 rfl (fun q => absurd q (by rw [Int64.lt_iff_toInt_lt, hv, show (10000 : Int64).toInt = 10000 from rfl]; omega)) (fun hc57 => ?_)
      refine Road.iconst 60 (5 : Int32) bDcl_d60 rfl ?_
      refine Road.istore 61 #[.val (.int x), .val (.long v), .second, .val (.int d), .val (.int (5 : Int32))] bDcl_d61 rfl ?_
      refine Road.lloadN 63 bDcl_d63 rfl ?_
      refine Road.ldc2J 64 bDcl_d64 (hw _ (List.mem_of_getElem? (i := 181) rfl)) ?_
      refine Road.lcmp 67 bDcl_d67 ?_
      refine Road.ifl_lt 68 75 bDcl_d68 rfl (fun q => absurd q (by rw [Int64.lt_iff_toInt_lt, hv, show (100000 : Int64).toInt = 100000 from rfl]; omega)) (fun hc68 => ?_)
      refine Road.bipush 71 (6 : Int32) bDcl_d71 rfl ?_
      refine Road.istore 73 #[.val (.int x), .val (.long v), .second, .val (.int d), .val (.int (6 : Int32))] bDcl_d73 rfl ?_
      refine Road.lloadN 75 bDcl_d75 rfl ?_
      refine Road.ldc2J 76 bDcl_d76 (hw _ (List.mem_of_getElem? (i := 182) rfl)) ?_
      refine Road.lcmp 79 bDcl_d79 ?_
      refine Road.ifl_lt 80 87 bDcl_d80 rfl (fun hc80 => ?_) (fun q => absurd q (by rw [Decidable.not_not, Int64.lt_iff_toInt_lt, hv, show (1000000 : Int64).toInt = 1000000 from rfl]; omega))
      refine Road.lloadN 87 bDcl_d87 rfl ?_
      refine Road.ldc2J 88 bDcl_d88 (hw _ (List.mem_of_getElem? (i := 183) rfl)) ?_
      refine Road.lcmp 91 bDcl_d91 ?_
      refine Road.ifl_lt 92 99 bDcl_d92 rfl (fun hc92 => ?_) (fun q => absurd q (by rw [Decidable.not_not, Int64.lt_iff_toInt_lt, hv, show (10000000 : Int64).toInt = 10000000 from rfl]; omega))
      refine Road.lloadN 99 bDcl_d99 rfl ?_
      refine Road.ldc2J 100 bDcl_d100 (hw _ (List.mem_of_getElem? (i := 184) rfl)) ?_
      refine Road.lcmp 103 bDcl_d103 ?_
      refine Road.ifl_lt 104 111 bDcl_d104 rfl (fun hc104 => ?_) (fun q => absurd q (by rw [Decidable.not_not, Int64.lt_iff_toInt_lt, hv, show (100000000 : Int64).toInt = 100000000 from rfl]; omega))
      refine Road.lloadN 111 bDcl_d111 rfl ?_
      refine Road.ldc2J 112 bDcl_d112 (hw _ (List.mem_of_getElem? (i := 185) rfl)) ?_
      refine Road.lcmp 115 bDcl_d115 ?_
      refine Road.ifl_lt 116 123 bDcl_d116 rfl (fun hc116 => ?_) (fun q => absurd q (by rw [Decidable.not_not, Int64.lt_iff_toInt_lt, hv, show (1000000000 : Int64).toInt = 1000000000 from rfl]; omega))
      refine Road.iload 123 bDcl_d123 rfl ?_
      refine Road.iloadN 125 bDcl_d125 rfl ?_
      refine Road.iadd 126 bDcl_d126 ?_
      exact Road.iretI 127 bDcl_d127 rfl (by decide) (by decide) (fun σ' m => ⟨by rw [hl, hlen, hd, ← Road.add32n]; rfl, rfl⟩)
    · skip
      have hlen := Road.decN_len 6 m (by omega) (Or.inr (by omega))
      refine Road.iconst 16 (1 : Int32) bDcl_d16 rfl ?_
      refine Road.istore 17 #[.val (.int x), .val (.long v), .second, .val (.int d), .val (.int (1 : Int32))] bDcl_d17 rfl ?_
      refine Road.lloadN 19 bDcl_d19 rfl ?_
      refine Road.ldc2J 20 bDcl_d20 (hw _ (List.mem_of_getElem? (i := 177) rfl)) ?_
      refine Road.lcmp 23 bDcl_d23 ?_
      refine Road.ifl_lt 24 30 bDcl_d24 rfl (fun q => absurd q (by rw [Int64.lt_iff_toInt_lt, hv, show (10 : Int64).toInt = 10 from rfl]; omega)) (fun hc24 => ?_)
      refine Road.iconst 27 (2 : Int32) bDcl_d27 rfl ?_
      refine Road.istore 28 #[.val (.int x), .val (.long v), .second, .val (.int d), .val (.int (2 : Int32))] bDcl_d28 rfl ?_
      refine Road.lloadN 30 bDcl_d30 rfl ?_
      refine Road.ldc2J 31 bDcl_d31 (hw _ (List.mem_of_getElem? (i := 178) rfl)) ?_
      refine Road.lcmp 34 bDcl_d34 ?_
      refine Road.ifl_lt 35 41 bDcl_d35 rfl (fun q => absurd q (by rw [Int64.lt_iff_toInt_lt, hv, show (100 : Int64).toInt = 100 from rfl]; omega)) (fun hc35 => ?_)
      refine Road.iconst 38 (3 : Int32) bDcl_d38 rfl ?_
      refine Road.istore 39 #[.val (.int x), .val (.long v), .second, .val (.int d), .val (.int (3 : Int32))] bDcl_d39 rfl ?_
      refine Road.lloadN 41 bDcl_d41 rfl ?_
      refine Road.ldc2J 42 bDcl_d42 (hw _ (List.mem_of_getElem? (i := 179) rfl)) ?_
      refine Road.lcmp 45 bDcl_d45 ?_
      refine Road.ifl_lt 46 52 bDcl_d46 rfl (fun q => absurd q (by rw [Int64.lt_iff_toInt_lt, hv, show (1000 : Int64).toInt = 1000 from rfl]; omega)) (fun hc46 => ?_)
      refine Road.iconst 49 (4 : Int32) bDcl_d49 rfl ?_
      refine Road.istore 50 #[.val (.int x), .val (.long v), .second, .val (.int d), .val (.int (4 : Int32))] bDcl_d50 rfl ?_
      refine Road.lloadN 52 bDcl_d52 rfl ?_
      refine Road.ldc2J 53 bDcl_d53 (hw _ (List.mem_of_getElem? (i := 180) rfl)) ?_
      refine Road.lcmp 56 bDcl_d56 ?_
      refine Road.ifl_lt 57 63 bDcl_d57 rfl (fun q => absurd q (by rw [Int64.lt_iff_toInt_lt, hv, show (10000 : Int64).toInt = 10000 from rfl]; omega)) (fun hc57 => ?_)
      refine Road.iconst 60 (5 : Int32) bDcl_d60 rfl ?_
      refine Road.istore 61 #[.val (.int x), .val (.long v), .second, .val (.int d), .val (.int (5 : Int32))] bDcl_d61 rfl ?_
      refine Road.lloadN 63 bDcl_d63 rfl ?_
      refine Road.ldc2J 64 bDcl_d64 (hw _ (List.mem_of_getElem? (i := 181) rfl)) ?_
      refine Road.lcmp 67 bDcl_d67 ?_
      refine Road.ifl_lt 68 75 bDcl_d68 rfl (fun q => absurd q (by rw [Int64.lt_iff_toInt_lt, hv, show (100000 : Int64).toInt = 100000 from rfl]; omega)) (fun hc68 => ?_)
      refine Road.bipush 71 (6 : Int32) bDcl_d71 rfl ?_
      refine Road.istore 73 #[.val (.int x), .val (.long v), .second, .val (.int d), .val (.int (6 : Int32))] bDcl_d73 rfl ?_
      refine Road.lloadN 75 bDcl_d75 rfl ?_
      refine Road.ldc2J 76 bDcl_d76 (hw _ (List.mem_of_getElem? (i := 182) rfl)) ?_
      refine Road.lcmp 79 bDcl_d79 ?_
      refine Road.ifl_lt 80 87 bDcl_d80 rfl (fun q => absurd q (by rw [Int64.lt_iff_toInt_lt, hv, show (1000000 : Int64).toInt = 1000000 from rfl]; omega)) (fun hc80 => ?_)
      refine Road.bipush 83 (7 : Int32) bDcl_d83 rfl ?_
      refine Road.istore 85 #[.val (.int x), .val (.long v), .second, .val (.int d), .val (.int (7 : Int32))] bDcl_d85 rfl ?_
      refine Road.lloadN 87 bDcl_d87 rfl ?_
      refine Road.ldc2J 88 bDcl_d88 (hw _ (List.mem_of_getElem? (i := 183) rfl)) ?_
      refine Road.lcmp 91 bDcl_d91 ?_
      refine Road.ifl_lt 92 99 bDcl_d92 rfl (fun hc92 => ?_) (fun q => absurd q (by rw [Decidable.not_not, Int64.lt_iff_toInt_lt, hv, show (10000000 : Int64).toInt = 10000000 from rfl]; omega))
      refine Road.lloadN 99 bDcl_d99 rfl ?_
      refine Road.ldc2J 100 bDcl_d100 (hw _ (List.mem_of_getElem? (i := 184) rfl)) ?_
      refine Road.lcmp 103 bDcl_d103 ?_
      refine Road.ifl_lt 104 111 bDcl_d104 rfl (fun hc104 => ?_) (fun q => absurd q (by rw [Decidable.not_not, Int64.lt_iff_toInt_lt, hv, show (100000000 : Int64).toInt = 100000000 from rfl]; omega))
      refine Road.lloadN 111 bDcl_d111 rfl ?_
      refine Road.ldc2J 112 bDcl_d112 (hw _ (List.mem_of_getElem? (i := 185) rfl)) ?_
      refine Road.lcmp 115 bDcl_d115 ?_
      refine Road.ifl_lt 116 123 bDcl_d116 rfl (fun hc116 => ?_) (fun q => absurd q (by rw [Decidable.not_not, Int64.lt_iff_toInt_lt, hv, show (1000000000 : Int64).toInt = 1000000000 from rfl]; omega))
      refine Road.iload 123 bDcl_d123 rfl ?_
      refine Road.iloadN 125 bDcl_d125 rfl ?_
      refine Road.iadd 126 bDcl_d126 ?_
      exact Road.iretI 127 bDcl_d127 rfl (by decide) (by decide) (fun σ' m => ⟨by rw [hl, hlen, hd, ← Road.add32n]; rfl, rfl⟩)
    · skip
      have hlen := Road.decN_len 7 m (by omega) (Or.inr (by omega))
      refine Road.iconst 16 (1 : Int32) bDcl_d16 rfl ?_
      refine Road.istore 17 #[.val (.int x), .val (.long v), .second, .val (.int d), .val (.int (1 : Int32))] bDcl_d17 rfl ?_
      refine Road.lloadN 19 bDcl_d19 rfl ?_
      refine Road.ldc2J 20 bDcl_d20 (hw _ (List.mem_of_getElem? (i := 177) rfl)) ?_
      refine Road.lcmp 23 bDcl_d23 ?_
      refine Road.ifl_lt 24 30 bDcl_d24 rfl (fun q => absurd q (by rw [Int64.lt_iff_toInt_lt, hv, show (10 : Int64).toInt = 10 from rfl]; omega)) (fun hc24 => ?_)
      refine Road.iconst 27 (2 : Int32) bDcl_d27 rfl ?_
      refine Road.istore 28 #[.val (.int x), .val (.long v), .second, .val (.int d), .val (.int (2 : Int32))] bDcl_d28 rfl ?_
      refine Road.lloadN 30 bDcl_d30 rfl ?_
      refine Road.ldc2J 31 bDcl_d31 (hw _ (List.mem_of_getElem? (i := 178) rfl)) ?_
      refine Road.lcmp 34 bDcl_d34 ?_
      refine Road.ifl_lt 35 41 bDcl_d35 rfl (fun q => absurd q (by rw [Int64.lt_iff_toInt_lt, hv, show (100 : Int64).toInt = 100 from rfl]; omega)) (fun hc35 => ?_)
      refine Road.iconst 38 (3 : Int32) bDcl_d38 rfl ?_
      refine Road.istore 39 #[.val (.int x), .val (.long v), .second, .val (.int d), .val (.int (3 : Int32))] bDcl_d39 rfl ?_
      refine Road.lloadN 41 bDcl_d41 rfl ?_
      refine Road.ldc2J 42 bDcl_d42 (hw _ (List.mem_of_getElem? (i := 179) rfl)) ?_
      refine Road.lcmp 45 bDcl_d45 ?_
      refine Road.ifl_lt 46 52 bDcl_d46 rfl (fun q => absurd q (by rw [Int64.lt_iff_toInt_lt, hv, show (1000 : Int64).toInt = 1000 from rfl]; omega)) (fun hc46 => ?_)
      refine Road.iconst 49 (4 : Int32) bDcl_d49 rfl ?_
      refine Road.istore 50 #[.val (.int x), .val (.long v), .second, .val (.int d), .val (.int (4 : Int32))] bDcl_d50 rfl ?_
      refine Road.lloadN 52 bDcl_d52 rfl ?_
      refine Road.ldc2J 53 bDcl_d53 (hw _ (List.mem_of_getElem? (i := 180) rfl)) ?_
      refine Road.lcmp 56 bDcl_d56 ?_
      refine Road.ifl_lt 57 63 bDcl_d57 rfl (fun q => absurd q (by rw [Int64.lt_iff_toInt_lt, hv, show (10000 : Int64).toInt = 10000 from rfl]; omega)) (fun hc57 => ?_)
      refine Road.iconst 60 (5 : Int32) bDcl_d60 rfl ?_
      refine Road.istore 61 #[.val (.int x), .val (.long v), .second, .val (.int d), .val (.int (5 : Int32))] bDcl_d61 rfl ?_
      refine Road.lloadN 63 bDcl_d63 rfl ?_
      refine Road.ldc2J 64 bDcl_d64 (hw _ (List.mem_of_getElem? (i := 181) rfl)) ?_
      refine Road.lcmp 67 bDcl_d67 ?_
      refine Road.ifl_lt 68 75 bDcl_d68 rfl (fun q => absurd q (by rw [Int64.lt_iff_toInt_lt, hv, show (100000 : Int64).toInt = 100000 from rfl]; omega)) (fun hc68 => ?_)
      refine Road.bipush 71 (6 : Int32) bDcl_d71 rfl ?_
      refine Road.istore 73 #[.val (.int x), .val (.long v), .second, .val (.int d), .val (.int (6 : Int32))] bDcl_d73 rfl ?_
      refine Road.lloadN 75 bDcl_d75 rfl ?_
      refine Road.ldc2J 76 bDcl_d76 (hw _ (List.mem_of_getElem? (i := 182) rfl)) ?_
      refine Road.lcmp 79 bDcl_d79 ?_
      refine Road.ifl_lt 80 87 bDcl_d80 rfl (fun q => absurd q (by rw [Int64.lt_iff_toInt_lt, hv, show (1000000 : Int64).toInt = 1000000 from rfl]; omega)) (fun hc80 => ?_)
      refine Road.bipush 83 (7 : Int32) bDcl_d83 rfl ?_
      refine Road.istore 85 #[.val (.int x), .val (.long v), .second, .val (.int d), .val (.int (7 : Int32))] bDcl_d85 rfl ?_
      refine Road.lloadN 87 bDcl_d87 rfl ?_
      refine Road.ldc2J 88 bDcl_d88 (hw _ (List.mem_of_getElem? (i := 183) rfl)) ?_
      refine Road.lcmp 91 bDcl_d91 ?_
      refine Road.ifl_lt 92 99 bDcl_d92 rfl (fun q => absurd q (by rw [Int64.lt_iff_toInt_lt, hv, show (10000000 : Int64).toInt = 10000000 from rfl]; omega)) (fun hc92 => ?_)
      refine Road.bipush 95 (8 : Int32) bDcl_d95 rfl ?_
      refine Road.istore 97 #[.val (.int x), .val (.long v), .second, .val (.int d), .val (.int (8 : Int32))] bDcl_d97 rfl ?_
      refine Road.lloadN 99 bDcl_d99 rfl ?_
      refine Road.ldc2J 100 bDcl_d100 (hw _ (List.mem_of_getElem? (i := 184) rfl)) ?_
      refine Road.lcmp 103 bDcl_d103 ?_
      refine Road.ifl_lt 104 111 bDcl_d104 rfl (fun hc104 => ?_) (fun q => absurd q (by rw [Decidable.not_not, Int64.lt_iff_toInt_lt, hv, show (100000000 : Int64).toInt = 100000000 from rfl]; omega))
      refine Road.lloadN 111 bDcl_d111 rfl ?_
      refine Road.ldc2J 112 bDcl_d112 (hw _ (List.mem_of_getElem? (i := 185) rfl)) ?_
      refine Road.lcmp 115 bDcl_d115 ?_
      refine Road.ifl_lt 116 123 bDcl_d116 rfl (fun hc116 => ?_) (fun q => absurd q (by rw [Decidable.not_not, Int64.lt_iff_toInt_lt, hv, show (1000000000 : Int64).toInt = 1000000000 from rfl]; omega))
      refine Road.iload 123 bDcl_d123 rfl ?_
      refine Road.iloadN 125 bDcl_d125 rfl ?_
      refine Road.iadd 126 bDcl_d126 ?_
      exact Road.iretI 127 bDcl_d127 rfl (by decide) (by decide) (fun σ' m => ⟨by rw [hl, hlen, hd, ← Road.add32n]; rfl, rfl⟩)
    · skip
      have hlen := Road.decN_len 8 m (by omega) (Or.inr (by omega))
      refine Road.iconst 16 (1 : Int32) bDcl_d16 rfl ?_
      refine Road.istore 17 #[.val (.int x), .val (.long v), .second, .val (.int d), .val (.int (1 : Int32))] bDcl_d17 rfl ?_
      refine Road.lloadN 19 bDcl_d19 rfl ?_
      refine Road.ldc2J 20 bDcl_d20 (hw _ (List.mem_of_getElem? (i := 177) rfl)) ?_
      refine Road.lcmp 23 bDcl_d23 ?_
      refine Road.ifl_lt 24 30 bDcl_d24 rfl (fun q => absurd q (by rw [Int64.lt_iff_toInt_lt, hv, show (10 : Int64).toInt = 10 from rfl]; omega)) (fun hc24 => ?_)
      refine Road.iconst 27 (2 : Int32) bDcl_d27 rfl ?_
      refine Road.istore 28 #[.val (.int x), .val (.long v), .second, .val (.int d), .val (.int (2 : Int32))] bDcl_d28 rfl ?_
      refine Road.lloadN 30 bDcl_d30 rfl ?_
      refine Road.ldc2J 31 bDcl_d31 (hw _ (List.mem_of_getElem? (i := 178) rfl)) ?_
      refine Road.lcmp 34 bDcl_d34 ?_
      refine Road.ifl_lt 35 41 bDcl_d35 rfl (fun q => absurd q (by rw [Int64.lt_iff_toInt_lt, hv, show (100 : Int64).toInt = 100 from rfl]; omega)) (fun hc35 => ?_)
      refine Road.iconst 38 (3 : Int32) bDcl_d38 rfl ?_
      refine Road.istore 39 #[.val (.int x), .val (.long v), .second, .val (.int d), .val (.int (3 : Int32))] bDcl_d39 rfl ?_
      refine Road.lloadN 41 bDcl_d41 rfl ?_
      refine Road.ldc2J 42 bDcl_d42 (hw _ (List.mem_of_getElem? (i := 179) rfl)) ?_
      refine Road.lcmp 45 bDcl_d45 ?_
      refine Road.ifl_lt 46 52 bDcl_d46 rfl (fun q => absurd q (by rw [Int64.lt_iff_toInt_lt, hv, show (1000 : Int64).toInt = 1000 from rfl]; omega)) (fun hc46 => ?_)
      refine Road.iconst 49 (4 : Int32) bDcl_d49 rfl ?_
      refine Road.istore 50 #[.val (.int x), .val (.long v), .second, .val (.int d), .val (.int (4 : Int32))] bDcl_d50 rfl ?_
      refine Road.lloadN 52 bDcl_d52 rfl ?_
      refine Road.ldc2J 53 bDcl_d53 (hw _ (List.mem_of_getElem? (i := 180) rfl)) ?_
      refine Road.lcmp 56 bDcl_d56 ?_
      refine Road.ifl_lt 57 63 bDcl_d57 rfl (fun q => absurd q (by rw [Int64.lt_iff_toInt_lt, hv, show (10000 : Int64).toInt = 10000 from rfl]; omega)) (fun hc57 => ?_)
      refine Road.iconst 60 (5 : Int32) bDcl_d60 rfl ?_
      refine Road.istore 61 #[.val (.int x), .val (.long v), .second, .val (.int d), .val (.int (5 : Int32))] bDcl_d61 rfl ?_
      refine Road.lloadN 63 bDcl_d63 rfl ?_
      refine Road.ldc2J 64 bDcl_d64 (hw _ (List.mem_of_getElem? (i := 181) rfl)) ?_
      refine Road.lcmp 67 bDcl_d67 ?_
      refine Road.ifl_lt 68 75 bDcl_d68 rfl (fun q => absurd q (by rw [Int64.lt_iff_toInt_lt, hv, show (100000 : Int64).toInt = 100000 from rfl]; omega)) (fun hc68 => ?_)
      refine Road.bipush 71 (6 : Int32) bDcl_d71 rfl ?_
      refine Road.istore 73 #[.val (.int x), .val (.long v), .second, .val (.int d), .val (.int (6 : Int32))] bDcl_d73 rfl ?_
      refine Road.lloadN 75 bDcl_d75 rfl ?_
      refine Road.ldc2J 76 bDcl_d76 (hw _ (List.mem_of_getElem? (i := 182) rfl)) ?_
      refine Road.lcmp 79 bDcl_d79 ?_
      refine Road.ifl_lt 80 87 bDcl_d80 rfl (fun q => absurd q (by rw [Int64.lt_iff_toInt_lt, hv, show (1000000 : Int64).toInt = 1000000 from rfl]; omega)) (fun hc80 => ?_)
      refine Road.bipush 83 (7 : Int32) bDcl_d83 rfl ?_
      refine Road.istore 85 #[.val (.int x), .val (.long v), .second, .val (.int d), .val (.int (7 : Int32))] bDcl_d85 rfl ?_
      refine Road.lloadN 87 bDcl_d87 rfl ?_
      refine Road.ldc2J 88 bDcl_d88 (hw _ (List.mem_of_getElem? (i := 183) rfl)) ?_
      refine Road.lcmp 91 bDcl_d91 ?_
      refine Road.ifl_lt 92 99 bDcl_d92 rfl (fun q => absurd q (by rw [Int64.lt_iff_toInt_lt, hv, show (10000000 : Int64).toInt = 10000000 from rfl]; omega)) (fun hc92 => ?_)
      refine Road.bipush 95 (8 : Int32) bDcl_d95 rfl ?_
      refine Road.istore 97 #[.val (.int x), .val (.long v), .second, .val (.int d), .val (.int (8 : Int32))] bDcl_d97 rfl ?_
      refine Road.lloadN 99 bDcl_d99 rfl ?_
      refine Road.ldc2J 100 bDcl_d100 (hw _ (List.mem_of_getElem? (i := 184) rfl)) ?_
      refine Road.lcmp 103 bDcl_d103 ?_
      refine Road.ifl_lt 104 111 bDcl_d104 rfl (fun q => absurd q (by rw [Int64.lt_iff_toInt_lt, hv, show (100000000 : Int64).toInt = 100000000 from rfl]; omega)) (fun hc104 => ?_)
      refine Road.bipush 107 (9 : Int32) bDcl_d107 rfl ?_
      refine Road.istore 109 #[.val (.int x), .val (.long v), .second, .val (.int d), .val (.int (9 : Int32))] bDcl_d109 rfl ?_
      refine Road.lloadN 111 bDcl_d111 rfl ?_
      refine Road.ldc2J 112 bDcl_d112 (hw _ (List.mem_of_getElem? (i := 185) rfl)) ?_
      refine Road.lcmp 115 bDcl_d115 ?_
      refine Road.ifl_lt 116 123 bDcl_d116 rfl (fun hc116 => ?_) (fun q => absurd q (by rw [Decidable.not_not, Int64.lt_iff_toInt_lt, hv, show (1000000000 : Int64).toInt = 1000000000 from rfl]; omega))
      refine Road.iload 123 bDcl_d123 rfl ?_
      refine Road.iloadN 125 bDcl_d125 rfl ?_
      refine Road.iadd 126 bDcl_d126 ?_
      exact Road.iretI 127 bDcl_d127 rfl (by decide) (by decide) (fun σ' m => ⟨by rw [hl, hlen, hd, ← Road.add32n]; rfl, rfl⟩)
    · skip
      have hlen := Road.decN_len 9 m (by omega) (Or.inr (by omega))
      refine Road.iconst 16 (1 : Int32) bDcl_d16 rfl ?_
      refine Road.istore 17 #[.val (.int x), .val (.long v), .second, .val (.int d), .val (.int (1 : Int32))] bDcl_d17 rfl ?_
      refine Road.lloadN 19 bDcl_d19 rfl ?_
      refine Road.ldc2J 20 bDcl_d20 (hw _ (List.mem_of_getElem? (i := 177) rfl)) ?_
      refine Road.lcmp 23 bDcl_d23 ?_
      refine Road.ifl_lt 24 30 bDcl_d24 rfl (fun q => absurd q (by rw [Int64.lt_iff_toInt_lt, hv, show (10 : Int64).toInt = 10 from rfl]; omega)) (fun hc24 => ?_)
      refine Road.iconst 27 (2 : Int32) bDcl_d27 rfl ?_
      refine Road.istore 28 #[.val (.int x), .val (.long v), .second, .val (.int d), .val (.int (2 : Int32))] bDcl_d28 rfl ?_
      refine Road.lloadN 30 bDcl_d30 rfl ?_
      refine Road.ldc2J 31 bDcl_d31 (hw _ (List.mem_of_getElem? (i := 178) rfl)) ?_
      refine Road.lcmp 34 bDcl_d34 ?_
      refine Road.ifl_lt 35 41 bDcl_d35 rfl (fun q => absurd q (by rw [Int64.lt_iff_toInt_lt, hv, show (100 : Int64).toInt = 100 from rfl]; omega)) (fun hc35 => ?_)
      refine Road.iconst 38 (3 : Int32) bDcl_d38 rfl ?_
      refine Road.istore 39 #[.val (.int x), .val (.long v), .second, .val (.int d), .val (.int (3 : Int32))] bDcl_d39 rfl ?_
      refine Road.lloadN 41 bDcl_d41 rfl ?_
      refine Road.ldc2J 42 bDcl_d42 (hw _ (List.mem_of_getElem? (i := 179) rfl)) ?_
      refine Road.lcmp 45 bDcl_d45 ?_
      refine Road.ifl_lt 46 52 bDcl_d46 rfl (fun q => absurd q (by rw [Int64.lt_iff_toInt_lt, hv, show (1000 : Int64).toInt = 1000 from rfl]; omega)) (fun hc46 => ?_)
      refine Road.iconst 49 (4 : Int32) bDcl_d49 rfl ?_
      refine Road.istore 50 #[.val (.int x), .val (.long v), .second, .val (.int d), .val (.int (4 : Int32))] bDcl_d50 rfl ?_
      refine Road.lloadN 52 bDcl_d52 rfl ?_
      refine Road.ldc2J 53 bDcl_d53 (hw _ (List.mem_of_getElem? (i := 180) rfl)) ?_
      refine Road.lcmp 56 bDcl_d56 ?_
      refine Road.ifl_lt 57 63 bDcl_d57 rfl (fun q => absurd q (by rw [Int64.lt_iff_toInt_lt, hv, show (10000 : Int64).toInt = 10000 from rfl]; omega)) (fun hc57 => ?_)
      refine Road.iconst 60 (5 : Int32) bDcl_d60 rfl ?_
      refine Road.istore 61 #[.val (.int x), .val (.long v), .second, .val (.int d), .val (.int (5 : Int32))] bDcl_d61 rfl ?_
      refine Road.lloadN 63 bDcl_d63 rfl ?_
      refine Road.ldc2J 64 bDcl_d64 (hw _ (List.mem_of_getElem? (i := 181) rfl)) ?_
      refine Road.lcmp 67 bDcl_d67 ?_
      refine Road.ifl_lt 68 75 bDcl_d68 rfl (fun q => absurd q (by rw [Int64.lt_iff_toInt_lt, hv, show (100000 : Int64).toInt = 100000 from rfl]; omega)) (fun hc68 => ?_)
      refine Road.bipush 71 (6 : Int32) bDcl_d71 rfl ?_
      refine Road.istore 73 #[.val (.int x), .val (.long v), .second, .val (.int d), .val (.int (6 : Int32))] bDcl_d73 rfl ?_
      refine Road.lloadN 75 bDcl_d75 rfl ?_
      refine Road.ldc2J 76 bDcl_d76 (hw _ (List.mem_of_getElem? (i := 182) rfl)) ?_
      refine Road.lcmp 79 bDcl_d79 ?_
      refine Road.ifl_lt 80 87 bDcl_d80 rfl (fun q => absurd q (by rw [Int64.lt_iff_toInt_lt, hv, show (1000000 : Int64).toInt = 1000000 from rfl]; omega)) (fun hc80 => ?_)
      refine Road.bipush 83 (7 : Int32) bDcl_d83 rfl ?_
      refine Road.istore 85 #[.val (.int x), .val (.long v), .second, .val (.int d), .val (.int (7 : Int32))] bDcl_d85 rfl ?_
      refine Road.lloadN 87 bDcl_d87 rfl ?_
      refine Road.ldc2J 88 bDcl_d88 (hw _ (List.mem_of_getElem? (i := 183) rfl)) ?_
      refine Road.lcmp 91 bDcl_d91 ?_
      refine Road.ifl_lt 92 99 bDcl_d92 rfl (fun q => absurd q (by rw [Int64.lt_iff_toInt_lt, hv, show (10000000 : Int64).toInt = 10000000 from rfl]; omega)) (fun hc92 => ?_)
      refine Road.bipush 95 (8 : Int32) bDcl_d95 rfl ?_
      refine Road.istore 97 #[.val (.int x), .val (.long v), .second, .val (.int d), .val (.int (8 : Int32))] bDcl_d97 rfl ?_
      refine Road.lloadN 99 bDcl_d99 rfl ?_
      refine Road.ldc2J 100 bDcl_d100 (hw _ (List.mem_of_getElem? (i := 184) rfl)) ?_
      refine Road.lcmp 103 bDcl_d103 ?_
      refine Road.ifl_lt 104 111 bDcl_d104 rfl (fun q => absurd q (by rw [Int64.lt_iff_toInt_lt, hv, show (100000000 : Int64).toInt = 100000000 from rfl]; omega)) (fun hc104 => ?_)
      refine Road.bipush 107 (9 : Int32) bDcl_d107 rfl ?_
      refine Road.istore 109 #[.val (.int x), .val (.long v), .second, .val (.int d), .val (.int (9 : Int32))] bDcl_d109 rfl ?_
      refine Road.lloadN 111 bDcl_d111 rfl ?_
      refine Road.ldc2J 112 bDcl_d112 (hw _ (List.mem_of_getElem? (i := 185) rfl)) ?_
      refine Road.lcmp 115 bDcl_d115 ?_
      refine Road.ifl_lt 116 123 bDcl_d116 rfl (fun q => absurd q (by rw [Int64.lt_iff_toInt_lt, hv, show (1000000000 : Int64).toInt = 1000000000 from rfl]; omega)) (fun hc116 => ?_)
      refine Road.bipush 119 (10 : Int32) bDcl_d119 rfl ?_
      refine Road.istore 121 #[.val (.int x), .val (.long v), .second, .val (.int d), .val (.int (10 : Int32))] bDcl_d121 rfl ?_
      refine Road.iload 123 bDcl_d123 rfl ?_
      refine Road.iloadN 125 bDcl_d125 rfl ?_
      refine Road.iadd 126 bDcl_d126 ?_
      exact Road.iretI 127 bDcl_d127 rfl (by decide) (by decide) (fun σ' m => ⟨by rw [hl, hlen, hd, ← Road.add32n]; rfl, rfl⟩)
  refine Road.iloadN 0 bDcl_d0 rfl ?_
  refine Road.i2l 1 bDcl_d1 ?_
  refine Road.lstoreN 2 #[.val (.int x), .val (.long (Int32.toInt64 x)), .second, .unset, .unset] bDcl_d2 rfl ?_
  refine Road.iconst 3 (0 : Int32) bDcl_d3 rfl ?_
  refine Road.istoreN 4 #[.val (.int x), .val (.long (Int32.toInt64 x)), .second, .val (.int (0 : Int32)), .unset] bDcl_d4 rfl ?_
  refine Road.lloadN 5 bDcl_d5 rfl ?_
  refine Road.lconst 6 (0 : Int64) bDcl_d6 rfl ?_
  refine Road.lcmp 7 bDcl_d7 ?_
  refine Road.ifl_ge 8 16 bDcl_d8 rfl (fun hc8 => ?_) (fun hc8 => ?_)
  · skip
    rw [Int64.lt_iff_toInt_lt, Road.i2l_int, show (0 : Int64).toInt = 0 from rfl] at hc8
    exact tail _ 0 0 (by rw [Road.i2l_int]; omega) rfl (by unfold Road.dec; rw [if_neg hc8, ← hm]; rfl)
  · skip
    rw [Int64.lt_iff_toInt_lt, Road.i2l_int, show (0 : Int64).toInt = 0 from rfl] at hc8
    refine Road.lloadN 11 bDcl_d11 rfl ?_
    refine Road.lneg 12 bDcl_d12 ?_
    refine Road.lstoreN 13 #[.val (.int x), .val (.long (-(Int32.toInt64 x))), .second, .val (.int (0 : Int32)), .unset] bDcl_d13 rfl ?_
    refine Road.iconst 14 (1 : Int32) bDcl_d14 rfl ?_
    refine Road.istoreN 15 #[.val (.int x), .val (.long (-(Int32.toInt64 x))), .second, .val (.int (1 : Int32)), .unset] bDcl_d15 rfl ?_
    exact tail _ 1 1 (Road.lneg_nat hmx (by rw [Road.i2l_int]; omega)) rfl (by unfold Road.dec; rw [if_pos hc8, ← hm]; rfl)
def bDch : Road.Bdy := (⟨"com/example/gridtally/gridtally/engine/OriginToStringPinLaw", "decChar", "(III)C"⟩, method_3_code, 7, (some .char), { frames := 0, cells := 1, slots := 10, locals := 0 })
theorem bDch_d0 : decode bDch.bs 0 = .ok (.iload_n 0, 1) := by decide +kernel
theorem bDch_d1 : decode bDch.bs 1 = .ok (.i2l, 1) := by decide +kernel
theorem bDch_d2 : decode bDch.bs 2 = .ok (.lstore_n 3, 1) := by decide +kernel
theorem bDch_d3 : decode bDch.bs 3 = .ok (.iload_n 0, 1) := by decide +kernel
theorem bDch_d4 : decode bDch.bs 4 = .ok (.ifCond .ge 13, 3) := by decide +kernel
theorem bDch_d7 : decode bDch.bs 7 = .ok (.iload_n 1, 1) := by decide +kernel
theorem bDch_d8 : decode bDch.bs 8 = .ok (.ifCond .ne 6, 3) := by decide +kernel
theorem bDch_d11 : decode bDch.bs 11 = .ok (.bipush 45, 2) := by decide +kernel
theorem bDch_d13 : decode bDch.bs 13 = .ok (.ireturn, 1) := by decide +kernel
theorem bDch_d14 : decode bDch.bs 14 = .ok (.lload_n 3, 1) := by decide +kernel
theorem bDch_d15 : decode bDch.bs 15 = .ok (.lneg, 1) := by decide +kernel
theorem bDch_d16 : decode bDch.bs 16 = .ok (.lstore_n 3, 1) := by decide +kernel
theorem bDch_d17 : decode bDch.bs 17 = .ok (.iload_n 2, 1) := by decide +kernel
theorem bDch_d18 : decode bDch.bs 18 = .ok (.iconst 1, 1) := by decide +kernel
theorem bDch_d19 : decode bDch.bs 19 = .ok (.isub, 1) := by decide +kernel
theorem bDch_d20 : decode bDch.bs 20 = .ok (.iload_n 1, 1) := by decide +kernel
theorem bDch_d21 : decode bDch.bs 21 = .ok (.isub, 1) := by decide +kernel
theorem bDch_d22 : decode bDch.bs 22 = .ok (.istore 5, 2) := by decide +kernel
theorem bDch_d24 : decode bDch.bs 24 = .ok (.bipush 10, 2) := by decide +kernel
theorem bDch_d26 : decode bDch.bs 26 = .ok (.newarray .long, 2) := by decide +kernel
theorem bDch_d28 : decode bDch.bs 28 = .ok (.dup, 1) := by decide +kernel
theorem bDch_d29 : decode bDch.bs 29 = .ok (.iconst 0, 1) := by decide +kernel
theorem bDch_d30 : decode bDch.bs 30 = .ok (.lconst 1, 1) := by decide +kernel
theorem bDch_d31 : decode bDch.bs 31 = .ok (.lastore, 1) := by decide +kernel
theorem bDch_d32 : decode bDch.bs 32 = .ok (.dup, 1) := by decide +kernel
theorem bDch_d33 : decode bDch.bs 33 = .ok (.iconst 1, 1) := by decide +kernel
theorem bDch_d34 : decode bDch.bs 34 = .ok (.ldc2_w 7, 3) := by decide +kernel
theorem bDch_d37 : decode bDch.bs 37 = .ok (.lastore, 1) := by decide +kernel
theorem bDch_d38 : decode bDch.bs 38 = .ok (.dup, 1) := by decide +kernel
theorem bDch_d39 : decode bDch.bs 39 = .ok (.iconst 2, 1) := by decide +kernel
theorem bDch_d40 : decode bDch.bs 40 = .ok (.ldc2_w 9, 3) := by decide +kernel
theorem bDch_d43 : decode bDch.bs 43 = .ok (.lastore, 1) := by decide +kernel
theorem bDch_d44 : decode bDch.bs 44 = .ok (.dup, 1) := by decide +kernel
theorem bDch_d45 : decode bDch.bs 45 = .ok (.iconst 3, 1) := by decide +kernel
theorem bDch_d46 : decode bDch.bs 46 = .ok (.ldc2_w 11, 3) := by decide +kernel
theorem bDch_d49 : decode bDch.bs 49 = .ok (.lastore, 1) := by decide +kernel
theorem bDch_d50 : decode bDch.bs 50 = .ok (.dup, 1) := by decide +kernel
theorem bDch_d51 : decode bDch.bs 51 = .ok (.iconst 4, 1) := by decide +kernel
theorem bDch_d52 : decode bDch.bs 52 = .ok (.ldc2_w 13, 3) := by decide +kernel
theorem bDch_d55 : decode bDch.bs 55 = .ok (.lastore, 1) := by decide +kernel
theorem bDch_d56 : decode bDch.bs 56 = .ok (.dup, 1) := by decide +kernel
theorem bDch_d57 : decode bDch.bs 57 = .ok (.iconst 5, 1) := by decide +kernel
theorem bDch_d58 : decode bDch.bs 58 = .ok (.ldc2_w 15, 3) := by decide +kernel
theorem bDch_d61 : decode bDch.bs 61 = .ok (.lastore, 1) := by decide +kernel
theorem bDch_d62 : decode bDch.bs 62 = .ok (.dup, 1) := by decide +kernel
theorem bDch_d63 : decode bDch.bs 63 = .ok (.bipush 6, 2) := by decide +kernel
theorem bDch_d65 : decode bDch.bs 65 = .ok (.ldc2_w 17, 3) := by decide +kernel
theorem bDch_d68 : decode bDch.bs 68 = .ok (.lastore, 1) := by decide +kernel
theorem bDch_d69 : decode bDch.bs 69 = .ok (.dup, 1) := by decide +kernel
theorem bDch_d70 : decode bDch.bs 70 = .ok (.bipush 7, 2) := by decide +kernel
theorem bDch_d72 : decode bDch.bs 72 = .ok (.ldc2_w 19, 3) := by decide +kernel
theorem bDch_d75 : decode bDch.bs 75 = .ok (.lastore, 1) := by decide +kernel
theorem bDch_d76 : decode bDch.bs 76 = .ok (.dup, 1) := by decide +kernel
theorem bDch_d77 : decode bDch.bs 77 = .ok (.bipush 8, 2) := by decide +kernel
theorem bDch_d79 : decode bDch.bs 79 = .ok (.ldc2_w 21, 3) := by decide +kernel
theorem bDch_d82 : decode bDch.bs 82 = .ok (.lastore, 1) := by decide +kernel
theorem bDch_d83 : decode bDch.bs 83 = .ok (.dup, 1) := by decide +kernel
theorem bDch_d84 : decode bDch.bs 84 = .ok (.bipush 9, 2) := by decide +kernel
theorem bDch_d86 : decode bDch.bs 86 = .ok (.ldc2_w 23, 3) := by decide +kernel
theorem bDch_d89 : decode bDch.bs 89 = .ok (.lastore, 1) := by decide +kernel
theorem bDch_d90 : decode bDch.bs 90 = .ok (.astore 6, 2) := by decide +kernel
theorem bDch_d92 : decode bDch.bs 92 = .ok (.bipush 48, 2) := by decide +kernel
theorem bDch_d94 : decode bDch.bs 94 = .ok (.lload_n 3, 1) := by decide +kernel
theorem bDch_d95 : decode bDch.bs 95 = .ok (.aload 6, 2) := by decide +kernel
theorem bDch_d97 : decode bDch.bs 97 = .ok (.iload 5, 2) := by decide +kernel
theorem bDch_d99 : decode bDch.bs 99 = .ok (.laload, 1) := by decide +kernel
theorem bDch_d100 : decode bDch.bs 100 = .ok (.ldiv, 1) := by decide +kernel
theorem bDch_d101 : decode bDch.bs 101 = .ok (.ldc2_w 7, 3) := by decide +kernel
theorem bDch_d104 : decode bDch.bs 104 = .ok (.lrem, 1) := by decide +kernel
theorem bDch_d105 : decode bDch.bs 105 = .ok (.l2i, 1) := by decide +kernel
theorem bDch_d106 : decode bDch.bs 106 = .ok (.iadd, 1) := by decide +kernel
theorem bDch_d107 : decode bDch.bs 107 = .ok (.i2c, 1) := by decide +kernel
theorem bDch_d108 : decode bDch.bs 108 = .ok (.ireturn, 1) := by decide +kernel
theorem bDch_pd : parseMethodDescriptor "(III)C" = some ⟨[.int, .int, .int], (some .char)⟩ := by decide +kernel
theorem bDch_pn : plainFor bDch.y = true := plainFor_of_name (show plainName "com/example/gridtally/gridtally/engine/OriginToStringPinLaw" = true from by first | (simp [plainName, overriddenIn]; done) | decide +kernel)
theorem cDch (l : Launch) (Z : State) (a0 : Array Value) (hw : ∀ d ∈ tables_1, d.before a0 Z = true) (n0 : Nat) (hEW : EW Z a0 consts_1) (x : Int32) (k : Nat) (h0 : Heap) (σ : Addr → Prop) (hk : k < (Road.dec x).length) :
    Road.Con l Z consts_1 n0 false bDch [] σ #[(.int x), (.int (Nat.toInt32 k)), (.int (Nat.toInt32 (Road.dec x).length))] h0 (fun v h2 _ => v = some (.int (Road.dec x)[k]) ∧ Keep h0 h2 []) := by
  refine Road.Con.of bDch_pn hEW #[.val (.int x), .val (.int (Nat.toInt32 k)), .val (.int (Nat.toInt32 (Road.dec x).length)), .unset, .unset, .unset, .unset] (fun m => Road.ent (Road.laid1 rfl (Road.laid1 rfl (Road.laid1 rfl Road.laid0))) (k := 4) rfl rfl) ?_
  intro D hD
  have hmx := Road.nat_le x
  have hdl := Road.dec_le x
  obtain ⟨m, hm⟩ : ∃ m, m = x.toInt.natAbs := ⟨_, rfl⟩
  rw [← hm] at hmx
  have hd10 := Road.decN_le 9 m (by omega)
  obtain ⟨L, hL⟩ : ∃ L, L = (Road.dec x).length := ⟨_, rfl⟩
  rw [← hL] at hdl ⊢
  have tail : ∀ (v : Int64), v.toInt = (m : Int) → L - 1 - k < 10 → (Road.dec x)[k] = Road.dc (m / 10 ^ (L - 1 - k) % 10) → Road.Go l Z a0 consts_1 n0 false bDch D (fun v h2 _ => v = some (.int (Road.dec x)[k]) ∧ Keep h0 h2 []) h0 σ 0 0 17 #[.val (.int x), .val (.int (Nat.toInt32 k)), .val (.int (Nat.toInt32 L)), .val (.long v), .second, .unset, .unset] [] := by
    intro v hv he hr
    refine Road.iloadN 17 bDch_d17 rfl ?_
    refine Road.iconst 18 (1 : Int32) bDch_d18 rfl ?_
    refine Road.isub 19 bDch_d19 ?_
    refine Road.nameI ?_
    intro z_1 hz_1
    obtain rfl : z_1 = (Nat.toInt32 (L - 1)) := by rw [hz_1]; exact Road.sub32n (j := 1) (by omega)
    refine Road.iloadN 20 bDch_d20 rfl ?_
    refine Road.isub 21 bDch_d21 ?_
    refine Road.nameI ?_
    intro z_2 hz_2
    obtain rfl : z_2 = (Nat.toInt32 (L - 1 - k)) := by rw [hz_2]; exact Road.sub32n (by omega)
    refine Road.istore 22 #[.val (.int x), .val (.int (Nat.toInt32 k)), .val (.int (Nat.toInt32 L)), .val (.long v), .second, .val (.int (Nat.toInt32 (L - 1 - k))), .unset] bDch_d22 rfl ?_
    refine Road.bipush 24 (10 : Int32) bDch_d24 rfl ?_
    refine Road.newarray 26 .long 10 10 bDch_d26 rfl (hw _ (List.mem_of_getElem? (i := 215) rfl)) (by decide) (by decide) (by decide) (ce' := 1) (sl' := 10) rfl rfl (by decide) (by decide) ?_
    intro t h_3 σ_4 g_5 K_6 lt_7 m_8 s_9 At
    refine Road.dup 28 bDch_d28 ?_
    refine Road.iconst 29 (0 : Int32) bDch_d29 rfl ?_
    refine Road.lconst 30 (1 : Int64) bDch_d30 rfl ?_
    refine Road.lastore 31 0 bDch_d31 At (by decide) (by simp) s_9 ?_
    intro h_10 K_11 A_12
    replace At := A_12
    refine Road.dup 32 bDch_d32 ?_
    refine Road.iconst 33 (1 : Int32) bDch_d33 rfl ?_
    refine Road.ldc2J 34 bDch_d34 (hw _ (List.mem_of_getElem? (i := 177) rfl)) ?_
    refine Road.lastore 37 1 bDch_d37 At (by decide) (by simp) s_9 ?_
    intro h_13 K_14 A_15
    replace At := A_15
    refine Road.dup 38 bDch_d38 ?_
    refine Road.iconst 39 (2 : Int32) bDch_d39 rfl ?_
    refine Road.ldc2J 40 bDch_d40 (hw _ (List.mem_of_getElem? (i := 178) rfl)) ?_
    refine Road.lastore 43 2 bDch_d43 At (by decide) (by simp) s_9 ?_
    intro h_16 K_17 A_18
    replace At := A_18
    refine Road.dup 44 bDch_d44 ?_
    refine Road.iconst 45 (3 : Int32) bDch_d45 rfl ?_
    refine Road.ldc2J 46 bDch_d46 (hw _ (List.mem_of_getElem? (i := 179) rfl)) ?_
    refine Road.lastore 49 3 bDch_d49 At (by decide) (by simp) s_9 ?_
    intro h_19 K_20 A_21
    replace At := A_21
    refine Road.dup 50 bDch_d50 ?_
    refine Road.iconst 51 (4 : Int32) bDch_d51 rfl ?_
    refine Road.ldc2J 52 bDch_d52 (hw _ (List.mem_of_getElem? (i := 180) rfl)) ?_
    refine Road.lastore 55 4 bDch_d55 At (by decide) (by simp) s_9 ?_
    intro h_22 K_23 A_24
    replace At := A_24
    refine Road.dup 56 bDch_d56 ?_
    refine Road.iconst 57 (5 : Int32) bDch_d57 rfl ?_
    refine Road.ldc2J 58 bDch_d58 (hw _ (List.mem_of_getElem? (i := 181) rfl)) ?_
    refine Road.lastore 61 5 bDch_d61 At (by decide) (by simp) s_9 ?_
    intro h_25 K_26 A_27
    replace At := A_27
    refine Road.dup 62 bDch_d62 ?_
    refine Road.bipush 63 (6 : Int32) bDch_d63 rfl ?_
    refine Road.ldc2J 65 bDch_d65 (hw _ (List.mem_of_getElem? (i := 182) rfl)) ?_
    refine Road.lastore 68 6 bDch_d68 At (by decide) (by simp) s_9 ?_
    intro h_28 K_29 A_30
    replace At := A_30
    refine Road.dup 69 bDch_d69 ?_
    refine Road.bipush 70 (7 : Int32) bDch_d70 rfl ?_
    refine Road.ldc2J 72 bDch_d72 (hw _ (List.mem_of_getElem? (i := 183) rfl)) ?_
    refine Road.lastore 75 7 bDch_d75 At (by decide) (by simp) s_9 ?_
    intro h_31 K_32 A_33
    replace At := A_33
    refine Road.dup 76 bDch_d76 ?_
    refine Road.bipush 77 (8 : Int32) bDch_d77 rfl ?_
    refine Road.ldc2J 79 bDch_d79 (hw _ (List.mem_of_getElem? (i := 184) rfl)) ?_
    refine Road.lastore 82 8 bDch_d82 At (by decide) (by simp) s_9 ?_
    intro h_34 K_35 A_36
    replace At := A_36
    refine Road.dup 83 bDch_d83 ?_
    refine Road.bipush 84 (9 : Int32) bDch_d84 rfl ?_
    refine Road.ldc2J 86 bDch_d86 (hw _ (List.mem_of_getElem? (i := 185) rfl)) ?_
    refine Road.lastore 89 9 bDch_d89 At (by decide) (by simp) s_9 ?_
    intro h_37 K_38 A_39
    replace At := A_39
    replace At : Road.Ary Z h_37 t .long Road.PWL := At
    refine Road.astore 90 #[.val (.int x), .val (.int (Nat.toInt32 k)), .val (.int (Nat.toInt32 L)), .val (.long v), .second, .val (.int (Nat.toInt32 (L - 1 - k))), .val (.ref t)] bDch_d90 rfl ?_
    refine Road.bipush 92 (48 : Int32) bDch_d92 rfl ?_
    refine Road.lloadN 94 bDch_d94 rfl ?_
    refine Road.aload 95 bDch_d95 rfl ?_
    refine Road.iload 97 bDch_d97 rfl ?_
    refine Road.laload 99 (L - 1 - k) bDch_d99 At (Road.n32 (by omega)) (Road.pw_at he) ?_
    refine Road.ldiv 100 bDch_d100 (Road.pw_ne he) ?_
    refine Road.ldc2J 101 bDch_d101 (hw _ (List.mem_of_getElem? (i := 177) rfl)) ?_
    refine Road.lrem 104 bDch_d104 (by decide) ?_
    refine Road.l2i 105 bDch_d105 ?_
    refine Road.nameI ?_
    intro z_40 hz_40
    obtain rfl : z_40 = (Nat.toInt32 (m / 10 ^ (L - 1 - k) % 10)) := by rw [hz_40]; exact Road.l2i_nat (by omega) (Road.lrem_nat (Nat.le_trans (Nat.div_le_self _ _) hmx) (Road.ldiv_nat hmx (Nat.pow_pos (by omega)) hv (Road.pw_int he)))
    refine Road.iadd 106 bDch_d106 ?_
    refine Road.i2c 107 bDch_d107 ?_
    exact Road.iret 108 (Road.dc (m / 10 ^ (L - 1 - k) % 10)) bDch_d108 (t := .char) rfl (by simp) (Road.digit_char (Nat.mod_lt _ (by omega))) (by decide) (by decide) (fun σ' m => ⟨by rw [hr], ((((((((((K_6.trans K_11 (by intro z hz; cases List.mem_singleton.mp hz; exact Or.inr (Nat.le_of_eq g_5.symm))).trans K_14 (by intro z hz; cases List.mem_singleton.mp hz; exact Or.inr (Nat.le_of_eq g_5.symm))).trans K_17 (by intro z hz; cases List.mem_singleton.mp hz; exact Or.inr (Nat.le_of_eq g_5.symm))).trans K_20 (by intro z hz; cases List.mem_singleton.mp hz; exact Or.inr (Nat.le_of_eq g_5.symm))).trans K_23 (by intro z hz; cases List.mem_singleton.mp hz; exact Or.inr (Nat.le_of_eq g_5.symm))).trans K_26 (by intro z hz; cases List.mem_singleton.mp hz; exact Or.inr (Nat.le_of_eq g_5.symm))).trans K_29 (by intro z hz; cases List.mem_singleton.mp hz; exact Or.inr (Nat.le_of_eq g_5.symm))).trans K_32 (by intro z hz; cases List.mem_singleton.mp hz; exact Or.inr (Nat.le_of_eq g_5.symm))).trans K_35 (by intro z hz; cases List.mem_singleton.mp hz; exact Or.inr (Nat.le_of_eq g_5.symm))).trans K_38 (by intro z hz; cases List.mem_singleton.mp hz; exact Or.inr (Nat.le_of_eq g_5.symm)))⟩)
  refine Road.iloadN 0 bDch_d0 rfl ?_
  refine Road.i2l 1 bDch_d1 ?_
  refine Road.lstoreN 2 #[.val (.int x), .val (.int (Nat.toInt32 k)), .val (.int (Nat.toInt32 L)), .val (.long (Int32.toInt64 x)), .second, .unset, .unset] bDch_d2 rfl ?_
  refine Road.iloadN 3 bDch_d3 rfl ?_
  refine Road.if_ge 4 17 bDch_d4 rfl (fun hc4 => ?_) (fun hc4 => ?_)
  · skip
    rw [Road.lt0] at hc4
    have hdx : Road.dec x = Road.decN m := by unfold Road.dec; rw [if_neg hc4, ← hm]
    exact tail _ (by rw [Road.i2l_int]; omega) (by rw [hL, hdx]; omega) (by simp only [hdx]; rw [Road.decN_get, ← hdx, hL])
  · skip
    rw [Road.lt0] at hc4
    have hdx : Road.dec x = 45 :: Road.decN m := by unfold Road.dec; rw [if_pos hc4, ← hm]
    have hLm : L = (Road.decN m).length + 1 := by rw [hL, hdx]; rfl
    refine Road.iloadN 7 bDch_d7 rfl ?_
    refine Road.if_ne 8 14 bDch_d8 rfl (fun hc8 => ?_) (fun hc8 => ?_)
    · skip
      have hk0 : ¬ k = 0 := fun q => hc8 (by rw [q]; rfl)
      refine Road.lloadN 14 bDch_d14 rfl ?_
      refine Road.lneg 15 bDch_d15 ?_
      refine Road.lstoreN 16 #[.val (.int x), .val (.int (Nat.toInt32 k)), .val (.int (Nat.toInt32 L)), .val (.long (-(Int32.toInt64 x))), .second, .unset, .unset] bDch_d16 rfl ?_
      obtain ⟨k', rfl⟩ : ∃ k', k = k' + 1 := ⟨k - 1, by omega⟩
      exact tail _ (Road.lneg_nat hmx (by rw [Road.i2l_int]; omega)) (by omega) (by simp only [hdx, List.getElem_cons_succ]; rw [Road.decN_get, show L - 1 - (k' + 1) = (Road.decN m).length - 1 - k' from by omega])
    · skip
      have hk0 : k = 0 := (Road.eq32 (j := 0) (by omega) (by omega)).mp hc8
      subst hk0
      refine Road.bipush 11 (45 : Int32) bDch_d11 rfl ?_
      exact Road.iret 13 45 bDch_d13 (t := .char) rfl (by simp) rfl (by decide) (by decide) (fun σ' m => ⟨by simp only [hdx, List.getElem_cons_zero], Keep.refl _ _⟩)
def bDok : Road.Bdy := (⟨"com/example/gridtally/gridtally/engine/OriginToStringPinLaw", "digitOk", "(Ljava/lang/String;IIII)Z"⟩, method_4_code, 5, (some .boolean), { frames := 4, cells := 1, slots := 10, locals := 53 })
theorem bDok_d0 : decode bDok.bs 0 = .ok (.iload 4, 2) := by decide +kernel
theorem bDok_d2 : decode bDok.bs 2 = .ok (.iload_n 3, 1) := by decide +kernel
theorem bDok_d3 : decode bDok.bs 3 = .ok (.if_icmp .lt 5, 3) := by decide +kernel
theorem bDok_d6 : decode bDok.bs 6 = .ok (.iconst 1, 1) := by decide +kernel
theorem bDok_d7 : decode bDok.bs 7 = .ok (.ireturn, 1) := by decide +kernel
theorem bDok_d8 : decode bDok.bs 8 = .ok (.aload_n 0, 1) := by decide +kernel
theorem bDok_d9 : decode bDok.bs 9 = .ok (.iload_n 1, 1) := by decide +kernel
theorem bDok_d10 : decode bDok.bs 10 = .ok (.iconst 1, 1) := by decide +kernel
theorem bDok_d11 : decode bDok.bs 11 = .ok (.iadd, 1) := by decide +kernel
theorem bDok_d12 : decode bDok.bs 12 = .ok (.iload 4, 2) := by decide +kernel
theorem bDok_d14 : decode bDok.bs 14 = .ok (.iadd, 1) := by decide +kernel
theorem bDok_d15 : decode bDok.bs 15 = .ok (.invokevirtual 25, 3) := by decide +kernel
theorem bDok_d18 : decode bDok.bs 18 = .ok (.iload_n 2, 1) := by decide +kernel
theorem bDok_d19 : decode bDok.bs 19 = .ok (.iload 4, 2) := by decide +kernel
theorem bDok_d21 : decode bDok.bs 21 = .ok (.iload_n 3, 1) := by decide +kernel
theorem bDok_d22 : decode bDok.bs 22 = .ok (.invokestatic 31, 3) := by decide +kernel
theorem bDok_d25 : decode bDok.bs 25 = .ok (.if_icmp .ne 7, 3) := by decide +kernel
theorem bDok_d28 : decode bDok.bs 28 = .ok (.iconst 1, 1) := by decide +kernel
theorem bDok_d29 : decode bDok.bs 29 = .ok (.goto 4, 3) := by decide +kernel
theorem bDok_d32 : decode bDok.bs 32 = .ok (.iconst 0, 1) := by decide +kernel
theorem bDok_d33 : decode bDok.bs 33 = .ok (.ireturn, 1) := by decide +kernel
theorem bDok_pd : parseMethodDescriptor "(Ljava/lang/String;IIII)Z" = some ⟨[(.object "java/lang/String"), .int, .int, .int, .int], (some .boolean)⟩ := by decide +kernel
theorem bDok_pn : plainFor bDok.y = true := plainFor_of_name (show plainName "com/example/gridtally/gridtally/engine/OriginToStringPinLaw" = true from by first | (simp [plainName, overriddenIn]; done) | decide +kernel)
theorem cDok (l : Launch) (Z : State) (a0 : Array Value) (hw : ∀ d ∈ tables_1, d.before a0 Z = true) (n0 : Nat) (hEW : EW Z a0 consts_1) (s sd : Addr) (pre : List Int32) (n : Nat) (x : Int32) (k : Nat) (h0 : Heap) (σ : Addr → Prop) (T : Road.Str Z h0 s sd (pre ++ Road.dec x)) (hn : pre.length = n + 1) (hnn : n < 100) (hk : k < 100) (cp : Int32) (Hc : Sta Z Z.heap Road.SN "COMPACT_STRINGS" "Z" (.int cp)) (hcp : ¬ cp = 0) (fm : Value) (hfm : fm.isRef = true) (Hf : Sta Z Z.heap "jdk/internal/util/Preconditions" "SIOOBE_FORMATTER" "Ljava/util/function/BiFunction;" fm) :
    Road.Con l Z consts_1 n0 false bDok [] σ #[(.ref s), (.int (Nat.toInt32 n)), (.int x), (.int (Nat.toInt32 (Road.dec x).length)), (.int (Nat.toInt32 k))] h0 (fun v h2 _ => v = some (.int 1) ∧ Keep h0 h2 []) := by
  refine Road.Con.of bDok_pn hEW #[.val (.ref s), .val (.int (Nat.toInt32 n)), .val (.int x), .val (.int (Nat.toInt32 (Road.dec x).length)), .val (.int (Nat.toInt32 k))] (fun m => Road.ent (Road.laid1 rfl (Road.laid1 rfl (Road.laid1 rfl (Road.laid1 rfl (Road.laid1 rfl Road.laid0))))) (k := 0) rfl rfl) ?_
  intro D hD
  have hdl := Road.dec_le x
  refine Road.iload 0 bDok_d0 rfl ?_
  refine Road.iloadN 2 bDok_d2 rfl ?_
  refine Road.icmp_lt 3 8 bDok_d3 rfl (fun hc3 => ?_) (fun hc3 => ?_)
  · skip
    rw [Road.lt32 (by omega) (by omega)] at hc3
    refine Road.aloadN 8 bDok_d8 rfl ?_
    refine Road.iloadN 9 bDok_d9 rfl ?_
    refine Road.iconst 10 (1 : Int32) bDok_d10 rfl ?_
    refine Road.iadd 11 bDok_d11 ?_
    refine Road.nameI ?_
    intro z_1 hz_1
    obtain rfl : z_1 = (Nat.toInt32 (n + 1)) := by rw [hz_1]; exact Road.succ32 _
    refine Road.iload 12 bDok_d12 rfl ?_
    refine Road.iadd 14 bDok_d14 ?_
    refine Road.nameI ?_
    intro z_2 hz_2
    obtain rfl : z_2 = (Nat.toInt32 (n + 1 + k)) := by rw [hz_2]; exact Road.add32n _ _
    have hi : n + 1 + k < (pre ++ Road.dec x).length := by rw [List.length_append]; omega
    refine Road.callV (B' := bChA) (a := s) 15 (argsL := [(.int (Nat.toInt32 (n + 1 + k)))]) (rest := []) "java/lang/String" 0 bDok_d15 (hw _ (List.mem_of_getElem? (i := 187) rfl)) (hw _ (List.mem_of_getElem? (i := 188) rfl)) (fun vm hz => Road.notFace_sib (args := #[]) (mv (s := D.s.setVm vm) hz (hw _ (List.mem_of_getElem? (i := 74) rfl))) rfl) (hw _ (List.mem_of_getElem? (i := 190) rfl)) (hw _ (List.mem_of_getElem? (i := 189) rfl)) (hw _ (List.mem_of_getElem? (i := 3) rfl)) (hw _ (List.mem_of_getElem? (i := 191) rfl)) (by decide) T.1 (cChA l Z a0 hw n0 hEW s sd _ (Nat.toInt32 (n + 1 + k)) (n + 1 + k) h0 σ T (Road.n32 (by omega)) hi cp Hc hcp fm hfm Hf) (lenOf bChA_pd rfl) rfl rfl rfl (by decide) (by decide) (ce' := 0) (sl' := 0) rfl rfl (by decide) (by decide) ?_
    rintro _ h_3 σ_4 m_5 ⟨rfl, rfl⟩
    refine Road.Go.weaken (σ' := σ) m_5 (Nat.le_refl _) (Nat.le_refl _) ?_
    refine Road.nameI ?_
    intro z_7 hz_7
    obtain rfl : z_7 = ((Road.dec x)[k]'hc3) := by rw [hz_7]; rw [List.getElem_append_right (by omega)]; congr 1; omega
    refine Road.iloadN 18 bDok_d18 rfl ?_
    refine Road.iload 19 bDok_d19 rfl ?_
    refine Road.iloadN 21 bDok_d21 rfl ?_
    refine Road.callS (B' := bDch) 22 (argsL := [(.int x), (.int (Nat.toInt32 k)), (.int (Nat.toInt32 (Road.dec x).length))]) (rest := [(.int ((Road.dec x)[k]'hc3))]) 1 bDok_d22 (hw _ (List.mem_of_getElem? (i := 212) rfl)) (hw _ (List.mem_of_getElem? (i := 213) rfl)) (hw _ (List.mem_of_getElem? (i := 175) rfl)) (hw _ (List.mem_of_getElem? (i := 214) rfl)) (by decide) (cDch l Z a0 hw n0 hEW x k h0 σ hc3) (lenOf bDch_pd rfl) rfl rfl rfl (by decide) (by decide) (ce' := 1) (sl' := 10) rfl rfl (by decide) (by decide) ?_
    rintro _ h_8 σ_9 m_10 ⟨rfl, K_11⟩
    refine Road.icmp_ne 25 32 bDok_d25 rfl (fun q => absurd q (by simp)) (fun hc25 => ?_)
    refine Road.iconst 28 (1 : Int32) bDok_d28 rfl ?_
    refine Road.goto 29 33 bDok_d29 rfl ?_
    exact Road.iret 33 1 bDok_d33 (t := .boolean) rfl (by simp) rfl (by decide) (by decide) (fun σ' m => ⟨rfl, K_11⟩)
  · skip
    refine Road.iconst 6 (1 : Int32) bDok_d6 rfl ?_
    exact Road.iret 7 1 bDok_d7 (t := .boolean) rfl (by simp) rfl (by decide) (by decide) (fun σ' m => ⟨rfl, Keep.refl _ _⟩)
def b0 : Road.Bdy := (x, code, maxLocals, ret, room_1)
theorem b0_d0 : decode b0.bs 0 = .ok (.iload_n 0, 1) := at_0
theorem b0_d1 : decode b0.bs 1 = .ok (.bipush 24, 2) := at_1
theorem b0_d3 : decode b0.bs 3 = .ok (.iushr, 1) := at_3
theorem b0_d4 : decode b0.bs 4 = .ok (.iconst 3, 1) := at_4
theorem b0_d5 : decode b0.bs 5 = .ok (.iand, 1) := at_5
theorem b0_d6 : decode b0.bs 6 = .ok (.istore_n 2, 1) := at_6
theorem b0_d7 : decode b0.bs 7 = .ok (.iload_n 0, 1) := at_7
theorem b0_d8 : decode b0.bs 8 = .ok (.sipush 255, 3) := at_8
theorem b0_d11 : decode b0.bs 11 = .ok (.iand, 1) := at_11
theorem b0_d12 : decode b0.bs 12 = .ok (.i2c, 1) := at_12
theorem b0_d13 : decode b0.bs 13 = .ok (.istore_n 3, 1) := at_13
theorem b0_d14 : decode b0.bs 14 = .ok (.iload_n 0, 1) := at_14
theorem b0_d15 : decode b0.bs 15 = .ok (.bipush 8, 2) := at_15
theorem b0_d17 : decode b0.bs 17 = .ok (.iushr, 1) := at_17
theorem b0_d18 : decode b0.bs 18 = .ok (.sipush 255, 3) := at_18
theorem b0_d21 : decode b0.bs 21 = .ok (.iand, 1) := at_21
theorem b0_d22 : decode b0.bs 22 = .ok (.i2c, 1) := at_22
theorem b0_d23 : decode b0.bs 23 = .ok (.istore 4, 2) := at_23
theorem b0_d25 : decode b0.bs 25 = .ok (.iload_n 0, 1) := at_25
theorem b0_d26 : decode b0.bs 26 = .ok (.bipush 16, 2) := at_26
theorem b0_d28 : decode b0.bs 28 = .ok (.iushr, 1) := at_28
theorem b0_d29 : decode b0.bs 29 = .ok (.sipush 255, 3) := at_29
theorem b0_d32 : decode b0.bs 32 = .ok (.iand, 1) := at_32
theorem b0_d33 : decode b0.bs 33 = .ok (.i2c, 1) := at_33
theorem b0_d34 : decode b0.bs 34 = .ok (.istore 5, 2) := at_34
theorem b0_d36 : decode b0.bs 36 = .ok (.iload_n 2, 1) := at_36
theorem b0_d37 : decode b0.bs 37 = .ok (.newarray .char, 2) := at_37
theorem b0_d39 : decode b0.bs 39 = .ok (.astore 6, 2) := at_39
theorem b0_d41 : decode b0.bs 41 = .ok (.iload_n 2, 1) := at_41
theorem b0_d42 : decode b0.bs 42 = .ok (.ifCond .le 8, 3) := at_42
theorem b0_d45 : decode b0.bs 45 = .ok (.aload 6, 2) := at_45
theorem b0_d47 : decode b0.bs 47 = .ok (.iconst 0, 1) := at_47
theorem b0_d48 : decode b0.bs 48 = .ok (.iload_n 3, 1) := at_48
theorem b0_d49 : decode b0.bs 49 = .ok (.castore, 1) := at_49
theorem b0_d50 : decode b0.bs 50 = .ok (.iload_n 2, 1) := at_50
theorem b0_d51 : decode b0.bs 51 = .ok (.iconst 1, 1) := at_51
theorem b0_d52 : decode b0.bs 52 = .ok (.if_icmp .le 9, 3) := at_52
theorem b0_d55 : decode b0.bs 55 = .ok (.aload 6, 2) := at_55
theorem b0_d57 : decode b0.bs 57 = .ok (.iconst 1, 1) := at_57
theorem b0_d58 : decode b0.bs 58 = .ok (.iload 4, 2) := at_58
theorem b0_d60 : decode b0.bs 60 = .ok (.castore, 1) := at_60
theorem b0_d61 : decode b0.bs 61 = .ok (.iload_n 2, 1) := at_61
theorem b0_d62 : decode b0.bs 62 = .ok (.iconst 2, 1) := at_62
theorem b0_d63 : decode b0.bs 63 = .ok (.if_icmp .le 9, 3) := at_63
theorem b0_d66 : decode b0.bs 66 = .ok (.aload 6, 2) := at_66
theorem b0_d68 : decode b0.bs 68 = .ok (.iconst 2, 1) := at_68
theorem b0_d69 : decode b0.bs 69 = .ok (.iload 5, 2) := at_69
theorem b0_d71 : decode b0.bs 71 = .ok (.castore, 1) := at_71
theorem b0_d72 : decode b0.bs 72 = .ok (.new 26, 3) := at_72
theorem b0_d75 : decode b0.bs 75 = .ok (.dup, 1) := at_75
theorem b0_d76 : decode b0.bs 76 = .ok (.aload 6, 2) := at_76
theorem b0_d78 : decode b0.bs 78 = .ok (.invokespecial 37, 3) := at_78
theorem b0_d81 : decode b0.bs 81 = .ok (.astore 7, 2) := at_81
theorem b0_d83 : decode b0.bs 83 = .ok (.new 40, 3) := at_83
theorem b0_d86 : decode b0.bs 86 = .ok (.dup, 1) := at_86
theorem b0_d87 : decode b0.bs 87 = .ok (.aload 7, 2) := at_87
theorem b0_d89 : decode b0.bs 89 = .ok (.iload_n 1, 1) := at_89
theorem b0_d90 : decode b0.bs 90 = .ok (.invokespecial 42, 3) := at_90
theorem b0_d93 : decode b0.bs 93 = .ok (.astore 8, 2) := at_93
theorem b0_d95 : decode b0.bs 95 = .ok (.aload 8, 2) := at_95
theorem b0_d97 : decode b0.bs 97 = .ok (.invokevirtual 45, 3) := at_97
theorem b0_d100 : decode b0.bs 100 = .ok (.astore 9, 2) := at_100
theorem b0_d102 : decode b0.bs 102 = .ok (.iload_n 1, 1) := at_102
theorem b0_d103 : decode b0.bs 103 = .ok (.invokestatic 49, 3) := at_103
theorem b0_d106 : decode b0.bs 106 = .ok (.istore 10, 2) := at_106
theorem b0_d108 : decode b0.bs 108 = .ok (.aload 9, 2) := at_108
theorem b0_d110 : decode b0.bs 110 = .ok (.invokevirtual 53, 3) := at_110
theorem b0_d113 : decode b0.bs 113 = .ok (.iload_n 2, 1) := at_113
theorem b0_d114 : decode b0.bs 114 = .ok (.iconst 1, 1) := at_114
theorem b0_d115 : decode b0.bs 115 = .ok (.iadd, 1) := at_115
theorem b0_d116 : decode b0.bs 116 = .ok (.iload 10, 2) := at_116
theorem b0_d118 : decode b0.bs 118 = .ok (.iadd, 1) := at_118
theorem b0_d119 : decode b0.bs 119 = .ok (.if_icmp .eq 5, 3) := at_119
theorem b0_d122 : decode b0.bs 122 = .ok (.iconst 0, 1) := at_122
theorem b0_d123 : decode b0.bs 123 = .ok (.ireturn, 1) := at_123
theorem b0_d124 : decode b0.bs 124 = .ok (.iload_n 2, 1) := at_124
theorem b0_d125 : decode b0.bs 125 = .ok (.ifCond .le 15, 3) := at_125
theorem b0_d128 : decode b0.bs 128 = .ok (.aload 9, 2) := at_128
theorem b0_d130 : decode b0.bs 130 = .ok (.iconst 0, 1) := at_130
theorem b0_d131 : decode b0.bs 131 = .ok (.invokevirtual 25, 3) := at_131
theorem b0_d134 : decode b0.bs 134 = .ok (.iload_n 3, 1) := at_134
theorem b0_d135 : decode b0.bs 135 = .ok (.if_icmp .eq 5, 3) := at_135
theorem b0_d138 : decode b0.bs 138 = .ok (.iconst 0, 1) := at_138
theorem b0_d139 : decode b0.bs 139 = .ok (.ireturn, 1) := at_139
theorem b0_d140 : decode b0.bs 140 = .ok (.iload_n 2, 1) := at_140
theorem b0_d141 : decode b0.bs 141 = .ok (.iconst 1, 1) := at_141
theorem b0_d142 : decode b0.bs 142 = .ok (.if_icmp .le 16, 3) := at_142
theorem b0_d145 : decode b0.bs 145 = .ok (.aload 9, 2) := at_145
theorem b0_d147 : decode b0.bs 147 = .ok (.iconst 1, 1) := at_147
theorem b0_d148 : decode b0.bs 148 = .ok (.invokevirtual 25, 3) := at_148
theorem b0_d151 : decode b0.bs 151 = .ok (.iload 4, 2) := at_151
theorem b0_d153 : decode b0.bs 153 = .ok (.if_icmp .eq 5, 3) := at_153
theorem b0_d156 : decode b0.bs 156 = .ok (.iconst 0, 1) := at_156
theorem b0_d157 : decode b0.bs 157 = .ok (.ireturn, 1) := at_157
theorem b0_d158 : decode b0.bs 158 = .ok (.iload_n 2, 1) := at_158
theorem b0_d159 : decode b0.bs 159 = .ok (.iconst 2, 1) := at_159
theorem b0_d160 : decode b0.bs 160 = .ok (.if_icmp .le 16, 3) := at_160
theorem b0_d163 : decode b0.bs 163 = .ok (.aload 9, 2) := at_163
theorem b0_d165 : decode b0.bs 165 = .ok (.iconst 2, 1) := at_165
theorem b0_d166 : decode b0.bs 166 = .ok (.invokevirtual 25, 3) := at_166
theorem b0_d169 : decode b0.bs 169 = .ok (.iload 5, 2) := at_169
theorem b0_d171 : decode b0.bs 171 = .ok (.if_icmp .eq 5, 3) := at_171
theorem b0_d174 : decode b0.bs 174 = .ok (.iconst 0, 1) := at_174
theorem b0_d175 : decode b0.bs 175 = .ok (.ireturn, 1) := at_175
theorem b0_d176 : decode b0.bs 176 = .ok (.aload 9, 2) := at_176
theorem b0_d178 : decode b0.bs 178 = .ok (.iload_n 2, 1) := at_178
theorem b0_d179 : decode b0.bs 179 = .ok (.invokevirtual 25, 3) := at_179
theorem b0_d182 : decode b0.bs 182 = .ok (.bipush 58, 2) := at_182
theorem b0_d184 : decode b0.bs 184 = .ok (.if_icmp .eq 5, 3) := at_184
theorem b0_d187 : decode b0.bs 187 = .ok (.iconst 0, 1) := at_187
theorem b0_d188 : decode b0.bs 188 = .ok (.ireturn, 1) := at_188
theorem b0_d189 : decode b0.bs 189 = .ok (.aload 9, 2) := at_189
theorem b0_d191 : decode b0.bs 191 = .ok (.iload_n 2, 1) := at_191
theorem b0_d192 : decode b0.bs 192 = .ok (.iload_n 1, 1) := at_192
theorem b0_d193 : decode b0.bs 193 = .ok (.iload 10, 2) := at_193
theorem b0_d195 : decode b0.bs 195 = .ok (.iconst 0, 1) := at_195
theorem b0_d196 : decode b0.bs 196 = .ok (.invokestatic 57, 3) := at_196
theorem b0_d199 : decode b0.bs 199 = .ok (.ifCond .eq 142, 3) := at_199
theorem b0_d202 : decode b0.bs 202 = .ok (.aload 9, 2) := at_202
theorem b0_d204 : decode b0.bs 204 = .ok (.iload_n 2, 1) := at_204
theorem b0_d205 : decode b0.bs 205 = .ok (.iload_n 1, 1) := at_205
theorem b0_d206 : decode b0.bs 206 = .ok (.iload 10, 2) := at_206
theorem b0_d208 : decode b0.bs 208 = .ok (.iconst 1, 1) := at_208
theorem b0_d209 : decode b0.bs 209 = .ok (.invokestatic 57, 3) := at_209
theorem b0_d212 : decode b0.bs 212 = .ok (.ifCond .eq 129, 3) := at_212
theorem b0_d215 : decode b0.bs 215 = .ok (.aload 9, 2) := at_215
theorem b0_d217 : decode b0.bs 217 = .ok (.iload_n 2, 1) := at_217
theorem b0_d218 : decode b0.bs 218 = .ok (.iload_n 1, 1) := at_218
theorem b0_d219 : decode b0.bs 219 = .ok (.iload 10, 2) := at_219
theorem b0_d221 : decode b0.bs 221 = .ok (.iconst 2, 1) := at_221
theorem b0_d222 : decode b0.bs 222 = .ok (.invokestatic 57, 3) := at_222
theorem b0_d225 : decode b0.bs 225 = .ok (.ifCond .eq 116, 3) := at_225
theorem b0_d228 : decode b0.bs 228 = .ok (.aload 9, 2) := at_228
theorem b0_d230 : decode b0.bs 230 = .ok (.iload_n 2, 1) := at_230
theorem b0_d231 : decode b0.bs 231 = .ok (.iload_n 1, 1) := at_231
theorem b0_d232 : decode b0.bs 232 = .ok (.iload 10, 2) := at_232
theorem b0_d234 : decode b0.bs 234 = .ok (.iconst 3, 1) := at_234
theorem b0_d235 : decode b0.bs 235 = .ok (.invokestatic 57, 3) := at_235
theorem b0_d238 : decode b0.bs 238 = .ok (.ifCond .eq 103, 3) := at_238
theorem b0_d241 : decode b0.bs 241 = .ok (.aload 9, 2) := at_241
theorem b0_d243 : decode b0.bs 243 = .ok (.iload_n 2, 1) := at_243
theorem b0_d244 : decode b0.bs 244 = .ok (.iload_n 1, 1) := at_244
theorem b0_d245 : decode b0.bs 245 = .ok (.iload 10, 2) := at_245
theorem b0_d247 : decode b0.bs 247 = .ok (.iconst 4, 1) := at_247
theorem b0_d248 : decode b0.bs 248 = .ok (.invokestatic 57, 3) := at_248
theorem b0_d251 : decode b0.bs 251 = .ok (.ifCond .eq 90, 3) := at_251
theorem b0_d254 : decode b0.bs 254 = .ok (.aload 9, 2) := at_254
theorem b0_d256 : decode b0.bs 256 = .ok (.iload_n 2, 1) := at_256
theorem b0_d257 : decode b0.bs 257 = .ok (.iload_n 1, 1) := at_257
theorem b0_d258 : decode b0.bs 258 = .ok (.iload 10, 2) := at_258
theorem b0_d260 : decode b0.bs 260 = .ok (.iconst 5, 1) := at_260
theorem b0_d261 : decode b0.bs 261 = .ok (.invokestatic 57, 3) := at_261
theorem b0_d264 : decode b0.bs 264 = .ok (.ifCond .eq 77, 3) := at_264
theorem b0_d267 : decode b0.bs 267 = .ok (.aload 9, 2) := at_267
theorem b0_d269 : decode b0.bs 269 = .ok (.iload_n 2, 1) := at_269
theorem b0_d270 : decode b0.bs 270 = .ok (.iload_n 1, 1) := at_270
theorem b0_d271 : decode b0.bs 271 = .ok (.iload 10, 2) := at_271
theorem b0_d273 : decode b0.bs 273 = .ok (.bipush 6, 2) := at_273
theorem b0_d275 : decode b0.bs 275 = .ok (.invokestatic 57, 3) := at_275
theorem b0_d278 : decode b0.bs 278 = .ok (.ifCond .eq 63, 3) := at_278
theorem b0_d281 : decode b0.bs 281 = .ok (.aload 9, 2) := at_281
theorem b0_d283 : decode b0.bs 283 = .ok (.iload_n 2, 1) := at_283
theorem b0_d284 : decode b0.bs 284 = .ok (.iload_n 1, 1) := at_284
theorem b0_d285 : decode b0.bs 285 = .ok (.iload 10, 2) := at_285
theorem b0_d287 : decode b0.bs 287 = .ok (.bipush 7, 2) := at_287
theorem b0_d289 : decode b0.bs 289 = .ok (.invokestatic 57, 3) := at_289
theorem b0_d292 : decode b0.bs 292 = .ok (.ifCond .eq 49, 3) := at_292
theorem b0_d295 : decode b0.bs 295 = .ok (.aload 9, 2) := at_295
theorem b0_d297 : decode b0.bs 297 = .ok (.iload_n 2, 1) := at_297
theorem b0_d298 : decode b0.bs 298 = .ok (.iload_n 1, 1) := at_298
theorem b0_d299 : decode b0.bs 299 = .ok (.iload 10, 2) := at_299
theorem b0_d301 : decode b0.bs 301 = .ok (.bipush 8, 2) := at_301
theorem b0_d303 : decode b0.bs 303 = .ok (.invokestatic 57, 3) := at_303
theorem b0_d306 : decode b0.bs 306 = .ok (.ifCond .eq 35, 3) := at_306
theorem b0_d309 : decode b0.bs 309 = .ok (.aload 9, 2) := at_309
theorem b0_d311 : decode b0.bs 311 = .ok (.iload_n 2, 1) := at_311
theorem b0_d312 : decode b0.bs 312 = .ok (.iload_n 1, 1) := at_312
theorem b0_d313 : decode b0.bs 313 = .ok (.iload 10, 2) := at_313
theorem b0_d315 : decode b0.bs 315 = .ok (.bipush 9, 2) := at_315
theorem b0_d317 : decode b0.bs 317 = .ok (.invokestatic 57, 3) := at_317
theorem b0_d320 : decode b0.bs 320 = .ok (.ifCond .eq 21, 3) := at_320
theorem b0_d323 : decode b0.bs 323 = .ok (.aload 9, 2) := at_323
theorem b0_d325 : decode b0.bs 325 = .ok (.iload_n 2, 1) := at_325
theorem b0_d326 : decode b0.bs 326 = .ok (.iload_n 1, 1) := at_326
theorem b0_d327 : decode b0.bs 327 = .ok (.iload 10, 2) := at_327
theorem b0_d329 : decode b0.bs 329 = .ok (.bipush 10, 2) := at_329
theorem b0_d331 : decode b0.bs 331 = .ok (.invokestatic 57, 3) := at_331
theorem b0_d334 : decode b0.bs 334 = .ok (.ifCond .eq 7, 3) := at_334
theorem b0_d337 : decode b0.bs 337 = .ok (.iconst 1, 1) := at_337
theorem b0_d338 : decode b0.bs 338 = .ok (.goto 4, 3) := at_338
theorem b0_d341 : decode b0.bs 341 = .ok (.iconst 0, 1) := at_341
theorem b0_d342 : decode b0.bs 342 = .ok (.ireturn, 1) := at_342
theorem b0_pd : parseMethodDescriptor "(II)Z" = some ⟨[.int, .int], (some .boolean)⟩ := by decide +kernel
theorem b0_pn : plainFor b0.y = true := plainFor_of_name (show plainName "com/example/gridtally/gridtally/engine/OriginToStringPinLaw" = true from by first | (simp [plainName, overriddenIn]; done) | decide +kernel)
set_option maxHeartbeats 4000000 in
theorem law (l : Launch) (Z : State) (a0 : Array Value) (hw : ∀ d ∈ tables_1, d.before a0 Z = true) (n0 : Nat) (hEW : EW Z a0 consts_1) (p0 p1 : Int32) (h0 : Heap) (σ : Addr → Prop) (cp : Int32) (Hc : Sta Z Z.heap Road.SN "COMPACT_STRINGS" "Z" (.int cp)) (hcp : ¬ cp = 0) (fm : Value) (hfm : fm.isRef = true) (Hf : Sta Z Z.heap "jdk/internal/util/Preconditions" "SIOOBE_FORMATTER" "Ljava/util/function/BiFunction;" fm) (o1 o2 : Addr) (HO : Sta Z Z.heap "java/lang/Integer" "DigitOnes" "[B" (.ref o1)) (AO : Road.Ary Z Z.heap o1 .byte Road.OnesL) (HT : Sta Z Z.heap "java/lang/Integer" "DigitTens" "[B" (.ref o2)) (AT : Road.Ary Z Z.heap o2 .byte Road.TensL) (ws : List Jvm.Cond) :
    Road.Con l Z consts_1 n0 false b0 ws σ #[(.int p0), (.int p1)] h0 (fun v h2 _ => v = some (.int 1)) := by
  refine Road.Con.of b0_pn hEW #[.val (.int p0), .val (.int p1), .unset, .unset, .unset, .unset, .unset, .unset, .unset, .unset, .unset] (fun m => Road.ent (Road.laid1 rfl (Road.laid1 rfl Road.laid0)) (k := 9) rfl rfl) ?_
  intro D hD
  refine Road.iloadN 0 b0_d0 rfl ?_
  refine Road.bipush 1 (24 : Int32) b0_d1 rfl ?_
  refine Road.iushr 3 b0_d3 ?_
  refine Road.iconst 4 (3 : Int32) b0_d4 rfl ?_
  refine Road.iand 5 b0_d5 ?_
  refine Road.nameI ?_
  intro m hm
  have hm4 : m = 0 ∨ m = 1 ∨ m = 2 ∨ m = 3 := by rw [hm]; exact Road.and3 _
  clear hm
  refine Road.istoreN 6 #[.val (.int p0), .val (.int p1), .val (.int m), .unset, .unset, .unset, .unset, .unset, .unset, .unset, .unset] b0_d6 rfl ?_
  refine Road.iloadN 7 b0_d7 rfl ?_
  refine Road.sipush 8 (255 : Int32) b0_d8 rfl ?_
  refine Road.iand 11 b0_d11 ?_
  refine Road.i2c 12 b0_d12 ?_
  refine Road.nameI ?_
  intro c0 hc0
  have lat0 : 0 ≤ c0.toInt ∧ c0.toInt < 256 := by rw [hc0]; exact Road.and255 _
  clear hc0
  refine Road.istoreN 13 #[.val (.int p0), .val (.int p1), .val (.int m), .val (.int c0), .unset, .unset, .unset, .unset, .unset, .unset, .unset] b0_d13 rfl ?_
  refine Road.iloadN 14 b0_d14 rfl ?_
  refine Road.bipush 15 (8 : Int32) b0_d15 rfl ?_
  refine Road.iushr 17 b0_d17 ?_
  refine Road.sipush 18 (255 : Int32) b0_d18 rfl ?_
  refine Road.iand 21 b0_d21 ?_
  refine Road.i2c 22 b0_d22 ?_
  refine Road.nameI ?_
  intro c1 hc1
  have lat1 : 0 ≤ c1.toInt ∧ c1.toInt < 256 := by rw [hc1]; exact Road.and255 _
  clear hc1
  refine Road.istore 23 #[.val (.int p0), .val (.int p1), .val (.int m), .val (.int c0), .val (.int c1), .unset, .unset, .unset, .unset, .unset, .unset] b0_d23 rfl ?_
  refine Road.iloadN 25 b0_d25 rfl ?_
  refine Road.bipush 26 (16 : Int32) b0_d26 rfl ?_
  refine Road.iushr 28 b0_d28 ?_
  refine Road.sipush 29 (255 : Int32) b0_d29 rfl ?_
  refine Road.iand 32 b0_d32 ?_
  refine Road.i2c 33 b0_d33 ?_
  refine Road.nameI ?_
  intro c2 hc2
  have lat2 : 0 ≤ c2.toInt ∧ c2.toInt < 256 := by rw [hc2]; exact Road.and255 _
  clear hc2
  refine Road.istore 34 #[.val (.int p0), .val (.int p1), .val (.int m), .val (.int c0), .val (.int c1), .val (.int c2), .unset, .unset, .unset, .unset, .unset] b0_d34 rfl ?_
  rcases hm4 with rfl | rfl | rfl | rfl
  · skip
    refine Road.iloadN 36 b0_d36 rfl ?_
    refine Road.newarray 37 .char 0 0 b0_d37 rfl (hw _ (List.mem_of_getElem? (i := 0) rfl)) (by decide) (by decide) (by decide) (ce' := 1) (sl' := 0) rfl rfl (by decide) (by decide) ?_
    intro ar h_1 σ_2 g_3 K_4 lt_5 m_6 s_7 Ar
    refine Road.astore 39 #[.val (.int p0), .val (.int p1), .val (.int (0 : Int32)), .val (.int c0), .val (.int c1), .val (.int c2), .val (.ref ar), .unset, .unset, .unset, .unset] b0_d39 rfl ?_
    refine Road.iloadN 41 b0_d41 rfl ?_
    refine Road.if_le 42 50 b0_d42 rfl (fun hc42 => ?_) (fun q => absurd q (by decide))
    refine Road.iloadN 50 b0_d50 rfl ?_
    refine Road.iconst 51 (1 : Int32) b0_d51 rfl ?_
    refine Road.icmp_le 52 61 b0_d52 rfl (fun hc52 => ?_) (fun q => absurd q (by decide))
    refine Road.iloadN 61 b0_d61 rfl ?_
    refine Road.iconst 62 (2 : Int32) b0_d62 rfl ?_
    refine Road.icmp_le 63 72 b0_d63 rfl (fun hc63 => ?_) (fun q => absurd q (by decide))
    refine Road.new 72 "java/lang/String" b0_d72 (hw _ (List.mem_of_getElem? (i := 1) rfl)) (hw _ (List.mem_of_getElem? (i := 2) rfl)) (hw _ (List.mem_of_getElem? (i := 3) rfl)) (ce' := 2) (sl' := 4) rfl rfl (by decide) (by decide) ?_
    intro s h_8 σ_9 g_10 K_11 lt_12 m_13 s_14 Es D_15 M_16
    have ne_ar_s : ar ≠ s := Nat.ne_of_lt (Nat.lt_of_lt_of_le Ar.lt (Nat.le_of_eq g_10.symm))
    replace Ar := Ar.keep K_11 nin0
    replace s_7 := m_13 _ s_7
    have Cs := D_15 (Or.inr (hw _ (List.mem_of_getElem? (i := 17) rfl))) (ty := .byte) (by decide)
    have Vs := D_15 (Or.inr (hw _ (List.mem_of_getElem? (i := 16) rfl))) (ty := (.array .byte)) (by decide)
    refine Road.dup 75 b0_d75 ?_
    refine Road.aload 76 b0_d76 rfl ?_
    replace Ar : Road.Ary Z h_8 ar .char (([] : List Int32).map .int) := Ar
    refine Road.callI (B' := bStr1) (a := s) 78 (argsL := [(.ref ar)]) (rest := [(.ref s)]) 1 b0_d78 (hw _ (List.mem_of_getElem? (i := 4) rfl)) (hw _ (List.mem_of_getElem? (i := 5) rfl)) (hw _ (List.mem_of_getElem? (i := 3) rfl)) (hw _ (List.mem_of_getElem? (i := 6) rfl)) rfl rfl (by decide) (cStr1 l Z a0 hw n0 hEW s ar [] h_8 σ_9 Es Cs Vs Ar (by simp) (by simp) s_14 cp Hc hcp) (lenOf bStr1_pd rfl) rfl rfl rfl (by decide) (by decide) (ce' := 6) (sl' := 12) rfl rfl (by decide) (by decide) ?_
    rintro _ h_17 σ_18 m_19 ⟨rfl, K_20, ds, Ss, Ns⟩
    replace s_7 := m_19 _ s_7
    replace s_14 := m_19 _ s_14
    refine Road.astore 81 #[.val (.int p0), .val (.int p1), .val (.int (0 : Int32)), .val (.int c0), .val (.int c1), .val (.int c2), .val (.ref ar), .val (.ref s), .unset, .unset, .unset] b0_d81 rfl ?_
    refine Road.new 83 "com/example/gridtally/gridtally/engine/Origin" b0_d83 (hw _ (List.mem_of_getElem? (i := 22) rfl)) (hw _ (List.mem_of_getElem? (i := 23) rfl)) (hw _ (List.mem_of_getElem? (i := 24) rfl)) (ce' := 7) (sl' := 14) rfl rfl (by decide) (by decide) ?_
    intro o h_21 σ_22 g_23 K_24 lt_25 m_26 s_27 Eo D_28 M_29
    have ne_s_o : s ≠ o := Nat.ne_of_lt (Nat.lt_of_lt_of_le Ss.lt (Nat.le_of_eq g_23.symm))
    have ne_ds_o : ds ≠ o := Nat.ne_of_lt (Nat.lt_of_lt_of_le Ss.ltb (Nat.le_of_eq g_23.symm))
    replace Ss := Ss.keep K_24 nin0 nin0
    replace s_7 := m_26 _ s_7
    replace s_14 := m_26 _ s_14
    have F1 := D_28 (Or.inr (hw _ (List.mem_of_getElem? (i := 35) rfl))) (ty := (.object "java/lang/String")) (by decide)
    have F2 := D_28 (Or.inr (hw _ (List.mem_of_getElem? (i := 37) rfl))) (ty := .int) (by decide)
    refine Road.dup 86 b0_d86 ?_
    refine Road.aload 87 b0_d87 rfl ?_
    refine Road.iloadN 89 b0_d89 rfl ?_
    refine Road.callI (B' := bOri) (a := o) 90 (argsL := [(.ref s), (.int p1)]) (rest := [(.ref o)]) 1 b0_d90 (hw _ (List.mem_of_getElem? (i := 25) rfl)) (hw _ (List.mem_of_getElem? (i := 26) rfl)) (hw _ (List.mem_of_getElem? (i := 24) rfl)) (hw _ (List.mem_of_getElem? (i := 27) rfl)) rfl rfl (by decide) (cOri l Z a0 hw n0 hEW o (.ref s) rfl p1 h_21 σ_22 Eo F1 F2 s_27) (lenOf bOri_pd rfl) rfl rfl rfl (by decide) (by decide) (ce' := 7) (sl' := 14) rfl rfl (by decide) (by decide) ?_
    rintro _ h_30 σ_31 m_32 ⟨rfl, K_33, F1, F2⟩
    replace Ss := Ss.keep K_33 (ninS ne_s_o nin0) (ninS ne_ds_o nin0)
    replace s_7 := m_32 _ s_7
    replace s_14 := m_32 _ s_14
    replace s_27 := m_32 _ s_27
    replace Eo := Eo.keep K_33
    refine Road.astore 93 #[.val (.int p0), .val (.int p1), .val (.int (0 : Int32)), .val (.int c0), .val (.int c1), .val (.int c2), .val (.ref ar), .val (.ref s), .val (.ref o), .unset, .unset] b0_d93 rfl ?_
    refine Road.aload 95 b0_d95 rfl ?_
    refine Road.callV (B' := bOts) (a := o) 97 (argsL := []) (rest := []) "com/example/gridtally/gridtally/engine/Origin" 0 b0_d97 (hw _ (List.mem_of_getElem? (i := 38) rfl)) (hw _ (List.mem_of_getElem? (i := 39) rfl)) (fun vm hz => Road.notFace_sib (args := #[]) (mv (s := D.s.setVm vm) hz (hw _ (List.mem_of_getElem? (i := 41) rfl))) rfl) (hw _ (List.mem_of_getElem? (i := 41) rfl)) (hw _ (List.mem_of_getElem? (i := 40) rfl)) (hw _ (List.mem_of_getElem? (i := 24) rfl)) (hw _ (List.mem_of_getElem? (i := 42) rfl)) (by decide) Eo (cOts l Z a0 hw n0 hEW o s ds [] p1 h_30 σ_31 F1 F2 Ss (by simp) cp Hc hcp o1 o2 HO AO HT AT) (lenOf bOts_pd rfl) rfl rfl rfl (by decide) (by decide) (ce' := 13) (sl' := 61) rfl rfl (by decide) (by decide) ?_
    rintro _ h_34 σ_35 m_36 ⟨a, d, rfl, K_37, T⟩
    replace Ss := Ss.keep K_37 nin0 nin0
    replace s_7 := m_36 _ s_7
    replace s_14 := m_36 _ s_14
    replace s_27 := m_36 _ s_27
    replace T : Road.Str Z h_34 a d ([58] ++ Road.dec p1) := T
    refine Road.astore 100 #[.val (.int p0), .val (.int p1), .val (.int (0 : Int32)), .val (.int c0), .val (.int c1), .val (.int c2), .val (.ref ar), .val (.ref s), .val (.ref o), .val (.ref a), .unset] b0_d100 rfl ?_
    refine Road.iloadN 102 b0_d102 rfl ?_
    refine Road.callS (B' := bDcl) 103 (argsL := [(.int p1)]) (rest := []) 0 b0_d103 (hw _ (List.mem_of_getElem? (i := 173) rfl)) (hw _ (List.mem_of_getElem? (i := 174) rfl)) (hw _ (List.mem_of_getElem? (i := 175) rfl)) (hw _ (List.mem_of_getElem? (i := 176) rfl)) (by decide) (cDcl l Z a0 hw n0 hEW p1 h_34 σ_35) (lenOf bDcl_pd rfl) rfl rfl rfl (by decide) (by decide) (ce' := 13) (sl' := 61) rfl rfl (by decide) (by decide) ?_
    rintro _ h_38 σ_39 m_40 ⟨rfl, rfl⟩
    refine Road.Go.weaken (σ' := σ_35) m_40 (Nat.le_refl _) (Nat.le_refl _) ?_
    refine Road.istore 106 #[.val (.int p0), .val (.int p1), .val (.int (0 : Int32)), .val (.int c0), .val (.int c1), .val (.int c2), .val (.ref ar), .val (.ref s), .val (.ref o), .val (.ref a), .val (.int (Nat.toInt32 (Road.dec p1).length))] b0_d106 rfl ?_
    refine Road.aload 108 b0_d108 rfl ?_
    refine Road.callV (B' := bLen) (a := a) 110 (argsL := []) (rest := []) "java/lang/String" 0 b0_d110 (hw _ (List.mem_of_getElem? (i := 186) rfl)) (hw _ (List.mem_of_getElem? (i := 72) rfl)) (fun vm hz => Road.notFace_sib (args := #[]) (mv (s := D.s.setVm vm) hz (hw _ (List.mem_of_getElem? (i := 74) rfl))) rfl) (hw _ (List.mem_of_getElem? (i := 74) rfl)) (hw _ (List.mem_of_getElem? (i := 73) rfl)) (hw _ (List.mem_of_getElem? (i := 3) rfl)) (hw _ (List.mem_of_getElem? (i := 75) rfl)) (by decide) T.1 (cLen l Z a0 hw n0 hEW a d _ h_34 σ_35 T cp Hc hcp) (lenOf bLen_pd rfl) rfl rfl rfl (by decide) (by decide) (ce' := 13) (sl' := 61) rfl rfl (by decide) (by decide) ?_
    rintro _ h_42 σ_43 m_44 ⟨rfl, rfl⟩
    refine Road.Go.weaken (σ' := σ_35) m_44 (Nat.le_refl _) (Nat.le_refl _) ?_
    refine Road.iloadN 113 b0_d113 rfl ?_
    refine Road.iconst 114 (1 : Int32) b0_d114 rfl ?_
    refine Road.iadd 115 b0_d115 ?_
    refine Road.iload 116 b0_d116 rfl ?_
    refine Road.iadd 118 b0_d118 ?_
    refine Road.icmp_eq 119 124 b0_d119 rfl (fun hc119 => ?_) (fun q => absurd q (by rw [Decidable.not_not, List.length_append, ← Road.add32n]; rfl))
    refine Road.iloadN 124 b0_d124 rfl ?_
    refine Road.if_le 125 140 b0_d125 rfl (fun hc125 => ?_) (fun q => absurd q (by decide))
    refine Road.iloadN 140 b0_d140 rfl ?_
    refine Road.iconst 141 (1 : Int32) b0_d141 rfl ?_
    refine Road.icmp_le 142 158 b0_d142 rfl (fun hc142 => ?_) (fun q => absurd q (by decide))
    refine Road.iloadN 158 b0_d158 rfl ?_
    refine Road.iconst 159 (2 : Int32) b0_d159 rfl ?_
    refine Road.icmp_le 160 176 b0_d160 rfl (fun hc160 => ?_) (fun q => absurd q (by decide))
    refine Road.aload 176 b0_d176 rfl ?_
    refine Road.iloadN 178 b0_d178 rfl ?_
    refine Road.callV (B' := bChA) (a := a) 179 (argsL := [(.int (0 : Int32))]) (rest := []) "java/lang/String" 0 b0_d179 (hw _ (List.mem_of_getElem? (i := 187) rfl)) (hw _ (List.mem_of_getElem? (i := 188) rfl)) (fun vm hz => Road.notFace_sib (args := #[]) (mv (s := D.s.setVm vm) hz (hw _ (List.mem_of_getElem? (i := 74) rfl))) rfl) (hw _ (List.mem_of_getElem? (i := 190) rfl)) (hw _ (List.mem_of_getElem? (i := 189) rfl)) (hw _ (List.mem_of_getElem? (i := 3) rfl)) (hw _ (List.mem_of_getElem? (i := 191) rfl)) (by decide) T.1 (cChA l Z a0 hw n0 hEW a d _ (0 : Int32) 0 h_34 σ_35 T rfl (by simp) cp Hc hcp fm hfm Hf) (lenOf bChA_pd rfl) rfl rfl rfl (by decide) (by decide) (ce' := 13) (sl' := 61) rfl rfl (by decide) (by decide) ?_
    rintro _ h_46 σ_47 m_48 ⟨rfl, rfl⟩
    refine Road.Go.weaken (σ' := σ_35) m_48 (Nat.le_refl _) (Nat.le_refl _) ?_
    refine Road.nameI ?_
    intro z_50 hz_50
    rw [show z_50 = (58 : Int32) from by rw [hz_50]; rfl]
    refine Road.bipush 182 (58 : Int32) b0_d182 rfl ?_
    refine Road.icmp_eq 184 189 b0_d184 rfl (fun hc184 => ?_) (fun q => absurd q (by decide))
    refine Road.aload 189 b0_d189 rfl ?_
    refine Road.iloadN 191 b0_d191 rfl ?_
    refine Road.iloadN 192 b0_d192 rfl ?_
    refine Road.iload 193 b0_d193 rfl ?_
    refine Road.iconst 195 (0 : Int32) b0_d195 rfl ?_
    refine Road.callS (B' := bDok) 196 (argsL := [(.ref a), (.int (0 : Int32)), (.int p1), (.int (Nat.toInt32 (Road.dec p1).length)), (.int (0 : Int32))]) (rest := []) 0 b0_d196 (hw _ (List.mem_of_getElem? (i := 209) rfl)) (hw _ (List.mem_of_getElem? (i := 210) rfl)) (hw _ (List.mem_of_getElem? (i := 175) rfl)) (hw _ (List.mem_of_getElem? (i := 211) rfl)) (by decide) (cDok l Z a0 hw n0 hEW a d [58] 0 p1 0 h_34 σ_35 T rfl (by decide) (by decide) cp Hc hcp fm hfm Hf) (lenOf bDok_pd rfl) rfl rfl rfl (by decide) (by decide) (ce' := 14) (sl' := 71) rfl rfl (by decide) (by decide) ?_
    rintro _ h_51 σ_52 m_53 ⟨rfl, K_54⟩
    replace T := T.keep K_54 nin0 nin0
    replace s_7 := m_53 _ s_7
    replace s_14 := m_53 _ s_14
    replace s_27 := m_53 _ s_27
    refine Road.if_eq 199 341 b0_d199 rfl (fun q => absurd q (by decide)) (fun hc199 => ?_)
    refine Road.aload 202 b0_d202 rfl ?_
    refine Road.iloadN 204 b0_d204 rfl ?_
    refine Road.iloadN 205 b0_d205 rfl ?_
    refine Road.iload 206 b0_d206 rfl ?_
    refine Road.iconst 208 (1 : Int32) b0_d208 rfl ?_
    refine Road.callS (B' := bDok) 209 (argsL := [(.ref a), (.int (0 : Int32)), (.int p1), (.int (Nat.toInt32 (Road.dec p1).length)), (.int (1 : Int32))]) (rest := []) 0 b0_d209 (hw _ (List.mem_of_getElem? (i := 209) rfl)) (hw _ (List.mem_of_getElem? (i := 210) rfl)) (hw _ (List.mem_of_getElem? (i := 175) rfl)) (hw _ (List.mem_of_getElem? (i := 211) rfl)) (by decide) (cDok l Z a0 hw n0 hEW a d [58] 0 p1 1 h_51 σ_52 T rfl (by decide) (by decide) cp Hc hcp fm hfm Hf) (lenOf bDok_pd rfl) rfl rfl rfl (by decide) (by decide) (ce' := 15) (sl' := 81) rfl rfl (by decide) (by decide) ?_
    rintro _ h_55 σ_56 m_57 ⟨rfl, K_58⟩
    replace T := T.keep K_58 nin0 nin0
    replace s_7 := m_57 _ s_7
    replace s_14 := m_57 _ s_14
    replace s_27 := m_57 _ s_27
    refine Road.if_eq 212 341 b0_d212 rfl (fun q => absurd q (by decide)) (fun hc212 => ?_)
    refine Road.aload 215 b0_d215 rfl ?_
    refine Road.iloadN 217 b0_d217 rfl ?_
    refine Road.iloadN 218 b0_d218 rfl ?_
    refine Road.iload 219 b0_d219 rfl ?_
    refine Road.iconst 221 (2 : Int32) b0_d221 rfl ?_
    refine Road.callS (B' := bDok) 222 (argsL := [(.ref a), (.int (0 : Int32)), (.int p1), (.int (Nat.toInt32 (Road.dec p1).length)), (.int (2 : Int32))]) (rest := []) 0 b0_d222 (hw _ (List.mem_of_getElem? (i := 209) rfl)) (hw _ (List.mem_of_getElem? (i := 210) rfl)) (hw _ (List.mem_of_getElem? (i := 175) rfl)) (hw _ (List.mem_of_getElem? (i := 211) rfl)) (by decide) (cDok l Z a0 hw n0 hEW a d [58] 0 p1 2 h_55 σ_56 T rfl (by decide) (by decide) cp Hc hcp fm hfm Hf) (lenOf bDok_pd rfl) rfl rfl rfl (by decide) (by decide) (ce' := 16) (sl' := 91) rfl rfl (by decide) (by decide) ?_
    rintro _ h_59 σ_60 m_61 ⟨rfl, K_62⟩
    replace T := T.keep K_62 nin0 nin0
    replace s_7 := m_61 _ s_7
    replace s_14 := m_61 _ s_14
    replace s_27 := m_61 _ s_27
    refine Road.if_eq 225 341 b0_d225 rfl (fun q => absurd q (by decide)) (fun hc225 => ?_)
    refine Road.aload 228 b0_d228 rfl ?_
    refine Road.iloadN 230 b0_d230 rfl ?_
    refine Road.iloadN 231 b0_d231 rfl ?_
    refine Road.iload 232 b0_d232 rfl ?_
    refine Road.iconst 234 (3 : Int32) b0_d234 rfl ?_
    refine Road.callS (B' := bDok) 235 (argsL := [(.ref a), (.int (0 : Int32)), (.int p1), (.int (Nat.toInt32 (Road.dec p1).length)), (.int (3 : Int32))]) (rest := []) 0 b0_d235 (hw _ (List.mem_of_getElem? (i := 209) rfl)) (hw _ (List.mem_of_getElem? (i := 210) rfl)) (hw _ (List.mem_of_getElem? (i := 175) rfl)) (hw _ (List.mem_of_getElem? (i := 211) rfl)) (by decide) (cDok l Z a0 hw n0 hEW a d [58] 0 p1 3 h_59 σ_60 T rfl (by decide) (by decide) cp Hc hcp fm hfm Hf) (lenOf bDok_pd rfl) rfl rfl rfl (by decide) (by decide) (ce' := 17) (sl' := 101) rfl rfl (by decide) (by decide) ?_
    rintro _ h_63 σ_64 m_65 ⟨rfl, K_66⟩
    replace T := T.keep K_66 nin0 nin0
    replace s_7 := m_65 _ s_7
    replace s_14 := m_65 _ s_14
    replace s_27 := m_65 _ s_27
    refine Road.if_eq 238 341 b0_d238 rfl (fun q => absurd q (by decide)) (fun hc238 => ?_)
    refine Road.aload 241 b0_d241 rfl ?_
    refine Road.iloadN 243 b0_d243 rfl ?_
    refine Road.iloadN 244 b0_d244 rfl ?_
    refine Road.iload 245 b0_d245 rfl ?_
    refine Road.iconst 247 (4 : Int32) b0_d247 rfl ?_
    refine Road.callS (B' := bDok) 248 (argsL := [(.ref a), (.int (0 : Int32)), (.int p1), (.int (Nat.toInt32 (Road.dec p1).length)), (.int (4 : Int32))]) (rest := []) 0 b0_d248 (hw _ (List.mem_of_getElem? (i := 209) rfl)) (hw _ (List.mem_of_getElem? (i := 210) rfl)) (hw _ (List.mem_of_getElem? (i := 175) rfl)) (hw _ (List.mem_of_getElem? (i := 211) rfl)) (by decide) (cDok l Z a0 hw n0 hEW a d [58] 0 p1 4 h_63 σ_64 T rfl (by decide) (by decide) cp Hc hcp fm hfm Hf) (lenOf bDok_pd rfl) rfl rfl rfl (by decide) (by decide) (ce' := 18) (sl' := 111) rfl rfl (by decide) (by decide) ?_
    rintro _ h_67 σ_68 m_69 ⟨rfl, K_70⟩
    replace T := T.keep K_70 nin0 nin0
    replace s_7 := m_69 _ s_7
    replace s_14 := m_69 _ s_14
    replace s_27 := m_69 _ s_27
    refine Road.if_eq 251 341 b0_d251 rfl (fun q => absurd q (by decide)) (fun hc251 => ?_)
    refine Road.aload 254 b0_d254 rfl ?_
    refine Road.iloadN 256 b0_d256 rfl ?_
    refine Road.iloadN 257 b0_d257 rfl ?_
    refine Road.iload 258 b0_d258 rfl ?_
    refine Road.iconst 260 (5 : Int32) b0_d260 rfl ?_
    refine Road.callS (B' := bDok) 261 (argsL := [(.ref a), (.int (0 : Int32)), (.int p1), (.int (Nat.toInt32 (Road.dec p1).length)), (.int (5 : Int32))]) (rest := []) 0 b0_d261 (hw _ (List.mem_of_getElem? (i := 209) rfl)) (hw _ (List.mem_of_getElem? (i := 210) rfl)) (hw _ (List.mem_of_getElem? (i := 175) rfl)) (hw _ (List.mem_of_getElem? (i := 211) rfl)) (by decide) (cDok l Z a0 hw n0 hEW a d [58] 0 p1 5 h_67 σ_68 T rfl (by decide) (by decide) cp Hc hcp fm hfm Hf) (lenOf bDok_pd rfl) rfl rfl rfl (by decide) (by decide) (ce' := 19) (sl' := 121) rfl rfl (by decide) (by decide) ?_
    rintro _ h_71 σ_72 m_73 ⟨rfl, K_74⟩
    replace T := T.keep K_74 nin0 nin0
    replace s_7 := m_73 _ s_7
    replace s_14 := m_73 _ s_14
    replace s_27 := m_73 _ s_27
    refine Road.if_eq 264 341 b0_d264 rfl (fun q => absurd q (by decide)) (fun hc264 => ?_)
    refine Road.aload 267 b0_d267 rfl ?_
    refine Road.iloadN 269 b0_d269 rfl ?_
    refine Road.iloadN 270 b0_d270 rfl ?_
    refine Road.iload 271 b0_d271 rfl ?_
    refine Road.bipush 273 (6 : Int32) b0_d273 rfl ?_
    refine Road.callS (B' := bDok) 275 (argsL := [(.ref a), (.int (0 : Int32)), (.int p1), (.int (Nat.toInt32 (Road.dec p1).length)), (.int (6 : Int32))]) (rest := []) 0 b0_d275 (hw _ (List.mem_of_getElem? (i := 209) rfl)) (hw _ (List.mem_of_getElem? (i := 210) rfl)) (hw _ (List.mem_of_getElem? (i := 175) rfl)) (hw _ (List.mem_of_getElem? (i := 211) rfl)) (by decide) (cDok l Z a0 hw n0 hEW a d [58] 0 p1 6 h_71 σ_72 T rfl (by decide) (by decide) cp Hc hcp fm hfm Hf) (lenOf bDok_pd rfl) rfl rfl rfl (by decide) (by decide) (ce' := 20) (sl' := 131) rfl rfl (by decide) (by decide) ?_
    rintro _ h_75 σ_76 m_77 ⟨rfl, K_78⟩
    replace T := T.keep K_78 nin0 nin0
    replace s_7 := m_77 _ s_7
    replace s_14 := m_77 _ s_14
    replace s_27 := m_77 _ s_27
    refine Road.if_eq 278 341 b0_d278 rfl (fun q => absurd q (by decide)) (fun hc278 => ?_)
    refine Road.aload 281 b0_d281 rfl ?_
    refine Road.iloadN 283 b0_d283 rfl ?_
    refine Road.iloadN 284 b0_d284 rfl ?_
    refine Road.iload 285 b0_d285 rfl ?_
    refine Road.bipush 287 (7 : Int32) b0_d287 rfl ?_
    refine Road.callS (B' := bDok) 289 (argsL := [(.ref a), (.int (0 : Int32)), (.int p1), (.int (Nat.toInt32 (Road.dec p1).length)), (.int (7 : Int32))]) (rest := []) 0 b0_d289 (hw _ (List.mem_of_getElem? (i := 209) rfl)) (hw _ (List.mem_of_getElem? (i := 210) rfl)) (hw _ (List.mem_of_getElem? (i := 175) rfl)) (hw _ (List.mem_of_getElem? (i := 211) rfl)) (by decide) (cDok l Z a0 hw n0 hEW a d [58] 0 p1 7 h_75 σ_76 T rfl (by decide) (by decide) cp Hc hcp fm hfm Hf) (lenOf bDok_pd rfl) rfl rfl rfl (by decide) (by decide) (ce' := 21) (sl' := 141) rfl rfl (by decide) (by decide) ?_
    rintro _ h_79 σ_80 m_81 ⟨rfl, K_82⟩
    replace T := T.keep K_82 nin0 nin0
    replace s_7 := m_81 _ s_7
    replace s_14 := m_81 _ s_14
    replace s_27 := m_81 _ s_27
    refine Road.if_eq 292 341 b0_d292 rfl (fun q => absurd q (by decide)) (fun hc292 => ?_)
    refine Road.aload 295 b0_d295 rfl ?_
    refine Road.iloadN 297 b0_d297 rfl ?_
    refine Road.iloadN 298 b0_d298 rfl ?_
    refine Road.iload 299 b0_d299 rfl ?_
    refine Road.bipush 301 (8 : Int32) b0_d301 rfl ?_
    refine Road.callS (B' := bDok) 303 (argsL := [(.ref a), (.int (0 : Int32)), (.int p1), (.int (Nat.toInt32 (Road.dec p1).length)), (.int (8 : Int32))]) (rest := []) 0 b0_d303 (hw _ (List.mem_of_getElem? (i := 209) rfl)) (hw _ (List.mem_of_getElem? (i := 210) rfl)) (hw _ (List.mem_of_getElem? (i := 175) rfl)) (hw _ (List.mem_of_getElem? (i := 211) rfl)) (by decide) (cDok l Z a0 hw n0 hEW a d [58] 0 p1 8 h_79 σ_80 T rfl (by decide) (by decide) cp Hc hcp fm hfm Hf) (lenOf bDok_pd rfl) rfl rfl rfl (by decide) (by decide) (ce' := 22) (sl' := 151) rfl rfl (by decide) (by decide) ?_
    rintro _ h_83 σ_84 m_85 ⟨rfl, K_86⟩
    replace T := T.keep K_86 nin0 nin0
    replace s_7 := m_85 _ s_7
    replace s_14 := m_85 _ s_14
    replace s_27 := m_85 _ s_27
    refine Road.if_eq 306 341 b0_d306 rfl (fun q => absurd q (by decide)) (fun hc306 => ?_)
    refine Road.aload 309 b0_d309 rfl ?_
    refine Road.iloadN 311 b0_d311 rfl ?_
    refine Road.iloadN 312 b0_d312 rfl ?_
    refine Road.iload 313 b0_d313 rfl ?_
    refine Road.bipush 315 (9 : Int32) b0_d315 rfl ?_
    refine Road.callS (B' := bDok) 317 (argsL := [(.ref a), (.int (0 : Int32)), (.int p1), (.int (Nat.toInt32 (Road.dec p1).length)), (.int (9 : Int32))]) (rest := []) 0 b0_d317 (hw _ (List.mem_of_getElem? (i := 209) rfl)) (hw _ (List.mem_of_getElem? (i := 210) rfl)) (hw _ (List.mem_of_getElem? (i := 175) rfl)) (hw _ (List.mem_of_getElem? (i := 211) rfl)) (by decide) (cDok l Z a0 hw n0 hEW a d [58] 0 p1 9 h_83 σ_84 T rfl (by decide) (by decide) cp Hc hcp fm hfm Hf) (lenOf bDok_pd rfl) rfl rfl rfl (by decide) (by decide) (ce' := 23) (sl' := 161) rfl rfl (by decide) (by decide) ?_
    rintro _ h_87 σ_88 m_89 ⟨rfl, K_90⟩
    replace T := T.keep K_90 nin0 nin0
    replace s_7 := m_89 _ s_7
    replace s_14 := m_89 _ s_14
    replace s_27 := m_89 _ s_27
    refine Road.if_eq 320 341 b0_d320 rfl (fun q => absurd q (by decide)) (fun hc320 => ?_)
    refine Road.aload 323 b0_d323 rfl ?_
    refine Road.iloadN 325 b0_d325 rfl ?_
    refine Road.iloadN 326 b0_d326 rfl ?_
    refine Road.iload 327 b0_d327 rfl ?_
    refine Road.bipush 329 (10 : Int32) b0_d329 rfl ?_
    refine Road.callS (B' := bDok) 331 (argsL := [(.ref a), (.int (0 : Int32)), (.int p1), (.int (Nat.toInt32 (Road.dec p1).length)), (.int (10 : Int32))]) (rest := []) 0 b0_d331 (hw _ (List.mem_of_getElem? (i := 209) rfl)) (hw _ (List.mem_of_getElem? (i := 210) rfl)) (hw _ (List.mem_of_getElem? (i := 175) rfl)) (hw _ (List.mem_of_getElem? (i := 211) rfl)) (by decide) (cDok l Z a0 hw n0 hEW a d [58] 0 p1 10 h_87 σ_88 T rfl (by decide) (by decide) cp Hc hcp fm hfm Hf) (lenOf bDok_pd rfl) rfl rfl rfl (by decide) (by decide) (ce' := 24) (sl' := 171) rfl rfl (by decide) (by decide) ?_
    rintro _ h_91 σ_92 m_93 ⟨rfl, K_94⟩
    replace T := T.keep K_94 nin0 nin0
    replace s_7 := m_93 _ s_7
    replace s_14 := m_93 _ s_14
    replace s_27 := m_93 _ s_27
    refine Road.if_eq 334 341 b0_d334 rfl (fun q => absurd q (by decide)) (fun hc334 => ?_)
    refine Road.iconst 337 (1 : Int32) b0_d337 rfl ?_
    refine Road.goto 338 342 b0_d338 rfl ?_
    exact Road.iret 342 1 b0_d342 (t := .boolean) rfl (by simp) rfl (by decide) (by decide) (fun σ' m => rfl)
  · skip
    refine Road.iloadN 36 b0_d36 rfl ?_
    refine Road.newarray 37 .char 1 1 b0_d37 rfl (hw _ (List.mem_of_getElem? (i := 0) rfl)) (by decide) (by decide) (by decide) (ce' := 1) (sl' := 1) rfl rfl (by decide) (by decide) ?_
    intro ar h_95 σ_96 g_97 K_98 lt_99 m_100 s_101 Ar
    refine Road.astore 39 #[.val (.int p0), .val (.int p1), .val (.int (1 : Int32)), .val (.int c0), .val (.int c1), .val (.int c2), .val (.ref ar), .unset, .unset, .unset, .unset] b0_d39 rfl ?_
    refine Road.iloadN 41 b0_d41 rfl ?_
    refine Road.if_le 42 50 b0_d42 rfl (fun q => absurd q (by decide)) (fun hc42 => ?_)
    refine Road.aload 45 b0_d45 rfl ?_
    refine Road.iconst 47 (0 : Int32) b0_d47 rfl ?_
    refine Road.iloadN 48 b0_d48 rfl ?_
    refine Road.castore 49 0 c0 b0_d49 Ar (by decide) (by simp) (Road.nar_lat lat0) s_101 ?_
    intro h_102 K_103 A_104
    replace Ar := A_104
    refine Road.iloadN 50 b0_d50 rfl ?_
    refine Road.iconst 51 (1 : Int32) b0_d51 rfl ?_
    refine Road.icmp_le 52 61 b0_d52 rfl (fun hc52 => ?_) (fun q => absurd q (by decide))
    refine Road.iloadN 61 b0_d61 rfl ?_
    refine Road.iconst 62 (2 : Int32) b0_d62 rfl ?_
    refine Road.icmp_le 63 72 b0_d63 rfl (fun hc63 => ?_) (fun q => absurd q (by decide))
    refine Road.new 72 "java/lang/String" b0_d72 (hw _ (List.mem_of_getElem? (i := 1) rfl)) (hw _ (List.mem_of_getElem? (i := 2) rfl)) (hw _ (List.mem_of_getElem? (i := 3) rfl)) (ce' := 2) (sl' := 5) rfl rfl (by decide) (by decide) ?_
    intro s h_105 σ_106 g_107 K_108 lt_109 m_110 s_111 Es D_112 M_113
    have ne_ar_s : ar ≠ s := Nat.ne_of_lt (Nat.lt_of_lt_of_le Ar.lt (Nat.le_of_eq g_107.symm))
    replace Ar := Ar.keep K_108 nin0
    replace s_101 := m_110 _ s_101
    have Cs := D_112 (Or.inr (hw _ (List.mem_of_getElem? (i := 17) rfl))) (ty := .byte) (by decide)
    have Vs := D_112 (Or.inr (hw _ (List.mem_of_getElem? (i := 16) rfl))) (ty := (.array .byte)) (by decide)
    refine Road.dup 75 b0_d75 ?_
    refine Road.aload 76 b0_d76 rfl ?_
    replace Ar : Road.Ary Z h_105 ar .char (([c0] : List Int32).map .int) := Ar
    refine Road.callI (B' := bStr1) (a := s) 78 (argsL := [(.ref ar)]) (rest := [(.ref s)]) 1 b0_d78 (hw _ (List.mem_of_getElem? (i := 4) rfl)) (hw _ (List.mem_of_getElem? (i := 5) rfl)) (hw _ (List.mem_of_getElem? (i := 3) rfl)) (hw _ (List.mem_of_getElem? (i := 6) rfl)) rfl rfl (by decide) (cStr1 l Z a0 hw n0 hEW s ar [c0] h_105 σ_106 Es Cs Vs Ar (by simp) (by intro c hc; simp only [List.mem_cons, List.not_mem_nil, or_false] at hc; subst hc; exact lat0) s_111 cp Hc hcp) (lenOf bStr1_pd rfl) rfl rfl rfl (by decide) (by decide) (ce' := 6) (sl' := 13) rfl rfl (by decide) (by decide) ?_
    rintro _ h_114 σ_115 m_116 ⟨rfl, K_117, ds, Ss, Ns⟩
    replace s_101 := m_116 _ s_101
    replace s_111 := m_116 _ s_111
    refine Road.astore 81 #[.val (.int p0), .val (.int p1), .val (.int (1 : Int32)), .val (.int c0), .val (.int c1), .val (.int c2), .val (.ref ar), .val (.ref s), .unset, .unset, .unset] b0_d81 rfl ?_
    refine Road.new 83 "com/example/gridtally/gridtally/engine/Origin" b0_d83 (hw _ (List.mem_of_getElem? (i := 22) rfl)) (hw _ (List.mem_of_getElem? (i := 23) rfl)) (hw _ (List.mem_of_getElem? (i := 24) rfl)) (ce' := 7) (sl' := 15) rfl rfl (by decide) (by decide) ?_
    intro o h_118 σ_119 g_120 K_121 lt_122 m_123 s_124 Eo D_125 M_126
    have ne_s_o : s ≠ o := Nat.ne_of_lt (Nat.lt_of_lt_of_le Ss.lt (Nat.le_of_eq g_120.symm))
    have ne_ds_o : ds ≠ o := Nat.ne_of_lt (Nat.lt_of_lt_of_le Ss.ltb (Nat.le_of_eq g_120.symm))
    replace Ss := Ss.keep K_121 nin0 nin0
    replace s_101 := m_123 _ s_101
    replace s_111 := m_123 _ s_111
    have F1 := D_125 (Or.inr (hw _ (List.mem_of_getElem? (i := 35) rfl))) (ty := (.object "java/lang/String")) (by decide)
    have F2 := D_125 (Or.inr (hw _ (List.mem_of_getElem? (i := 37) rfl))) (ty := .int) (by decide)
    refine Road.dup 86 b0_d86 ?_
    refine Road.aload 87 b0_d87 rfl ?_
    refine Road.iloadN 89 b0_d89 rfl ?_
    refine Road.callI (B' := bOri) (a := o) 90 (argsL := [(.ref s), (.int p1)]) (rest := [(.ref o)]) 1 b0_d90 (hw _ (List.mem_of_getElem? (i := 25) rfl)) (hw _ (List.mem_of_getElem? (i := 26) rfl)) (hw _ (List.mem_of_getElem? (i := 24) rfl)) (hw _ (List.mem_of_getElem? (i := 27) rfl)) rfl rfl (by decide) (cOri l Z a0 hw n0 hEW o (.ref s) rfl p1 h_118 σ_119 Eo F1 F2 s_124) (lenOf bOri_pd rfl) rfl rfl rfl (by decide) (by decide) (ce' := 7) (sl' := 15) rfl rfl (by decide) (by decide) ?_
    rintro _ h_127 σ_128 m_129 ⟨rfl, K_130, F1, F2⟩
    replace Ss := Ss.keep K_130 (ninS ne_s_o nin0) (ninS ne_ds_o nin0)
    replace s_101 := m_129 _ s_101
    replace s_111 := m_129 _ s_111
    replace s_124 := m_129 _ s_124
    replace Eo := Eo.keep K_130
    refine Road.astore 93 #[.val (.int p0), .val (.int p1), .val (.int (1 : Int32)), .val (.int c0), .val (.int c1), .val (.int c2), .val (.ref ar), .val (.ref s), .val (.ref o), .unset, .unset] b0_d93 rfl ?_
    refine Road.aload 95 b0_d95 rfl ?_
    refine Road.callV (B' := bOts) (a := o) 97 (argsL := []) (rest := []) "com/example/gridtally/gridtally/engine/Origin" 0 b0_d97 (hw _ (List.mem_of_getElem? (i := 38) rfl)) (hw _ (List.mem_of_getElem? (i := 39) rfl)) (fun vm hz => Road.notFace_sib (args := #[]) (mv (s := D.s.setVm vm) hz (hw _ (List.mem_of_getElem? (i := 41) rfl))) rfl) (hw _ (List.mem_of_getElem? (i := 41) rfl)) (hw _ (List.mem_of_getElem? (i := 40) rfl)) (hw _ (List.mem_of_getElem? (i := 24) rfl)) (hw _ (List.mem_of_getElem? (i := 42) rfl)) (by decide) Eo (cOts l Z a0 hw n0 hEW o s ds [c0] p1 h_127 σ_128 F1 F2 Ss (by simp) cp Hc hcp o1 o2 HO AO HT AT) (lenOf bOts_pd rfl) rfl rfl rfl (by decide) (by decide) (ce' := 13) (sl' := 62) rfl rfl (by decide) (by decide) ?_
    rintro _ h_131 σ_132 m_133 ⟨a, d, rfl, K_134, T⟩
    replace Ss := Ss.keep K_134 nin0 nin0
    replace s_101 := m_133 _ s_101
    replace s_111 := m_133 _ s_111
    replace s_124 := m_133 _ s_124
    replace T : Road.Str Z h_131 a d ([c0, 58] ++ Road.dec p1) := T
    refine Road.astore 100 #[.val (.int p0), .val (.int p1), .val (.int (1 : Int32)), .val (.int c0), .val (.int c1), .val (.int c2), .val (.ref ar), .val (.ref s), .val (.ref o), .val (.ref a), .unset] b0_d100 rfl ?_
    refine Road.iloadN 102 b0_d102 rfl ?_
    refine Road.callS (B' := bDcl) 103 (argsL := [(.int p1)]) (rest := []) 0 b0_d103 (hw _ (List.mem_of_getElem? (i := 173) rfl)) (hw _ (List.mem_of_getElem? (i := 174) rfl)) (hw _ (List.mem_of_getElem? (i := 175) rfl)) (hw _ (List.mem_of_getElem? (i := 176) rfl)) (by decide) (cDcl l Z a0 hw n0 hEW p1 h_131 σ_132) (lenOf bDcl_pd rfl) rfl rfl rfl (by decide) (by decide) (ce' := 13) (sl' := 62) rfl rfl (by decide) (by decide) ?_
    rintro _ h_135 σ_136 m_137 ⟨rfl, rfl⟩
    refine Road.Go.weaken (σ' := σ_132) m_137 (Nat.le_refl _) (Nat.le_refl _) ?_
    refine Road.istore 106 #[.val (.int p0), .val (.int p1), .val (.int (1 : Int32)), .val (.int c0), .val (.int c1), .val (.int c2), .val (.ref ar), .val (.ref s), .val (.ref o), .val (.ref a), .val (.int (Nat.toInt32 (Road.dec p1).length))] b0_d106 rfl ?_
    refine Road.aload 108 b0_d108 rfl ?_
    refine Road.callV (B' := bLen) (a := a) 110 (argsL := []) (rest := []) "java/lang/String" 0 b0_d110 (hw _ (List.mem_of_getElem? (i := 186) rfl)) (hw _ (List.mem_of_getElem? (i := 72) rfl)) (fun vm hz => Road.notFace_sib (args := #[]) (mv (s := D.s.setVm vm) hz (hw _ (List.mem_of_getElem? (i := 74) rfl))) rfl) (hw _ (List.mem_of_getElem? (i := 74) rfl)) (hw _ (List.mem_of_getElem? (i := 73) rfl)) (hw _ (List.mem_of_getElem? (i := 3) rfl)) (hw _ (List.mem_of_getElem? (i := 75) rfl)) (by decide) T.1 (cLen l Z a0 hw n0 hEW a d _ h_131 σ_132 T cp Hc hcp) (lenOf bLen_pd rfl) rfl rfl rfl (by decide) (by decide) (ce' := 13) (sl' := 62) rfl rfl (by decide) (by decide) ?_
    rintro _ h_139 σ_140 m_141 ⟨rfl, rfl⟩
    refine Road.Go.weaken (σ' := σ_132) m_141 (Nat.le_refl _) (Nat.le_refl _) ?_
    refine Road.iloadN 113 b0_d113 rfl ?_
    refine Road.iconst 114 (1 : Int32) b0_d114 rfl ?_
    refine Road.iadd 115 b0_d115 ?_
    refine Road.iload 116 b0_d116 rfl ?_
    refine Road.iadd 118 b0_d118 ?_
    refine Road.icmp_eq 119 124 b0_d119 rfl (fun hc119 => ?_) (fun q => absurd q (by rw [Decidable.not_not, List.length_append, ← Road.add32n]; rfl))
    refine Road.iloadN 124 b0_d124 rfl ?_
    refine Road.if_le 125 140 b0_d125 rfl (fun q => absurd q (by decide)) (fun hc125 => ?_)
    refine Road.aload 128 b0_d128 rfl ?_
    refine Road.iconst 130 (0 : Int32) b0_d130 rfl ?_
    refine Road.callV (B' := bChA) (a := a) 131 (argsL := [(.int (0 : Int32))]) (rest := []) "java/lang/String" 0 b0_d131 (hw _ (List.mem_of_getElem? (i := 187) rfl)) (hw _ (List.mem_of_getElem? (i := 188) rfl)) (fun vm hz => Road.notFace_sib (args := #[]) (mv (s := D.s.setVm vm) hz (hw _ (List.mem_of_getElem? (i := 74) rfl))) rfl) (hw _ (List.mem_of_getElem? (i := 190) rfl)) (hw _ (List.mem_of_getElem? (i := 189) rfl)) (hw _ (List.mem_of_getElem? (i := 3) rfl)) (hw _ (List.mem_of_getElem? (i := 191) rfl)) (by decide) T.1 (cChA l Z a0 hw n0 hEW a d _ (0 : Int32) 0 h_131 σ_132 T rfl (by simp) cp Hc hcp fm hfm Hf) (lenOf bChA_pd rfl) rfl rfl rfl (by decide) (by decide) (ce' := 13) (sl' := 62) rfl rfl (by decide) (by decide) ?_
    rintro _ h_143 σ_144 m_145 ⟨rfl, rfl⟩
    refine Road.Go.weaken (σ' := σ_132) m_145 (Nat.le_refl _) (Nat.le_refl _) ?_
    refine Road.nameI ?_
    intro z_147 hz_147
    rw [show z_147 = c0 from by rw [hz_147]; rfl]
    refine Road.iloadN 134 b0_d134 rfl ?_
    refine Road.icmp_eq 135 140 b0_d135 rfl (fun hc135 => ?_) (fun q => absurd q (by simp))
    refine Road.iloadN 140 b0_d140 rfl ?_
    refine Road.iconst 141 (1 : Int32) b0_d141 rfl ?_
    refine Road.icmp_le 142 158 b0_d142 rfl (fun hc142 => ?_) (fun q => absurd q (by decide))
    refine Road.iloadN 158 b0_d158 rfl ?_
    refine Road.iconst 159 (2 : Int32) b0_d159 rfl ?_
    refine Road.icmp_le 160 176 b0_d160 rfl (fun hc160 => ?_) (fun q => absurd q (by decide))
    refine Road.aload 176 b0_d176 rfl ?_
    refine Road.iloadN 178 b0_d178 rfl ?_
    refine Road.callV (B' := bChA) (a := a) 179 (argsL := [(.int (1 : Int32))]) (rest := []) "java/lang/String" 0 b0_d179 (hw _ (List.mem_of_getElem? (i := 187) rfl)) (hw _ (List.mem_of_getElem? (i := 188) rfl)) (fun vm hz => Road.notFace_sib (args := #[]) (mv (s := D.s.setVm vm) hz (hw _ (List.mem_of_getElem? (i := 74) rfl))) rfl) (hw _ (List.mem_of_getElem? (i := 190) rfl)) (hw _ (List.mem_of_getElem? (i := 189) rfl)) (hw _ (List.mem_of_getElem? (i := 3) rfl)) (hw _ (List.mem_of_getElem? (i := 191) rfl)) (by decide) T.1 (cChA l Z a0 hw n0 hEW a d _ (1 : Int32) 1 h_131 σ_132 T rfl (by simp) cp Hc hcp fm hfm Hf) (lenOf bChA_pd rfl) rfl rfl rfl (by decide) (by decide) (ce' := 13) (sl' := 62) rfl rfl (by decide) (by decide) ?_
    rintro _ h_148 σ_149 m_150 ⟨rfl, rfl⟩
    refine Road.Go.weaken (σ' := σ_132) m_150 (Nat.le_refl _) (Nat.le_refl _) ?_
    refine Road.nameI ?_
    intro z_152 hz_152
    rw [show z_152 = (58 : Int32) from by rw [hz_152]; rfl]
    refine Road.bipush 182 (58 : Int32) b0_d182 rfl ?_
    refine Road.icmp_eq 184 189 b0_d184 rfl (fun hc184 => ?_) (fun q => absurd q (by decide))
    refine Road.aload 189 b0_d189 rfl ?_
    refine Road.iloadN 191 b0_d191 rfl ?_
    refine Road.iloadN 192 b0_d192 rfl ?_
    refine Road.iload 193 b0_d193 rfl ?_
    refine Road.iconst 195 (0 : Int32) b0_d195 rfl ?_
    refine Road.callS (B' := bDok) 196 (argsL := [(.ref a), (.int (1 : Int32)), (.int p1), (.int (Nat.toInt32 (Road.dec p1).length)), (.int (0 : Int32))]) (rest := []) 0 b0_d196 (hw _ (List.mem_of_getElem? (i := 209) rfl)) (hw _ (List.mem_of_getElem? (i := 210) rfl)) (hw _ (List.mem_of_getElem? (i := 175) rfl)) (hw _ (List.mem_of_getElem? (i := 211) rfl)) (by decide) (cDok l Z a0 hw n0 hEW a d [c0, 58] 1 p1 0 h_131 σ_132 T rfl (by decide) (by decide) cp Hc hcp fm hfm Hf) (lenOf bDok_pd rfl) rfl rfl rfl (by decide) (by decide) (ce' := 14) (sl' := 72) rfl rfl (by decide) (by decide) ?_
    rintro _ h_153 σ_154 m_155 ⟨rfl, K_156⟩
    replace T := T.keep K_156 nin0 nin0
    replace s_101 := m_155 _ s_101
    replace s_111 := m_155 _ s_111
    replace s_124 := m_155 _ s_124
    refine Road.if_eq 199 341 b0_d199 rfl (fun q => absurd q (by decide)) (fun hc199 => ?_)
    refine Road.aload 202 b0_d202 rfl ?_
    refine Road.iloadN 204 b0_d204 rfl ?_
    refine Road.iloadN 205 b0_d205 rfl ?_
    refine Road.iload 206 b0_d206 rfl ?_
    refine Road.iconst 208 (1 : Int32) b0_d208 rfl ?_
    refine Road.callS (B' := bDok) 209 (argsL := [(.ref a), (.int (1 : Int32)), (.int p1), (.int (Nat.toInt32 (Road.dec p1).length)), (.int (1 : Int32))]) (rest := []) 0 b0_d209 (hw _ (List.mem_of_getElem? (i := 209) rfl)) (hw _ (List.mem_of_getElem? (i := 210) rfl)) (hw _ (List.mem_of_getElem? (i := 175) rfl)) (hw _ (List.mem_of_getElem? (i := 211) rfl)) (by decide) (cDok l Z a0 hw n0 hEW a d [c0, 58] 1 p1 1 h_153 σ_154 T rfl (by decide) (by decide) cp Hc hcp fm hfm Hf) (lenOf bDok_pd rfl) rfl rfl rfl (by decide) (by decide) (ce' := 15) (sl' := 82) rfl rfl (by decide) (by decide) ?_
    rintro _ h_157 σ_158 m_159 ⟨rfl, K_160⟩
    replace T := T.keep K_160 nin0 nin0
    replace s_101 := m_159 _ s_101
    replace s_111 := m_159 _ s_111
    replace s_124 := m_159 _ s_124
    refine Road.if_eq 212 341 b0_d212 rfl (fun q => absurd q (by decide)) (fun hc212 => ?_)
    refine Road.aload 215 b0_d215 rfl ?_
    refine Road.iloadN 217 b0_d217 rfl ?_
    refine Road.iloadN 218 b0_d218 rfl ?_
    refine Road.iload 219 b0_d219 rfl ?_
    refine Road.iconst 221 (2 : Int32) b0_d221 rfl ?_
    refine Road.callS (B' := bDok) 222 (argsL := [(.ref a), (.int (1 : Int32)), (.int p1), (.int (Nat.toInt32 (Road.dec p1).length)), (.int (2 : Int32))]) (rest := []) 0 b0_d222 (hw _ (List.mem_of_getElem? (i := 209) rfl)) (hw _ (List.mem_of_getElem? (i := 210) rfl)) (hw _ (List.mem_of_getElem? (i := 175) rfl)) (hw _ (List.mem_of_getElem? (i := 211) rfl)) (by decide) (cDok l Z a0 hw n0 hEW a d [c0, 58] 1 p1 2 h_157 σ_158 T rfl (by decide) (by decide) cp Hc hcp fm hfm Hf) (lenOf bDok_pd rfl) rfl rfl rfl (by decide) (by decide) (ce' := 16) (sl' := 92) rfl rfl (by decide) (by decide) ?_
    rintro _ h_161 σ_162 m_163 ⟨rfl, K_164⟩
    replace T := T.keep K_164 nin0 nin0
    replace s_101 := m_163 _ s_101
    replace s_111 := m_163 _ s_111
    replace s_124 := m_163 _ s_124
    refine Road.if_eq 225 341 b0_d225 rfl (fun q => absurd q (by decide)) (fun hc225 => ?_)
    refine Road.aload 228 b0_d228 rfl ?_
    refine Road.iloadN 230 b0_d230 rfl ?_
    refine Road.iloadN 231 b0_d231 rfl ?_
    refine Road.iload 232 b0_d232 rfl ?_
    refine Road.iconst 234 (3 : Int32) b0_d234 rfl ?_
    refine Road.callS (B' := bDok) 235 (argsL := [(.ref a), (.int (1 : Int32)), (.int p1), (.int (Nat.toInt32 (Road.dec p1).length)), (.int (3 : Int32))]) (rest := []) 0 b0_d235 (hw _ (List.mem_of_getElem? (i := 209) rfl)) (hw _ (List.mem_of_getElem? (i := 210) rfl)) (hw _ (List.mem_of_getElem? (i := 175) rfl)) (hw _ (List.mem_of_getElem? (i := 211) rfl)) (by decide) (cDok l Z a0 hw n0 hEW a d [c0, 58] 1 p1 3 h_161 σ_162 T rfl (by decide) (by decide) cp Hc hcp fm hfm Hf) (lenOf bDok_pd rfl) rfl rfl rfl (by decide) (by decide) (ce' := 17) (sl' := 102) rfl rfl (by decide) (by decide) ?_
    rintro _ h_165 σ_166 m_167 ⟨rfl, K_168⟩
    replace T := T.keep K_168 nin0 nin0
    replace s_101 := m_167 _ s_101
    replace s_111 := m_167 _ s_111
    replace s_124 := m_167 _ s_124
    refine Road.if_eq 238 341 b0_d238 rfl (fun q => absurd q (by decide)) (fun hc238 => ?_)
    refine Road.aload 241 b0_d241 rfl ?_
    refine Road.iloadN 243 b0_d243 rfl ?_
    refine Road.iloadN 244 b0_d244 rfl ?_
    refine Road.iload 245 b0_d245 rfl ?_
    refine Road.iconst 247 (4 : Int32) b0_d247 rfl ?_
    refine Road.callS (B' := bDok) 248 (argsL := [(.ref a), (.int (1 : Int32)), (.int p1), (.int (Nat.toInt32 (Road.dec p1).length)), (.int (4 : Int32))]) (rest := []) 0 b0_d248 (hw _ (List.mem_of_getElem? (i := 209) rfl)) (hw _ (List.mem_of_getElem? (i := 210) rfl)) (hw _ (List.mem_of_getElem? (i := 175) rfl)) (hw _ (List.mem_of_getElem? (i := 211) rfl)) (by decide) (cDok l Z a0 hw n0 hEW a d [c0, 58] 1 p1 4 h_165 σ_166 T rfl (by decide) (by decide) cp Hc hcp fm hfm Hf) (lenOf bDok_pd rfl) rfl rfl rfl (by decide) (by decide) (ce' := 18) (sl' := 112) rfl rfl (by decide) (by decide) ?_
    rintro _ h_169 σ_170 m_171 ⟨rfl, K_172⟩
    replace T := T.keep K_172 nin0 nin0
    replace s_101 := m_171 _ s_101
    replace s_111 := m_171 _ s_111
    replace s_124 := m_171 _ s_124
    refine Road.if_eq 251 341 b0_d251 rfl (fun q => absurd q (by decide)) (fun hc251 => ?_)
    refine Road.aload 254 b0_d254 rfl ?_
    refine Road.iloadN 256 b0_d256 rfl ?_
    refine Road.iloadN 257 b0_d257 rfl ?_
    refine Road.iload 258 b0_d258 rfl ?_
    refine Road.iconst 260 (5 : Int32) b0_d260 rfl ?_
    refine Road.callS (B' := bDok) 261 (argsL := [(.ref a), (.int (1 : Int32)), (.int p1), (.int (Nat.toInt32 (Road.dec p1).length)), (.int (5 : Int32))]) (rest := []) 0 b0_d261 (hw _ (List.mem_of_getElem? (i := 209) rfl)) (hw _ (List.mem_of_getElem? (i := 210) rfl)) (hw _ (List.mem_of_getElem? (i := 175) rfl)) (hw _ (List.mem_of_getElem? (i := 211) rfl)) (by decide) (cDok l Z a0 hw n0 hEW a d [c0, 58] 1 p1 5 h_169 σ_170 T rfl (by decide) (by decide) cp Hc hcp fm hfm Hf) (lenOf bDok_pd rfl) rfl rfl rfl (by decide) (by decide) (ce' := 19) (sl' := 122) rfl rfl (by decide) (by decide) ?_
    rintro _ h_173 σ_174 m_175 ⟨rfl, K_176⟩
    replace T := T.keep K_176 nin0 nin0
    replace s_101 := m_175 _ s_101
    replace s_111 := m_175 _ s_111
    replace s_124 := m_175 _ s_124
    refine Road.if_eq 264 341 b0_d264 rfl (fun q => absurd q (by decide)) (fun hc264 => ?_)
    refine Road.aload 267 b0_d267 rfl ?_
    refine Road.iloadN 269 b0_d269 rfl ?_
    refine Road.iloadN 270 b0_d270 rfl ?_
    refine Road.iload 271 b0_d271 rfl ?_
    refine Road.bipush 273 (6 : Int32) b0_d273 rfl ?_
    refine Road.callS (B' := bDok) 275 (argsL := [(.ref a), (.int (1 : Int32)), (.int p1), (.int (Nat.toInt32 (Road.dec p1).length)), (.int (6 : Int32))]) (rest := []) 0 b0_d275 (hw _ (List.mem_of_getElem? (i := 209) rfl)) (hw _ (List.mem_of_getElem? (i := 210) rfl)) (hw _ (List.mem_of_getElem? (i := 175) rfl)) (hw _ (List.mem_of_getElem? (i := 211) rfl)) (by decide) (cDok l Z a0 hw n0 hEW a d [c0, 58] 1 p1 6 h_173 σ_174 T rfl (by decide) (by decide) cp Hc hcp fm hfm Hf) (lenOf bDok_pd rfl) rfl rfl rfl (by decide) (by decide) (ce' := 20) (sl' := 132) rfl rfl (by decide) (by decide) ?_
    rintro _ h_177 σ_178 m_179 ⟨rfl, K_180⟩
    replace T := T.keep K_180 nin0 nin0
    replace s_101 := m_179 _ s_101
    replace s_111 := m_179 _ s_111
    replace s_124 := m_179 _ s_124
    refine Road.if_eq 278 341 b0_d278 rfl (fun q => absurd q (by decide)) (fun hc278 => ?_)
    refine Road.aload 281 b0_d281 rfl ?_
    refine Road.iloadN 283 b0_d283 rfl ?_
    refine Road.iloadN 284 b0_d284 rfl ?_
    refine Road.iload 285 b0_d285 rfl ?_
    refine Road.bipush 287 (7 : Int32) b0_d287 rfl ?_
    refine Road.callS (B' := bDok) 289 (argsL := [(.ref a), (.int (1 : Int32)), (.int p1), (.int (Nat.toInt32 (Road.dec p1).length)), (.int (7 : Int32))]) (rest := []) 0 b0_d289 (hw _ (List.mem_of_getElem? (i := 209) rfl)) (hw _ (List.mem_of_getElem? (i := 210) rfl)) (hw _ (List.mem_of_getElem? (i := 175) rfl)) (hw _ (List.mem_of_getElem? (i := 211) rfl)) (by decide) (cDok l Z a0 hw n0 hEW a d [c0, 58] 1 p1 7 h_177 σ_178 T rfl (by decide) (by decide) cp Hc hcp fm hfm Hf) (lenOf bDok_pd rfl) rfl rfl rfl (by decide) (by decide) (ce' := 21) (sl' := 142) rfl rfl (by decide) (by decide) ?_
    rintro _ h_181 σ_182 m_183 ⟨rfl, K_184⟩
    replace T := T.keep K_184 nin0 nin0
    replace s_101 := m_183 _ s_101
    replace s_111 := m_183 _ s_111
    replace s_124 := m_183 _ s_124
    refine Road.if_eq 292 341 b0_d292 rfl (fun q => absurd q (by decide)) (fun hc292 => ?_)
    refine Road.aload 295 b0_d295 rfl ?_
    refine Road.iloadN 297 b0_d297 rfl ?_
    refine Road.iloadN 298 b0_d298 rfl ?_
    refine Road.iload 299 b0_d299 rfl ?_
    refine Road.bipush 301 (8 : Int32) b0_d301 rfl ?_
    refine Road.callS (B' := bDok) 303 (argsL := [(.ref a), (.int (1 : Int32)), (.int p1), (.int (Nat.toInt32 (Road.dec p1).length)), (.int (8 : Int32))]) (rest := []) 0 b0_d303 (hw _ (List.mem_of_getElem? (i := 209) rfl)) (hw _ (List.mem_of_getElem? (i := 210) rfl)) (hw _ (List.mem_of_getElem? (i := 175) rfl)) (hw _ (List.mem_of_getElem? (i := 211) rfl)) (by decide) (cDok l Z a0 hw n0 hEW a d [c0, 58] 1 p1 8 h_181 σ_182 T rfl (by decide) (by decide) cp Hc hcp fm hfm Hf) (lenOf bDok_pd rfl) rfl rfl rfl (by decide) (by decide) (ce' := 22) (sl' := 152) rfl rfl (by decide) (by decide) ?_
    rintro _ h_185 σ_186 m_187 ⟨rfl, K_188⟩
    replace T := T.keep K_188 nin0 nin0
    replace s_101 := m_187 _ s_101
    replace s_111 := m_187 _ s_111
    replace s_124 := m_187 _ s_124
    refine Road.if_eq 306 341 b0_d306 rfl (fun q => absurd q (by decide)) (fun hc306 => ?_)
    refine Road.aload 309 b0_d309 rfl ?_
    refine Road.iloadN 311 b0_d311 rfl ?_
    refine Road.iloadN 312 b0_d312 rfl ?_
    refine Road.iload 313 b0_d313 rfl ?_
    refine Road.bipush 315 (9 : Int32) b0_d315 rfl ?_
    refine Road.callS (B' := bDok) 317 (argsL := [(.ref a), (.int (1 : Int32)), (.int p1), (.int (Nat.toInt32 (Road.dec p1).length)), (.int (9 : Int32))]) (rest := []) 0 b0_d317 (hw _ (List.mem_of_getElem? (i := 209) rfl)) (hw _ (List.mem_of_getElem? (i := 210) rfl)) (hw _ (List.mem_of_getElem? (i := 175) rfl)) (hw _ (List.mem_of_getElem? (i := 211) rfl)) (by decide) (cDok l Z a0 hw n0 hEW a d [c0, 58] 1 p1 9 h_185 σ_186 T rfl (by decide) (by decide) cp Hc hcp fm hfm Hf) (lenOf bDok_pd rfl) rfl rfl rfl (by decide) (by decide) (ce' := 23) (sl' := 162) rfl rfl (by decide) (by decide) ?_
    rintro _ h_189 σ_190 m_191 ⟨rfl, K_192⟩
    replace T := T.keep K_192 nin0 nin0
    replace s_101 := m_191 _ s_101
    replace s_111 := m_191 _ s_111
    replace s_124 := m_191 _ s_124
    refine Road.if_eq 320 341 b0_d320 rfl (fun q => absurd q (by decide)) (fun hc320 => ?_)
    refine Road.aload 323 b0_d323 rfl ?_
    refine Road.iloadN 325 b0_d325 rfl ?_
    refine Road.iloadN 326 b0_d326 rfl ?_
    refine Road.iload 327 b0_d327 rfl ?_
    refine Road.bipush 329 (10 : Int32) b0_d329 rfl ?_
    refine Road.callS (B' := bDok) 331 (argsL := [(.ref a), (.int (1 : Int32)), (.int p1), (.int (Nat.toInt32 (Road.dec p1).length)), (.int (10 : Int32))]) (rest := []) 0 b0_d331 (hw _ (List.mem_of_getElem? (i := 209) rfl)) (hw _ (List.mem_of_getElem? (i := 210) rfl)) (hw _ (List.mem_of_getElem? (i := 175) rfl)) (hw _ (List.mem_of_getElem? (i := 211) rfl)) (by decide) (cDok l Z a0 hw n0 hEW a d [c0, 58] 1 p1 10 h_189 σ_190 T rfl (by decide) (by decide) cp Hc hcp fm hfm Hf) (lenOf bDok_pd rfl) rfl rfl rfl (by decide) (by decide) (ce' := 24) (sl' := 172) rfl rfl (by decide) (by decide) ?_
    rintro _ h_193 σ_194 m_195 ⟨rfl, K_196⟩
    replace T := T.keep K_196 nin0 nin0
    replace s_101 := m_195 _ s_101
    replace s_111 := m_195 _ s_111
    replace s_124 := m_195 _ s_124
    refine Road.if_eq 334 341 b0_d334 rfl (fun q => absurd q (by decide)) (fun hc334 => ?_)
    refine Road.iconst 337 (1 : Int32) b0_d337 rfl ?_
    refine Road.goto 338 342 b0_d338 rfl ?_
    exact Road.iret 342 1 b0_d342 (t := .boolean) rfl (by simp) rfl (by decide) (by decide) (fun σ' m => rfl)
  · skip
    refine Road.iloadN 36 b0_d36 rfl ?_
    refine Road.newarray 37 .char 2 2 b0_d37 rfl (hw _ (List.mem_of_getElem? (i := 0) rfl)) (by decide) (by decide) (by decide) (ce' := 1) (sl' := 2) rfl rfl (by decide) (by decide) ?_
    intro ar h_197 σ_198 g_199 K_200 lt_201 m_202 s_203 Ar
    refine Road.astore 39 #[.val (.int p0), .val (.int p1), .val (.int (2 : Int32)), .val (.int c0), .val (.int c1), .val (.int c2), .val (.ref ar), .unset, .unset, .unset, .unset] b0_d39 rfl ?_
    refine Road.iloadN 41 b0_d41 rfl ?_
    refine Road.if_le 42 50 b0_d42 rfl (fun q => absurd q (by decide)) (fun hc42 => ?_)
    refine Road.aload 45 b0_d45 rfl ?_
    refine Road.iconst 47 (0 : Int32) b0_d47 rfl ?_
    refine Road.iloadN 48 b0_d48 rfl ?_
    refine Road.castore 49 0 c0 b0_d49 Ar (by decide) (by simp) (Road.nar_lat lat0) s_203 ?_
    intro h_204 K_205 A_206
    replace Ar := A_206
    refine Road.iloadN 50 b0_d50 rfl ?_
    refine Road.iconst 51 (1 : Int32) b0_d51 rfl ?_
    refine Road.icmp_le 52 61 b0_d52 rfl (fun q => absurd q (by decide)) (fun hc52 => ?_)
    refine Road.aload 55 b0_d55 rfl ?_
    refine Road.iconst 57 (1 : Int32) b0_d57 rfl ?_
    refine Road.iload 58 b0_d58 rfl ?_
    refine Road.castore 60 1 c1 b0_d60 Ar (by decide) (by simp) (Road.nar_lat lat1) s_203 ?_
    intro h_207 K_208 A_209
    replace Ar := A_209
    refine Road.iloadN 61 b0_d61 rfl ?_
    refine Road.iconst 62 (2 : Int32) b0_d62 rfl ?_
    refine Road.icmp_le 63 72 b0_d63 rfl (fun hc63 => ?_) (fun q => absurd q (by decide))
    refine Road.new 72 "java/lang/String" b0_d72 (hw _ (List.mem_of_getElem? (i := 1) rfl)) (hw _ (List.mem_of_getElem? (i := 2) rfl)) (hw _ (List.mem_of_getElem? (i := 3) rfl)) (ce' := 2) (sl' := 6) rfl rfl (by decide) (by decide) ?_
    intro s h_210 σ_211 g_212 K_213 lt_214 m_215 s_216 Es D_217 M_218
    have ne_ar_s : ar ≠ s := Nat.ne_of_lt (Nat.lt_of_lt_of_le Ar.lt (Nat.le_of_eq g_212.symm))
    replace Ar := Ar.keep K_213 nin0
    replace s_203 := m_215 _ s_203
    have Cs := D_217 (Or.inr (hw _ (List.mem_of_getElem? (i := 17) rfl))) (ty := .byte) (by decide)
    have Vs := D_217 (Or.inr (hw _ (List.mem_of_getElem? (i := 16) rfl))) (ty := (.array .byte)) (by decide)
    refine Road.dup 75 b0_d75 ?_
    refine Road.aload 76 b0_d76 rfl ?_
    replace Ar : Road.Ary Z h_210 ar .char (([c0, c1] : List Int32).map .int) := Ar
    refine Road.callI (B' := bStr1) (a := s) 78 (argsL := [(.ref ar)]) (rest := [(.ref s)]) 1 b0_d78 (hw _ (List.mem_of_getElem? (i := 4) rfl)) (hw _ (List.mem_of_getElem? (i := 5) rfl)) (hw _ (List.mem_of_getElem? (i := 3) rfl)) (hw _ (List.mem_of_getElem? (i := 6) rfl)) rfl rfl (by decide) (cStr1 l Z a0 hw n0 hEW s ar [c0, c1] h_210 σ_211 Es Cs Vs Ar (by simp) (by intro c hc; simp only [List.mem_cons, List.not_mem_nil, or_false] at hc; rcases hc with rfl | rfl <;> assumption) s_216 cp Hc hcp) (lenOf bStr1_pd rfl) rfl rfl rfl (by decide) (by decide) (ce' := 6) (sl' := 14) rfl rfl (by decide) (by decide) ?_
    rintro _ h_219 σ_220 m_221 ⟨rfl, K_222, ds, Ss, Ns⟩
    replace s_203 := m_221 _ s_203
    replace s_216 := m_221 _ s_216
    refine Road.astore 81 #[.val (.int p0), .val (.int p1), .val (.int (2 : Int32)), .val (.int c0), .val (.int c1), .val (.int c2), .val (.ref ar), .val (.ref s), .unset, .unset, .unset] b0_d81 rfl ?_
    refine Road.new 83 "com/example/gridtally/gridtally/engine/Origin" b0_d83 (hw _ (List.mem_of_getElem? (i := 22) rfl)) (hw _ (List.mem_of_getElem? (i := 23) rfl)) (hw _ (List.mem_of_getElem? (i := 24) rfl)) (ce' := 7) (sl' := 16) rfl rfl (by decide) (by decide) ?_
    intro o h_223 σ_224 g_225 K_226 lt_227 m_228 s_229 Eo D_230 M_231
    have ne_s_o : s ≠ o := Nat.ne_of_lt (Nat.lt_of_lt_of_le Ss.lt (Nat.le_of_eq g_225.symm))
    have ne_ds_o : ds ≠ o := Nat.ne_of_lt (Nat.lt_of_lt_of_le Ss.ltb (Nat.le_of_eq g_225.symm))
    replace Ss := Ss.keep K_226 nin0 nin0
    replace s_203 := m_228 _ s_203
    replace s_216 := m_228 _ s_216
    have F1 := D_230 (Or.inr (hw _ (List.mem_of_getElem? (i := 35) rfl))) (ty := (.object "java/lang/String")) (by decide)
    have F2 := D_230 (Or.inr (hw _ (List.mem_of_getElem? (i := 37) rfl))) (ty := .int) (by decide)
    refine Road.dup 86 b0_d86 ?_
    refine Road.aload 87 b0_d87 rfl ?_
    refine Road.iloadN 89 b0_d89 rfl ?_
    refine Road.callI (B' := bOri) (a := o) 90 (argsL := [(.ref s), (.int p1)]) (rest := [(.ref o)]) 1 b0_d90 (hw _ (List.mem_of_getElem? (i := 25) rfl)) (hw _ (List.mem_of_getElem? (i := 26) rfl)) (hw _ (List.mem_of_getElem? (i := 24) rfl)) (hw _ (List.mem_of_getElem? (i := 27) rfl)) rfl rfl (by decide) (cOri l Z a0 hw n0 hEW o (.ref s) rfl p1 h_223 σ_224 Eo F1 F2 s_229) (lenOf bOri_pd rfl) rfl rfl rfl (by decide) (by decide) (ce' := 7) (sl' := 16) rfl rfl (by decide) (by decide) ?_
    rintro _ h_232 σ_233 m_234 ⟨rfl, K_235, F1, F2⟩
    replace Ss := Ss.keep K_235 (ninS ne_s_o nin0) (ninS ne_ds_o nin0)
    replace s_203 := m_234 _ s_203
    replace s_216 := m_234 _ s_216
    replace s_229 := m_234 _ s_229
    replace Eo := Eo.keep K_235
    refine Road.astore 93 #[.val (.int p0), .val (.int p1), .val (.int (2 : Int32)), .val (.int c0), .val (.int c1), .val (.int c2), .val (.ref ar), .val (.ref s), .val (.ref o), .unset, .unset] b0_d93 rfl ?_
    refine Road.aload 95 b0_d95 rfl ?_
    refine Road.callV (B' := bOts) (a := o) 97 (argsL := []) (rest := []) "com/example/gridtally/gridtally/engine/Origin" 0 b0_d97 (hw _ (List.mem_of_getElem? (i := 38) rfl)) (hw _ (List.mem_of_getElem? (i := 39) rfl)) (fun vm hz => Road.notFace_sib (args := #[]) (mv (s := D.s.setVm vm) hz (hw _ (List.mem_of_getElem? (i := 41) rfl))) rfl) (hw _ (List.mem_of_getElem? (i := 41) rfl)) (hw _ (List.mem_of_getElem? (i := 40) rfl)) (hw _ (List.mem_of_getElem? (i := 24) rfl)) (hw _ (List.mem_of_getElem? (i := 42) rfl)) (by decide) Eo (cOts l Z a0 hw n0 hEW o s ds [c0, c1] p1 h_232 σ_233 F1 F2 Ss (by simp) cp Hc hcp o1 o2 HO AO HT AT) (lenOf bOts_pd rfl) rfl rfl rfl (by decide) (by decide) (ce' := 13) (sl' := 63) rfl rfl (by decide) (by decide) ?_
    rintro _ h_236 σ_237 m_238 ⟨a, d, rfl, K_239, T⟩
    replace Ss := Ss.keep K_239 nin0 nin0
    replace s_203 := m_238 _ s_203
    replace s_216 := m_238 _ s_216
    replace s_229 := m_238 _ s_229
    replace T : Road.Str Z h_236 a d ([c0, c1, 58] ++ Road.dec p1) := T
    refine Road.astore 100 #[.val (.int p0), .val (.int p1), .val (.int (2 : Int32)), .val (.int c0), .val (.int c1), .val (.int c2), .val (.ref ar), .val (.ref s), .val (.ref o), .val (.ref a), .unset] b0_d100 rfl ?_
    refine Road.iloadN 102 b0_d102 rfl ?_
    refine Road.callS (B' := bDcl) 103 (argsL := [(.int p1)]) (rest := []) 0 b0_d103 (hw _ (List.mem_of_getElem? (i := 173) rfl)) (hw _ (List.mem_of_getElem? (i := 174) rfl)) (hw _ (List.mem_of_getElem? (i := 175) rfl)) (hw _ (List.mem_of_getElem? (i := 176) rfl)) (by decide) (cDcl l Z a0 hw n0 hEW p1 h_236 σ_237) (lenOf bDcl_pd rfl) rfl rfl rfl (by decide) (by decide) (ce' := 13) (sl' := 63) rfl rfl (by decide) (by decide) ?_
    rintro _ h_240 σ_241 m_242 ⟨rfl, rfl⟩
    refine Road.Go.weaken (σ' := σ_237) m_242 (Nat.le_refl _) (Nat.le_refl _) ?_
    refine Road.istore 106 #[.val (.int p0), .val (.int p1), .val (.int (2 : Int32)), .val (.int c0), .val (.int c1), .val (.int c2), .val (.ref ar), .val (.ref s), .val (.ref o), .val (.ref a), .val (.int (Nat.toInt32 (Road.dec p1).length))] b0_d106 rfl ?_
    refine Road.aload 108 b0_d108 rfl ?_
    refine Road.callV (B' := bLen) (a := a) 110 (argsL := []) (rest := []) "java/lang/String" 0 b0_d110 (hw _ (List.mem_of_getElem? (i := 186) rfl)) (hw _ (List.mem_of_getElem? (i := 72) rfl)) (fun vm hz => Road.notFace_sib (args := #[]) (mv (s := D.s.setVm vm) hz (hw _ (List.mem_of_getElem? (i := 74) rfl))) rfl) (hw _ (List.mem_of_getElem? (i := 74) rfl)) (hw _ (List.mem_of_getElem? (i := 73) rfl)) (hw _ (List.mem_of_getElem? (i := 3) rfl)) (hw _ (List.mem_of_getElem? (i := 75) rfl)) (by decide) T.1 (cLen l Z a0 hw n0 hEW a d _ h_236 σ_237 T cp Hc hcp) (lenOf bLen_pd rfl) rfl rfl rfl (by decide) (by decide) (ce' := 13) (sl' := 63) rfl rfl (by decide) (by decide) ?_
    rintro _ h_244 σ_245 m_246 ⟨rfl, rfl⟩
    refine Road.Go.weaken (σ' := σ_237) m_246 (Nat.le_refl _) (Nat.le_refl _) ?_
    refine Road.iloadN 113 b0_d113 rfl ?_
    refine Road.iconst 114 (1 : Int32) b0_d114 rfl ?_
    refine Road.iadd 115 b0_d115 ?_
    refine Road.iload 116 b0_d116 rfl ?_
    refine Road.iadd 118 b0_d118 ?_
    refine Road.icmp_eq 119 124 b0_d119 rfl (fun hc119 => ?_) (fun q => absurd q (by rw [Decidable.not_not, List.length_append, ← Road.add32n]; rfl))
    refine Road.iloadN 124 b0_d124 rfl ?_
    refine Road.if_le 125 140 b0_d125 rfl (fun q => absurd q (by decide)) (fun hc125 => ?_)
    refine Road.aload 128 b0_d128 rfl ?_
    refine Road.iconst 130 (0 : Int32) b0_d130 rfl ?_
    refine Road.callV (B' := bChA) (a := a) 131 (argsL := [(.int (0 : Int32))]) (rest := []) "java/lang/String" 0 b0_d131 (hw _ (List.mem_of_getElem? (i := 187) rfl)) (hw _ (List.mem_of_getElem? (i := 188) rfl)) (fun vm hz => Road.notFace_sib (args := #[]) (mv (s := D.s.setVm vm) hz (hw _ (List.mem_of_getElem? (i := 74) rfl))) rfl) (hw _ (List.mem_of_getElem? (i := 190) rfl)) (hw _ (List.mem_of_getElem? (i := 189) rfl)) (hw _ (List.mem_of_getElem? (i := 3) rfl)) (hw _ (List.mem_of_getElem? (i := 191) rfl)) (by decide) T.1 (cChA l Z a0 hw n0 hEW a d _ (0 : Int32) 0 h_236 σ_237 T rfl (by simp) cp Hc hcp fm hfm Hf) (lenOf bChA_pd rfl) rfl rfl rfl (by decide) (by decide) (ce' := 13) (sl' := 63) rfl rfl (by decide) (by decide) ?_
    rintro _ h_248 σ_249 m_250 ⟨rfl, rfl⟩
    refine Road.Go.weaken (σ' := σ_237) m_250 (Nat.le_refl _) (Nat.le_refl _) ?_
    refine Road.nameI ?_
    intro z_252 hz_252
    rw [show z_252 = c0 from by rw [hz_252]; rfl]
    refine Road.iloadN 134 b0_d134 rfl ?_
    refine Road.icmp_eq 135 140 b0_d135 rfl (fun hc135 => ?_) (fun q => absurd q (by simp))
    refine Road.iloadN 140 b0_d140 rfl ?_
    refine Road.iconst 141 (1 : Int32) b0_d141 rfl ?_
    refine Road.icmp_le 142 158 b0_d142 rfl (fun q => absurd q (by decide)) (fun hc142 => ?_)
    refine Road.aload 145 b0_d145 rfl ?_
    refine Road.iconst 147 (1 : Int32) b0_d147 rfl ?_
    refine Road.callV (B' := bChA) (a := a) 148 (argsL := [(.int (1 : Int32))]) (rest := []) "java/lang/String" 0 b0_d148 (hw _ (List.mem_of_getElem? (i := 187) rfl)) (hw _ (List.mem_of_getElem? (i := 188) rfl)) (fun vm hz => Road.notFace_sib (args := #[]) (mv (s := D.s.setVm vm) hz (hw _ (List.mem_of_getElem? (i := 74) rfl))) rfl) (hw _ (List.mem_of_getElem? (i := 190) rfl)) (hw _ (List.mem_of_getElem? (i := 189) rfl)) (hw _ (List.mem_of_getElem? (i := 3) rfl)) (hw _ (List.mem_of_getElem? (i := 191) rfl)) (by decide) T.1 (cChA l Z a0 hw n0 hEW a d _ (1 : Int32) 1 h_236 σ_237 T rfl (by simp) cp Hc hcp fm hfm Hf) (lenOf bChA_pd rfl) rfl rfl rfl (by decide) (by decide) (ce' := 13) (sl' := 63) rfl rfl (by decide) (by decide) ?_
    rintro _ h_253 σ_254 m_255 ⟨rfl, rfl⟩
    refine Road.Go.weaken (σ' := σ_237) m_255 (Nat.le_refl _) (Nat.le_refl _) ?_
    refine Road.nameI ?_
    intro z_257 hz_257
    rw [show z_257 = c1 from by rw [hz_257]; rfl]
    refine Road.iload 151 b0_d151 rfl ?_
    refine Road.icmp_eq 153 158 b0_d153 rfl (fun hc153 => ?_) (fun q => absurd q (by simp))
    refine Road.iloadN 158 b0_d158 rfl ?_
    refine Road.iconst 159 (2 : Int32) b0_d159 rfl ?_
    refine Road.icmp_le 160 176 b0_d160 rfl (fun hc160 => ?_) (fun q => absurd q (by decide))
    refine Road.aload 176 b0_d176 rfl ?_
    refine Road.iloadN 178 b0_d178 rfl ?_
    refine Road.callV (B' := bChA) (a := a) 179 (argsL := [(.int (2 : Int32))]) (rest := []) "java/lang/String" 0 b0_d179 (hw _ (List.mem_of_getElem? (i := 187) rfl)) (hw _ (List.mem_of_getElem? (i := 188) rfl)) (fun vm hz => Road.notFace_sib (args := #[]) (mv (s := D.s.setVm vm) hz (hw _ (List.mem_of_getElem? (i := 74) rfl))) rfl) (hw _ (List.mem_of_getElem? (i := 190) rfl)) (hw _ (List.mem_of_getElem? (i := 189) rfl)) (hw _ (List.mem_of_getElem? (i := 3) rfl)) (hw _ (List.mem_of_getElem? (i := 191) rfl)) (by decide) T.1 (cChA l Z a0 hw n0 hEW a d _ (2 : Int32) 2 h_236 σ_237 T rfl (by simp) cp Hc hcp fm hfm Hf) (lenOf bChA_pd rfl) rfl rfl rfl (by decide) (by decide) (ce' := 13) (sl' := 63) rfl rfl (by decide) (by decide) ?_
    rintro _ h_258 σ_259 m_260 ⟨rfl, rfl⟩
    refine Road.Go.weaken (σ' := σ_237) m_260 (Nat.le_refl _) (Nat.le_refl _) ?_
    refine Road.nameI ?_
    intro z_262 hz_262
    rw [show z_262 = (58 : Int32) from by rw [hz_262]; rfl]
    refine Road.bipush 182 (58 : Int32) b0_d182 rfl ?_
    refine Road.icmp_eq 184 189 b0_d184 rfl (fun hc184 => ?_) (fun q => absurd q (by decide))
    refine Road.aload 189 b0_d189 rfl ?_
    refine Road.iloadN 191 b0_d191 rfl ?_
    refine Road.iloadN 192 b0_d192 rfl ?_
    refine Road.iload 193 b0_d193 rfl ?_
    refine Road.iconst 195 (0 : Int32) b0_d195 rfl ?_
    refine Road.callS (B' := bDok) 196 (argsL := [(.ref a), (.int (2 : Int32)), (.int p1), (.int (Nat.toInt32 (Road.dec p1).length)), (.int (0 : Int32))]) (rest := []) 0 b0_d196 (hw _ (List.mem_of_getElem? (i := 209) rfl)) (hw _ (List.mem_of_getElem? (i := 210) rfl)) (hw _ (List.mem_of_getElem? (i := 175) rfl)) (hw _ (List.mem_of_getElem? (i := 211) rfl)) (by decide) (cDok l Z a0 hw n0 hEW a d [c0, c1, 58] 2 p1 0 h_236 σ_237 T rfl (by decide) (by decide) cp Hc hcp fm hfm Hf) (lenOf bDok_pd rfl) rfl rfl rfl (by decide) (by decide) (ce' := 14) (sl' := 73) rfl rfl (by decide) (by decide) ?_
    rintro _ h_263 σ_264 m_265 ⟨rfl, K_266⟩
    replace T := T.keep K_266 nin0 nin0
    replace s_203 := m_265 _ s_203
    replace s_216 := m_265 _ s_216
    replace s_229 := m_265 _ s_229
    refine Road.if_eq 199 341 b0_d199 rfl (fun q => absurd q (by decide)) (fun hc199 => ?_)
    refine Road.aload 202 b0_d202 rfl ?_
    refine Road.iloadN 204 b0_d204 rfl ?_
    refine Road.iloadN 205 b0_d205 rfl ?_
    refine Road.iload 206 b0_d206 rfl ?_
    refine Road.iconst 208 (1 : Int32) b0_d208 rfl ?_
    refine Road.callS (B' := bDok) 209 (argsL := [(.ref a), (.int (2 : Int32)), (.int p1), (.int (Nat.toInt32 (Road.dec p1).length)), (.int (1 : Int32))]) (rest := []) 0 b0_d209 (hw _ (List.mem_of_getElem? (i := 209) rfl)) (hw _ (List.mem_of_getElem? (i := 210) rfl)) (hw _ (List.mem_of_getElem? (i := 175) rfl)) (hw _ (List.mem_of_getElem? (i := 211) rfl)) (by decide) (cDok l Z a0 hw n0 hEW a d [c0, c1, 58] 2 p1 1 h_263 σ_264 T rfl (by decide) (by decide) cp Hc hcp fm hfm Hf) (lenOf bDok_pd rfl) rfl rfl rfl (by decide) (by decide) (ce' := 15) (sl' := 83) rfl rfl (by decide) (by decide) ?_
    rintro _ h_267 σ_268 m_269 ⟨rfl, K_270⟩
    replace T := T.keep K_270 nin0 nin0
    replace s_203 := m_269 _ s_203
    replace s_216 := m_269 _ s_216
    replace s_229 := m_269 _ s_229
    refine Road.if_eq 212 341 b0_d212 rfl (fun q => absurd q (by decide)) (fun hc212 => ?_)
    refine Road.aload 215 b0_d215 rfl ?_
    refine Road.iloadN 217 b0_d217 rfl ?_
    refine Road.iloadN 218 b0_d218 rfl ?_
    refine Road.iload 219 b0_d219 rfl ?_
    refine Road.iconst 221 (2 : Int32) b0_d221 rfl ?_
    refine Road.callS (B' := bDok) 222 (argsL := [(.ref a), (.int (2 : Int32)), (.int p1), (.int (Nat.toInt32 (Road.dec p1).length)), (.int (2 : Int32))]) (rest := []) 0 b0_d222 (hw _ (List.mem_of_getElem? (i := 209) rfl)) (hw _ (List.mem_of_getElem? (i := 210) rfl)) (hw _ (List.mem_of_getElem? (i := 175) rfl)) (hw _ (List.mem_of_getElem? (i := 211) rfl)) (by decide) (cDok l Z a0 hw n0 hEW a d [c0, c1, 58] 2 p1 2 h_267 σ_268 T rfl (by decide) (by decide) cp Hc hcp fm hfm Hf) (lenOf bDok_pd rfl) rfl rfl rfl (by decide) (by decide) (ce' := 16) (sl' := 93) rfl rfl (by decide) (by decide) ?_
    rintro _ h_271 σ_272 m_273 ⟨rfl, K_274⟩
    replace T := T.keep K_274 nin0 nin0
    replace s_203 := m_273 _ s_203
    replace s_216 := m_273 _ s_216
    replace s_229 := m_273 _ s_229
    refine Road.if_eq 225 341 b0_d225 rfl (fun q => absurd q (by decide)) (fun hc225 => ?_)
    refine Road.aload 228 b0_d228 rfl ?_
    refine Road.iloadN 230 b0_d230 rfl ?_
    refine Road.iloadN 231 b0_d231 rfl ?_
    refine Road.iload 232 b0_d232 rfl ?_
    refine Road.iconst 234 (3 : Int32) b0_d234 rfl ?_
    refine Road.callS (B' := bDok) 235 (argsL := [(.ref a), (.int (2 : Int32)), (.int p1), (.int (Nat.toInt32 (Road.dec p1).length)), (.int (3 : Int32))]) (rest := []) 0 b0_d235 (hw _ (List.mem_of_getElem? (i := 209) rfl)) (hw _ (List.mem_of_getElem? (i := 210) rfl)) (hw _ (List.mem_of_getElem? (i := 175) rfl)) (hw _ (List.mem_of_getElem? (i := 211) rfl)) (by decide) (cDok l Z a0 hw n0 hEW a d [c0, c1, 58] 2 p1 3 h_271 σ_272 T rfl (by decide) (by decide) cp Hc hcp fm hfm Hf) (lenOf bDok_pd rfl) rfl rfl rfl (by decide) (by decide) (ce' := 17) (sl' := 103) rfl rfl (by decide) (by decide) ?_
    rintro _ h_275 σ_276 m_277 ⟨rfl, K_278⟩
    replace T := T.keep K_278 nin0 nin0
    replace s_203 := m_277 _ s_203
    replace s_216 := m_277 _ s_216
    replace s_229 := m_277 _ s_229
    refine Road.if_eq 238 341 b0_d238 rfl (fun q => absurd q (by decide)) (fun hc238 => ?_)
    refine Road.aload 241 b0_d241 rfl ?_
    refine Road.iloadN 243 b0_d243 rfl ?_
    refine Road.iloadN 244 b0_d244 rfl ?_
    refine Road.iload 245 b0_d245 rfl ?_
    refine Road.iconst 247 (4 : Int32) b0_d247 rfl ?_
    refine Road.callS (B' := bDok) 248 (argsL := [(.ref a), (.int (2 : Int32)), (.int p1), (.int (Nat.toInt32 (Road.dec p1).length)), (.int (4 : Int32))]) (rest := []) 0 b0_d248 (hw _ (List.mem_of_getElem? (i := 209) rfl)) (hw _ (List.mem_of_getElem? (i := 210) rfl)) (hw _ (List.mem_of_getElem? (i := 175) rfl)) (hw _ (List.mem_of_getElem? (i := 211) rfl)) (by decide) (cDok l Z a0 hw n0 hEW a d [c0, c1, 58] 2 p1 4 h_275 σ_276 T rfl (by decide) (by decide) cp Hc hcp fm hfm Hf) (lenOf bDok_pd rfl) rfl rfl rfl (by decide) (by decide) (ce' := 18) (sl' := 113) rfl rfl (by decide) (by decide) ?_
    rintro _ h_279 σ_280 m_281 ⟨rfl, K_282⟩
    replace T := T.keep K_282 nin0 nin0
    replace s_203 := m_281 _ s_203
    replace s_216 := m_281 _ s_216
    replace s_229 := m_281 _ s_229
    refine Road.if_eq 251 341 b0_d251 rfl (fun q => absurd q (by decide)) (fun hc251 => ?_)
    refine Road.aload 254 b0_d254 rfl ?_
    refine Road.iloadN 256 b0_d256 rfl ?_
    refine Road.iloadN 257 b0_d257 rfl ?_
    refine Road.iload 258 b0_d258 rfl ?_
    refine Road.iconst 260 (5 : Int32) b0_d260 rfl ?_
    refine Road.callS (B' := bDok) 261 (argsL := [(.ref a), (.int (2 : Int32)), (.int p1), (.int (Nat.toInt32 (Road.dec p1).length)), (.int (5 : Int32))]) (rest := []) 0 b0_d261 (hw _ (List.mem_of_getElem? (i := 209) rfl)) (hw _ (List.mem_of_getElem? (i := 210) rfl)) (hw _ (List.mem_of_getElem? (i := 175) rfl)) (hw _ (List.mem_of_getElem? (i := 211) rfl)) (by decide) (cDok l Z a0 hw n0 hEW a d [c0, c1, 58] 2 p1 5 h_279 σ_280 T rfl (by decide) (by decide) cp Hc hcp fm hfm Hf) (lenOf bDok_pd rfl) rfl rfl rfl (by decide) (by decide) (ce' := 19) (sl' := 123) rfl rfl (by decide) (by decide) ?_
    rintro _ h_283 σ_284 m_285 ⟨rfl, K_286⟩
    replace T := T.keep K_286 nin0 nin0
    replace s_203 := m_285 _ s_203
    replace s_216 := m_285 _ s_216
    replace s_229 := m_285 _ s_229
    refine Road.if_eq 264 341 b0_d264 rfl (fun q => absurd q (by decide)) (fun hc264 => ?_)
    refine Road.aload 267 b0_d267 rfl ?_
    refine Road.iloadN 269 b0_d269 rfl ?_
    refine Road.iloadN 270 b0_d270 rfl ?_
    refine Road.iload 271 b0_d271 rfl ?_
    refine Road.bipush 273 (6 : Int32) b0_d273 rfl ?_
    refine Road.callS (B' := bDok) 275 (argsL := [(.ref a), (.int (2 : Int32)), (.int p1), (.int (Nat.toInt32 (Road.dec p1).length)), (.int (6 : Int32))]) (rest := []) 0 b0_d275 (hw _ (List.mem_of_getElem? (i := 209) rfl)) (hw _ (List.mem_of_getElem? (i := 210) rfl)) (hw _ (List.mem_of_getElem? (i := 175) rfl)) (hw _ (List.mem_of_getElem? (i := 211) rfl)) (by decide) (cDok l Z a0 hw n0 hEW a d [c0, c1, 58] 2 p1 6 h_283 σ_284 T rfl (by decide) (by decide) cp Hc hcp fm hfm Hf) (lenOf bDok_pd rfl) rfl rfl rfl (by decide) (by decide) (ce' := 20) (sl' := 133) rfl rfl (by decide) (by decide) ?_
    rintro _ h_287 σ_288 m_289 ⟨rfl, K_290⟩
    replace T := T.keep K_290 nin0 nin0
    replace s_203 := m_289 _ s_203
    replace s_216 := m_289 _ s_216
    replace s_229 := m_289 _ s_229
    refine Road.if_eq 278 341 b0_d278 rfl (fun q => absurd q (by decide)) (fun hc278 => ?_)
    refine Road.aload 281 b0_d281 rfl ?_
    refine Road.iloadN 283 b0_d283 rfl ?_
    refine Road.iloadN 284 b0_d284 rfl ?_
    refine Road.iload 285 b0_d285 rfl ?_
    refine Road.bipush 287 (7 : Int32) b0_d287 rfl ?_
    refine Road.callS (B' := bDok) 289 (argsL := [(.ref a), (.int (2 : Int32)), (.int p1), (.int (Nat.toInt32 (Road.dec p1).length)), (.int (7 : Int32))]) (rest := []) 0 b0_d289 (hw _ (List.mem_of_getElem? (i := 209) rfl)) (hw _ (List.mem_of_getElem? (i := 210) rfl)) (hw _ (List.mem_of_getElem? (i := 175) rfl)) (hw _ (List.mem_of_getElem? (i := 211) rfl)) (by decide) (cDok l Z a0 hw n0 hEW a d [c0, c1, 58] 2 p1 7 h_287 σ_288 T rfl (by decide) (by decide) cp Hc hcp fm hfm Hf) (lenOf bDok_pd rfl) rfl rfl rfl (by decide) (by decide) (ce' := 21) (sl' := 143) rfl rfl (by decide) (by decide) ?_
    rintro _ h_291 σ_292 m_293 ⟨rfl, K_294⟩
    replace T := T.keep K_294 nin0 nin0
    replace s_203 := m_293 _ s_203
    replace s_216 := m_293 _ s_216
    replace s_229 := m_293 _ s_229
    refine Road.if_eq 292 341 b0_d292 rfl (fun q => absurd q (by decide)) (fun hc292 => ?_)
    refine Road.aload 295 b0_d295 rfl ?_
    refine Road.iloadN 297 b0_d297 rfl ?_
    refine Road.iloadN 298 b0_d298 rfl ?_
    refine Road.iload 299 b0_d299 rfl ?_
    refine Road.bipush 301 (8 : Int32) b0_d301 rfl ?_
    refine Road.callS (B' := bDok) 303 (argsL := [(.ref a), (.int (2 : Int32)), (.int p1), (.int (Nat.toInt32 (Road.dec p1).length)), (.int (8 : Int32))]) (rest := []) 0 b0_d303 (hw _ (List.mem_of_getElem? (i := 209) rfl)) (hw _ (List.mem_of_getElem? (i := 210) rfl)) (hw _ (List.mem_of_getElem? (i := 175) rfl)) (hw _ (List.mem_of_getElem? (i := 211) rfl)) (by decide) (cDok l Z a0 hw n0 hEW a d [c0, c1, 58] 2 p1 8 h_291 σ_292 T rfl (by decide) (by decide) cp Hc hcp fm hfm Hf) (lenOf bDok_pd rfl) rfl rfl rfl (by decide) (by decide) (ce' := 22) (sl' := 153) rfl rfl (by decide) (by decide) ?_
    rintro _ h_295 σ_296 m_297 ⟨rfl, K_298⟩
    replace T := T.keep K_298 nin0 nin0
    replace s_203 := m_297 _ s_203
    replace s_216 := m_297 _ s_216
    replace s_229 := m_297 _ s_229
    refine Road.if_eq 306 341 b0_d306 rfl (fun q => absurd q (by decide)) (fun hc306 => ?_)
    refine Road.aload 309 b0_d309 rfl ?_
    refine Road.iloadN 311 b0_d311 rfl ?_
    refine Road.iloadN 312 b0_d312 rfl ?_
    refine Road.iload 313 b0_d313 rfl ?_
    refine Road.bipush 315 (9 : Int32) b0_d315 rfl ?_
    refine Road.callS (B' := bDok) 317 (argsL := [(.ref a), (.int (2 : Int32)), (.int p1), (.int (Nat.toInt32 (Road.dec p1).length)), (.int (9 : Int32))]) (rest := []) 0 b0_d317 (hw _ (List.mem_of_getElem? (i := 209) rfl)) (hw _ (List.mem_of_getElem? (i := 210) rfl)) (hw _ (List.mem_of_getElem? (i := 175) rfl)) (hw _ (List.mem_of_getElem? (i := 211) rfl)) (by decide) (cDok l Z a0 hw n0 hEW a d [c0, c1, 58] 2 p1 9 h_295 σ_296 T rfl (by decide) (by decide) cp Hc hcp fm hfm Hf) (lenOf bDok_pd rfl) rfl rfl rfl (by decide) (by decide) (ce' := 23) (sl' := 163) rfl rfl (by decide) (by decide) ?_
    rintro _ h_299 σ_300 m_301 ⟨rfl, K_302⟩
    replace T := T.keep K_302 nin0 nin0
    replace s_203 := m_301 _ s_203
    replace s_216 := m_301 _ s_216
    replace s_229 := m_301 _ s_229
    refine Road.if_eq 320 341 b0_d320 rfl (fun q => absurd q (by decide)) (fun hc320 => ?_)
    refine Road.aload 323 b0_d323 rfl ?_
    refine Road.iloadN 325 b0_d325 rfl ?_
    refine Road.iloadN 326 b0_d326 rfl ?_
    refine Road.iload 327 b0_d327 rfl ?_
    refine Road.bipush 329 (10 : Int32) b0_d329 rfl ?_
    refine Road.callS (B' := bDok) 331 (argsL := [(.ref a), (.int (2 : Int32)), (.int p1), (.int (Nat.toInt32 (Road.dec p1).length)), (.int (10 : Int32))]) (rest := []) 0 b0_d331 (hw _ (List.mem_of_getElem? (i := 209) rfl)) (hw _ (List.mem_of_getElem? (i := 210) rfl)) (hw _ (List.mem_of_getElem? (i := 175) rfl)) (hw _ (List.mem_of_getElem? (i := 211) rfl)) (by decide) (cDok l Z a0 hw n0 hEW a d [c0, c1, 58] 2 p1 10 h_299 σ_300 T rfl (by decide) (by decide) cp Hc hcp fm hfm Hf) (lenOf bDok_pd rfl) rfl rfl rfl (by decide) (by decide) (ce' := 24) (sl' := 173) rfl rfl (by decide) (by decide) ?_
    rintro _ h_303 σ_304 m_305 ⟨rfl, K_306⟩
    replace T := T.keep K_306 nin0 nin0
    replace s_203 := m_305 _ s_203
    replace s_216 := m_305 _ s_216
    replace s_229 := m_305 _ s_229
    refine Road.if_eq 334 341 b0_d334 rfl (fun q => absurd q (by decide)) (fun hc334 => ?_)
    refine Road.iconst 337 (1 : Int32) b0_d337 rfl ?_
    refine Road.goto 338 342 b0_d338 rfl ?_
    exact Road.iret 342 1 b0_d342 (t := .boolean) rfl (by simp) rfl (by decide) (by decide) (fun σ' m => rfl)
  · skip
    refine Road.iloadN 36 b0_d36 rfl ?_
    refine Road.newarray 37 .char 3 3 b0_d37 rfl (hw _ (List.mem_of_getElem? (i := 0) rfl)) (by decide) (by decide) (by decide) (ce' := 1) (sl' := 3) rfl rfl (by decide) (by decide) ?_
    intro ar h_307 σ_308 g_309 K_310 lt_311 m_312 s_313 Ar
    refine Road.astore 39 #[.val (.int p0), .val (.int p1), .val (.int (3 : Int32)), .val (.int c0), .val (.int c1), .val (.int c2), .val (.ref ar), .unset, .unset, .unset, .unset] b0_d39 rfl ?_
    refine Road.iloadN 41 b0_d41 rfl ?_
    refine Road.if_le 42 50 b0_d42 rfl (fun q => absurd q (by decide)) (fun hc42 => ?_)
    refine Road.aload 45 b0_d45 rfl ?_
    refine Road.iconst 47 (0 : Int32) b0_d47 rfl ?_
    refine Road.iloadN 48 b0_d48 rfl ?_
    refine Road.castore 49 0 c0 b0_d49 Ar (by decide) (by simp) (Road.nar_lat lat0) s_313 ?_
    intro h_314 K_315 A_316
    replace Ar := A_316
    refine Road.iloadN 50 b0_d50 rfl ?_
    refine Road.iconst 51 (1 : Int32) b0_d51 rfl ?_
    refine Road.icmp_le 52 61 b0_d52 rfl (fun q => absurd q (by decide)) (fun hc52 => ?_)
    refine Road.aload 55 b0_d55 rfl ?_
    refine Road.iconst 57 (1 : Int32) b0_d57 rfl ?_
    refine Road.iload 58 b0_d58 rfl ?_
    refine Road.castore 60 1 c1 b0_d60 Ar (by decide) (by simp) (Road.nar_lat lat1) s_313 ?_
    intro h_317 K_318 A_319
    replace Ar := A_319
    refine Road.iloadN 61 b0_d61 rfl ?_
    refine Road.iconst 62 (2 : Int32) b0_d62 rfl ?_
    refine Road.icmp_le 63 72 b0_d63 rfl (fun q => absurd q (by decide)) (fun hc63 => ?_)
    refine Road.aload 66 b0_d66 rfl ?_
    refine Road.iconst 68 (2 : Int32) b0_d68 rfl ?_
    refine Road.iload 69 b0_d69 rfl ?_
    refine Road.castore 71 2 c2 b0_d71 Ar (by decide) (by simp) (Road.nar_lat lat2) s_313 ?_
    intro h_320 K_321 A_322
    replace Ar := A_322
    refine Road.new 72 "java/lang/String" b0_d72 (hw _ (List.mem_of_getElem? (i := 1) rfl)) (hw _ (List.mem_of_getElem? (i := 2) rfl)) (hw _ (List.mem_of_getElem? (i := 3) rfl)) (ce' := 2) (sl' := 7) rfl rfl (by decide) (by decide) ?_
    intro s h_323 σ_324 g_325 K_326 lt_327 m_328 s_329 Es D_330 M_331
    have ne_ar_s : ar ≠ s := Nat.ne_of_lt (Nat.lt_of_lt_of_le Ar.lt (Nat.le_of_eq g_325.symm))
    replace Ar := Ar.keep K_326 nin0
    replace s_313 := m_328 _ s_313
    have Cs := D_330 (Or.inr (hw _ (List.mem_of_getElem? (i := 17) rfl))) (ty := .byte) (by decide)
    have Vs := D_330 (Or.inr (hw _ (List.mem_of_getElem? (i := 16) rfl))) (ty := (.array .byte)) (by decide)
    refine Road.dup 75 b0_d75 ?_
    refine Road.aload 76 b0_d76 rfl ?_
    replace Ar : Road.Ary Z h_323 ar .char (([c0, c1, c2] : List Int32).map .int) := Ar
    refine Road.callI (B' := bStr1) (a := s) 78 (argsL := [(.ref ar)]) (rest := [(.ref s)]) 1 b0_d78 (hw _ (List.mem_of_getElem? (i := 4) rfl)) (hw _ (List.mem_of_getElem? (i := 5) rfl)) (hw _ (List.mem_of_getElem? (i := 3) rfl)) (hw _ (List.mem_of_getElem? (i := 6) rfl)) rfl rfl (by decide) (cStr1 l Z a0 hw n0 hEW s ar [c0, c1, c2] h_323 σ_324 Es Cs Vs Ar (by simp) (by intro c hc; simp only [List.mem_cons, List.not_mem_nil, or_false] at hc; rcases hc with rfl | rfl | rfl <;> assumption) s_329 cp Hc hcp) (lenOf bStr1_pd rfl) rfl rfl rfl (by decide) (by decide) (ce' := 6) (sl' := 15) rfl rfl (by decide) (by decide) ?_
    rintro _ h_332 σ_333 m_334 ⟨rfl, K_335, ds, Ss, Ns⟩
    replace s_313 := m_334 _ s_313
    replace s_329 := m_334 _ s_329
    refine Road.astore 81 #[.val (.int p0), .val (.int p1), .val (.int (3 : Int32)), .val (.int c0), .val (.int c1), .val (.int c2), .val (.ref ar), .val (.ref s), .unset, .unset, .unset] b0_d81 rfl ?_
    refine Road.new 83 "com/example/gridtally/gridtally/engine/Origin" b0_d83 (hw _ (List.mem_of_getElem? (i := 22) rfl)) (hw _ (List.mem_of_getElem? (i := 23) rfl)) (hw _ (List.mem_of_getElem? (i := 24) rfl)) (ce' := 7) (sl' := 17) rfl rfl (by decide) (by decide) ?_
    intro o h_336 σ_337 g_338 K_339 lt_340 m_341 s_342 Eo D_343 M_344
    have ne_s_o : s ≠ o := Nat.ne_of_lt (Nat.lt_of_lt_of_le Ss.lt (Nat.le_of_eq g_338.symm))
    have ne_ds_o : ds ≠ o := Nat.ne_of_lt (Nat.lt_of_lt_of_le Ss.ltb (Nat.le_of_eq g_338.symm))
    replace Ss := Ss.keep K_339 nin0 nin0
    replace s_313 := m_341 _ s_313
    replace s_329 := m_341 _ s_329
    have F1 := D_343 (Or.inr (hw _ (List.mem_of_getElem? (i := 35) rfl))) (ty := (.object "java/lang/String")) (by decide)
    have F2 := D_343 (Or.inr (hw _ (List.mem_of_getElem? (i := 37) rfl))) (ty := .int) (by decide)
    refine Road.dup 86 b0_d86 ?_
    refine Road.aload 87 b0_d87 rfl ?_
    refine Road.iloadN 89 b0_d89 rfl ?_
    refine Road.callI (B' := bOri) (a := o) 90 (argsL := [(.ref s), (.int p1)]) (rest := [(.ref o)]) 1 b0_d90 (hw _ (List.mem_of_getElem? (i := 25) rfl)) (hw _ (List.mem_of_getElem? (i := 26) rfl)) (hw _ (List.mem_of_getElem? (i := 24) rfl)) (hw _ (List.mem_of_getElem? (i := 27) rfl)) rfl rfl (by decide) (cOri l Z a0 hw n0 hEW o (.ref s) rfl p1 h_336 σ_337 Eo F1 F2 s_342) (lenOf bOri_pd rfl) rfl rfl rfl (by decide) (by decide) (ce' := 7) (sl' := 17) rfl rfl (by decide) (by decide) ?_
    rintro _ h_345 σ_346 m_347 ⟨rfl, K_348, F1, F2⟩
    replace Ss := Ss.keep K_348 (ninS ne_s_o nin0) (ninS ne_ds_o nin0)
    replace s_313 := m_347 _ s_313
    replace s_329 := m_347 _ s_329
    replace s_342 := m_347 _ s_342
    replace Eo := Eo.keep K_348
    refine Road.astore 93 #[.val (.int p0), .val (.int p1), .val (.int (3 : Int32)), .val (.int c0), .val (.int c1), .val (.int c2), .val (.ref ar), .val (.ref s), .val (.ref o), .unset, .unset] b0_d93 rfl ?_
    refine Road.aload 95 b0_d95 rfl ?_
    refine Road.callV (B' := bOts) (a := o) 97 (argsL := []) (rest := []) "com/example/gridtally/gridtally/engine/Origin" 0 b0_d97 (hw _ (List.mem_of_getElem? (i := 38) rfl)) (hw _ (List.mem_of_getElem? (i := 39) rfl)) (fun vm hz => Road.notFace_sib (args := #[]) (mv (s := D.s.setVm vm) hz (hw _ (List.mem_of_getElem? (i := 41) rfl))) rfl) (hw _ (List.mem_of_getElem? (i := 41) rfl)) (hw _ (List.mem_of_getElem? (i := 40) rfl)) (hw _ (List.mem_of_getElem? (i := 24) rfl)) (hw _ (List.mem_of_getElem? (i := 42) rfl)) (by decide) Eo (cOts l Z a0 hw n0 hEW o s ds [c0, c1, c2] p1 h_345 σ_346 F1 F2 Ss (by simp) cp Hc hcp o1 o2 HO AO HT AT) (lenOf bOts_pd rfl) rfl rfl rfl (by decide) (by decide) (ce' := 13) (sl' := 64) rfl rfl (by decide) (by decide) ?_
    rintro _ h_349 σ_350 m_351 ⟨a, d, rfl, K_352, T⟩
    replace Ss := Ss.keep K_352 nin0 nin0
    replace s_313 := m_351 _ s_313
    replace s_329 := m_351 _ s_329
    replace s_342 := m_351 _ s_342
    replace T : Road.Str Z h_349 a d ([c0, c1, c2, 58] ++ Road.dec p1) := T
    refine Road.astore 100 #[.val (.int p0), .val (.int p1), .val (.int (3 : Int32)), .val (.int c0), .val (.int c1), .val (.int c2), .val (.ref ar), .val (.ref s), .val (.ref o), .val (.ref a), .unset] b0_d100 rfl ?_
    refine Road.iloadN 102 b0_d102 rfl ?_
    refine Road.callS (B' := bDcl) 103 (argsL := [(.int p1)]) (rest := []) 0 b0_d103 (hw _ (List.mem_of_getElem? (i := 173) rfl)) (hw _ (List.mem_of_getElem? (i := 174) rfl)) (hw _ (List.mem_of_getElem? (i := 175) rfl)) (hw _ (List.mem_of_getElem? (i := 176) rfl)) (by decide) (cDcl l Z a0 hw n0 hEW p1 h_349 σ_350) (lenOf bDcl_pd rfl) rfl rfl rfl (by decide) (by decide) (ce' := 13) (sl' := 64) rfl rfl (by decide) (by decide) ?_
    rintro _ h_353 σ_354 m_355 ⟨rfl, rfl⟩
    refine Road.Go.weaken (σ' := σ_350) m_355 (Nat.le_refl _) (Nat.le_refl _) ?_
    refine Road.istore 106 #[.val (.int p0), .val (.int p1), .val (.int (3 : Int32)), .val (.int c0), .val (.int c1), .val (.int c2), .val (.ref ar), .val (.ref s), .val (.ref o), .val (.ref a), .val (.int (Nat.toInt32 (Road.dec p1).length))] b0_d106 rfl ?_
    refine Road.aload 108 b0_d108 rfl ?_
    refine Road.callV (B' := bLen) (a := a) 110 (argsL := []) (rest := []) "java/lang/String" 0 b0_d110 (hw _ (List.mem_of_getElem? (i := 186) rfl)) (hw _ (List.mem_of_getElem? (i := 72) rfl)) (fun vm hz => Road.notFace_sib (args := #[]) (mv (s := D.s.setVm vm) hz (hw _ (List.mem_of_getElem? (i := 74) rfl))) rfl) (hw _ (List.mem_of_getElem? (i := 74) rfl)) (hw _ (List.mem_of_getElem? (i := 73) rfl)) (hw _ (List.mem_of_getElem? (i := 3) rfl)) (hw _ (List.mem_of_getElem? (i := 75) rfl)) (by decide) T.1 (cLen l Z a0 hw n0 hEW a d _ h_349 σ_350 T cp Hc hcp) (lenOf bLen_pd rfl) rfl rfl rfl (by decide) (by decide) (ce' := 13) (sl' := 64) rfl rfl (by decide) (by decide) ?_
    rintro _ h_357 σ_358 m_359 ⟨rfl, rfl⟩
    refine Road.Go.weaken (σ' := σ_350) m_359 (Nat.le_refl _) (Nat.le_refl _) ?_
    refine Road.iloadN 113 b0_d113 rfl ?_
    refine Road.iconst 114 (1 : Int32) b0_d114 rfl ?_
    refine Road.iadd 115 b0_d115 ?_
    refine Road.iload 116 b0_d116 rfl ?_
    refine Road.iadd 118 b0_d118 ?_
    refine Road.icmp_eq 119 124 b0_d119 rfl (fun hc119 => ?_) (fun q => absurd q (by rw [Decidable.not_not, List.length_append, ← Road.add32n]; rfl))
    refine Road.iloadN 124 b0_d124 rfl ?_
    refine Road.if_le 125 140 b0_d125 rfl (fun q => absurd q (by decide)) (fun hc125 => ?_)
    refine Road.aload 128 b0_d128 rfl ?_
    refine Road.iconst 130 (0 : Int32) b0_d130 rfl ?_
    refine Road.callV (B' := bChA) (a := a) 131 (argsL := [(.int (0 : Int32))]) (rest := []) "java/lang/String" 0 b0_d131 (hw _ (List.mem_of_getElem? (i := 187) rfl)) (hw _ (List.mem_of_getElem? (i := 188) rfl)) (fun vm hz => Road.notFace_sib (args := #[]) (mv (s := D.s.setVm vm) hz (hw _ (List.mem_of_getElem? (i := 74) rfl))) rfl) (hw _ (List.mem_of_getElem? (i := 190) rfl)) (hw _ (List.mem_of_getElem? (i := 189) rfl)) (hw _ (List.mem_of_getElem? (i := 3) rfl)) (hw _ (List.mem_of_getElem? (i := 191) rfl)) (by decide) T.1 (cChA l Z a0 hw n0 hEW a d _ (0 : Int32) 0 h_349 σ_350 T rfl (by simp) cp Hc hcp fm hfm Hf) (lenOf bChA_pd rfl) rfl rfl rfl (by decide) (by decide) (ce' := 13) (sl' := 64) rfl rfl (by decide) (by decide) ?_
    rintro _ h_361 σ_362 m_363 ⟨rfl, rfl⟩
    refine Road.Go.weaken (σ' := σ_350) m_363 (Nat.le_refl _) (Nat.le_refl _) ?_
    refine Road.nameI ?_
    intro z_365 hz_365
    rw [show z_365 = c0 from by rw [hz_365]; rfl]
    refine Road.iloadN 134 b0_d134 rfl ?_
    refine Road.icmp_eq 135 140 b0_d135 rfl (fun hc135 => ?_) (fun q => absurd q (by simp))
    refine Road.iloadN 140 b0_d140 rfl ?_
    refine Road.iconst 141 (1 : Int32) b0_d141 rfl ?_
    refine Road.icmp_le 142 158 b0_d142 rfl (fun q => absurd q (by decide)) (fun hc142 => ?_)
    refine Road.aload 145 b0_d145 rfl ?_
    refine Road.iconst 147 (1 : Int32) b0_d147 rfl ?_
    refine Road.callV (B' := bChA) (a := a) 148 (argsL := [(.int (1 : Int32))]) (rest := []) "java/lang/String" 0 b0_d148 (hw _ (List.mem_of_getElem? (i := 187) rfl)) (hw _ (List.mem_of_getElem? (i := 188) rfl)) (fun vm hz => Road.notFace_sib (args := #[]) (mv (s := D.s.setVm vm) hz (hw _ (List.mem_of_getElem? (i := 74) rfl))) rfl) (hw _ (List.mem_of_getElem? (i := 190) rfl)) (hw _ (List.mem_of_getElem? (i := 189) rfl)) (hw _ (List.mem_of_getElem? (i := 3) rfl)) (hw _ (List.mem_of_getElem? (i := 191) rfl)) (by decide) T.1 (cChA l Z a0 hw n0 hEW a d _ (1 : Int32) 1 h_349 σ_350 T rfl (by simp) cp Hc hcp fm hfm Hf) (lenOf bChA_pd rfl) rfl rfl rfl (by decide) (by decide) (ce' := 13) (sl' := 64) rfl rfl (by decide) (by decide) ?_
    rintro _ h_366 σ_367 m_368 ⟨rfl, rfl⟩
    refine Road.Go.weaken (σ' := σ_350) m_368 (Nat.le_refl _) (Nat.le_refl _) ?_
    refine Road.nameI ?_
    intro z_370 hz_370
    rw [show z_370 = c1 from by rw [hz_370]; rfl]
    refine Road.iload 151 b0_d151 rfl ?_
    refine Road.icmp_eq 153 158 b0_d153 rfl (fun hc153 => ?_) (fun q => absurd q (by simp))
    refine Road.iloadN 158 b0_d158 rfl ?_
    refine Road.iconst 159 (2 : Int32) b0_d159 rfl ?_
    refine Road.icmp_le 160 176 b0_d160 rfl (fun q => absurd q (by decide)) (fun hc160 => ?_)
    refine Road.aload 163 b0_d163 rfl ?_
    refine Road.iconst 165 (2 : Int32) b0_d165 rfl ?_
    refine Road.callV (B' := bChA) (a := a) 166 (argsL := [(.int (2 : Int32))]) (rest := []) "java/lang/String" 0 b0_d166 (hw _ (List.mem_of_getElem? (i := 187) rfl)) (hw _ (List.mem_of_getElem? (i := 188) rfl)) (fun vm hz => Road.notFace_sib (args := #[]) (mv (s := D.s.setVm vm) hz (hw _ (List.mem_of_getElem? (i := 74) rfl))) rfl) (hw _ (List.mem_of_getElem? (i := 190) rfl)) (hw _ (List.mem_of_getElem? (i := 189) rfl)) (hw _ (List.mem_of_getElem? (i := 3) rfl)) (hw _ (List.mem_of_getElem? (i := 191) rfl)) (by decide) T.1 (cChA l Z a0 hw n0 hEW a d _ (2 : Int32) 2 h_349 σ_350 T rfl (by simp) cp Hc hcp fm hfm Hf) (lenOf bChA_pd rfl) rfl rfl rfl (by decide) (by decide) (ce' := 13) (sl' := 64) rfl rfl (by decide) (by decide) ?_
    rintro _ h_371 σ_372 m_373 ⟨rfl, rfl⟩
    refine Road.Go.weaken (σ' := σ_350) m_373 (Nat.le_refl _) (Nat.le_refl _) ?_
    refine Road.nameI ?_
    intro z_375 hz_375
    rw [show z_375 = c2 from by rw [hz_375]; rfl]
    refine Road.iload 169 b0_d169 rfl ?_
    refine Road.icmp_eq 171 176 b0_d171 rfl (fun hc171 => ?_) (fun q => absurd q (by simp))
    refine Road.aload 176 b0_d176 rfl ?_
    refine Road.iloadN 178 b0_d178 rfl ?_
    refine Road.callV (B' := bChA) (a := a) 179 (argsL := [(.int (3 : Int32))]) (rest := []) "java/lang/String" 0 b0_d179 (hw _ (List.mem_of_getElem? (i := 187) rfl)) (hw _ (List.mem_of_getElem? (i := 188) rfl)) (fun vm hz => Road.notFace_sib (args := #[]) (mv (s := D.s.setVm vm) hz (hw _ (List.mem_of_getElem? (i := 74) rfl))) rfl) (hw _ (List.mem_of_getElem? (i := 190) rfl)) (hw _ (List.mem_of_getElem? (i := 189) rfl)) (hw _ (List.mem_of_getElem? (i := 3) rfl)) (hw _ (List.mem_of_getElem? (i := 191) rfl)) (by decide) T.1 (cChA l Z a0 hw n0 hEW a d _ (3 : Int32) 3 h_349 σ_350 T rfl (by simp) cp Hc hcp fm hfm Hf) (lenOf bChA_pd rfl) rfl rfl rfl (by decide) (by decide) (ce' := 13) (sl' := 64) rfl rfl (by decide) (by decide) ?_
    rintro _ h_376 σ_377 m_378 ⟨rfl, rfl⟩
    refine Road.Go.weaken (σ' := σ_350) m_378 (Nat.le_refl _) (Nat.le_refl _) ?_
    refine Road.nameI ?_
    intro z_380 hz_380
    rw [show z_380 = (58 : Int32) from by rw [hz_380]; rfl]
    refine Road.bipush 182 (58 : Int32) b0_d182 rfl ?_
    refine Road.icmp_eq 184 189 b0_d184 rfl (fun hc184 => ?_) (fun q => absurd q (by decide))
    refine Road.aload 189 b0_d189 rfl ?_
    refine Road.iloadN 191 b0_d191 rfl ?_
    refine Road.iloadN 192 b0_d192 rfl ?_
    refine Road.iload 193 b0_d193 rfl ?_
    refine Road.iconst 195 (0 : Int32) b0_d195 rfl ?_
    refine Road.callS (B' := bDok) 196 (argsL := [(.ref a), (.int (3 : Int32)), (.int p1), (.int (Nat.toInt32 (Road.dec p1).length)), (.int (0 : Int32))]) (rest := []) 0 b0_d196 (hw _ (List.mem_of_getElem? (i := 209) rfl)) (hw _ (List.mem_of_getElem? (i := 210) rfl)) (hw _ (List.mem_of_getElem? (i := 175) rfl)) (hw _ (List.mem_of_getElem? (i := 211) rfl)) (by decide) (cDok l Z a0 hw n0 hEW a d [c0, c1, c2, 58] 3 p1 0 h_349 σ_350 T rfl (by decide) (by decide) cp Hc hcp fm hfm Hf) (lenOf bDok_pd rfl) rfl rfl rfl (by decide) (by decide) (ce' := 14) (sl' := 74) rfl rfl (by decide) (by decide) ?_
    rintro _ h_381 σ_382 m_383 ⟨rfl, K_384⟩
    replace T := T.keep K_384 nin0 nin0
    replace s_313 := m_383 _ s_313
    replace s_329 := m_383 _ s_329
    replace s_342 := m_383 _ s_342
    refine Road.if_eq 199 341 b0_d199 rfl (fun q => absurd q (by decide)) (fun hc199 => ?_)
    refine Road.aload 202 b0_d202 rfl ?_
    refine Road.iloadN 204 b0_d204 rfl ?_
    refine Road.iloadN 205 b0_d205 rfl ?_
    refine Road.iload 206 b0_d206 rfl ?_
    refine Road.iconst 208 (1 : Int32) b0_d208 rfl ?_
    refine Road.callS (B' := bDok) 209 (argsL := [(.ref a), (.int (3 : Int32)), (.int p1), (.int (Nat.toInt32 (Road.dec p1).length)), (.int (1 : Int32))]) (rest := []) 0 b0_d209 (hw _ (List.mem_of_getElem? (i := 209) rfl)) (hw _ (List.mem_of_getElem? (i := 210) rfl)) (hw _ (List.mem_of_getElem? (i := 175) rfl)) (hw _ (List.mem_of_getElem? (i := 211) rfl)) (by decide) (cDok l Z a0 hw n0 hEW a d [c0, c1, c2, 58] 3 p1 1 h_381 σ_382 T rfl (by decide) (by decide) cp Hc hcp fm hfm Hf) (lenOf bDok_pd rfl) rfl rfl rfl (by decide) (by decide) (ce' := 15) (sl' := 84) rfl rfl (by decide) (by decide) ?_
    rintro _ h_385 σ_386 m_387 ⟨rfl, K_388⟩
    replace T := T.keep K_388 nin0 nin0
    replace s_313 := m_387 _ s_313
    replace s_329 := m_387 _ s_329
    replace s_342 := m_387 _ s_342
    refine Road.if_eq 212 341 b0_d212 rfl (fun q => absurd q (by decide)) (fun hc212 => ?_)
    refine Road.aload 215 b0_d215 rfl ?_
    refine Road.iloadN 217 b0_d217 rfl ?_
    refine Road.iloadN 218 b0_d218 rfl ?_
    refine Road.iload 219 b0_d219 rfl ?_
    refine Road.iconst 221 (2 : Int32) b0_d221 rfl ?_
    refine Road.callS (B' := bDok) 222 (argsL := [(.ref a), (.int (3 : Int32)), (.int p1), (.int (Nat.toInt32 (Road.dec p1).length)), (.int (2 : Int32))]) (rest := []) 0 b0_d222 (hw _ (List.mem_of_getElem? (i := 209) rfl)) (hw _ (List.mem_of_getElem? (i := 210) rfl)) (hw _ (List.mem_of_getElem? (i := 175) rfl)) (hw _ (List.mem_of_getElem? (i := 211) rfl)) (by decide) (cDok l Z a0 hw n0 hEW a d [c0, c1, c2, 58] 3 p1 2 h_385 σ_386 T rfl (by decide) (by decide) cp Hc hcp fm hfm Hf) (lenOf bDok_pd rfl) rfl rfl rfl (by decide) (by decide) (ce' := 16) (sl' := 94) rfl rfl (by decide) (by decide) ?_
    rintro _ h_389 σ_390 m_391 ⟨rfl, K_392⟩
    replace T := T.keep K_392 nin0 nin0
    replace s_313 := m_391 _ s_313
    replace s_329 := m_391 _ s_329
    replace s_342 := m_391 _ s_342
    refine Road.if_eq 225 341 b0_d225 rfl (fun q => absurd q (by decide)) (fun hc225 => ?_)
    refine Road.aload 228 b0_d228 rfl ?_
    refine Road.iloadN 230 b0_d230 rfl ?_
    refine Road.iloadN 231 b0_d231 rfl ?_
    refine Road.iload 232 b0_d232 rfl ?_
    refine Road.iconst 234 (3 : Int32) b0_d234 rfl ?_
    refine Road.callS (B' := bDok) 235 (argsL := [(.ref a), (.int (3 : Int32)), (.int p1), (.int (Nat.toInt32 (Road.dec p1).length)), (.int (3 : Int32))]) (rest := []) 0 b0_d235 (hw _ (List.mem_of_getElem? (i := 209) rfl)) (hw _ (List.mem_of_getElem? (i := 210) rfl)) (hw _ (List.mem_of_getElem? (i := 175) rfl)) (hw _ (List.mem_of_getElem? (i := 211) rfl)) (by decide) (cDok l Z a0 hw n0 hEW a d [c0, c1, c2, 58] 3 p1 3 h_389 σ_390 T rfl (by decide) (by decide) cp Hc hcp fm hfm Hf) (lenOf bDok_pd rfl) rfl rfl rfl (by decide) (by decide) (ce' := 17) (sl' := 104) rfl rfl (by decide) (by decide) ?_
    rintro _ h_393 σ_394 m_395 ⟨rfl, K_396⟩
    replace T := T.keep K_396 nin0 nin0
    replace s_313 := m_395 _ s_313
    replace s_329 := m_395 _ s_329
    replace s_342 := m_395 _ s_342
    refine Road.if_eq 238 341 b0_d238 rfl (fun q => absurd q (by decide)) (fun hc238 => ?_)
    refine Road.aload 241 b0_d241 rfl ?_
    refine Road.iloadN 243 b0_d243 rfl ?_
    refine Road.iloadN 244 b0_d244 rfl ?_
    refine Road.iload 245 b0_d245 rfl ?_
    refine Road.iconst 247 (4 : Int32) b0_d247 rfl ?_
    refine Road.callS (B' := bDok) 248 (argsL := [(.ref a), (.int (3 : Int32)), (.int p1), (.int (Nat.toInt32 (Road.dec p1).length)), (.int (4 : Int32))]) (rest := []) 0 b0_d248 (hw _ (List.mem_of_getElem? (i := 209) rfl)) (hw _ (List.mem_of_getElem? (i := 210) rfl)) (hw _ (List.mem_of_getElem? (i := 175) rfl)) (hw _ (List.mem_of_getElem? (i := 211) rfl)) (by decide) (cDok l Z a0 hw n0 hEW a d [c0, c1, c2, 58] 3 p1 4 h_393 σ_394 T rfl (by decide) (by decide) cp Hc hcp fm hfm Hf) (lenOf bDok_pd rfl) rfl rfl rfl (by decide) (by decide) (ce' := 18) (sl' := 114) rfl rfl (by decide) (by decide) ?_
    rintro _ h_397 σ_398 m_399 ⟨rfl, K_400⟩
    replace T := T.keep K_400 nin0 nin0
    replace s_313 := m_399 _ s_313
    replace s_329 := m_399 _ s_329
    replace s_342 := m_399 _ s_342
    refine Road.if_eq 251 341 b0_d251 rfl (fun q => absurd q (by decide)) (fun hc251 => ?_)
    refine Road.aload 254 b0_d254 rfl ?_
    refine Road.iloadN 256 b0_d256 rfl ?_
    refine Road.iloadN 257 b0_d257 rfl ?_
    refine Road.iload 258 b0_d258 rfl ?_
    refine Road.iconst 260 (5 : Int32) b0_d260 rfl ?_
    refine Road.callS (B' := bDok) 261 (argsL := [(.ref a), (.int (3 : Int32)), (.int p1), (.int (Nat.toInt32 (Road.dec p1).length)), (.int (5 : Int32))]) (rest := []) 0 b0_d261 (hw _ (List.mem_of_getElem? (i := 209) rfl)) (hw _ (List.mem_of_getElem? (i := 210) rfl)) (hw _ (List.mem_of_getElem? (i := 175) rfl)) (hw _ (List.mem_of_getElem? (i := 211) rfl)) (by decide) (cDok l Z a0 hw n0 hEW a d [c0, c1, c2, 58] 3 p1 5 h_397 σ_398 T rfl (by decide) (by decide) cp Hc hcp fm hfm Hf) (lenOf bDok_pd rfl) rfl rfl rfl (by decide) (by decide) (ce' := 19) (sl' := 124) rfl rfl (by decide) (by decide) ?_
    rintro _ h_401 σ_402 m_403 ⟨rfl, K_404⟩
    replace T := T.keep K_404 nin0 nin0
    replace s_313 := m_403 _ s_313
    replace s_329 := m_403 _ s_329
    replace s_342 := m_403 _ s_342
    refine Road.if_eq 264 341 b0_d264 rfl (fun q => absurd q (by decide)) (fun hc264 => ?_)
    refine Road.aload 267 b0_d267 rfl ?_
    refine Road.iloadN 269 b0_d269 rfl ?_
    refine Road.iloadN 270 b0_d270 rfl ?_
    refine Road.iload 271 b0_d271 rfl ?_
    refine Road.bipush 273 (6 : Int32) b0_d273 rfl ?_
    refine Road.callS (B' := bDok) 275 (argsL := [(.ref a), (.int (3 : Int32)), (.int p1), (.int (Nat.toInt32 (Road.dec p1).length)), (.int (6 : Int32))]) (rest := []) 0 b0_d275 (hw _ (List.mem_of_getElem? (i := 209) rfl)) (hw _ (List.mem_of_getElem? (i := 210) rfl)) (hw _ (List.mem_of_getElem? (i := 175) rfl)) (hw _ (List.mem_of_getElem? (i := 211) rfl)) (by decide) (cDok l Z a0 hw n0 hEW a d [c0, c1, c2, 58] 3 p1 6 h_401 σ_402 T rfl (by decide) (by decide) cp Hc hcp fm hfm Hf) (lenOf bDok_pd rfl) rfl rfl rfl (by decide) (by decide) (ce' := 20) (sl' := 134) rfl rfl (by decide) (by decide) ?_
    rintro _ h_405 σ_406 m_407 ⟨rfl, K_408⟩
    replace T := T.keep K_408 nin0 nin0
    replace s_313 := m_407 _ s_313
    replace s_329 := m_407 _ s_329
    replace s_342 := m_407 _ s_342
    refine Road.if_eq 278 341 b0_d278 rfl (fun q => absurd q (by decide)) (fun hc278 => ?_)
    refine Road.aload 281 b0_d281 rfl ?_
    refine Road.iloadN 283 b0_d283 rfl ?_
    refine Road.iloadN 284 b0_d284 rfl ?_
    refine Road.iload 285 b0_d285 rfl ?_
    refine Road.bipush 287 (7 : Int32) b0_d287 rfl ?_
    refine Road.callS (B' := bDok) 289 (argsL := [(.ref a), (.int (3 : Int32)), (.int p1), (.int (Nat.toInt32 (Road.dec p1).length)), (.int (7 : Int32))]) (rest := []) 0 b0_d289 (hw _ (List.mem_of_getElem? (i := 209) rfl)) (hw _ (List.mem_of_getElem? (i := 210) rfl)) (hw _ (List.mem_of_getElem? (i := 175) rfl)) (hw _ (List.mem_of_getElem? (i := 211) rfl)) (by decide) (cDok l Z a0 hw n0 hEW a d [c0, c1, c2, 58] 3 p1 7 h_405 σ_406 T rfl (by decide) (by decide) cp Hc hcp fm hfm Hf) (lenOf bDok_pd rfl) rfl rfl rfl (by decide) (by decide) (ce' := 21) (sl' := 144) rfl rfl (by decide) (by decide) ?_
    rintro _ h_409 σ_410 m_411 ⟨rfl, K_412⟩
    replace T := T.keep K_412 nin0 nin0
    replace s_313 := m_411 _ s_313
    replace s_329 := m_411 _ s_329
    replace s_342 := m_411 _ s_342
    refine Road.if_eq 292 341 b0_d292 rfl (fun q => absurd q (by decide)) (fun hc292 => ?_)
    refine Road.aload 295 b0_d295 rfl ?_
    refine Road.iloadN 297 b0_d297 rfl ?_
    refine Road.iloadN 298 b0_d298 rfl ?_
    refine Road.iload 299 b0_d299 rfl ?_
    refine Road.bipush 301 (8 : Int32) b0_d301 rfl ?_
    refine Road.callS (B' := bDok) 303 (argsL := [(.ref a), (.int (3 : Int32)), (.int p1), (.int (Nat.toInt32 (Road.dec p1).length)), (.int (8 : Int32))]) (rest := []) 0 b0_d303 (hw _ (List.mem_of_getElem? (i := 209) rfl)) (hw _ (List.mem_of_getElem? (i := 210) rfl)) (hw _ (List.mem_of_getElem? (i := 175) rfl)) (hw _ (List.mem_of_getElem? (i := 211) rfl)) (by decide) (cDok l Z a0 hw n0 hEW a d [c0, c1, c2, 58] 3 p1 8 h_409 σ_410 T rfl (by decide) (by decide) cp Hc hcp fm hfm Hf) (lenOf bDok_pd rfl) rfl rfl rfl (by decide) (by decide) (ce' := 22) (sl' := 154) rfl rfl (by decide) (by decide) ?_
    rintro _ h_413 σ_414 m_415 ⟨rfl, K_416⟩
    replace T := T.keep K_416 nin0 nin0
    replace s_313 := m_415 _ s_313
    replace s_329 := m_415 _ s_329
    replace s_342 := m_415 _ s_342
    refine Road.if_eq 306 341 b0_d306 rfl (fun q => absurd q (by decide)) (fun hc306 => ?_)
    refine Road.aload 309 b0_d309 rfl ?_
    refine Road.iloadN 311 b0_d311 rfl ?_
    refine Road.iloadN 312 b0_d312 rfl ?_
    refine Road.iload 313 b0_d313 rfl ?_
    refine Road.bipush 315 (9 : Int32) b0_d315 rfl ?_
    refine Road.callS (B' := bDok) 317 (argsL := [(.ref a), (.int (3 : Int32)), (.int p1), (.int (Nat.toInt32 (Road.dec p1).length)), (.int (9 : Int32))]) (rest := []) 0 b0_d317 (hw _ (List.mem_of_getElem? (i := 209) rfl)) (hw _ (List.mem_of_getElem? (i := 210) rfl)) (hw _ (List.mem_of_getElem? (i := 175) rfl)) (hw _ (List.mem_of_getElem? (i := 211) rfl)) (by decide) (cDok l Z a0 hw n0 hEW a d [c0, c1, c2, 58] 3 p1 9 h_413 σ_414 T rfl (by decide) (by decide) cp Hc hcp fm hfm Hf) (lenOf bDok_pd rfl) rfl rfl rfl (by decide) (by decide) (ce' := 23) (sl' := 164) rfl rfl (by decide) (by decide) ?_
    rintro _ h_417 σ_418 m_419 ⟨rfl, K_420⟩
    replace T := T.keep K_420 nin0 nin0
    replace s_313 := m_419 _ s_313
    replace s_329 := m_419 _ s_329
    replace s_342 := m_419 _ s_342
    refine Road.if_eq 320 341 b0_d320 rfl (fun q => absurd q (by decide)) (fun hc320 => ?_)
    refine Road.aload 323 b0_d323 rfl ?_
    refine Road.iloadN 325 b0_d325 rfl ?_
    refine Road.iloadN 326 b0_d326 rfl ?_
    refine Road.iload 327 b0_d327 rfl ?_
    refine Road.bipush 329 (10 : Int32) b0_d329 rfl ?_
    refine Road.callS (B' := bDok) 331 (argsL := [(.ref a), (.int (3 : Int32)), (.int p1), (.int (Nat.toInt32 (Road.dec p1).length)), (.int (10 : Int32))]) (rest := []) 0 b0_d331 (hw _ (List.mem_of_getElem? (i := 209) rfl)) (hw _ (List.mem_of_getElem? (i := 210) rfl)) (hw _ (List.mem_of_getElem? (i := 175) rfl)) (hw _ (List.mem_of_getElem? (i := 211) rfl)) (by decide) (cDok l Z a0 hw n0 hEW a d [c0, c1, c2, 58] 3 p1 10 h_417 σ_418 T rfl (by decide) (by decide) cp Hc hcp fm hfm Hf) (lenOf bDok_pd rfl) rfl rfl rfl (by decide) (by decide) (ce' := 24) (sl' := 174) rfl rfl (by decide) (by decide) ?_
    rintro _ h_421 σ_422 m_423 ⟨rfl, K_424⟩
    replace T := T.keep K_424 nin0 nin0
    replace s_313 := m_423 _ s_313
    replace s_329 := m_423 _ s_329
    replace s_342 := m_423 _ s_342
    refine Road.if_eq 334 341 b0_d334 rfl (fun q => absurd q (by decide)) (fun hc334 => ?_)
    refine Road.iconst 337 (1 : Int32) b0_d337 rfl ?_
    refine Road.goto 338 342 b0_d338 rfl ?_
    exact Road.iret 342 1 b0_d342 (t := .boolean) rfl (by simp) rfl (by decide) (by decide) (fun σ' m => rfl)
set_option maxHeartbeats 40000000 in
theorem comes_1 {Post : Tables → Env → Array Value → State → Outcome → State → Prop} (hpost : ∀ tb e args s v u, (limb_1_1.after args s (.returned v) u = true ∧ limb_1_2.after args s (.returned v) u = true ∧ True) → ReturnedEndW s (.returned v) u (Jvm.fieldLocs frame_1_writes args s ++ Jvm.arrayLocs frame_1_arrays args s ++ Jvm.staticLocs frame_1_statics s) 48 2432 → Post tb e args s (.returned v) u) :
    ArmFor flags0 classFile x code maxLocals ret World_1 tables_1 room_1 Calls_1 rest_1 Pre_1 Post := by
  intro l hfl _ _ p e ha hc hk s m args below hf hA hF happ hP
  obtain ⟨hcalls, hrest, hpre⟩ := hP
  obtain ⟨-, -, -, hnamed, -, -, -, hat⟩ := (Spec.applies_iff hf).mp happ
  obtain ⟨hg, hn⟩ := and_e (Cond.before_iff.mp (show (Jvm.Cond.and given_1 narrow_1).before args s = true from hpre))
  obtain ⟨h1, hr1⟩ := and_e hg
  obtain ⟨g0, hr2⟩ := and_e hr1
  have g1 := hr2
  obtain ⟨w0, w1, rfl⟩ : ∃ w0 w1 : Value, args = #[w0, w1] := by
    have hs : args.size = 2 := by simpa [Cond.value, given_1] using h1
    obtain ⟨L⟩ := args
    match L, hs with
    | [w0, w1], _ => exact ⟨w0, w1, rfl⟩
  obtain ⟨p0, ev0⟩ := is_v g0
  obtain rfl : w0 = (.int p0) := Option.some.inj ev0
  obtain ⟨p1, ev1⟩ := is_v g1
  obtain rfl : w1 = (.int p1) := Option.some.inj ev1
  have hw := fun d (hd : d ∈ tables_1) => atoms_spec (ws := Jvm.Cond.code x code maxLocals ret :: tables_1) hat d (List.mem_cons_of_mem _ hd)
  obtain ⟨hsets, hown0⟩ := atoms_of _ (rest_1_c_eq ▸ (show rest_1_c.before _ s = true from hrest))
  have hfit : Fit s := fun {y c} hc i hi => by
    obtain ⟨ha, rfl⟩ := Array.getElem?_eq_some_iff.mp hc
    have q := List.all_eq_true.mp ((Array.all_eq_true_iff_forall_mem.mp hF) _ (Array.getElem_mem ha)) i (List.mem_range.mpr hi)
    simpa [Array.getElem?_eq_getElem hi] using q
  have hcw := hsets _ (List.mem_of_getElem? (i := 2) rfl)
  have n5 := not_v (Cond.before_iff.mp hcw)
  obtain ⟨cp, e10⟩ := is_v (Cond.before_iff.mp (hsets _ (List.mem_of_getElem? (i := 1) rfl)))
  have Hc : Sta s s.heap "java/lang/String" "COMPACT_STRINGS" "Z" (.int cp) := Sta.start e10 (Or.inl (hsets _ (List.mem_of_getElem? (i := 0) rfl)))
  have hcp : ¬ (cp = (0 : Int32)) := gotF (Cond.eq_ints e10 (Term.int_eval (0))) n5
  have hEW : EW s _ consts_1 := (EW.cons (hw _ (List.mem_of_getElem? (i := 109) rfl)) (by decide) (EW.cons (hw _ (List.mem_of_getElem? (i := 14) rfl)) (by decide) EW.nil))
  have hCH : CHv s consts_1 s.vm s.heap := CHv.start hEW (fun q hq => hcalls.1 q hq) hcw (hw _ (List.mem_of_getElem? (i := 15) rfl)) (hw _ (List.mem_of_getElem? (i := 2) rfl))
  obtain ⟨fm, efm, hfm⟩ := isR_v (Cond.before_iff.mp (hsets _ (List.mem_of_getElem? (i := 8) rfl)))
  have Hf : Sta s s.heap "jdk/internal/util/Preconditions" "SIOOBE_FORMATTER" "Ljava/util/function/BiFunction;" fm := Sta.start efm (Or.inl (hsets _ (List.mem_of_getElem? (i := 7) rfl)))
  obtain ⟨o1, eo1⟩ := exa_v (Cond.before_iff.mp (hsets _ (List.mem_of_getElem? (i := 12) rfl)))
  have HO := Sta.start eo1 (Or.inl (hsets _ (List.mem_of_getElem? (i := 11) rfl)))
  have AO : Road.Ary s s.heap o1 .byte Road.OnesL := Road.Ary.boot eo1 (Cond.before_iff.mp (hsets _ (List.mem_of_getElem? (i := 12) rfl))) (hw _ (List.mem_of_getElem? (i := 15) rfl)) (Cond.before_iff.mp (hsets _ (List.mem_of_getElem? (i := 13) rfl))) (by decide) (Cond.before_iff.mp (hsets _ (List.mem_of_getElem? (i := 14) rfl))) Road.ones_boot
  obtain ⟨o2, eo2⟩ := exa_v (Cond.before_iff.mp (hsets _ (List.mem_of_getElem? (i := 17) rfl)))
  have HT := Sta.start eo2 (Or.inl (hsets _ (List.mem_of_getElem? (i := 16) rfl)))
  have AT : Road.Ary s s.heap o2 .byte Road.TensL := Road.Ary.boot eo2 (Cond.before_iff.mp (hsets _ (List.mem_of_getElem? (i := 17) rfl))) (hw _ (List.mem_of_getElem? (i := 15) rfl)) (Cond.before_iff.mp (hsets _ (List.mem_of_getElem? (i := 18) rfl))) (by decide) (Cond.before_iff.mp (hsets _ (List.mem_of_getElem? (i := 19) rfl))) Road.tens_boot
  obtain ⟨n, o, z1, z2, z3, v, L, rfl, hQ, N, -, -, hE⟩ := law l s _ hw s.heap.size hEW p0 p1 s.heap (fun _ => False) cp Hc hcp fm hfm Hf o1 o2 HO AO HT AT tables_1 p e ha hc hk s m _ below hf ((Spec.applies_iff_loose hf).mp happ).1 ⟨rfl, State.Warmed39.refl s, rfl, hCH, Old.start s, fun _ q => q.elim⟩ (fun q => nomatch q)
  have hQ : v = some (.int 1) := hQ
  subst hQ
  refine ⟨n, _, z1, z2, z3, hpost _ _ _ _ _ _ ⟨Cond.after_iff.mpr rfl, Cond.after_iff.mpr (eq_i res_at (Term.int_eval (1)) rfl), trivial⟩ ⟨hE.1, hE.2.1, hE.2.2.1, (hE.2.2.2.sift fun y hy => Or.inr (N y hy)).mono (by decide) (by decide)⟩⟩
theorem main_1_1 : Claimed_1_1 := comes_1 fun _ _ _ _ _ _ h hF => ⟨h.1, hF⟩
theorem main_1_2 : Claimed_1_2 := comes_1 fun _ _ _ _ _ _ h hF => ⟨h.2.1, hF⟩
end Jvm.Pilot.@@N@@
namespace Jvm.Pilot.@@N@@
open Jvm Jvm.ClassFile Sem Op Lib Jvm.Free Jvm.Stand Jvm.Pilot.@@N@@.Jvm.D
/-! MADE BY PROGRAM (witnessworld.py) out of the Statement's table words and the real class files: 31 classes; the members and pool entries that the words name. The judged class is class 1, her method 4. -/
namespace start1
open Jvm.ClassFile
def u (s : String) : CpInfo := .utf8 (stringToUtf16 s)
/-- a pool by its gaps: so many unusable entries, then the entry; so many at the end -/
def gap : Nat → List CpInfo → List CpInfo
  | 0, r => r
  | n + 1, r => .unusable :: gap n r
def poolList (es : List (Nat × CpInfo)) (last : Nat) : List CpInfo := es.foldr (fun e r => gap e.1 (e.2 :: r)) (gap last [])
def pool (es : List (Nat × CpInfo)) (last : Nat) : Array CpInfo := ⟨poolList es last⟩
def fileOf (pool : Array CpInfo) (this : Nat) (attrs : Array Attribute := #[]) (ms : Array MethodInfo := #[]) (fl : Nat := 33) (sup : Nat := 0) (ifs : Array Nat := #[]) (fds : Array FieldInfo := #[]) : ClassFile where
  minorVersion := 0
  majorVersion := 65
  constantPool := pool
  accessFlags := fl
  thisClass := this
  superClass := sup
  interfaces := ifs
  fields := fds
  methods := ms
  attributes := attrs
def plain (name : String) (sup : Option ClassId) : Class where
  name := name
  kind := .ordinary
  loader := none
  accessFlags := 33
  super := sup
  interfaces := #[]
  cf := none
  fields := #[]
  methods := #[]
  instanceTypes := #[]
  staticTypes := #[]
  resolved := #[]
  callSites := []
  init := .initialized
  statics := none
  mirror := none

def pool0 : Array CpInfo := pool [(5, u "<init>"), (0, u "()V"), (1, .class_ 10), (1, u "java/lang/Object")] 113

def k0c0 : Code := { maxStack := 0, maxLocals := 1, code := object_method_1_code, exceptionTable := #[], attributes := #[] }
def k0m0 : Method := { name := "<init>", desc := "()V", sig := { parameters := [], returnType := none }, accessFlags := 1, code := some k0c0 }
/-- java/lang/Object -/
def k0 : Class := { plain "java/lang/Object" none with
  accessFlags := 33
  interfaces := #[]
  cf := some (fileOf pool0 8 #[] #[{ accessFlags := 1, nameIndex := 5, descriptorIndex := 6, attributes := #[] }] 33 0 #[] #[])
  fields := #[]
  methods := #[k0m0]
  instanceTypes := #[]
  staticTypes := #[]
  resolved := Array.replicate 124 none
  statics := none }

def pool1 : Array CpInfo := pool [(2, .class_ 4), (1, u "java/lang/Object"), (0, u "<init>"), (0, u "()V"), (0, .long 10), (1, .long 100), (1, .long 1000), (1, .long 10000), (1, .long 100000), (1, .long 1000000), (1, .long 10000000), (1, .long 100000000), (1, .long 1000000000), (1, .methodref 26 27), (0, .class_ 28), (0, .nameAndType 29 30), (0, u "java/lang/String"), (0, u "charAt"), (0, u "(I)C"), (0, .methodref 32 33), (0, .class_ 34), (0, .nameAndType 35 36), (0, u "com/example/gridtally/gridtally/engine/OriginToStringPinLaw"), (0, u "decChar"), (0, u "(III)C"), (0, .methodref 26 38), (0, .nameAndType 5 39), (0, u "([C)V"), (0, .class_ 41), (0, u "com/example/gridtally/gridtally/engine/Origin"), (0, .methodref 40 43), (0, .nameAndType 5 44), (0, u "(Ljava/lang/String;I)V"), (0, .methodref 40 46), (0, .nameAndType 47 48), (0, u "toString"), (0, u "()Ljava/lang/String;"), (0, .methodref 32 50), (0, .nameAndType 51 52), (0, u "decLen"), (0, u "(I)I"), (0, .methodref 26 54), (0, .nameAndType 55 56), (0, u "length"), (0, u "()I"), (0, .methodref 32 58), (0, .nameAndType 59 60), (0, u "digitOk"), (0, u "(Ljava/lang/String;IIII)Z"), (3, u "law"), (0, u "(II)Z")] 4

def k1m0 : Method := { name := "<init>", desc := "()V", sig := { parameters := [], returnType := none }, accessFlags := 1, code := none }
def k1c1 : Code := { maxStack := 4, maxLocals := 5, code := method_2_code, exceptionTable := #[], attributes := #[] }
def k1m1 : Method := { name := "decLen", desc := "(I)I", sig := { parameters := [.int], returnType := some .int }, accessFlags := 10, code := some k1c1 }
def k1c2 : Code := { maxStack := 5, maxLocals := 7, code := method_3_code, exceptionTable := #[], attributes := #[] }
def k1m2 : Method := { name := "decChar", desc := "(III)C", sig := { parameters := [.int, .int, .int], returnType := some .char }, accessFlags := 10, code := some k1c2 }
def k1c3 : Code := { maxStack := 4, maxLocals := 5, code := method_4_code, exceptionTable := #[], attributes := #[] }
def k1m3 : Method := { name := "digitOk", desc := "(Ljava/lang/String;IIII)Z", sig := { parameters := [(.object "java/lang/String"), .int, .int, .int, .int], returnType := some .boolean }, accessFlags := 10, code := some k1c3 }
def k1c4 : Code := { maxStack := 5, maxLocals := 11, code := code, exceptionTable := #[], attributes := #[] }
def k1m4 : Method := { name := "law", desc := "(II)Z", sig := { parameters := [.int, .int], returnType := some .boolean }, accessFlags := 9, code := some k1c4 }
/-- com/example/gridtally/gridtally/engine/OriginToStringPinLaw -/
def k1 : Class := { plain "com/example/gridtally/gridtally/engine/OriginToStringPinLaw" (some 0) with
  accessFlags := 49
  interfaces := #[]
  cf := some (fileOf pool1 32 #[] #[{ accessFlags := 1, nameIndex := 5, descriptorIndex := 6, attributes := #[] }, { accessFlags := 10, nameIndex := 51, descriptorIndex := 52, attributes := #[] }, { accessFlags := 10, nameIndex := 35, descriptorIndex := 36, attributes := #[] }, { accessFlags := 10, nameIndex := 59, descriptorIndex := 60, attributes := #[] }, { accessFlags := 9, nameIndex := 64, descriptorIndex := 65, attributes := #[] }] 49 2 #[] #[])
  fields := #[]
  methods := #[k1m0, k1m1, k1m2, k1m3, k1m4]
  instanceTypes := #[]
  staticTypes := #[]
  resolved := Array.replicate 70 none
  statics := none }

def pool2 : Array CpInfo := pool [(1, .class_ 2), (0, u "java/io/Serializable"), (0, .class_ 4), (0, u "java/lang/Object")] 2

/-- java/io/Serializable -/
def k2 : Class := { plain "java/io/Serializable" (some 0) with
  accessFlags := 1537
  interfaces := #[]
  cf := some (fileOf pool2 1 #[] #[] 1537 3 #[] #[])
  fields := #[]
  methods := #[]
  instanceTypes := #[]
  staticTypes := #[]
  resolved := Array.replicate 7 none
  statics := none }

def pool3 : Array CpInfo := pool [(1, .class_ 2), (0, u "java/lang/Comparable"), (0, .class_ 4), (0, u "java/lang/Object")] 7

/-- java/lang/Comparable -/
def k3 : Class := { plain "java/lang/Comparable" (some 0) with
  accessFlags := 1537
  interfaces := #[]
  cf := some (fileOf pool3 1 #[] #[] 1537 3 #[] #[])
  fields := #[]
  methods := #[]
  instanceTypes := #[]
  staticTypes := #[]
  resolved := Array.replicate 12 none
  statics := none }

def pool4 : Array CpInfo := pool [(2, .class_ 4), (1, u "java/lang/CharSequence"), (42, .class_ 48), (0, u "java/lang/CharSequence$1CodePointIterator"), (10, .class_ 60), (0, u "java/lang/CharSequence$1CharIterator"), (5, .class_ 67), (0, u "java/lang/Object")] 63

/-- java/lang/CharSequence -/
def k4 : Class := { plain "java/lang/CharSequence" (some 0) with
  accessFlags := 1537
  interfaces := #[]
  cf := some (fileOf pool4 2 #[.nestMembers #[47, 59]] #[] 1537 66 #[] #[])
  fields := #[]
  methods := #[]
  instanceTypes := #[]
  staticTypes := #[]
  resolved := Array.replicate 131 none
  statics := none }

def pool5 : Array CpInfo := pool [(1, .class_ 2), (0, u "java/lang/constant/Constable"), (0, .class_ 4), (0, u "java/lang/Object")] 6

/-- java/lang/constant/Constable -/
def k5 : Class := { plain "java/lang/constant/Constable" (some 0) with
  accessFlags := 1537
  interfaces := #[]
  cf := some (fileOf pool5 1 #[] #[] 1537 3 #[] #[])
  fields := #[]
  methods := #[]
  instanceTypes := #[]
  staticTypes := #[]
  resolved := Array.replicate 11 none
  statics := none }

def pool6 : Array CpInfo := pool [(1, .class_ 2), (0, u "java/lang/constant/ConstantDesc"), (0, .class_ 4), (0, u "java/lang/Object")] 32

/-- java/lang/constant/ConstantDesc -/
def k6 : Class := { plain "java/lang/constant/ConstantDesc" (some 0) with
  accessFlags := 1537
  interfaces := #[]
  cf := some (fileOf pool6 1 #[] #[] 1537 3 #[] #[])
  fields := #[]
  methods := #[]
  instanceTypes := #[]
  staticTypes := #[]
  resolved := Array.replicate 37 none
  statics := none }

def pool7 : Array CpInfo := pool [(1, .methodref 2 3), (0, .class_ 4), (0, .nameAndType 5 6), (0, u "java/lang/Object"), (0, u "<init>"), (0, u "()V"), (0, .string 8), (0, u ""), (0, .fieldref 10 11), (0, .class_ 12), (0, .nameAndType 13 14), (0, u "java/lang/String"), (0, u "value"), (0, u "[B"), (0, .fieldref 10 16), (0, .nameAndType 17 18), (0, u "coder"), (0, u "B"), (2, u "hash"), (0, u "I"), (2, u "hashIsZero"), (0, u "Z"), (0, .methodref 10 28), (0, .nameAndType 5 29), (0, u "([CIILjava/lang/Void;)V"), (8, .fieldref 10 39), (0, .nameAndType 40 26), (0, u "COMPACT_STRINGS"), (1, .class_ 44), (1, u "java/lang/StringUTF16"), (0, u "compress"), (1, .methodref 42 48), (0, .nameAndType 49 50), (0, u "coderFromArrayLen"), (0, u "([BI)B"), (3, .methodref 55 56), (0, .class_ 57), (0, .nameAndType 58 59), (0, u "java/util/Arrays"), (0, u "copyOfRange"), (0, u "([BII)[B"), (47, .class_ 109), (1, u "java/lang/StringLatin1"), (32, u "()Z"), (34, .methodref 42 178), (0, .nameAndType 45 179), (0, u "([CII)[B"), (13, .class_ 195), (1, u "java/lang/System"), (16, .methodref 193 213), (0, .nameAndType 214 215), (0, u "arraycopy"), (0, u "(Ljava/lang/Object;ILjava/lang/Object;II)V"), (118, u "()I"), (0, .methodref 10 336), (0, .nameAndType 17 337), (0, u "()B"), (2, u "()[B"), (22, u "([BI)C"), (27, u "(II)V"), (35, u "(I)C"), (61, .methodref 10 490), (0, .nameAndType 5 491), (0, u "(Ljava/lang/AbstractStringBuilder;Ljava/lang/Void;)V"), (0, .methodref 10 493), (0, .nameAndType 494 142), (0, u "isLatin1"), (0, .methodref 107 496), (0, .nameAndType 497 363), (0, u "charAt"), (3, u "checkIndex"), (4, .nameAndType 507 334), (0, u "length"), (24, u "getBytes"), (16, .methodref 550 506), (0, .class_ 551), (0, u "java/lang/AbstractStringBuilder"), (0, .methodref 550 553), (0, .nameAndType 554 340), (0, u "getValue"), (20, .class_ 576), (0, u "java/lang/CharSequence"), (22, u "CASE_INSENSITIVE_ORDER"), (0, u "Ljava/util/Comparator;"), (220, u "([BIB)V"), (188, u "([C)V"), (36, .methodref 550 493), (5, .fieldref 1054 1055), (0, .class_ 1056), (0, .nameAndType 1057 1058), (0, u "jdk/internal/util/Preconditions"), (0, u "SIOOBE_FORMATTER"), (0, u "Ljava/util/function/BiFunction;"), (0, .methodref 1054 1060), (0, .nameAndType 501 1061), (0, u "(IILjava/util/function/BiFunction;)I"), (39, u "serialPersistentFields"), (0, u "[Ljava/io/ObjectStreamField;"), (0, .class_ 1104), (0, u "java/lang/String$CaseInsensitiveComparator"), (1, .class_ 1107), (0, u "java/io/Serializable"), (0, .class_ 1109), (0, u "java/lang/Comparable"), (0, .class_ 1111), (0, u "java/lang/constant/Constable"), (0, .class_ 1113), (0, u "java/lang/constant/ConstantDesc"), (2, u "serialVersionUID"), (0, u "J"), (3, u "REPL"), (0, u "C"), (2, u "LATIN1"), (1, u "UTF16"), (105, u "(Ljava/lang/StringBuilder;)V")] 217

def k7m0 : Method := { name := "<init>", desc := "()V", sig := { parameters := [], returnType := none }, accessFlags := 1, code := none }
def k7c1 : Code := { maxStack := 5, maxLocals := 2, code := jdk_42_method_3_code, exceptionTable := #[], attributes := #[] }
def k7m1 : Method := { name := "<init>", desc := "([C)V", sig := { parameters := [(.array .char)], returnType := none }, accessFlags := 1, code := some k7c1 }
def k7c2 : Code := { maxStack := 3, maxLocals := 2, code := jdk_42_method_53_code, exceptionTable := #[], attributes := #[] }
def k7m2 : Method := { name := "<init>", desc := "(Ljava/lang/StringBuilder;)V", sig := { parameters := [(.object "java/lang/StringBuilder")], returnType := none }, accessFlags := 1, code := some k7c2 }
def k7c3 : Code := { maxStack := 2, maxLocals := 1, code := jdk_42_method_54_code, exceptionTable := #[], attributes := #[] }
def k7m3 : Method := { name := "length", desc := "()I", sig := { parameters := [], returnType := some .int }, accessFlags := 1, code := some k7c3 }
def k7c4 : Code := { maxStack := 2, maxLocals := 2, code := jdk_42_method_56_code, exceptionTable := #[], attributes := #[] }
def k7m4 : Method := { name := "charAt", desc := "(I)C", sig := { parameters := [.int], returnType := some .char }, accessFlags := 1, code := some k7c4 }
def k7c5 : Code := { maxStack := 5, maxLocals := 4, code := jdk_42_method_147_code, exceptionTable := #[], attributes := #[] }
def k7m5 : Method := { name := "getBytes", desc := "([BIB)V", sig := { parameters := [(.array .byte), .int, .byte], returnType := none }, accessFlags := 0, code := some k7c5 }
def k7c6 : Code := { maxStack := 4, maxLocals := 6, code := jdk_42_method_149_code, exceptionTable := #[], attributes := #[] }
def k7m6 : Method := { name := "<init>", desc := "([CIILjava/lang/Void;)V", sig := { parameters := [(.array .char), .int, .int, (.object "java/lang/Void")], returnType := none }, accessFlags := 2, code := some k7c6 }
def k7c7 : Code := { maxStack := 5, maxLocals := 5, code := jdk_42_method_150_code, exceptionTable := #[], attributes := #[] }
def k7m7 : Method := { name := "<init>", desc := "(Ljava/lang/AbstractStringBuilder;Ljava/lang/Void;)V", sig := { parameters := [(.object "java/lang/AbstractStringBuilder"), (.object "java/lang/Void")], returnType := none }, accessFlags := 0, code := some k7c7 }
def k7c8 : Code := { maxStack := 1, maxLocals := 1, code := jdk_42_method_152_code, exceptionTable := #[], attributes := #[] }
def k7m8 : Method := { name := "coder", desc := "()B", sig := { parameters := [], returnType := some .byte }, accessFlags := 0, code := some k7c8 }
def k7c9 : Code := { maxStack := 1, maxLocals := 1, code := jdk_42_method_154_code, exceptionTable := #[], attributes := #[] }
def k7m9 : Method := { name := "isLatin1", desc := "()Z", sig := { parameters := [], returnType := some .boolean }, accessFlags := 0, code := some k7c9 }
def k7c10 : Code := { maxStack := 3, maxLocals := 2, code := jdk_42_method_155_code, exceptionTable := #[], attributes := #[] }
def k7m10 : Method := { name := "checkIndex", desc := "(II)V", sig := { parameters := [.int, .int], returnType := none }, accessFlags := 8, code := some k7c10 }
/-- java/lang/String -/
def k7 : Class := { plain "java/lang/String" (some 0) with
  accessFlags := 49
  interfaces := #[2, 3, 4, 5, 6]
  cf := some (fileOf pool7 10 #[.nestMembers #[1103]] #[{ accessFlags := 1, nameIndex := 5, descriptorIndex := 6, attributes := #[] }, { accessFlags := 1, nameIndex := 5, descriptorIndex := 1010, attributes := #[] }, { accessFlags := 1, nameIndex := 5, descriptorIndex := 1233, attributes := #[] }, { accessFlags := 1, nameIndex := 507, descriptorIndex := 334, attributes := #[] }, { accessFlags := 1, nameIndex := 497, descriptorIndex := 427, attributes := #[] }, { accessFlags := 0, nameIndex := 532, descriptorIndex := 821, attributes := #[] }, { accessFlags := 2, nameIndex := 5, descriptorIndex := 29, attributes := #[] }, { accessFlags := 0, nameIndex := 5, descriptorIndex := 491, attributes := #[] }, { accessFlags := 0, nameIndex := 17, descriptorIndex := 337, attributes := #[] }, { accessFlags := 0, nameIndex := 494, descriptorIndex := 142, attributes := #[] }, { accessFlags := 8, nameIndex := 501, descriptorIndex := 391, attributes := #[] }] 49 2 #[1106, 1108, 575, 1110, 1112] #[{ accessFlags := 18, nameIndex := 13, descriptorIndex := 14, attributes := #[] }, { accessFlags := 18, nameIndex := 17, descriptorIndex := 18, attributes := #[] }, { accessFlags := 2, nameIndex := 21, descriptorIndex := 22, attributes := #[] }, { accessFlags := 2, nameIndex := 25, descriptorIndex := 26, attributes := #[] }, { accessFlags := 26, nameIndex := 1116, descriptorIndex := 1117, attributes := #[] }, { accessFlags := 24, nameIndex := 40, descriptorIndex := 26, attributes := #[] }, { accessFlags := 26, nameIndex := 1101, descriptorIndex := 1102, attributes := #[] }, { accessFlags := 26, nameIndex := 1121, descriptorIndex := 1122, attributes := #[] }, { accessFlags := 25, nameIndex := 599, descriptorIndex := 600, attributes := #[] }, { accessFlags := 24, nameIndex := 1125, descriptorIndex := 18, attributes := #[] }, { accessFlags := 24, nameIndex := 1127, descriptorIndex := 18, attributes := #[] }])
  fields := #[{ name := "value", type := (.array .byte), accessFlags := 18, slot := 0, constantValue := 0 }, { name := "coder", type := .byte, accessFlags := 18, slot := 1, constantValue := 0 }, { name := "hash", type := .int, accessFlags := 2, slot := 2, constantValue := 0 }, { name := "hashIsZero", type := .boolean, accessFlags := 2, slot := 3, constantValue := 0 }, { name := "serialVersionUID", type := .long, accessFlags := 26, slot := 0, constantValue := 0 }, { name := "COMPACT_STRINGS", type := .boolean, accessFlags := 24, slot := 1, constantValue := 0 }, { name := "serialPersistentFields", type := (.array (.object "java/io/ObjectStreamField")), accessFlags := 26, slot := 2, constantValue := 0 }, { name := "REPL", type := .char, accessFlags := 26, slot := 3, constantValue := 0 }, { name := "CASE_INSENSITIVE_ORDER", type := (.object "java/util/Comparator"), accessFlags := 25, slot := 4, constantValue := 0 }, { name := "LATIN1", type := .byte, accessFlags := 24, slot := 5, constantValue := 0 }, { name := "UTF16", type := .byte, accessFlags := 24, slot := 6, constantValue := 0 }]
  methods := #[k7m0, k7m1, k7m2, k7m3, k7m4, k7m5, k7m6, k7m7, k7m8, k7m9, k7m10]
  instanceTypes := #[(.array .byte), .byte, .int, .boolean]
  staticTypes := #[.long, .boolean, (.array (.object "java/io/ObjectStreamField")), .char, (.object "java/util/Comparator"), .byte, .byte]
  resolved := Array.replicate 1451 none
  statics := some 0 }

def pool8 : Array CpInfo := pool [(1, .methodref 2 3), (0, .class_ 4), (0, .nameAndType 5 6), (0, u "java/lang/Object"), (0, u "<init>"), (0, u "()V"), (0, .class_ 8), (0, u "java/lang/Record")] 13

def k8c0 : Code := { maxStack := 1, maxLocals := 1, code := jdk_30_method_1_code, exceptionTable := #[], attributes := #[] }
def k8m0 : Method := { name := "<init>", desc := "()V", sig := { parameters := [], returnType := none }, accessFlags := 4, code := some k8c0 }
/-- java/lang/Record -/
def k8 : Class := { plain "java/lang/Record" (some 0) with
  accessFlags := 1057
  interfaces := #[]
  cf := some (fileOf pool8 7 #[] #[{ accessFlags := 4, nameIndex := 5, descriptorIndex := 6, attributes := #[] }] 1057 2 #[] #[])
  fields := #[]
  methods := #[k8m0]
  instanceTypes := #[]
  staticTypes := #[]
  resolved := Array.replicate 22 none
  statics := none }

def pool9 : Array CpInfo := pool [(1, .methodref 2 3), (0, .class_ 4), (0, .nameAndType 5 6), (0, u "java/lang/Record"), (0, u "<init>"), (0, u "()V"), (0, .fieldref 8 9), (0, .class_ 10), (0, .nameAndType 11 12), (0, u "com/example/gridtally/gridtally/engine/Origin"), (0, u "file"), (0, u "Ljava/lang/String;"), (0, .fieldref 8 14), (0, .nameAndType 15 16), (0, u "line"), (0, u "I"), (5, .class_ 23), (0, u "java/lang/StringBuilder"), (0, .methodref 22 3), (0, .methodref 22 26), (0, .nameAndType 27 28), (0, u "append"), (0, u "(Ljava/lang/String;)Ljava/lang/StringBuilder;"), (5, .methodref 22 35), (0, .nameAndType 36 37), (0, u "toString"), (0, u "()Ljava/lang/String;"), (4, .string 43), (0, u ":"), (0, .methodref 22 45), (0, .nameAndType 27 46), (0, u "(I)Ljava/lang/StringBuilder;"), (8, u "(Ljava/lang/String;I)V")] 28

def k9c0 : Code := { maxStack := 2, maxLocals := 3, code := prog_5_method_1_code, exceptionTable := #[], attributes := #[] }
def k9m0 : Method := { name := "<init>", desc := "(Ljava/lang/String;I)V", sig := { parameters := [(.object "java/lang/String"), .int], returnType := none }, accessFlags := 1, code := some k9c0 }
def k9c1 : Code := { maxStack := 2, maxLocals := 1, code := prog_5_method_4_code, exceptionTable := #[], attributes := #[] }
def k9m1 : Method := { name := "toString", desc := "()Ljava/lang/String;", sig := { parameters := [], returnType := some (.object "java/lang/String") }, accessFlags := 1, code := some k9c1 }
/-- com/example/gridtally/gridtally/engine/Origin -/
def k9 : Class := { plain "com/example/gridtally/gridtally/engine/Origin" (some 8) with
  accessFlags := 49
  interfaces := #[]
  cf := some (fileOf pool9 8 #[] #[{ accessFlags := 1, nameIndex := 5, descriptorIndex := 55, attributes := #[] }, { accessFlags := 1, nameIndex := 36, descriptorIndex := 37, attributes := #[] }] 49 2 #[] #[{ accessFlags := 18, nameIndex := 11, descriptorIndex := 12, attributes := #[] }, { accessFlags := 18, nameIndex := 15, descriptorIndex := 16, attributes := #[] }])
  fields := #[{ name := "file", type := (.object "java/lang/String"), accessFlags := 18, slot := 0, constantValue := 0 }, { name := "line", type := .int, accessFlags := 18, slot := 1, constantValue := 0 }]
  methods := #[k9m0, k9m1]
  instanceTypes := #[(.object "java/lang/String"), .int]
  staticTypes := #[]
  resolved := Array.replicate 84 none
  statics := none }

def pool10 : Array CpInfo := pool [(1, .class_ 2), (0, u "java/lang/Appendable"), (0, .class_ 4), (0, u "java/lang/Object")] 9

/-- java/lang/Appendable -/
def k10 : Class := { plain "java/lang/Appendable" (some 0) with
  accessFlags := 1537
  interfaces := #[]
  cf := some (fileOf pool10 1 #[] #[] 1537 3 #[] #[])
  fields := #[]
  methods := #[]
  instanceTypes := #[]
  staticTypes := #[]
  resolved := Array.replicate 14 none
  statics := none }

def pool11 : Array CpInfo := pool [(1, .class_ 2), (0, u "java/lang/String"), (0, .methodref 4 5), (0, .class_ 6), (0, .nameAndType 7 8), (0, u "java/lang/Object"), (0, u "<init>"), (0, u "()V"), (1, .class_ 12), (1, u "java/lang/AbstractStringBuilder"), (0, u "EMPTYVALUE"), (0, u "[B"), (0, .fieldref 10 16), (0, .nameAndType 17 14), (0, u "value"), (0, .fieldref 1 19), (0, .nameAndType 20 21), (0, u "COMPACT_STRINGS"), (0, u "Z"), (0, .fieldref 10 23), (0, .nameAndType 24 25), (0, u "coder"), (0, u "B"), (6, .methodref 1 33), (0, .nameAndType 34 35), (0, u "length"), (0, u "()I"), (0, .class_ 37), (0, u "java/lang/Integer"), (2, .methodref 1 41), (0, .nameAndType 24 42), (0, u "()B"), (2, u "append"), (0, u "(Ljava/lang/String;)Ljava/lang/AbstractStringBuilder;"), (1, .class_ 49), (0, u "java/lang/CharSequence"), (19, u "(Ljava/lang/String;)V"), (5, u "maybeLatin1"), (3, .fieldref 10 80), (0, .nameAndType 81 82), (0, u "count"), (0, u "I"), (0, .methodref 10 84), (0, .nameAndType 85 86), (0, u "isLatin1"), (0, u "()Z"), (13, .methodref 10 101), (0, .nameAndType 102 103), (0, u "ensureCapacityInternal"), (0, u "(I)V"), (3, u "(I)I"), (80, u "getChars"), (19, .methodref 10 209), (0, .nameAndType 210 211), (0, u "putStringAt"), (0, u "(ILjava/lang/String;)V"), (5, u "inflateIfNeededFor"), (2, .nameAndType 221 222), (0, u "getBytes"), (0, u "([BIB)V"), (22, .methodref 36 246), (0, .nameAndType 247 107), (0, u "stringSize"), (0, .methodref 36 249), (0, .nameAndType 188 250), (0, u "(II[B)I"), (146, .methodref 10 398), (0, .nameAndType 217 69), (0, .methodref 1 220), (3, u "()[B"), (40, .class_ 445), (0, u "java/lang/Appendable"), (65, u "(I)Ljava/lang/AbstractStringBuilder;"), (40, u "getValue")] 56

def k11m0 : Method := { name := "<init>", desc := "()V", sig := { parameters := [], returnType := none }, accessFlags := 0, code := none }
def k11c1 : Code := { maxStack := 2, maxLocals := 2, code := jdk_68_method_2_code, exceptionTable := #[], attributes := #[] }
def k11m1 : Method := { name := "<init>", desc := "(I)V", sig := { parameters := [.int], returnType := none }, accessFlags := 0, code := some k11c1 }
def k11c2 : Code := { maxStack := 1, maxLocals := 1, code := jdk_68_method_6_code, exceptionTable := #[], attributes := #[] }
def k11m2 : Method := { name := "length", desc := "()I", sig := { parameters := [], returnType := some .int }, accessFlags := 1, code := some k11c2 }
def k11c3 : Code := { maxStack := 4, maxLocals := 3, code := jdk_68_method_9_code, exceptionTable := #[], attributes := #[] }
def k11m3 : Method := { name := "ensureCapacityInternal", desc := "(I)V", sig := { parameters := [.int], returnType := none }, accessFlags := 2, code := some k11c3 }
def k11c4 : Code := { maxStack := 3, maxLocals := 3, code := jdk_68_method_22_code, exceptionTable := #[], attributes := #[] }
def k11m4 : Method := { name := "append", desc := "(Ljava/lang/String;)Ljava/lang/AbstractStringBuilder;", sig := { parameters := [(.object "java/lang/String")], returnType := some (.object "java/lang/AbstractStringBuilder") }, accessFlags := 1, code := some k11c4 }
def k11c5 : Code := { maxStack := 4, maxLocals := 4, code := jdk_68_method_32_code, exceptionTable := #[], attributes := #[] }
def k11m5 : Method := { name := "append", desc := "(I)Ljava/lang/AbstractStringBuilder;", sig := { parameters := [.int], returnType := some (.object "java/lang/AbstractStringBuilder") }, accessFlags := 1, code := some k11c5 }
def k11c6 : Code := { maxStack := 1, maxLocals := 1, code := jdk_68_method_64_code, exceptionTable := #[], attributes := #[] }
def k11m6 : Method := { name := "getValue", desc := "()[B", sig := { parameters := [], returnType := some (.array .byte) }, accessFlags := 16, code := some k11c6 }
def k11c7 : Code := { maxStack := 1, maxLocals := 1, code := jdk_68_method_68_code, exceptionTable := #[], attributes := #[] }
def k11m7 : Method := { name := "isLatin1", desc := "()Z", sig := { parameters := [], returnType := some .boolean }, accessFlags := 16, code := some k11c7 }
def k11c8 : Code := { maxStack := 2, maxLocals := 2, code := jdk_68_method_71_code, exceptionTable := #[], attributes := #[] }
def k11m8 : Method := { name := "inflateIfNeededFor", desc := "(Ljava/lang/String;)V", sig := { parameters := [(.object "java/lang/String")], returnType := none }, accessFlags := 2, code := some k11c8 }
def k11c9 : Code := { maxStack := 4, maxLocals := 3, code := jdk_68_method_73_code, exceptionTable := #[], attributes := #[] }
def k11m9 : Method := { name := "putStringAt", desc := "(ILjava/lang/String;)V", sig := { parameters := [.int, (.object "java/lang/String")], returnType := none }, accessFlags := 2, code := some k11c9 }
/-- java/lang/AbstractStringBuilder -/
def k11 : Class := { plain "java/lang/AbstractStringBuilder" (some 0) with
  accessFlags := 1056
  interfaces := #[10, 4]
  cf := some (fileOf pool11 10 #[] #[{ accessFlags := 0, nameIndex := 7, descriptorIndex := 8, attributes := #[] }, { accessFlags := 0, nameIndex := 7, descriptorIndex := 103, attributes := #[] }, { accessFlags := 1, nameIndex := 34, descriptorIndex := 35, attributes := #[] }, { accessFlags := 2, nameIndex := 102, descriptorIndex := 103, attributes := #[] }, { accessFlags := 1, nameIndex := 45, descriptorIndex := 46, attributes := #[] }, { accessFlags := 1, nameIndex := 45, descriptorIndex := 511, attributes := #[] }, { accessFlags := 16, nameIndex := 552, descriptorIndex := 403, attributes := #[] }, { accessFlags := 16, nameIndex := 85, descriptorIndex := 86, attributes := #[] }, { accessFlags := 2, nameIndex := 217, descriptorIndex := 69, attributes := #[] }, { accessFlags := 2, nameIndex := 210, descriptorIndex := 211, attributes := #[] }] 1056 4 #[444, 48] #[{ accessFlags := 0, nameIndex := 17, descriptorIndex := 14, attributes := #[] }, { accessFlags := 0, nameIndex := 24, descriptorIndex := 25, attributes := #[] }, { accessFlags := 0, nameIndex := 75, descriptorIndex := 21, attributes := #[] }, { accessFlags := 0, nameIndex := 81, descriptorIndex := 82, attributes := #[] }, { accessFlags := 26, nameIndex := 13, descriptorIndex := 14, attributes := #[] }])
  fields := #[{ name := "value", type := (.array .byte), accessFlags := 0, slot := 0, constantValue := 0 }, { name := "coder", type := .byte, accessFlags := 0, slot := 1, constantValue := 0 }, { name := "maybeLatin1", type := .boolean, accessFlags := 0, slot := 2, constantValue := 0 }, { name := "count", type := .int, accessFlags := 0, slot := 3, constantValue := 0 }, { name := "EMPTYVALUE", type := (.array .byte), accessFlags := 26, slot := 0, constantValue := 0 }]
  methods := #[k11m0, k11m1, k11m2, k11m3, k11m4, k11m5, k11m6, k11m7, k11m8, k11m9]
  instanceTypes := #[(.array .byte), .byte, .boolean, .int]
  staticTypes := #[(.array .byte)]
  resolved := Array.replicate 609 none
  statics := none }

def pool12 : Array CpInfo := pool [(1, .methodref 2 3), (0, .class_ 4), (0, .nameAndType 5 6), (0, u "java/lang/AbstractStringBuilder"), (0, u "<init>"), (0, u "(I)V"), (11, .class_ 20), (1, u "java/lang/String"), (3, .class_ 26), (1, u "java/lang/StringBuilder"), (0, u "append"), (0, u "(Ljava/lang/String;)Ljava/lang/StringBuilder;"), (0, .methodref 2 30), (0, .nameAndType 27 31), (0, u "(Ljava/lang/String;)Ljava/lang/AbstractStringBuilder;"), (21, .methodref 2 54), (0, .nameAndType 27 55), (0, u "(I)Ljava/lang/AbstractStringBuilder;"), (81, .methodref 18 138), (0, .nameAndType 5 139), (0, u "(Ljava/lang/StringBuilder;)V"), (5, u "()V"), (10, u "()I"), (111, u "(I)Ljava/lang/StringBuilder;"), (74, .methodref 2 344), (0, .nameAndType 345 156), (0, u "length"), (3, .class_ 350), (0, u "java/lang/Appendable"), (0, .class_ 352), (0, u "java/io/Serializable"), (0, .class_ 354), (0, u "java/lang/Comparable"), (0, .class_ 356), (0, u "java/lang/CharSequence"), (0, u "serialVersionUID"), (0, u "J"), (40, u "toString"), (0, u "()Ljava/lang/String;")] 21

def k12c0 : Code := { maxStack := 2, maxLocals := 1, code := jdk_67_method_1_code, exceptionTable := #[], attributes := #[] }
def k12m0 : Method := { name := "<init>", desc := "()V", sig := { parameters := [], returnType := none }, accessFlags := 1, code := some k12c0 }
def k12c1 : Code := { maxStack := 2, maxLocals := 2, code := jdk_67_method_7_code, exceptionTable := #[], attributes := #[] }
def k12m1 : Method := { name := "append", desc := "(Ljava/lang/String;)Ljava/lang/StringBuilder;", sig := { parameters := [(.object "java/lang/String")], returnType := some (.object "java/lang/StringBuilder") }, accessFlags := 1, code := some k12c1 }
def k12c2 : Code := { maxStack := 2, maxLocals := 2, code := jdk_67_method_15_code, exceptionTable := #[], attributes := #[] }
def k12m2 : Method := { name := "append", desc := "(I)Ljava/lang/StringBuilder;", sig := { parameters := [.int], returnType := some (.object "java/lang/StringBuilder") }, accessFlags := 1, code := some k12c2 }
def k12c3 : Code := { maxStack := 3, maxLocals := 1, code := jdk_67_method_42_code, exceptionTable := #[], attributes := #[] }
def k12m3 : Method := { name := "toString", desc := "()Ljava/lang/String;", sig := { parameters := [], returnType := some (.object "java/lang/String") }, accessFlags := 1, code := some k12c3 }
def k12c4 : Code := { maxStack := 1, maxLocals := 1, code := jdk_67_method_93_code, exceptionTable := #[], attributes := #[] }
def k12m4 : Method := { name := "length", desc := "()I", sig := { parameters := [], returnType := some .int }, accessFlags := 4161, code := some k12c4 }
/-- java/lang/StringBuilder -/
def k12 : Class := { plain "java/lang/StringBuilder" (some 11) with
  accessFlags := 49
  interfaces := #[10, 2, 3, 4]
  cf := some (fileOf pool12 24 #[] #[{ accessFlags := 1, nameIndex := 5, descriptorIndex := 145, attributes := #[] }, { accessFlags := 1, nameIndex := 27, descriptorIndex := 28, attributes := #[] }, { accessFlags := 1, nameIndex := 27, descriptorIndex := 268, attributes := #[] }, { accessFlags := 1, nameIndex := 399, descriptorIndex := 400, attributes := #[] }, { accessFlags := 4161, nameIndex := 345, descriptorIndex := 156, attributes := #[] }] 49 2 #[349, 351, 353, 355] #[{ accessFlags := 24, nameIndex := 357, descriptorIndex := 358, attributes := #[] }])
  fields := #[{ name := "serialVersionUID", type := .long, accessFlags := 24, slot := 0, constantValue := 0 }]
  methods := #[k12m0, k12m1, k12m2, k12m3, k12m4]
  instanceTypes := #[(.array .byte), .byte, .boolean, .int]
  staticTypes := #[.long]
  resolved := Array.replicate 422 none
  statics := none }

def pool13 : Array CpInfo := pool [(2, .class_ 4), (1, u "java/lang/Object"), (0, u "<init>"), (0, u "()V"), (1, .class_ 10), (1, u "java/lang/System"), (0, u "allowSecurityManager"), (0, u "I"), (16, u "cons"), (0, u "Ljava/io/Console;"), (77, .class_ 110), (1, u "java/lang/System$CallersHolder"), (43, u "initialErrStream"), (0, u "Ljava/io/PrintStream;"), (19, u "security"), (0, u "Ljava/lang/SecurityManager;"), (31, .class_ 209), (0, u "java/lang/System$1"), (7, u "props"), (0, u "Ljava/util/Properties;"), (2, u "lineSeparator"), (0, u "Ljava/lang/String;"), (96, .class_ 321), (1, u "java/lang/System$LoggerFinder"), (5, .class_ 328), (0, u "java/lang/System$Logger"), (67, u "err"), (2, u "out"), (91, u "notSupportedJnuEncoding"), (15, u "in"), (17, u "initialIn"), (0, u "Ljava/io/InputStream;"), (35, u "bootLayer"), (0, u "Ljava/lang/ModuleLayer;"), (99, .class_ 664), (0, u "java/lang/System$2"), (9, u "NEVER"), (2, u "MAYBE"), (49, u "arraycopy"), (0, u "(Ljava/lang/Object;ILjava/lang/Object;II)V"), (72, .class_ 802), (0, u "java/lang/System$Logger$Level")] 31

def k13m0 : Method := { name := "<init>", desc := "()V", sig := { parameters := [], returnType := none }, accessFlags := 2, code := none }
def k13m1 : Method := { name := "arraycopy", desc := "(Ljava/lang/Object;ILjava/lang/Object;II)V", sig := { parameters := [(.object "java/lang/Object"), .int, (.object "java/lang/Object"), .int, .int], returnType := none }, accessFlags := 265, code := none }
/-- java/lang/System -/
def k13 : Class := { plain "java/lang/System" (some 0) with
  accessFlags := 49
  interfaces := #[]
  cf := some (fileOf pool13 8 #[.nestMembers #[319, 327, 801, 108, 663, 208]] #[{ accessFlags := 2, nameIndex := 5, descriptorIndex := 6, attributes := #[] }, { accessFlags := 265, nameIndex := 727, descriptorIndex := 728, attributes := #[] }] 49 2 #[] #[{ accessFlags := 25, nameIndex := 507, descriptorIndex := 526, attributes := #[] }, { accessFlags := 25, nameIndex := 399, descriptorIndex := 155, attributes := #[] }, { accessFlags := 25, nameIndex := 396, descriptorIndex := 155, attributes := #[] }, { accessFlags := 10, nameIndex := 525, descriptorIndex := 526, attributes := #[] }, { accessFlags := 26, nameIndex := 674, descriptorIndex := 12, attributes := #[] }, { accessFlags := 26, nameIndex := 677, descriptorIndex := 12, attributes := #[] }, { accessFlags := 10, nameIndex := 11, descriptorIndex := 12, attributes := #[] }, { accessFlags := 74, nameIndex := 175, descriptorIndex := 176, attributes := #[] }, { accessFlags := 10, nameIndex := 491, descriptorIndex := 222, attributes := #[] }, { accessFlags := 74, nameIndex := 29, descriptorIndex := 30, attributes := #[] }, { accessFlags := 74, nameIndex := 154, descriptorIndex := 155, attributes := #[] }, { accessFlags := 10, nameIndex := 217, descriptorIndex := 218, attributes := #[] }, { accessFlags := 10, nameIndex := 221, descriptorIndex := 222, attributes := #[] }, { accessFlags := 8, nameIndex := 562, descriptorIndex := 563, attributes := #[] }])
  fields := #[{ name := "in", type := (.object "java/io/InputStream"), accessFlags := 25, slot := 0, constantValue := 0 }, { name := "out", type := (.object "java/io/PrintStream"), accessFlags := 25, slot := 1, constantValue := 0 }, { name := "err", type := (.object "java/io/PrintStream"), accessFlags := 25, slot := 2, constantValue := 0 }, { name := "initialIn", type := (.object "java/io/InputStream"), accessFlags := 10, slot := 3, constantValue := 0 }, { name := "NEVER", type := .int, accessFlags := 26, slot := 4, constantValue := 0 }, { name := "MAYBE", type := .int, accessFlags := 26, slot := 5, constantValue := 0 }, { name := "allowSecurityManager", type := .int, accessFlags := 10, slot := 6, constantValue := 0 }, { name := "security", type := (.object "java/lang/SecurityManager"), accessFlags := 74, slot := 7, constantValue := 0 }, { name := "notSupportedJnuEncoding", type := (.object "java/lang/String"), accessFlags := 10, slot := 8, constantValue := 0 }, { name := "cons", type := (.object "java/io/Console"), accessFlags := 74, slot := 9, constantValue := 0 }, { name := "initialErrStream", type := (.object "java/io/PrintStream"), accessFlags := 74, slot := 10, constantValue := 0 }, { name := "props", type := (.object "java/util/Properties"), accessFlags := 10, slot := 11, constantValue := 0 }, { name := "lineSeparator", type := (.object "java/lang/String"), accessFlags := 10, slot := 12, constantValue := 0 }, { name := "bootLayer", type := (.object "java/lang/ModuleLayer"), accessFlags := 8, slot := 13, constantValue := 0 }]
  methods := #[k13m0, k13m1]
  instanceTypes := #[]
  staticTypes := #[(.object "java/io/InputStream"), (.object "java/io/PrintStream"), (.object "java/io/PrintStream"), (.object "java/io/InputStream"), .int, .int, .int, (.object "java/lang/SecurityManager"), (.object "java/lang/String"), (.object "java/io/Console"), (.object "java/io/PrintStream"), (.object "java/util/Properties"), (.object "java/lang/String"), (.object "java/lang/ModuleLayer")]
  resolved := Array.replicate 834 none
  statics := none }

def pool14 : Array CpInfo := pool [(2, .class_ 4), (1, u "java/lang/Object"), (0, u "<init>"), (0, u "()V"), (1, .class_ 10), (1, u "java/lang/Number"), (2, .class_ 14), (0, u "java/io/Serializable"), (0, u "serialVersionUID"), (0, u "J")] 20

def k14m0 : Method := { name := "<init>", desc := "()V", sig := { parameters := [], returnType := none }, accessFlags := 1, code := none }
/-- java/lang/Number -/
def k14 : Class := { plain "java/lang/Number" (some 0) with
  accessFlags := 1057
  interfaces := #[2]
  cf := some (fileOf pool14 8 #[] #[{ accessFlags := 1, nameIndex := 5, descriptorIndex := 6, attributes := #[] }] 1057 2 #[13] #[{ accessFlags := 26, nameIndex := 15, descriptorIndex := 16, attributes := #[] }])
  fields := #[{ name := "serialVersionUID", type := .long, accessFlags := 26, slot := 0, constantValue := 0 }]
  methods := #[k14m0]
  instanceTypes := #[]
  staticTypes := #[.long]
  resolved := Array.replicate 37 none
  statics := none }

def pool15 : Array CpInfo := pool [(1, .class_ 2), (0, u "java/lang/Integer"), (16, u "digits"), (0, u "[C"), (33, u "(I)I"), (19, u "stringSize"), (2, u "getChars"), (0, u "(II[B)I"), (4, .fieldref 1 84), (0, .nameAndType 85 86), (0, u "DigitOnes"), (0, u "[B"), (0, .fieldref 1 88), (0, .nameAndType 89 86), (0, u "DigitTens"), (99, .class_ 190), (0, u "java/lang/Integer$IntegerCache"), (3, u "I"), (8, .class_ 204), (0, u "java/lang/Number"), (2, u "value"), (94, u "TYPE"), (0, u "Ljava/lang/Class;"), (0, .class_ 305), (0, u "java/lang/Comparable"), (0, .class_ 307), (0, u "java/lang/constant/Constable"), (0, .class_ 309), (0, u "java/lang/constant/ConstantDesc"), (0, u "MIN_VALUE"), (1, u "MAX_VALUE"), (3, u "SIZE"), (1, u "BYTES"), (1, u "serialVersionUID"), (0, u "J")] 131

def k15c0 : Code := { maxStack := 4, maxLocals := 7, code := jdk_33_method_12_code, exceptionTable := #[], attributes := #[] }
def k15m0 : Method := { name := "getChars", desc := "(II[B)I", sig := { parameters := [.int, .int, (.array .byte)], returnType := some .int }, accessFlags := 8, code := some k15c0 }
def k15c1 : Code := { maxStack := 2, maxLocals := 4, code := jdk_33_method_13_code, exceptionTable := #[], attributes := #[] }
def k15m1 : Method := { name := "stringSize", desc := "(I)I", sig := { parameters := [.int], returnType := some .int }, accessFlags := 8, code := some k15c1 }
/-- java/lang/Integer -/
def k15 : Class := { plain "java/lang/Integer" (some 14) with
  accessFlags := 49
  interfaces := #[3, 5, 6]
  cf := some (fileOf pool15 1 #[.nestMembers #[189]] #[{ accessFlags := 8, nameIndex := 77, descriptorIndex := 78, attributes := #[] }, { accessFlags := 8, nameIndex := 74, descriptorIndex := 54, attributes := #[] }] 49 203 #[304, 306, 308] #[{ accessFlags := 25, nameIndex := 310, descriptorIndex := 194, attributes := #[] }, { accessFlags := 25, nameIndex := 312, descriptorIndex := 194, attributes := #[] }, { accessFlags := 25, nameIndex := 302, descriptorIndex := 303, attributes := #[] }, { accessFlags := 24, nameIndex := 19, descriptorIndex := 20, attributes := #[] }, { accessFlags := 24, nameIndex := 89, descriptorIndex := 86, attributes := #[] }, { accessFlags := 24, nameIndex := 85, descriptorIndex := 86, attributes := #[] }, { accessFlags := 18, nameIndex := 207, descriptorIndex := 194, attributes := #[] }, { accessFlags := 25, nameIndex := 316, descriptorIndex := 194, attributes := #[] }, { accessFlags := 25, nameIndex := 318, descriptorIndex := 194, attributes := #[] }, { accessFlags := 26, nameIndex := 320, descriptorIndex := 321, attributes := #[] }])
  fields := #[{ name := "MIN_VALUE", type := .int, accessFlags := 25, slot := 0, constantValue := 0 }, { name := "MAX_VALUE", type := .int, accessFlags := 25, slot := 1, constantValue := 0 }, { name := "TYPE", type := (.object "java/lang/Class"), accessFlags := 25, slot := 2, constantValue := 0 }, { name := "digits", type := (.array .char), accessFlags := 24, slot := 3, constantValue := 0 }, { name := "DigitTens", type := (.array .byte), accessFlags := 24, slot := 4, constantValue := 0 }, { name := "DigitOnes", type := (.array .byte), accessFlags := 24, slot := 5, constantValue := 0 }, { name := "value", type := .int, accessFlags := 18, slot := 0, constantValue := 0 }, { name := "SIZE", type := .int, accessFlags := 25, slot := 6, constantValue := 0 }, { name := "BYTES", type := .int, accessFlags := 25, slot := 7, constantValue := 0 }, { name := "serialVersionUID", type := .long, accessFlags := 26, slot := 8, constantValue := 0 }]
  methods := #[k15m0, k15m1]
  instanceTypes := #[.int]
  staticTypes := #[.int, .int, (.object "java/lang/Class"), (.array .char), (.array .byte), (.array .byte), .int, .int, .long]
  resolved := Array.replicate 453 none
  statics := some 1 }

def pool16 : Array CpInfo := pool [(2, .class_ 4), (1, u "java/lang/Object"), (0, u "<init>"), (0, u "()V"), (7, .class_ 16), (1, u "java/util/Arrays"), (57, .class_ 76), (1, u "java/util/Arrays$NaturalOrder"), (36, .class_ 115), (1, u "java/util/Arrays$LegacyMergeSort"), (1, u "Z"), (21, u "copyOfRange"), (10, .methodref 151 152), (0, .class_ 153), (0, .nameAndType 154 155), (0, u "java/lang/System"), (0, u "arraycopy"), (0, u "(Ljava/lang/Object;ILjava/lang/Object;II)V"), (148, .methodref 305 306), (0, .class_ 307), (0, .nameAndType 308 309), (0, u "java/lang/Math"), (0, u "min"), (0, u "(II)I"), (29, .methodref 14 340), (0, .nameAndType 341 342), (0, u "copyOfRangeByte"), (0, u "([BII)[B"), (0, .methodref 14 344), (0, .nameAndType 345 346), (0, u "checkLength"), (0, u "(II)V"), (28, .class_ 376), (0, u "java/util/Arrays$ArrayList"), (68, u "$assertionsDisabled"), (269, u "MIN_ARRAY_SORT_GRAN"), (0, u "I"), (2, u "INSERTIONSORT_THRESHOLD"), (255, .class_ 976), (0, u "java/util/Arrays$ArrayItr")] 52

def k16m0 : Method := { name := "<init>", desc := "()V", sig := { parameters := [], returnType := none }, accessFlags := 2, code := none }
def k16c1 : Code := { maxStack := 4, maxLocals := 2, code := jdk_65_method_131_code, exceptionTable := #[], attributes := #[] }
def k16m1 : Method := { name := "checkLength", desc := "(II)V", sig := { parameters := [.int, .int], returnType := none }, accessFlags := 10, code := some k16c1 }
def k16c2 : Code := { maxStack := 3, maxLocals := 3, code := jdk_65_method_132_code, exceptionTable := #[], attributes := #[] }
def k16m2 : Method := { name := "copyOfRange", desc := "([BII)[B", sig := { parameters := [(.array .byte), .int, .int], returnType := some (.array .byte) }, accessFlags := 9, code := some k16c2 }
def k16c3 : Code := { maxStack := 6, maxLocals := 5, code := jdk_65_method_133_code, exceptionTable := #[], attributes := #[] }
def k16m3 : Method := { name := "copyOfRangeByte", desc := "([BII)[B", sig := { parameters := [(.array .byte), .int, .int], returnType := some (.array .byte) }, accessFlags := 10, code := some k16c3 }
/-- java/util/Arrays -/
def k16 : Class := { plain "java/util/Arrays" (some 0) with
  accessFlags := 49
  interfaces := #[]
  cf := some (fileOf pool16 14 #[.nestMembers #[975, 375, 113, 74]] #[{ accessFlags := 2, nameIndex := 5, descriptorIndex := 6, attributes := #[] }, { accessFlags := 10, nameIndex := 345, descriptorIndex := 346, attributes := #[] }, { accessFlags := 9, nameIndex := 139, descriptorIndex := 342, attributes := #[] }, { accessFlags := 10, nameIndex := 341, descriptorIndex := 342, attributes := #[] }] 49 2 #[] #[{ accessFlags := 26, nameIndex := 715, descriptorIndex := 716, attributes := #[] }, { accessFlags := 26, nameIndex := 719, descriptorIndex := 716, attributes := #[] }, { accessFlags := 4120, nameIndex := 445, descriptorIndex := 117, attributes := #[] }])
  fields := #[{ name := "MIN_ARRAY_SORT_GRAN", type := .int, accessFlags := 26, slot := 0, constantValue := 0 }, { name := "INSERTIONSORT_THRESHOLD", type := .int, accessFlags := 26, slot := 1, constantValue := 0 }, { name := "$assertionsDisabled", type := .boolean, accessFlags := 4120, slot := 2, constantValue := 0 }]
  methods := #[k16m0, k16m1, k16m2, k16m3]
  instanceTypes := #[]
  staticTypes := #[.int, .int, .boolean]
  resolved := Array.replicate 1029 none
  statics := none }

def pool17 : Array CpInfo := pool [(1, .class_ 2), (0, u "java/lang/Math"), (1, .class_ 6), (1, u "java/lang/Object"), (0, u "<init>"), (0, u "()V"), (89, .class_ 100), (1, u "java/lang/Math$RandomNumberGeneratorHolder"), (71, u "negativeZeroFloatBits"), (0, u "J"), (2, u "negativeZeroDoubleBits"), (24, u "min"), (43, u "$assertionsDisabled"), (0, u "Z"), (88, u "(II)I"), (2, u "twoToTheDoubleScaleDown"), (0, u "D"), (4, u "twoToTheDoubleScaleUp"), (9, u "E"), (3, u "PI"), (2, u "TAU"), (2, u "DEGREES_TO_RADIANS"), (0, u "RADIANS_TO_DEGREES")] 94

def k17m0 : Method := { name := "<init>", desc := "()V", sig := { parameters := [], returnType := none }, accessFlags := 2, code := none }
def k17c1 : Code := { maxStack := 2, maxLocals := 2, code := jdk_29_method_69_code, exceptionTable := #[], attributes := #[] }
def k17m1 : Method := { name := "min", desc := "(II)I", sig := { parameters := [.int, .int], returnType := some .int }, accessFlags := 9, code := some k17c1 }
/-- java/lang/Math -/
def k17 : Class := { plain "java/lang/Math" (some 0) with
  accessFlags := 49
  interfaces := #[]
  cf := some (fileOf pool17 1 #[.nestMembers #[98]] #[{ accessFlags := 2, nameIndex := 7, descriptorIndex := 8, attributes := #[] }, { accessFlags := 9, nameIndex := 201, descriptorIndex := 335, attributes := #[] }] 49 4 #[] #[{ accessFlags := 25, nameIndex := 354, descriptorIndex := 339, attributes := #[] }, { accessFlags := 25, nameIndex := 358, descriptorIndex := 339, attributes := #[] }, { accessFlags := 25, nameIndex := 361, descriptorIndex := 339, attributes := #[] }, { accessFlags := 26, nameIndex := 364, descriptorIndex := 339, attributes := #[] }, { accessFlags := 26, nameIndex := 365, descriptorIndex := 339, attributes := #[] }, { accessFlags := 26, nameIndex := 172, descriptorIndex := 173, attributes := #[] }, { accessFlags := 26, nameIndex := 176, descriptorIndex := 173, attributes := #[] }, { accessFlags := 8, nameIndex := 344, descriptorIndex := 339, attributes := #[] }, { accessFlags := 8, nameIndex := 338, descriptorIndex := 339, attributes := #[] }, { accessFlags := 4120, nameIndex := 245, descriptorIndex := 246, attributes := #[] }])
  fields := #[{ name := "E", type := .double, accessFlags := 25, slot := 0, constantValue := 0 }, { name := "PI", type := .double, accessFlags := 25, slot := 1, constantValue := 0 }, { name := "TAU", type := .double, accessFlags := 25, slot := 2, constantValue := 0 }, { name := "DEGREES_TO_RADIANS", type := .double, accessFlags := 26, slot := 3, constantValue := 0 }, { name := "RADIANS_TO_DEGREES", type := .double, accessFlags := 26, slot := 4, constantValue := 0 }, { name := "negativeZeroFloatBits", type := .long, accessFlags := 26, slot := 5, constantValue := 0 }, { name := "negativeZeroDoubleBits", type := .long, accessFlags := 26, slot := 6, constantValue := 0 }, { name := "twoToTheDoubleScaleUp", type := .double, accessFlags := 8, slot := 7, constantValue := 0 }, { name := "twoToTheDoubleScaleDown", type := .double, accessFlags := 8, slot := 8, constantValue := 0 }, { name := "$assertionsDisabled", type := .boolean, accessFlags := 4120, slot := 9, constantValue := 0 }]
  methods := #[k17m0, k17m1]
  instanceTypes := #[]
  staticTypes := #[.double, .double, .double, .double, .double, .long, .long, .double, .double, .boolean]
  resolved := Array.replicate 460 none
  statics := none }

def pool18 : Array CpInfo := pool [(1, .class_ 2), (0, u "java/lang/String"), (1, .class_ 6), (1, u "java/lang/Object"), (0, u "<init>"), (0, u "()V"), (0, .methodref 1 10), (0, .nameAndType 11 12), (0, u "checkIndex"), (0, u "(II)V"), (1, .class_ 16), (1, u "java/lang/StringLatin1"), (36, u "([BI)C"), (67, u "$assertionsDisabled"), (0, u "Z"), (98, .class_ 223), (1, u "java/lang/StringLatin1$LinesSpliterator"), (28, u "charAt"), (137, .class_ 391), (0, u "java/lang/StringLatin1$CharsSpliterator")] 3

def k18m0 : Method := { name := "<init>", desc := "()V", sig := { parameters := [], returnType := none }, accessFlags := 0, code := none }
def k18c1 : Code := { maxStack := 2, maxLocals := 2, code := jdk_43_method_2_code, exceptionTable := #[], attributes := #[] }
def k18m1 : Method := { name := "charAt", desc := "([BI)C", sig := { parameters := [(.array .byte), .int], returnType := some .char }, accessFlags := 9, code := some k18c1 }
/-- java/lang/StringLatin1 -/
def k18 : Class := { plain "java/lang/StringLatin1" (some 0) with
  accessFlags := 48
  interfaces := #[]
  cf := some (fileOf pool18 14 #[.nestMembers #[390, 221]] #[{ accessFlags := 0, nameIndex := 7, descriptorIndex := 8, attributes := #[] }, { accessFlags := 9, nameIndex := 252, descriptorIndex := 53, attributes := #[] }] 48 4 #[] #[{ accessFlags := 4120, nameIndex := 121, descriptorIndex := 122, attributes := #[] }])
  fields := #[{ name := "$assertionsDisabled", type := .boolean, accessFlags := 4120, slot := 0, constantValue := 0 }]
  methods := #[k18m0, k18m1]
  instanceTypes := #[]
  staticTypes := #[.boolean]
  resolved := Array.replicate 395 none
  statics := none }

def pool19 : Array CpInfo := pool [(2, .class_ 4), (1, u "java/lang/Object"), (0, u "<init>"), (0, u "()V"), (17, .class_ 26), (1, u "jdk/internal/util/Preconditions"), (6, u "checkIndex"), (21, .class_ 56), (0, u "jdk/internal/util/Preconditions$4"), (57, .class_ 115), (0, u "jdk/internal/util/Preconditions$1"), (7, u "SIOOBE_FORMATTER"), (0, u "Ljava/util/function/BiFunction;"), (0, .class_ 126), (0, u "jdk/internal/util/Preconditions$2"), (3, u "AIOOBE_FORMATTER"), (0, .class_ 132), (0, u "jdk/internal/util/Preconditions$3"), (3, u "IOOBE_FORMATTER"), (41, u "(IILjava/util/function/BiFunction;)I")] 15

def k19m0 : Method := { name := "<init>", desc := "()V", sig := { parameters := [], returnType := none }, accessFlags := 1, code := none }
def k19c1 : Code := { maxStack := 3, maxLocals := 3, code := jdk_41_method_11_code, exceptionTable := #[], attributes := #[] }
def k19m1 : Method := { name := "checkIndex", desc := "(IILjava/util/function/BiFunction;)I", sig := { parameters := [.int, .int, (.object "java/util/function/BiFunction")], returnType := some .int }, accessFlags := 9, code := some k19c1 }
/-- jdk/internal/util/Preconditions -/
def k19 : Class := { plain "jdk/internal/util/Preconditions" (some 0) with
  accessFlags := 33
  interfaces := #[]
  cf := some (fileOf pool19 24 #[.nestMembers #[55, 131, 125, 114]] #[{ accessFlags := 1, nameIndex := 5, descriptorIndex := 6, attributes := #[] }, { accessFlags := 9, nameIndex := 33, descriptorIndex := 178, attributes := #[] }] 33 2 #[] #[{ accessFlags := 25, nameIndex := 123, descriptorIndex := 124, attributes := #[] }, { accessFlags := 25, nameIndex := 130, descriptorIndex := 124, attributes := #[] }, { accessFlags := 25, nameIndex := 136, descriptorIndex := 124, attributes := #[] }])
  fields := #[{ name := "SIOOBE_FORMATTER", type := (.object "java/util/function/BiFunction"), accessFlags := 25, slot := 0, constantValue := 0 }, { name := "AIOOBE_FORMATTER", type := (.object "java/util/function/BiFunction"), accessFlags := 25, slot := 1, constantValue := 0 }, { name := "IOOBE_FORMATTER", type := (.object "java/util/function/BiFunction"), accessFlags := 25, slot := 2, constantValue := 0 }]
  methods := #[k19m0, k19m1]
  instanceTypes := #[]
  staticTypes := #[(.object "java/util/function/BiFunction"), (.object "java/util/function/BiFunction"), (.object "java/util/function/BiFunction")]
  resolved := Array.replicate 194 none
  statics := some 2 }

def pool20 : Array CpInfo := pool [(6, .class_ 8), (1, u "java/lang/Object"), (0, u "<init>"), (0, u "()V"), (1, .class_ 14), (1, u "java/lang/StringUTF16"), (31, u "$assertionsDisabled"), (0, u "Z"), (13, u "HI_BYTE_SHIFT"), (0, u "I"), (2, u "LO_BYTE_SHIFT"), (49, .methodref 12 116), (0, .nameAndType 117 118), (0, u "compress"), (0, u "([CI[BII)I"), (3, u "([CII)[B"), (138, u "coderFromArrayLen"), (0, u "([BI)B"), (106, .class_ 371), (1, u "java/lang/StringUTF16$LinesSpliterator"), (58, u "MAX_LENGTH"), (196, .class_ 628), (0, u "java/lang/StringUTF16$CodePointsSpliterator"), (0, .class_ 630), (0, u "java/lang/StringUTF16$CharsSpliterator")] 4

def k20m0 : Method := { name := "<init>", desc := "()V", sig := { parameters := [], returnType := none }, accessFlags := 0, code := none }
def k20c1 : Code := { maxStack := 2, maxLocals := 2, code := jdk_52_method_15_code, exceptionTable := #[], attributes := #[] }
def k20m1 : Method := { name := "coderFromArrayLen", desc := "([BI)B", sig := { parameters := [(.array .byte), .int], returnType := some .byte }, accessFlags := 8, code := some k20c1 }
def k20c2 : Code := { maxStack := 5, maxLocals := 6, code := jdk_52_method_16_code, exceptionTable := #[], attributes := #[] }
def k20m2 : Method := { name := "compress", desc := "([CII)[B", sig := { parameters := [(.array .char), .int, .int], returnType := some (.array .byte) }, accessFlags := 9, code := some k20c2 }
def k20c3 : Code := { maxStack := 3, maxLocals := 7, code := jdk_52_method_21_code, exceptionTable := #[], attributes := #[] }
def k20m3 : Method := { name := "compress", desc := "([CI[BII)I", sig := { parameters := [(.array .char), .int, (.array .byte), .int, .int], returnType := some .int }, accessFlags := 9, code := some k20c3 }
/-- java/lang/StringUTF16 -/
def k20 : Class := { plain "java/lang/StringUTF16" (some 0) with
  accessFlags := 48
  interfaces := #[]
  cf := some (fileOf pool20 12 #[.nestMembers #[627, 629, 369]] #[{ accessFlags := 0, nameIndex := 9, descriptorIndex := 10, attributes := #[] }, { accessFlags := 8, nameIndex := 261, descriptorIndex := 262, attributes := #[] }, { accessFlags := 9, nameIndex := 117, descriptorIndex := 122, attributes := #[] }, { accessFlags := 9, nameIndex := 117, descriptorIndex := 118, attributes := #[] }] 48 6 #[] #[{ accessFlags := 26, nameIndex := 61, descriptorIndex := 62, attributes := #[] }, { accessFlags := 26, nameIndex := 65, descriptorIndex := 62, attributes := #[] }, { accessFlags := 24, nameIndex := 430, descriptorIndex := 62, attributes := #[] }, { accessFlags := 4120, nameIndex := 46, descriptorIndex := 47, attributes := #[] }])
  fields := #[{ name := "HI_BYTE_SHIFT", type := .int, accessFlags := 26, slot := 0, constantValue := 0 }, { name := "LO_BYTE_SHIFT", type := .int, accessFlags := 26, slot := 1, constantValue := 0 }, { name := "MAX_LENGTH", type := .int, accessFlags := 24, slot := 2, constantValue := 0 }, { name := "$assertionsDisabled", type := .boolean, accessFlags := 4120, slot := 3, constantValue := 0 }]
  methods := #[k20m0, k20m1, k20m2, k20m3]
  instanceTypes := #[]
  staticTypes := #[.int, .int, .int, .boolean]
  resolved := Array.replicate 635 none
  statics := none }

def pool21 : Array CpInfo := pool [(9, u "<init>"), (6, .class_ 18), (1, u "java/lang/Object"), (0, u "()V"), (1, .class_ 23), (1, u "jdk/internal/util/ArraysSupport"), (0, u "LOG2_ARRAY_LONG_INDEX_SCALE"), (0, u "I"), (2, u "U"), (0, u "Ljdk/internal/misc/Unsafe;"), (8, u "BIG_ENDIAN"), (0, u "Z"), (8, u "LOG2_BYTE_BIT_SIZE"), (4, u "LOG2_ARRAY_INT_INDEX_SCALE"), (54, u "JLA"), (0, u "Ljdk/internal/access/JavaLangAccess;"), (11, u "LOG2_ARRAY_BOOLEAN_INDEX_SCALE"), (9, u "LOG2_ARRAY_BYTE_INDEX_SCALE"), (5, u "LOG2_ARRAY_CHAR_INDEX_SCALE"), (5, u "LOG2_ARRAY_SHORT_INDEX_SCALE"), (18, u "LOG2_ARRAY_FLOAT_INDEX_SCALE"), (24, u "LOG2_ARRAY_DOUBLE_INDEX_SCALE"), (89, u "T_BOOLEAN"), (2, u "T_CHAR"), (1, u "T_FLOAT"), (1, u "T_DOUBLE"), (1, u "T_BYTE"), (1, u "T_SHORT"), (1, u "T_INT"), (1, u "T_LONG"), (1, u "SOFT_MAX_ARRAY_LENGTH")] 83

def k21m0 : Method := { name := "<init>", desc := "()V", sig := { parameters := [], returnType := none }, accessFlags := 2, code := none }
/-- jdk/internal/util/ArraysSupport -/
def k21 : Class := { plain "jdk/internal/util/ArraysSupport" (some 0) with
  accessFlags := 33
  interfaces := #[]
  cf := some (fileOf pool21 21 #[] #[{ accessFlags := 2, nameIndex := 9, descriptorIndex := 19, attributes := #[] }] 33 16 #[] #[{ accessFlags := 24, nameIndex := 28, descriptorIndex := 29, attributes := #[] }, { accessFlags := 26, nameIndex := 38, descriptorIndex := 39, attributes := #[] }, { accessFlags := 25, nameIndex := 121, descriptorIndex := 25, attributes := #[] }, { accessFlags := 25, nameIndex := 131, descriptorIndex := 25, attributes := #[] }, { accessFlags := 25, nameIndex := 137, descriptorIndex := 25, attributes := #[] }, { accessFlags := 25, nameIndex := 143, descriptorIndex := 25, attributes := #[] }, { accessFlags := 25, nameIndex := 53, descriptorIndex := 25, attributes := #[] }, { accessFlags := 25, nameIndex := 24, descriptorIndex := 25, attributes := #[] }, { accessFlags := 25, nameIndex := 162, descriptorIndex := 25, attributes := #[] }, { accessFlags := 25, nameIndex := 187, descriptorIndex := 25, attributes := #[] }, { accessFlags := 26, nameIndex := 48, descriptorIndex := 25, attributes := #[] }, { accessFlags := 25, nameIndex := 277, descriptorIndex := 25, attributes := #[] }, { accessFlags := 25, nameIndex := 280, descriptorIndex := 25, attributes := #[] }, { accessFlags := 25, nameIndex := 282, descriptorIndex := 25, attributes := #[] }, { accessFlags := 25, nameIndex := 284, descriptorIndex := 25, attributes := #[] }, { accessFlags := 25, nameIndex := 286, descriptorIndex := 25, attributes := #[] }, { accessFlags := 25, nameIndex := 288, descriptorIndex := 25, attributes := #[] }, { accessFlags := 25, nameIndex := 290, descriptorIndex := 25, attributes := #[] }, { accessFlags := 25, nameIndex := 292, descriptorIndex := 25, attributes := #[] }, { accessFlags := 26, nameIndex := 108, descriptorIndex := 109, attributes := #[] }, { accessFlags := 25, nameIndex := 294, descriptorIndex := 25, attributes := #[] }])
  fields := #[{ name := "U", type := (.object "jdk/internal/misc/Unsafe"), accessFlags := 24, slot := 0, constantValue := 0 }, { name := "BIG_ENDIAN", type := .boolean, accessFlags := 26, slot := 1, constantValue := 0 }, { name := "LOG2_ARRAY_BOOLEAN_INDEX_SCALE", type := .int, accessFlags := 25, slot := 2, constantValue := 0 }, { name := "LOG2_ARRAY_BYTE_INDEX_SCALE", type := .int, accessFlags := 25, slot := 3, constantValue := 0 }, { name := "LOG2_ARRAY_CHAR_INDEX_SCALE", type := .int, accessFlags := 25, slot := 4, constantValue := 0 }, { name := "LOG2_ARRAY_SHORT_INDEX_SCALE", type := .int, accessFlags := 25, slot := 5, constantValue := 0 }, { name := "LOG2_ARRAY_INT_INDEX_SCALE", type := .int, accessFlags := 25, slot := 6, constantValue := 0 }, { name := "LOG2_ARRAY_LONG_INDEX_SCALE", type := .int, accessFlags := 25, slot := 7, constantValue := 0 }, { name := "LOG2_ARRAY_FLOAT_INDEX_SCALE", type := .int, accessFlags := 25, slot := 8, constantValue := 0 }, { name := "LOG2_ARRAY_DOUBLE_INDEX_SCALE", type := .int, accessFlags := 25, slot := 9, constantValue := 0 }, { name := "LOG2_BYTE_BIT_SIZE", type := .int, accessFlags := 26, slot := 10, constantValue := 0 }, { name := "T_BOOLEAN", type := .int, accessFlags := 25, slot := 11, constantValue := 0 }, { name := "T_CHAR", type := .int, accessFlags := 25, slot := 12, constantValue := 0 }, { name := "T_FLOAT", type := .int, accessFlags := 25, slot := 13, constantValue := 0 }, { name := "T_DOUBLE", type := .int, accessFlags := 25, slot := 14, constantValue := 0 }, { name := "T_BYTE", type := .int, accessFlags := 25, slot := 15, constantValue := 0 }, { name := "T_SHORT", type := .int, accessFlags := 25, slot := 16, constantValue := 0 }, { name := "T_INT", type := .int, accessFlags := 25, slot := 17, constantValue := 0 }, { name := "T_LONG", type := .int, accessFlags := 25, slot := 18, constantValue := 0 }, { name := "JLA", type := (.object "jdk/internal/access/JavaLangAccess"), accessFlags := 26, slot := 19, constantValue := 0 }, { name := "SOFT_MAX_ARRAY_LENGTH", type := .int, accessFlags := 25, slot := 20, constantValue := 0 }]
  methods := #[k21m0]
  instanceTypes := #[]
  staticTypes := #[(.object "jdk/internal/misc/Unsafe"), .boolean, .int, .int, .int, .int, .int, .int, .int, .int, .int, .int, .int, .int, .int, .int, .int, .int, .int, (.object "jdk/internal/access/JavaLangAccess"), .int]
  resolved := Array.replicate 378 none
  statics := none }

def pool22 : Array CpInfo := pool [(1, u "java/lang/Cloneable"), (0, .class_ 1), (0, u "java/lang/Object"), (0, .class_ 3)] 3

/-- java/lang/Cloneable -/
def k22 : Class := { plain "java/lang/Cloneable" (some 0) with
  accessFlags := 1537
  interfaces := #[]
  cf := some (fileOf pool22 2 #[] #[] 1537 4 #[] #[])
  fields := #[]
  methods := #[]
  instanceTypes := #[]
  staticTypes := #[]
  resolved := Array.replicate 8 none
  statics := none }

/-- the primitive byte -/
def k23 : Class := { plain "byte" none with kind := .primitive 'B', accessFlags := 0x411 }
/-- [B -/
def k24 : Class := { plain "[B" (some 0) with kind := .array 23 .byte, interfaces := #[22, 2], accessFlags := 1041 }

/-- the primitive char -/
def k25 : Class := { plain "char" none with kind := .primitive 'C', accessFlags := 0x411 }
/-- [C -/
def k26 : Class := { plain "[C" (some 0) with kind := .array 25 .char, interfaces := #[22, 2], accessFlags := 1041 }

/-- the primitive int -/
def k27 : Class := { plain "int" none with kind := .primitive 'I', accessFlags := 0x411 }
/-- [I -/
def k28 : Class := { plain "[I" (some 0) with kind := .array 27 .int, interfaces := #[22, 2], accessFlags := 1041 }

/-- the primitive long -/
def k29 : Class := { plain "long" none with kind := .primitive 'J', accessFlags := 0x411 }
/-- [J -/
def k30 : Class := { plain "[J" (some 0) with kind := .array 29 .long, interfaces := #[22, 2], accessFlags := 1041 }

def heap : Heap := #[{ cls := 7, slots := #[.long 0, .int 1, .null, .int 0, .null, .int 0, .int 0], vm := .statics 7 },
  { cls := 15, slots := #[.int 0, .int 0, .null, .null, .ref 4, .ref 3, .int 0, .int 0, .long 0], vm := .statics 15 },
  { cls := 19, slots := #[.null, .null, .null], vm := .statics 19 },
  { cls := 24, slots := #[.int 48, .int 49, .int 50, .int 51, .int 52, .int 53, .int 54, .int 55, .int 56, .int 57, .int 48, .int 49, .int 50, .int 51, .int 52, .int 53, .int 54, .int 55, .int 56, .int 57, .int 48, .int 49, .int 50, .int 51, .int 52, .int 53, .int 54, .int 55, .int 56, .int 57, .int 48, .int 49, .int 50, .int 51, .int 52, .int 53, .int 54, .int 55, .int 56, .int 57, .int 48, .int 49, .int 50, .int 51, .int 52, .int 53, .int 54, .int 55, .int 56, .int 57, .int 48, .int 49, .int 50, .int 51, .int 52, .int 53, .int 54, .int 55, .int 56, .int 57, .int 48, .int 49, .int 50, .int 51, .int 52, .int 53, .int 54, .int 55, .int 56, .int 57, .int 48, .int 49, .int 50, .int 51, .int 52, .int 53, .int 54, .int 55, .int 56, .int 57, .int 48, .int 49, .int 50, .int 51, .int 52, .int 53, .int 54, .int 55, .int 56, .int 57, .int 48, .int 49, .int 50, .int 51, .int 52, .int 53, .int 54, .int 55, .int 56, .int 57], vm := .none },
  { cls := 24, slots := #[.int 48, .int 48, .int 48, .int 48, .int 48, .int 48, .int 48, .int 48, .int 48, .int 48, .int 49, .int 49, .int 49, .int 49, .int 49, .int 49, .int 49, .int 49, .int 49, .int 49, .int 50, .int 50, .int 50, .int 50, .int 50, .int 50, .int 50, .int 50, .int 50, .int 50, .int 51, .int 51, .int 51, .int 51, .int 51, .int 51, .int 51, .int 51, .int 51, .int 51, .int 52, .int 52, .int 52, .int 52, .int 52, .int 52, .int 52, .int 52, .int 52, .int 52, .int 53, .int 53, .int 53, .int 53, .int 53, .int 53, .int 53, .int 53, .int 53, .int 53, .int 54, .int 54, .int 54, .int 54, .int 54, .int 54, .int 54, .int 54, .int 54, .int 54, .int 55, .int 55, .int 55, .int 55, .int 55, .int 55, .int 55, .int 55, .int 55, .int 55, .int 56, .int 56, .int 56, .int 56, .int 56, .int 56, .int 56, .int 56, .int 56, .int 56, .int 57, .int 57, .int 57, .int 57, .int 57, .int 57, .int 57, .int 57, .int 57, .int 57], vm := .none }]
def classes : Array Class := #[k0, k1, k2, k3, k4, k5, k6, k7, k8, k9, k10, k11, k12, k13, k14, k15, k16, k17, k18, k19, k20, k21, k22, k23, k24, k25, k26, k27, k28, k29, k30]
def interned : List (Array UInt16 × Addr) := []
def slotsUsed : Nat := 219
def theMethod : MethodId := ⟨1, 4⟩
def args0 : Array Value := #[.int 5, .int 6]
def aboutOver (below : List Frame) : State where
  vm := { classes := classes, interned := interned.toArray }
  heap := heap
  slotsUsed := slotsUsed
  threads := #[{ frames := .invoking theMethod args0 :: below }]
def below0 : List Frame := [.native { method := ⟨0, 0⟩, args := #[] }]
def about1 : State := aboutOver below0
def p0 : Program := .bare "" "" ""
def e0 : Env := launch0.env 0 0 0
theorem w_frames : about1.frames = Frame.invoking theMethod args0 :: below0 := rfl
set_option maxRecDepth 65536 in
theorem w_args : argsFit about1.vm theMethod args0 = true := by decide +kernel
set_option maxRecDepth 65536 in
theorem w_heap : heapFits about1 = true := by decide +kernel
set_option maxRecDepth 65536 in
theorem w_runnable : about1.curStatus? = some .runnable := by decide +kernel
set_option maxRecDepth 65536 in
theorem w_alone : about1.alone = true := by decide +kernel
set_option maxRecDepth 65536 in
theorem w_named : about1.methodNamed? x = some theMethod := by decide +kernel
set_option maxRecDepth 65536 in
theorem w_hears : about1.hears theMethod below0 = true := by decide +kernel
set_option maxRecDepth 65536 in
theorem w_ripe : about1.ripe theMethod args0 below0 = true := by decide +kernel
theorem w_running : about1.status = .running := rfl
set_option maxRecDepth 65536 in
theorem w_room : about1.hasRoom e0.platform room_1 = true :=
  launch0.hasRoom_least _ room_1 (by decide +kernel) (by decide +kernel) (by decide +kernel) (by decide +kernel) (by decide +kernel) (by decide +kernel)
theorem allAtoms_all (ts : List Jvm.Cond) (a : Array Jvm.Value) (st : Jvm.State) : (allAtoms ts).before a st = ts.all (fun c => c.before a st) := by
  induction ts with
  | nil => rfl
  | cons c t ih =>
    show (Jvm.Cond.and c (allAtoms t)).before a st = _
    rw [Jvm.Cond.before_and, ih, List.all_cons]
def words1 : List Jvm.Cond := Jvm.Cond.code x code maxLocals ret :: tables_1
/-- a 'code' word, met by the world's own term for the bytes: nothing is compared byte by byte -/
theorem code_word {y : MethodName} {bytes : ByteArray} {mx : Nat} {rt : Option FieldType} {a : Array Value} {s : State} {m : MethodId} {meth : Method} {c : Code} (h1 : s.methodNamed? y = some m) (h2 : s.vm.method? m = some meth) (h3 : meth.code = some c) (h4 : c.code = bytes)
    (h5 : (c.maxLocals == mx && c.exceptionTable.isEmpty && decide (c.maxStack ≤ mostOperands) && decide (meth.sig.returnType = rt) && !meth.locks && decide (parseMethodDescriptor y.desc = some meth.sig)) = true) : (Jvm.Cond.code y bytes mx rt).before a s = true := by
  simp only [Bool.and_eq_true, beq_iff_eq, Bool.not_eq_true', decide_eq_true_eq] at h5
  obtain ⟨⟨⟨⟨⟨g1, g2⟩, g3⟩, g4⟩, g5⟩, g6⟩ := h5
  simp [Cond.before, Cond.holds, Cond.value, h1, h2, h3, h4, g1, g2, g3, g4, g5, g6]
def isCode : Jvm.Cond → Bool
  | .code _ _ _ _ => true
  | _ => false
theorem all_split {L : List Jvm.Cond} {P : Jvm.Cond → Bool} (h1 : L.all (fun c => isCode c || P c) = true) (h2 : ∀ c ∈ L.filter isCode, P c = true) : L.all P = true := by
  refine List.all_eq_true.mpr fun c hc => ?_
  have h := List.all_eq_true.mp h1 c hc
  rcases Bool.eq_false_or_eq_true (isCode c) with hi | hi
  · exact h2 c (List.mem_filter.mpr ⟨hc, hi⟩)
  · simpa [hi] using h
set_option maxRecDepth 65536 in
theorem w_c0 : (Jvm.Cond.code x code maxLocals ret).before args0 about1 = true := code_word (m := ⟨1, 4⟩) (meth := k1m4) (c := k1c4) (by decide +kernel) rfl rfl rfl (by decide +kernel)
set_option maxRecDepth 65536 in
theorem w_c1 : (Jvm.Cond.code ({ cls := "java/lang/String", name := "<init>", desc := "([C)V" } : Jvm.MethodName) jdk_42_method_3_code (2 : Nat) (Option.none : Option Jvm.ClassFile.FieldType)).before args0 about1 = true := code_word (m := ⟨7, 1⟩) (meth := k7m1) (c := k7c1) (by decide +kernel) rfl rfl rfl (by decide +kernel)
set_option maxRecDepth 65536 in
theorem w_c2 : (Jvm.Cond.code ({ cls := "java/lang/String", name := "<init>", desc := "([CIILjava/lang/Void;)V" } : Jvm.MethodName) jdk_42_method_149_code (6 : Nat) (Option.none : Option Jvm.ClassFile.FieldType)).before args0 about1 = true := code_word (m := ⟨7, 6⟩) (meth := k7m6) (c := k7c6) (by decide +kernel) rfl rfl rfl (by decide +kernel)
set_option maxRecDepth 65536 in
theorem w_c3 : (Jvm.Cond.code ({ cls := "java/lang/Object", name := "<init>", desc := "()V" } : Jvm.MethodName) object_method_1_code (1 : Nat) (Option.none : Option Jvm.ClassFile.FieldType)).before args0 about1 = true := code_word (m := ⟨0, 0⟩) (meth := k0m0) (c := k0c0) (by decide +kernel) rfl rfl rfl (by decide +kernel)
set_option maxRecDepth 65536 in
theorem w_c4 : (Jvm.Cond.code ({ cls := "com/example/gridtally/gridtally/engine/Origin", name := "<init>", desc := "(Ljava/lang/String;I)V" } : Jvm.MethodName) prog_5_method_1_code (3 : Nat) (Option.none : Option Jvm.ClassFile.FieldType)).before args0 about1 = true := code_word (m := ⟨9, 0⟩) (meth := k9m0) (c := k9c0) (by decide +kernel) rfl rfl rfl (by decide +kernel)
set_option maxRecDepth 65536 in
theorem w_c5 : (Jvm.Cond.code ({ cls := "java/lang/Record", name := "<init>", desc := "()V" } : Jvm.MethodName) jdk_30_method_1_code (1 : Nat) (Option.none : Option Jvm.ClassFile.FieldType)).before args0 about1 = true := code_word (m := ⟨8, 0⟩) (meth := k8m0) (c := k8c0) (by decide +kernel) rfl rfl rfl (by decide +kernel)
set_option maxRecDepth 65536 in
theorem w_c6 : (Jvm.Cond.code ({ cls := "com/example/gridtally/gridtally/engine/Origin", name := "toString", desc := "()Ljava/lang/String;" } : Jvm.MethodName) prog_5_method_4_code (1 : Nat) (Option.some (Jvm.ClassFile.FieldType.object "java/lang/String"))).before args0 about1 = true := code_word (m := ⟨9, 1⟩) (meth := k9m1) (c := k9c1) (by decide +kernel) rfl rfl rfl (by decide +kernel)
set_option maxRecDepth 65536 in
theorem w_c7 : (Jvm.Cond.code ({ cls := "java/lang/StringBuilder", name := "<init>", desc := "()V" } : Jvm.MethodName) jdk_67_method_1_code (1 : Nat) (Option.none : Option Jvm.ClassFile.FieldType)).before args0 about1 = true := code_word (m := ⟨12, 0⟩) (meth := k12m0) (c := k12c0) (by decide +kernel) rfl rfl rfl (by decide +kernel)
set_option maxRecDepth 65536 in
theorem w_c8 : (Jvm.Cond.code ({ cls := "java/lang/AbstractStringBuilder", name := "<init>", desc := "(I)V" } : Jvm.MethodName) jdk_68_method_2_code (2 : Nat) (Option.none : Option Jvm.ClassFile.FieldType)).before args0 about1 = true := code_word (m := ⟨11, 1⟩) (meth := k11m1) (c := k11c1) (by decide +kernel) rfl rfl rfl (by decide +kernel)
set_option maxRecDepth 65536 in
theorem w_c9 : (Jvm.Cond.code ({ cls := "java/lang/StringBuilder", name := "append", desc := "(Ljava/lang/String;)Ljava/lang/StringBuilder;" } : Jvm.MethodName) jdk_67_method_7_code (2 : Nat) (Option.some (Jvm.ClassFile.FieldType.object "java/lang/StringBuilder"))).before args0 about1 = true := code_word (m := ⟨12, 1⟩) (meth := k12m1) (c := k12c1) (by decide +kernel) rfl rfl rfl (by decide +kernel)
set_option maxRecDepth 65536 in
theorem w_c10 : (Jvm.Cond.code ({ cls := "java/lang/AbstractStringBuilder", name := "append", desc := "(Ljava/lang/String;)Ljava/lang/AbstractStringBuilder;" } : Jvm.MethodName) jdk_68_method_22_code (3 : Nat) (Option.some (Jvm.ClassFile.FieldType.object "java/lang/AbstractStringBuilder"))).before args0 about1 = true := code_word (m := ⟨11, 4⟩) (meth := k11m4) (c := k11c4) (by decide +kernel) rfl rfl rfl (by decide +kernel)
set_option maxRecDepth 65536 in
theorem w_c11 : (Jvm.Cond.code ({ cls := "java/lang/String", name := "length", desc := "()I" } : Jvm.MethodName) jdk_42_method_54_code (1 : Nat) (Option.some Jvm.ClassFile.FieldType.int)).before args0 about1 = true := code_word (m := ⟨7, 3⟩) (meth := k7m3) (c := k7c3) (by decide +kernel) rfl rfl rfl (by decide +kernel)
set_option maxRecDepth 65536 in
theorem w_c12 : (Jvm.Cond.code ({ cls := "java/lang/String", name := "coder", desc := "()B" } : Jvm.MethodName) jdk_42_method_152_code (1 : Nat) (Option.some Jvm.ClassFile.FieldType.byte)).before args0 about1 = true := code_word (m := ⟨7, 8⟩) (meth := k7m8) (c := k7c8) (by decide +kernel) rfl rfl rfl (by decide +kernel)
set_option maxRecDepth 65536 in
theorem w_c13 : (Jvm.Cond.code ({ cls := "java/lang/AbstractStringBuilder", name := "ensureCapacityInternal", desc := "(I)V" } : Jvm.MethodName) jdk_68_method_9_code (3 : Nat) (Option.none : Option Jvm.ClassFile.FieldType)).before args0 about1 = true := code_word (m := ⟨11, 3⟩) (meth := k11m3) (c := k11c3) (by decide +kernel) rfl rfl rfl (by decide +kernel)
set_option maxRecDepth 65536 in
theorem w_c14 : (Jvm.Cond.code ({ cls := "java/lang/AbstractStringBuilder", name := "putStringAt", desc := "(ILjava/lang/String;)V" } : Jvm.MethodName) jdk_68_method_73_code (3 : Nat) (Option.none : Option Jvm.ClassFile.FieldType)).before args0 about1 = true := code_word (m := ⟨11, 9⟩) (meth := k11m9) (c := k11c9) (by decide +kernel) rfl rfl rfl (by decide +kernel)
set_option maxRecDepth 65536 in
theorem w_c15 : (Jvm.Cond.code ({ cls := "java/lang/AbstractStringBuilder", name := "inflateIfNeededFor", desc := "(Ljava/lang/String;)V" } : Jvm.MethodName) jdk_68_method_71_code (2 : Nat) (Option.none : Option Jvm.ClassFile.FieldType)).before args0 about1 = true := code_word (m := ⟨11, 8⟩) (meth := k11m8) (c := k11c8) (by decide +kernel) rfl rfl rfl (by decide +kernel)
set_option maxRecDepth 65536 in
theorem w_c16 : (Jvm.Cond.code ({ cls := "java/lang/String", name := "getBytes", desc := "([BIB)V" } : Jvm.MethodName) jdk_42_method_147_code (4 : Nat) (Option.none : Option Jvm.ClassFile.FieldType)).before args0 about1 = true := code_word (m := ⟨7, 5⟩) (meth := k7m5) (c := k7c5) (by decide +kernel) rfl rfl rfl (by decide +kernel)
set_option maxRecDepth 65536 in
theorem w_c17 : (Jvm.Cond.code ({ cls := "java/lang/StringBuilder", name := "append", desc := "(I)Ljava/lang/StringBuilder;" } : Jvm.MethodName) jdk_67_method_15_code (2 : Nat) (Option.some (Jvm.ClassFile.FieldType.object "java/lang/StringBuilder"))).before args0 about1 = true := code_word (m := ⟨12, 2⟩) (meth := k12m2) (c := k12c2) (by decide +kernel) rfl rfl rfl (by decide +kernel)
set_option maxRecDepth 65536 in
theorem w_c18 : (Jvm.Cond.code ({ cls := "java/lang/AbstractStringBuilder", name := "append", desc := "(I)Ljava/lang/AbstractStringBuilder;" } : Jvm.MethodName) jdk_68_method_32_code (4 : Nat) (Option.some (Jvm.ClassFile.FieldType.object "java/lang/AbstractStringBuilder"))).before args0 about1 = true := code_word (m := ⟨11, 5⟩) (meth := k11m5) (c := k11c5) (by decide +kernel) rfl rfl rfl (by decide +kernel)
set_option maxRecDepth 65536 in
theorem w_c19 : (Jvm.Cond.code ({ cls := "java/lang/Integer", name := "stringSize", desc := "(I)I" } : Jvm.MethodName) jdk_33_method_13_code (4 : Nat) (Option.some Jvm.ClassFile.FieldType.int)).before args0 about1 = true := code_word (m := ⟨15, 1⟩) (meth := k15m1) (c := k15c1) (by decide +kernel) rfl rfl rfl (by decide +kernel)
set_option maxRecDepth 65536 in
theorem w_c20 : (Jvm.Cond.code ({ cls := "java/lang/AbstractStringBuilder", name := "isLatin1", desc := "()Z" } : Jvm.MethodName) jdk_68_method_68_code (1 : Nat) (Option.some Jvm.ClassFile.FieldType.boolean)).before args0 about1 = true := code_word (m := ⟨11, 7⟩) (meth := k11m7) (c := k11c7) (by decide +kernel) rfl rfl rfl (by decide +kernel)
set_option maxRecDepth 65536 in
theorem w_c21 : (Jvm.Cond.code ({ cls := "java/lang/Integer", name := "getChars", desc := "(II[B)I" } : Jvm.MethodName) jdk_33_method_12_code (7 : Nat) (Option.some Jvm.ClassFile.FieldType.int)).before args0 about1 = true := code_word (m := ⟨15, 0⟩) (meth := k15m0) (c := k15c0) (by decide +kernel) rfl rfl rfl (by decide +kernel)
set_option maxRecDepth 65536 in
theorem w_c22 : (Jvm.Cond.code ({ cls := "java/lang/StringBuilder", name := "toString", desc := "()Ljava/lang/String;" } : Jvm.MethodName) jdk_67_method_42_code (1 : Nat) (Option.some (Jvm.ClassFile.FieldType.object "java/lang/String"))).before args0 about1 = true := code_word (m := ⟨12, 3⟩) (meth := k12m3) (c := k12c3) (by decide +kernel) rfl rfl rfl (by decide +kernel)
set_option maxRecDepth 65536 in
theorem w_c23 : (Jvm.Cond.code ({ cls := "java/lang/String", name := "<init>", desc := "(Ljava/lang/StringBuilder;)V" } : Jvm.MethodName) jdk_42_method_53_code (2 : Nat) (Option.none : Option Jvm.ClassFile.FieldType)).before args0 about1 = true := code_word (m := ⟨7, 2⟩) (meth := k7m2) (c := k7c2) (by decide +kernel) rfl rfl rfl (by decide +kernel)
set_option maxRecDepth 65536 in
theorem w_c24 : (Jvm.Cond.code ({ cls := "java/lang/String", name := "<init>", desc := "(Ljava/lang/AbstractStringBuilder;Ljava/lang/Void;)V" } : Jvm.MethodName) jdk_42_method_150_code (5 : Nat) (Option.none : Option Jvm.ClassFile.FieldType)).before args0 about1 = true := code_word (m := ⟨7, 7⟩) (meth := k7m7) (c := k7c7) (by decide +kernel) rfl rfl rfl (by decide +kernel)
set_option maxRecDepth 65536 in
theorem w_c25 : (Jvm.Cond.code ({ cls := "java/lang/AbstractStringBuilder", name := "getValue", desc := "()[B" } : Jvm.MethodName) jdk_68_method_64_code (1 : Nat) (Option.some (Jvm.ClassFile.FieldType.array Jvm.ClassFile.FieldType.byte))).before args0 about1 = true := code_word (m := ⟨11, 6⟩) (meth := k11m6) (c := k11c6) (by decide +kernel) rfl rfl rfl (by decide +kernel)
set_option maxRecDepth 65536 in
theorem w_c26 : (Jvm.Cond.code ({ cls := "java/lang/StringBuilder", name := "length", desc := "()I" } : Jvm.MethodName) jdk_67_method_93_code (1 : Nat) (Option.some Jvm.ClassFile.FieldType.int)).before args0 about1 = true := code_word (m := ⟨12, 4⟩) (meth := k12m4) (c := k12c4) (by decide +kernel) rfl rfl rfl (by decide +kernel)
set_option maxRecDepth 65536 in
theorem w_c27 : (Jvm.Cond.code ({ cls := "java/lang/AbstractStringBuilder", name := "length", desc := "()I" } : Jvm.MethodName) jdk_68_method_6_code (1 : Nat) (Option.some Jvm.ClassFile.FieldType.int)).before args0 about1 = true := code_word (m := ⟨11, 2⟩) (meth := k11m2) (c := k11c2) (by decide +kernel) rfl rfl rfl (by decide +kernel)
set_option maxRecDepth 65536 in
theorem w_c28 : (Jvm.Cond.code ({ cls := "java/util/Arrays", name := "copyOfRange", desc := "([BII)[B" } : Jvm.MethodName) jdk_65_method_132_code (3 : Nat) (Option.some (Jvm.ClassFile.FieldType.array Jvm.ClassFile.FieldType.byte))).before args0 about1 = true := code_word (m := ⟨16, 2⟩) (meth := k16m2) (c := k16c2) (by decide +kernel) rfl rfl rfl (by decide +kernel)
set_option maxRecDepth 65536 in
theorem w_c29 : (Jvm.Cond.code ({ cls := "java/util/Arrays", name := "copyOfRangeByte", desc := "([BII)[B" } : Jvm.MethodName) jdk_65_method_133_code (5 : Nat) (Option.some (Jvm.ClassFile.FieldType.array Jvm.ClassFile.FieldType.byte))).before args0 about1 = true := code_word (m := ⟨16, 3⟩) (meth := k16m3) (c := k16c3) (by decide +kernel) rfl rfl rfl (by decide +kernel)
set_option maxRecDepth 65536 in
theorem w_c30 : (Jvm.Cond.code ({ cls := "java/util/Arrays", name := "checkLength", desc := "(II)V" } : Jvm.MethodName) jdk_65_method_131_code (2 : Nat) (Option.none : Option Jvm.ClassFile.FieldType)).before args0 about1 = true := code_word (m := ⟨16, 1⟩) (meth := k16m1) (c := k16c1) (by decide +kernel) rfl rfl rfl (by decide +kernel)
set_option maxRecDepth 65536 in
theorem w_c31 : (Jvm.Cond.code ({ cls := "java/lang/Math", name := "min", desc := "(II)I" } : Jvm.MethodName) jdk_29_method_69_code (2 : Nat) (Option.some Jvm.ClassFile.FieldType.int)).before args0 about1 = true := code_word (m := ⟨17, 1⟩) (meth := k17m1) (c := k17c1) (by decide +kernel) rfl rfl rfl (by decide +kernel)
set_option maxRecDepth 65536 in
theorem w_c32 : (Jvm.Cond.code ({ cls := "com/example/gridtally/gridtally/engine/OriginToStringPinLaw", name := "decLen", desc := "(I)I" } : Jvm.MethodName) method_2_code (5 : Nat) (Option.some Jvm.ClassFile.FieldType.int)).before args0 about1 = true := code_word (m := ⟨1, 1⟩) (meth := k1m1) (c := k1c1) (by decide +kernel) rfl rfl rfl (by decide +kernel)
set_option maxRecDepth 65536 in
theorem w_c33 : (Jvm.Cond.code ({ cls := "java/lang/String", name := "charAt", desc := "(I)C" } : Jvm.MethodName) jdk_42_method_56_code (2 : Nat) (Option.some Jvm.ClassFile.FieldType.char)).before args0 about1 = true := code_word (m := ⟨7, 4⟩) (meth := k7m4) (c := k7c4) (by decide +kernel) rfl rfl rfl (by decide +kernel)
set_option maxRecDepth 65536 in
theorem w_c34 : (Jvm.Cond.code ({ cls := "java/lang/String", name := "isLatin1", desc := "()Z" } : Jvm.MethodName) jdk_42_method_154_code (1 : Nat) (Option.some Jvm.ClassFile.FieldType.boolean)).before args0 about1 = true := code_word (m := ⟨7, 9⟩) (meth := k7m9) (c := k7c9) (by decide +kernel) rfl rfl rfl (by decide +kernel)
set_option maxRecDepth 65536 in
theorem w_c35 : (Jvm.Cond.code ({ cls := "java/lang/StringLatin1", name := "charAt", desc := "([BI)C" } : Jvm.MethodName) jdk_43_method_2_code (2 : Nat) (Option.some Jvm.ClassFile.FieldType.char)).before args0 about1 = true := code_word (m := ⟨18, 1⟩) (meth := k18m1) (c := k18c1) (by decide +kernel) rfl rfl rfl (by decide +kernel)
set_option maxRecDepth 65536 in
theorem w_c36 : (Jvm.Cond.code ({ cls := "java/lang/String", name := "checkIndex", desc := "(II)V" } : Jvm.MethodName) jdk_42_method_155_code (2 : Nat) (Option.none : Option Jvm.ClassFile.FieldType)).before args0 about1 = true := code_word (m := ⟨7, 10⟩) (meth := k7m10) (c := k7c10) (by decide +kernel) rfl rfl rfl (by decide +kernel)
set_option maxRecDepth 65536 in
theorem w_c37 : (Jvm.Cond.code ({ cls := "jdk/internal/util/Preconditions", name := "checkIndex", desc := "(IILjava/util/function/BiFunction;)I" } : Jvm.MethodName) jdk_41_method_11_code (3 : Nat) (Option.some Jvm.ClassFile.FieldType.int)).before args0 about1 = true := code_word (m := ⟨19, 1⟩) (meth := k19m1) (c := k19c1) (by decide +kernel) rfl rfl rfl (by decide +kernel)
set_option maxRecDepth 65536 in
theorem w_c38 : (Jvm.Cond.code ({ cls := "com/example/gridtally/gridtally/engine/OriginToStringPinLaw", name := "digitOk", desc := "(Ljava/lang/String;IIII)Z" } : Jvm.MethodName) method_4_code (5 : Nat) (Option.some Jvm.ClassFile.FieldType.boolean)).before args0 about1 = true := code_word (m := ⟨1, 3⟩) (meth := k1m3) (c := k1c3) (by decide +kernel) rfl rfl rfl (by decide +kernel)
set_option maxRecDepth 65536 in
theorem w_c39 : (Jvm.Cond.code ({ cls := "com/example/gridtally/gridtally/engine/OriginToStringPinLaw", name := "decChar", desc := "(III)C" } : Jvm.MethodName) method_3_code (7 : Nat) (Option.some Jvm.ClassFile.FieldType.char)).before args0 about1 = true := code_word (m := ⟨1, 2⟩) (meth := k1m2) (c := k1c2) (by decide +kernel) rfl rfl rfl (by decide +kernel)
set_option maxRecDepth 65536 in
theorem w_c40 : (Jvm.Cond.code ({ cls := "java/lang/StringUTF16", name := "compress", desc := "([CII)[B" } : Jvm.MethodName) jdk_52_method_16_code (6 : Nat) (Option.some (Jvm.ClassFile.FieldType.array Jvm.ClassFile.FieldType.byte))).before args0 about1 = true := code_word (m := ⟨20, 2⟩) (meth := k20m2) (c := k20c2) (by decide +kernel) rfl rfl rfl (by decide +kernel)
set_option maxRecDepth 65536 in
theorem w_c41 : (Jvm.Cond.code ({ cls := "java/lang/StringUTF16", name := "compress", desc := "([CI[BII)I" } : Jvm.MethodName) jdk_52_method_21_code (7 : Nat) (Option.some Jvm.ClassFile.FieldType.int)).before args0 about1 = true := code_word (m := ⟨20, 3⟩) (meth := k20m3) (c := k20c3) (by decide +kernel) rfl rfl rfl (by decide +kernel)
set_option maxRecDepth 65536 in
theorem w_c42 : (Jvm.Cond.code ({ cls := "java/lang/StringUTF16", name := "coderFromArrayLen", desc := "([BI)B" } : Jvm.MethodName) jdk_52_method_15_code (2 : Nat) (Option.some Jvm.ClassFile.FieldType.byte)).before args0 about1 = true := code_word (m := ⟨20, 1⟩) (meth := k20m1) (c := k20c1) (by decide +kernel) rfl rfl rfl (by decide +kernel)
def codes1 : List Jvm.Cond := [Jvm.Cond.code x code maxLocals ret, Jvm.Cond.code ({ cls := "java/lang/String", name := "<init>", desc := "([C)V" } : Jvm.MethodName) jdk_42_method_3_code (2 : Nat) (Option.none : Option Jvm.ClassFile.FieldType), Jvm.Cond.code ({ cls := "java/lang/String", name := "<init>", desc := "([CIILjava/lang/Void;)V" } : Jvm.MethodName) jdk_42_method_149_code (6 : Nat) (Option.none : Option Jvm.ClassFile.FieldType), Jvm.Cond.code ({ cls := "java/lang/Object", name := "<init>", desc := "()V" } : Jvm.MethodName) object_method_1_code (1 : Nat) (Option.none : Option Jvm.ClassFile.FieldType), Jvm.Cond.code ({ cls := "com/example/gridtally/gridtally/engine/Origin", name := "<init>", desc := "(Ljava/lang/String;I)V" } : Jvm.MethodName) prog_5_method_1_code (3 : Nat) (Option.none : Option Jvm.ClassFile.FieldType), Jvm.Cond.code ({ cls := "java/lang/Record", name := "<init>", desc := "()V" } : Jvm.MethodName) jdk_30_method_1_code (1 : Nat) (Option.none : Option Jvm.ClassFile.FieldType), Jvm.Cond.code ({ cls := "com/example/gridtally/gridtally/engine/Origin", name := "toString", desc := "()Ljava/lang/String;" } : Jvm.MethodName) prog_5_method_4_code (1 : Nat) (Option.some (Jvm.ClassFile.FieldType.object "java/lang/String")), Jvm.Cond.code ({ cls := "java/lang/StringBuilder", name := "<init>", desc := "()V" } : Jvm.MethodName) jdk_67_method_1_code (1 : Nat) (Option.none : Option Jvm.ClassFile.FieldType), Jvm.Cond.code ({ cls := "java/lang/AbstractStringBuilder", name := "<init>", desc := "(I)V" } : Jvm.MethodName) jdk_68_method_2_code (2 : Nat) (Option.none : Option Jvm.ClassFile.FieldType), Jvm.Cond.code ({ cls := "java/lang/StringBuilder", name := "append", desc := "(Ljava/lang/String;)Ljava/lang/StringBuilder;" } : Jvm.MethodName) jdk_67_method_7_code (2 : Nat) (Option.some (Jvm.ClassFile.FieldType.object "java/lang/StringBuilder")), Jvm.Cond.code ({ cls := "java/lang/AbstractStringBuilder", name := "append", desc := "(Ljava/lang/String;)Ljava/lang/AbstractStringBuilder;" } : Jvm.MethodName) jdk_68_method_22_code (3 : Nat) (Option.some (Jvm.ClassFile.FieldType.object "java/lang/AbstractStringBuilder")), Jvm.Cond.code ({ cls := "java/lang/String", name := "length", desc := "()I" } : Jvm.MethodName) jdk_42_method_54_code (1 : Nat) (Option.some Jvm.ClassFile.FieldType.int), Jvm.Cond.code ({ cls := "java/lang/String", name := "coder", desc := "()B" } : Jvm.MethodName) jdk_42_method_152_code (1 : Nat) (Option.some Jvm.ClassFile.FieldType.byte), Jvm.Cond.code ({ cls := "java/lang/AbstractStringBuilder", name := "ensureCapacityInternal", desc := "(I)V" } : Jvm.MethodName) jdk_68_method_9_code (3 : Nat) (Option.none : Option Jvm.ClassFile.FieldType), Jvm.Cond.code ({ cls := "java/lang/AbstractStringBuilder", name := "putStringAt", desc := "(ILjava/lang/String;)V" } : Jvm.MethodName) jdk_68_method_73_code (3 : Nat) (Option.none : Option Jvm.ClassFile.FieldType), Jvm.Cond.code ({ cls := "java/lang/AbstractStringBuilder", name := "inflateIfNeededFor", desc := "(Ljava/lang/String;)V" } : Jvm.MethodName) jdk_68_method_71_code (2 : Nat) (Option.none : Option Jvm.ClassFile.FieldType), Jvm.Cond.code ({ cls := "java/lang/String", name := "getBytes", desc := "([BIB)V" } : Jvm.MethodName) jdk_42_method_147_code (4 : Nat) (Option.none : Option Jvm.ClassFile.FieldType), Jvm.Cond.code ({ cls := "java/lang/StringBuilder", name := "append", desc := "(I)Ljava/lang/StringBuilder;" } : Jvm.MethodName) jdk_67_method_15_code (2 : Nat) (Option.some (Jvm.ClassFile.FieldType.object "java/lang/StringBuilder")), Jvm.Cond.code ({ cls := "java/lang/AbstractStringBuilder", name := "append", desc := "(I)Ljava/lang/AbstractStringBuilder;" } : Jvm.MethodName) jdk_68_method_32_code (4 : Nat) (Option.some (Jvm.ClassFile.FieldType.object "java/lang/AbstractStringBuilder")), Jvm.Cond.code ({ cls := "java/lang/Integer", name := "stringSize", desc := "(I)I" } : Jvm.MethodName) jdk_33_method_13_code (4 : Nat) (Option.some Jvm.ClassFile.FieldType.int), Jvm.Cond.code ({ cls := "java/lang/AbstractStringBuilder", name := "isLatin1", desc := "()Z" } : Jvm.MethodName) jdk_68_method_68_code (1 : Nat) (Option.some Jvm.ClassFile.FieldType.boolean), Jvm.Cond.code ({ cls := "java/lang/Integer", name := "getChars", desc := "(II[B)I" } : Jvm.MethodName) jdk_33_method_12_code (7 : Nat) (Option.some Jvm.ClassFile.FieldType.int), Jvm.Cond.code ({ cls := "java/lang/StringBuilder", name := "toString", desc := "()Ljava/lang/String;" } : Jvm.MethodName) jdk_67_method_42_code (1 : Nat) (Option.some (Jvm.ClassFile.FieldType.object "java/lang/String")), Jvm.Cond.code ({ cls := "java/lang/String", name := "<init>", desc := "(Ljava/lang/StringBuilder;)V" } : Jvm.MethodName) jdk_42_method_53_code (2 : Nat) (Option.none : Option Jvm.ClassFile.FieldType), Jvm.Cond.code ({ cls := "java/lang/String", name := "<init>", desc := "(Ljava/lang/AbstractStringBuilder;Ljava/lang/Void;)V" } : Jvm.MethodName) jdk_42_method_150_code (5 : Nat) (Option.none : Option Jvm.ClassFile.FieldType), Jvm.Cond.code ({ cls := "java/lang/AbstractStringBuilder", name := "getValue", desc := "()[B" } : Jvm.MethodName) jdk_68_method_64_code (1 : Nat) (Option.some (Jvm.ClassFile.FieldType.array Jvm.ClassFile.FieldType.byte)), Jvm.Cond.code ({ cls := "java/lang/StringBuilder", name := "length", desc := "()I" } : Jvm.MethodName) jdk_67_method_93_code (1 : Nat) (Option.some Jvm.ClassFile.FieldType.int), Jvm.Cond.code ({ cls := "java/lang/AbstractStringBuilder", name := "length", desc := "()I" } : Jvm.MethodName) jdk_68_method_6_code (1 : Nat) (Option.some Jvm.ClassFile.FieldType.int), Jvm.Cond.code ({ cls := "java/util/Arrays", name := "copyOfRange", desc := "([BII)[B" } : Jvm.MethodName) jdk_65_method_132_code (3 : Nat) (Option.some (Jvm.ClassFile.FieldType.array Jvm.ClassFile.FieldType.byte)), Jvm.Cond.code ({ cls := "java/util/Arrays", name := "copyOfRangeByte", desc := "([BII)[B" } : Jvm.MethodName) jdk_65_method_133_code (5 : Nat) (Option.some (Jvm.ClassFile.FieldType.array Jvm.ClassFile.FieldType.byte)), Jvm.Cond.code ({ cls := "java/util/Arrays", name := "checkLength", desc := "(II)V" } : Jvm.MethodName) jdk_65_method_131_code (2 : Nat) (Option.none : Option Jvm.ClassFile.FieldType), Jvm.Cond.code ({ cls := "java/lang/Math", name := "min", desc := "(II)I" } : Jvm.MethodName) jdk_29_method_69_code (2 : Nat) (Option.some Jvm.ClassFile.FieldType.int), Jvm.Cond.code ({ cls := "com/example/gridtally/gridtally/engine/OriginToStringPinLaw", name := "decLen", desc := "(I)I" } : Jvm.MethodName) method_2_code (5 : Nat) (Option.some Jvm.ClassFile.FieldType.int), Jvm.Cond.code ({ cls := "java/lang/String", name := "charAt", desc := "(I)C" } : Jvm.MethodName) jdk_42_method_56_code (2 : Nat) (Option.some Jvm.ClassFile.FieldType.char), Jvm.Cond.code ({ cls := "java/lang/String", name := "isLatin1", desc := "()Z" } : Jvm.MethodName) jdk_42_method_154_code (1 : Nat) (Option.some Jvm.ClassFile.FieldType.boolean), Jvm.Cond.code ({ cls := "java/lang/StringLatin1", name := "charAt", desc := "([BI)C" } : Jvm.MethodName) jdk_43_method_2_code (2 : Nat) (Option.some Jvm.ClassFile.FieldType.char), Jvm.Cond.code ({ cls := "java/lang/String", name := "checkIndex", desc := "(II)V" } : Jvm.MethodName) jdk_42_method_155_code (2 : Nat) (Option.none : Option Jvm.ClassFile.FieldType), Jvm.Cond.code ({ cls := "jdk/internal/util/Preconditions", name := "checkIndex", desc := "(IILjava/util/function/BiFunction;)I" } : Jvm.MethodName) jdk_41_method_11_code (3 : Nat) (Option.some Jvm.ClassFile.FieldType.int), Jvm.Cond.code ({ cls := "com/example/gridtally/gridtally/engine/OriginToStringPinLaw", name := "digitOk", desc := "(Ljava/lang/String;IIII)Z" } : Jvm.MethodName) method_4_code (5 : Nat) (Option.some Jvm.ClassFile.FieldType.boolean), Jvm.Cond.code ({ cls := "com/example/gridtally/gridtally/engine/OriginToStringPinLaw", name := "decChar", desc := "(III)C" } : Jvm.MethodName) method_3_code (7 : Nat) (Option.some Jvm.ClassFile.FieldType.char), Jvm.Cond.code ({ cls := "java/lang/StringUTF16", name := "compress", desc := "([CII)[B" } : Jvm.MethodName) jdk_52_method_16_code (6 : Nat) (Option.some (Jvm.ClassFile.FieldType.array Jvm.ClassFile.FieldType.byte)), Jvm.Cond.code ({ cls := "java/lang/StringUTF16", name := "compress", desc := "([CI[BII)I" } : Jvm.MethodName) jdk_52_method_21_code (7 : Nat) (Option.some Jvm.ClassFile.FieldType.int), Jvm.Cond.code ({ cls := "java/lang/StringUTF16", name := "coderFromArrayLen", desc := "([BI)B" } : Jvm.MethodName) jdk_52_method_15_code (2 : Nat) (Option.some Jvm.ClassFile.FieldType.byte)]
set_option maxRecDepth 65536 in
theorem codes_eq : words1.filter isCode = codes1 := rfl
theorem w_codes : ∀ c ∈ words1.filter isCode, c.before args0 about1 = true := by
  rw [codes_eq]
  intro c hc
  simp only [codes1, List.mem_cons, List.not_mem_nil, or_false] at hc
  rcases hc with rfl | rfl | rfl | rfl | rfl | rfl | rfl | rfl | rfl | rfl | rfl | rfl | rfl | rfl | rfl | rfl | rfl | rfl | rfl | rfl | rfl | rfl | rfl | rfl | rfl | rfl | rfl | rfl | rfl | rfl | rfl | rfl | rfl | rfl | rfl | rfl | rfl | rfl | rfl | rfl | rfl | rfl | rfl
  · exact w_c0
  · exact w_c1
  · exact w_c2
  · exact w_c3
  · exact w_c4
  · exact w_c5
  · exact w_c6
  · exact w_c7
  · exact w_c8
  · exact w_c9
  · exact w_c10
  · exact w_c11
  · exact w_c12
  · exact w_c13
  · exact w_c14
  · exact w_c15
  · exact w_c16
  · exact w_c17
  · exact w_c18
  · exact w_c19
  · exact w_c20
  · exact w_c21
  · exact w_c22
  · exact w_c23
  · exact w_c24
  · exact w_c25
  · exact w_c26
  · exact w_c27
  · exact w_c28
  · exact w_c29
  · exact w_c30
  · exact w_c31
  · exact w_c32
  · exact w_c33
  · exact w_c34
  · exact w_c35
  · exact w_c36
  · exact w_c37
  · exact w_c38
  · exact w_c39
  · exact w_c40
  · exact w_c41
  · exact w_c42
set_option maxRecDepth 65536 in
theorem w_t1 : (words1.take 24).all (fun c => isCode c || c.before args0 about1) = true := by decide +kernel
set_option maxRecDepth 65536 in
theorem w_t2 : ((words1.drop 24).take 24).all (fun c => isCode c || c.before args0 about1) = true := by decide +kernel
set_option maxRecDepth 65536 in
theorem w_t3 : (((words1.drop 24).drop 24).take 24).all (fun c => isCode c || c.before args0 about1) = true := by decide +kernel
set_option maxRecDepth 65536 in
theorem w_t4 : ((((words1.drop 24).drop 24).drop 24).take 24).all (fun c => isCode c || c.before args0 about1) = true := by decide +kernel
set_option maxRecDepth 65536 in
theorem w_t5 : (((((words1.drop 24).drop 24).drop 24).drop 24).take 24).all (fun c => isCode c || c.before args0 about1) = true := by decide +kernel
set_option maxRecDepth 65536 in
theorem w_t6 : ((((((words1.drop 24).drop 24).drop 24).drop 24).drop 24).take 24).all (fun c => isCode c || c.before args0 about1) = true := by decide +kernel
set_option maxRecDepth 65536 in
theorem w_t7 : (((((((words1.drop 24).drop 24).drop 24).drop 24).drop 24).drop 24).take 24).all (fun c => isCode c || c.before args0 about1) = true := by decide +kernel
set_option maxRecDepth 65536 in
theorem w_t8 : ((((((((words1.drop 24).drop 24).drop 24).drop 24).drop 24).drop 24).drop 24).take 24).all (fun c => isCode c || c.before args0 about1) = true := by decide +kernel
set_option maxRecDepth 65536 in
theorem w_t9 : (((((((((words1.drop 24).drop 24).drop 24).drop 24).drop 24).drop 24).drop 24).drop 24).take 24).all (fun c => isCode c || c.before args0 about1) = true := by decide +kernel
set_option maxRecDepth 65536 in
theorem w_t10 : (((((((((words1.drop 24).drop 24).drop 24).drop 24).drop 24).drop 24).drop 24).drop 24).drop 24).all (fun c => isCode c || c.before args0 about1) = true := by decide +kernel
theorem w_tables : (allAtoms (Jvm.Cond.code x code maxLocals ret :: tables_1)).before args0 about1 = true := by
  rw [allAtoms_all]
  show words1.all (fun c => c.before args0 about1) = true
  refine all_split ?_ w_codes
  rw [← List.take_append_drop 24 words1, List.all_append, w_t1, ← List.take_append_drop 24 (words1.drop 24), List.all_append, w_t2, ← List.take_append_drop 24 ((words1.drop 24).drop 24), List.all_append, w_t3, ← List.take_append_drop 24 (((words1.drop 24).drop 24).drop 24), List.all_append, w_t4, ← List.take_append_drop 24 ((((words1.drop 24).drop 24).drop 24).drop 24), List.all_append, w_t5, ← List.take_append_drop 24 (((((words1.drop 24).drop 24).drop 24).drop 24).drop 24), List.all_append, w_t6, ← List.take_append_drop 24 ((((((words1.drop 24).drop 24).drop 24).drop 24).drop 24).drop 24), List.all_append, w_t7, ← List.take_append_drop 24 (((((((words1.drop 24).drop 24).drop 24).drop 24).drop 24).drop 24).drop 24), List.all_append, w_t8, ← List.take_append_drop 24 ((((((((words1.drop 24).drop 24).drop 24).drop 24).drop 24).drop 24).drop 24).drop 24), List.all_append, w_t9, w_t10]
  rfl
set_option maxRecDepth 65536 in
theorem w_rest : rest_1_c.before args0 about1 = true := by decide +kernel
set_option maxRecDepth 65536 in
theorem w_case : (Jvm.Cond.and given_1 narrow_1).before args0 about1 = true := by decide +kernel
set_option maxRecDepth 65536 in
theorem w_consts : constsHeld consts_1 about1 := Jvm.Lit.constsHeldB_iff.mp (by decide +kernel)
theorem w_applies : (headSpec (Jvm.Cond.code x code maxLocals ret :: tables_1) room_1).applies x e0.platform about1 = true :=
  (Spec.applies_iff w_frames).mpr ⟨w_running, w_runnable, w_alone, w_named, w_hears, w_ripe, w_room, w_tables⟩
theorem atStart : AtStart classFile x code maxLocals ret World_1 tables_1 room_1 Calls_1 rest_1 Pre_1 launch0 p0 e0 about1 theMethod args0 below0 :=
  ⟨lists_1, trivial, launch0.admits_env _ _ _, launch0.least_env, fairChoices_fair.cas, fairChoices_fair.clock, w_frames, w_args, w_heap, w_applies, ⟨w_consts, trivial⟩, w_rest, w_case⟩
end start1
theorem witness_1 : WitnessClaimed_1 := ⟨start1.p0, start1.e0, start1.about1, start1.theMethod, start1.args0, start1.below0, start1.atStart⟩
end Jvm.Pilot.@@N@@
