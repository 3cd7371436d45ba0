import JvmDerived
import JvmDerived.Pilot.@@N@@Statement
import JvmDerived.Pilot.@@N@@Code
set_option linter.unusedVariables false
set_option linter.unusedSimpArgs false
namespace Jvm.Road
open Jvm Jvm.ClassFile Sem Op Lib Jvm.Free Jvm.Stand Jvm.LawKit Jvm.RoadKit Bundle
/-! THE ROAD LAYER: one goal 'Go' for a walk, every step a law 'Go next -> Go here'; a callee's summary 'Con'. -/
abbrev Bdy : Type := MethodName × ByteArray × Nat × Option FieldType × Room
abbrev Bdy.y (B : Bdy) : MethodName := B.1
abbrev Bdy.bs (B : Bdy) : ByteArray := B.2.1
abbrev Bdy.ml (B : Bdy) : Nat := B.2.2.1
abbrev Bdy.rt (B : Bdy) : Option FieldType := B.2.2.2.1
abbrev Bdy.rm (B : Bdy) : Room := B.2.2.2.2
abbrev Dyn : Type := Program × Env × State × MethodId × Array Value × List Frame × Method × Code
abbrev Dyn.p (D : Dyn) : Program := D.1
abbrev Dyn.e (D : Dyn) : Env := D.2.1
abbrev Dyn.s (D : Dyn) : State := D.2.2.1
abbrev Dyn.m (D : Dyn) : MethodId := D.2.2.2.1
abbrev Dyn.args (D : Dyn) : Array Value := D.2.2.2.2.1
abbrev Dyn.bl (D : Dyn) : List Frame := D.2.2.2.2.2.1
abbrev Dyn.meth (D : Dyn) : Method := D.2.2.2.2.2.2.1
abbrev Dyn.c (D : Dyn) : Code := D.2.2.2.2.2.2.2
/-- a cell that this law's run has made and that no constant of EL stands for: it may be written -/
def Own (Z : State) (EL : List (String × Nat)) (n0 : Nat) (vm : Vm) (h : Heap) (x : Addr) : Prop := Safe Z EL vm h x ∧ n0 ≤ x ∧ x < h.size
def Ok (B : Bdy) (D : Dyn) : Prop := D.p.tables.exec = Jvm.exec ∧ D.c.code = B.bs ∧ D.c.maxLocals = B.ml ∧ D.meth.sig.returnType = B.rt ∧ D.meth.locks = false ∧ D.meth.name = B.y.name
def Inv (l : Launch) (Z : State) (EL : List (String × Nat)) (n0 : Nat) (kn : Bool) (B : Bdy) (D : Dyn) (h : Heap) (σ : Addr → Prop) (ce sl : Nat) (T : State) (vm0 : Vm) : Prop :=
  ∃ (k0 : Nat) (locs : List Loc), Stand D.p l D.e B.rm (D.s.setVm vm0) D.m D.args D.bl D.meth D.c T locs ce sl ∧ T.heap = h ∧ D.s.Since vm0 k0 ∧ k0 ≤ h.size ∧ Z.Warmed39 vm0 ∧ vm0.findClass B.y.cls = some D.m.cls ∧
    CHr Z EL D.s.vm D.s.heap vm0 h ∧ Fr n0 locs ∧ Old Z n0 h ∧ (∀ x, σ x → Own Z EL n0 vm0 h x) ∧ (kn = true → vm0.MethodsKnown ∧ vm0.FramesKnown D.bl)
abbrev Post : Type := Option Value → Heap → (Addr → Prop) → Prop
def Ends (Z : State) (EL : List (String × Nat)) (n0 : Nat) (B : Bdy) (D : Dyn) (Q : Post) (t0 : State) : Prop :=
  ∃ s₂ o, Steps D.p.tables D.e D.bl t0 s₂ ∧ s₂.status = .running ∧ Ended s₂ D.bl o ∧
    ∃ v L, o = .returned v ∧ Q v s₂.heap (Own Z EL n0 s₂.vm s₂.heap) ∧ Fr n0 L ∧ CHr Z EL D.s.vm D.s.heap s₂.vm s₂.heap ∧ Old Z n0 s₂.heap ∧ ReturnedEndW D.s o s₂ L B.rm.cells B.rm.slots
def Go (l : Launch) (Z : State) (a0 : Array Value) (EL : List (String × Nat)) (n0 : Nat) (kn : Bool) (B : Bdy) (D : Dyn) (Q : Post) (h : Heap) (σ : Addr → Prop) (ce sl : Nat) (pc : Nat) (Ls : Array Slot) (st : List Value) : Prop :=
  Ok B D → EW Z a0 EL → ∀ (T : State) (vm0 : Vm), Inv l Z EL n0 kn B D h σ ce sl T vm0 → Ends Z EL n0 B D Q (T.setTop (mkF D.m pc Ls st))
/-- what is asked of a callee -/
def Con (l : Launch) (Z : State) (EL : List (String × Nat)) (n0 : Nat) (kn : Bool) (B : Bdy) (ws : List Jvm.Cond) (σ : Addr → Prop) (as : Array Value) (h : Heap) (Q : Post) : Prop :=
  MetFree l B.y (head1 (Jvm.Cond.code B.y B.bs B.ml B.rt :: ws) B.rm)
    (fun a U => a = as ∧ Z.Warmed39 U.vm ∧ U.heap = h ∧ CHv Z EL U.vm h ∧ Old Z n0 h ∧ ∀ x, σ x → Own Z EL n0 U.vm h x)
    (fun _ _ bl s _ => kn = true → s.vm.MethodsKnown ∧ s.vm.FramesKnown bl)
    (fun _ U o U' => ∃ v L, o = .returned v ∧ Q v U'.heap (Own Z EL n0 U'.vm U'.heap) ∧ Fr n0 L ∧ CHr Z EL U.vm U.heap U'.vm U'.heap ∧ Old Z n0 U'.heap ∧ ReturnedEndW U o U' L B.rm.cells B.rm.slots)
def push : Option Value → List Value → List Value
  | some v, r => v :: r
  | none, r => r
theorem push_eq (v : Option Value) (r : List Value) : v.toList ++ r = push v r := by cases v <;> rfl
section Laws
variable {l : Launch} {Z : State} {a0 : Array Value} {EL : List (String × Nat)} {n0 : Nat} {kn : Bool} {B : Bdy} {D : Dyn} {Q : Post} {h h' : Heap} {σ : Addr → Prop} {ce sl : Nat} {Ls : Array Slot} {st : List Value}
theorem Con.of {ws : List Jvm.Cond} (hpn : plainFor B.y = true) (hEW : EW Z a0 EL) {as : Array Value} (Ls0 : Array Slot) (hef : ∀ m, entryFrame m as B.ml = mkF m 0 Ls0 [])
    (body : ∀ D : Dyn, D.s.heap = h → Go l Z a0 EL n0 kn B D Q h σ 0 0 0 Ls0 []) : Con l Z EL n0 kn B ws σ as h Q := by
  refine MetFree.of_bodySF hpn hisR ?_
  intro p e s m args below meth c s₁ Bd hml hP hK
  obtain ⟨rfl, hZ, hh, hC, hO, hσ⟩ := hP
  have hnm := (name_of_methodNamed Bd.named Bd.method).1
  have hown := findClass_of_methodNamed Bd.named
  have X0 : Stand p l e B.rm s m args below meth c s₁ [] 0 0 := Stand.of_body Bd
  have e0 : s₁.heap = h := by rw [← hh, Bd.state]; rfl
  obtain ⟨s2, o, st, hr, he, r⟩ := body (p, e, s, m, args, below, meth, c) hh ⟨Bd.exec, Bd.bytes, hml, Bd.returns, Bd.notSynchronized, hnm⟩ hEW s₁ s.vm
    ⟨0, [], X0, e0, (State.WarmedH.refl s).since 0, Nat.zero_le _, hZ, hown, by subst hh; exact CHr.refl hC, Fr.nil n0, hO, hσ, hK⟩
  exact ⟨s2, o, castTop (hef m) st, hr, he, r⟩
/-- one plain step -/
theorem Go.step {pc pc' : Nat} {Ls' : Array Slot} {st' : List Value} (k : ∀ T, At T D.m D.c D.bl → D.p.tables.exec = Jvm.exec → D.c.code = B.bs → ∀ t, Steps D.p.tables D.e D.bl (T.setTop (mkF D.m pc' Ls' st')) t → Steps D.p.tables D.e D.bl (T.setTop (mkF D.m pc Ls st)) t)
    (r : Go l Z a0 EL n0 kn B D Q h σ ce sl pc' Ls' st') : Go l Z a0 EL n0 kn B D Q h σ ce sl pc Ls st := by
  intro ok ew T vm0 I
  obtain ⟨s2, o, q, rest⟩ := r ok ew T vm0 I
  obtain ⟨k0, locs, X, -⟩ := I
  exact ⟨s2, o, k T X.here ok.1 ok.2.1 _ q, rest⟩
/-- fewer permissions, more room taken: what was shown serves -/
theorem Go.weaken {pc : Nat} {σ' : Addr → Prop} {ce' sl' : Nat} (hσ : ∀ x, σ' x → σ x) (hc : ce ≤ ce') (hs : sl ≤ sl') (r : Go l Z a0 EL n0 kn B D Q h σ' ce' sl' pc Ls st) : Go l Z a0 EL n0 kn B D Q h σ ce sl pc Ls st := by
  intro ok ew T vm0 I
  obtain ⟨k0, locs, X, h1, h2, h3, h4, h5, h6, h7, h8, h9, h10⟩ := I
  exact r ok ew T vm0 ⟨k0, locs, X.mono hc hs, h1, h2, h3, h4, h5, h6, h7, h8, fun x q => h9 x (hσ x q), h10⟩
/-- facts that the walk bears -/
theorem Go.old {pc : Nat} (r : Old Z n0 h → Go l Z a0 EL n0 kn B D Q h σ ce sl pc Ls st) : Go l Z a0 EL n0 kn B D Q h σ ce sl pc Ls st := by
  intro ok ew T vm0 I
  refine r ?_ ok ew T vm0 I
  obtain ⟨k0, locs, X, h1, h2, h3, h4, h5, h6, h7, h8, h9, h10⟩ := I
  exact h8
end Laws
end Jvm.Road
namespace Jvm.Road
open Jvm Jvm.ClassFile Sem Op Lib Jvm.Free Jvm.Stand Jvm.LawKit Jvm.RoadKit Bundle
theorem Go.ownAll {l : Launch} {Z : State} {a0 : Array Value} {EL : List (String × Nat)} {n0 : Nat} {kn : Bool} {B : Bdy} {D : Dyn} {Q : Post} {h : Heap} {σ : Addr → Prop} {ce sl : Nat} {Ls : Array Slot} {st : List Value} {pc : Nat}
    (r : (∀ x, σ x → n0 ≤ x ∧ x < h.size) → Go l Z a0 EL n0 kn B D Q h σ ce sl pc Ls st) : Go l Z a0 EL n0 kn B D Q h σ ce sl pc Ls st := by
  intro ok ew T vm0 I
  refine r ?_ ok ew T vm0 I
  obtain ⟨k0, locs, X, h1, h2, h3, h4, h5, h6, h7, h8, h9, h10⟩ := I
  exact fun x hx => (h9 x hx).2
theorem keep_more {h h' : Heap} {ws : List Addr} (K : Keep h h' []) : Keep h h' ws := ⟨K.1, fun x c q _ => K.2.1 x c q nin0, K.2.2⟩
end Jvm.Road
namespace Jvm.Road
open Jvm Jvm.ClassFile Sem Op Lib Jvm.Free Jvm.Stand Jvm.LawKit Jvm.RoadKit Bundle
theorem laid0 : Jvm.Sym.laidSlots [] = [] := rfl
theorem laid1 {v : Value} {vs : List Value} {L : List Slot} (hc : v.category = 1) (h : Jvm.Sym.laidSlots vs = L) : Jvm.Sym.laidSlots (v :: vs) = .val v :: L := by
  rw [Jvm.Sym.laidSlots, hc, h]; rfl
theorem laid2 {v : Value} {vs : List Value} {L : List Slot} (hc : v.category = 2) (h : Jvm.Sym.laidSlots vs = L) : Jvm.Sym.laidSlots (v :: vs) = .val v :: .second :: L := by
  rw [Jvm.Sym.laidSlots, hc, h]; rfl
theorem ent {m : MethodId} {args : Array Value} {n k : Nat} {Ls : Array Slot} {L : List Slot} (h : Jvm.Sym.laidSlots args.toList = L) (hk : n - L.length = k) (hL : L ++ List.replicate k .unset = Ls.toList) : entryFrame m args n = mkF m 0 Ls [] := by
  have : argsToLocals args n = Ls := Array.toList_inj.mp (by rw [Jvm.Sym.argsToLocals_toList, h, hk]; exact hL)
  unfold entryFrame
  rw [this]
end Jvm.Road
namespace Jvm.Road
open Jvm Jvm.ClassFile Sem Op Lib Jvm.Free Jvm.Stand Jvm.LawKit Jvm.RoadKit Bundle
/-- what i2c leaves -/
abbrev chr (x : Int32) : Int32 := x.toUInt32.toUInt16.toUInt32.toInt32
section Plain
variable {l : Launch} {Z : State} {a0 : Array Value} {EL : List (String × Nat)} {n0 : Nat} {kn : Bool} {B : Bdy} {D : Dyn} {Q : Post} {h : Heap} {σ : Addr → Prop} {ce sl : Nat} {Ls : Array Slot} {st : List Value}
theorem aload (pc : Nat) {k : Nat} {v : Value} (hd : decode B.bs pc = .ok (.aload k, 2)) (hl : Ls[k]? = some (.val v))  (r : Go l Z a0 EL n0 kn B D Q h σ ce sl (pc + 2) Ls (v :: st)) (hv : v.isRef = true := by rfl) : Go l Z a0 EL n0 kn B D Q h σ ce sl pc Ls st :=
  Go.step (fun T hA hx hb t q => XS.aload hA hx rfl (Jvm.hb hb hd) hl hv q) r
theorem aloadN (pc : Nat) {k : Fin 4} {v : Value} (hd : decode B.bs pc = .ok (.aload_n k, 1)) (hl : Ls[k.val]? = some (.val v))  (r : Go l Z a0 EL n0 kn B D Q h σ ce sl (pc + 1) Ls (v :: st)) (hv : v.isRef = true := by rfl) : Go l Z a0 EL n0 kn B D Q h σ ce sl pc Ls st :=
  Go.step (fun T hA hx hb t q => XS.aloadN hA hx rfl (Jvm.hb hb hd) hl hv q) r
theorem iload (pc : Nat) {k : Nat} {v : Int32} (hd : decode B.bs pc = .ok (.iload k, 2)) (hl : Ls[k]? = some (.val (.int v))) (r : Go l Z a0 EL n0 kn B D Q h σ ce sl (pc + 2) Ls (.int v :: st))  : Go l Z a0 EL n0 kn B D Q h σ ce sl pc Ls st :=
  Go.step (fun T hA hx hb t q => XS.iload hA hx rfl (Jvm.hb hb hd) hl q) r
theorem iloadN (pc : Nat) {k : Fin 4} {v : Int32} (hd : decode B.bs pc = .ok (.iload_n k, 1)) (hl : Ls[k.val]? = some (.val (.int v))) (r : Go l Z a0 EL n0 kn B D Q h σ ce sl (pc + 1) Ls (.int v :: st))  : Go l Z a0 EL n0 kn B D Q h σ ce sl pc Ls st :=
  Go.step (fun T hA hx hb t q => XS.iloadN hA hx rfl (Jvm.hb hb hd) hl q) r
theorem lload (pc : Nat) {k : Nat} {v : Int64} (hd : decode B.bs pc = .ok (.lload k, 2)) (hl : Ls[k]? = some (.val (.long v))) (r : Go l Z a0 EL n0 kn B D Q h σ ce sl (pc + 2) Ls (.long v :: st))  : Go l Z a0 EL n0 kn B D Q h σ ce sl pc Ls st :=
  Go.step (fun T hA hx hb t q => XT.lload hA hx rfl (Jvm.hb hb hd) hl q) r
theorem lloadN (pc : Nat) {k : Fin 4} {v : Int64} (hd : decode B.bs pc = .ok (.lload_n k, 1)) (hl : Ls[k.val]? = some (.val (.long v))) (r : Go l Z a0 EL n0 kn B D Q h σ ce sl (pc + 1) Ls (.long v :: st))  : Go l Z a0 EL n0 kn B D Q h σ ce sl pc Ls st :=
  Go.step (fun T hA hx hb t q => XT.lloadN hA hx rfl (Jvm.hb hb hd) hl q) r
theorem iconst (pc : Nat) {i : Int} (v : Int32) (hd : decode B.bs pc = .ok (.iconst i, 1)) (hv : Int32.ofInt i = v) (r : Go l Z a0 EL n0 kn B D Q h σ ce sl (pc + 1) Ls (.int v :: st))  : Go l Z a0 EL n0 kn B D Q h σ ce sl pc Ls st :=
  Go.step (fun T hA hx hb t q => XT.iconstV hA hx rfl v (Jvm.hb hb hd) hv q) r
theorem bipush (pc : Nat) {i : Int} (v : Int32) (hd : decode B.bs pc = .ok (.bipush i, 2)) (hv : (Int8.ofInt i).toInt32 = v) (r : Go l Z a0 EL n0 kn B D Q h σ ce sl (pc + 2) Ls (.int v :: st))  : Go l Z a0 EL n0 kn B D Q h σ ce sl pc Ls st :=
  Go.step (fun T hA hx hb t q => XT.bipushV hA hx rfl v (Jvm.hb hb hd) hv q) r
theorem sipush (pc : Nat) {i : Int} (v : Int32) (hd : decode B.bs pc = .ok (.sipush i, 3)) (hv : (Int16.ofInt i).toInt32 = v) (r : Go l Z a0 EL n0 kn B D Q h σ ce sl (pc + 3) Ls (.int v :: st))  : Go l Z a0 EL n0 kn B D Q h σ ce sl pc Ls st :=
  Go.step (fun T hA hx hb t q => XT.sipushV hA hx rfl v (Jvm.hb hb hd) hv q) r
theorem lconst (pc : Nat) {k : Fin 2} (v : Int64) (hd : decode B.bs pc = .ok (.lconst k, 1)) (hv : Int64.ofNat k = v) (r : Go l Z a0 EL n0 kn B D Q h σ ce sl (pc + 1) Ls (.long v :: st))  : Go l Z a0 EL n0 kn B D Q h σ ce sl pc Ls st :=
  Go.step (fun T hA hx hb t q => XT.lconstV hA hx rfl v (Jvm.hb hb hd) hv q) r
theorem aconstNull (pc : Nat)  (hd : decode B.bs pc = .ok (.aconst_null, 1))  (r : Go l Z a0 EL n0 kn B D Q h σ ce sl (pc + 1) Ls (.null :: st))  : Go l Z a0 EL n0 kn B D Q h σ ce sl pc Ls st :=
  Go.step (fun T hA hx hb t q => XS.aconstNull hA hx rfl (Jvm.hb hb hd) q) r
theorem iadd (pc : Nat) {x y : Int32} (hd : decode B.bs pc = .ok (.iadd, 1))  (r : Go l Z a0 EL n0 kn B D Q h σ ce sl (pc + 1) Ls (.int (x + y) :: st))  : Go l Z a0 EL n0 kn B D Q h σ ce sl pc Ls (.int y :: .int x :: st) :=
  Go.step (fun T hA hx hb t q => XS.iadd hA hx rfl (Jvm.hb hb hd) rfl q) r
theorem isub (pc : Nat) {x y : Int32} (hd : decode B.bs pc = .ok (.isub, 1))  (r : Go l Z a0 EL n0 kn B D Q h σ ce sl (pc + 1) Ls (.int (x - y) :: st))  : Go l Z a0 EL n0 kn B D Q h σ ce sl pc Ls (.int y :: .int x :: st) :=
  Go.step (fun T hA hx hb t q => XS.isub hA hx rfl (Jvm.hb hb hd) rfl q) r
theorem iand (pc : Nat) {x y : Int32} (hd : decode B.bs pc = .ok (.iand, 1))  (r : Go l Z a0 EL n0 kn B D Q h σ ce sl (pc + 1) Ls (.int (x &&& y) :: st))  : Go l Z a0 EL n0 kn B D Q h σ ce sl pc Ls (.int y :: .int x :: st) :=
  Go.step (fun T hA hx hb t q => XS.iand hA hx rfl (Jvm.hb hb hd) rfl q) r
theorem imul (pc : Nat) {x y : Int32} (hd : decode B.bs pc = .ok (.imul, 1))  (r : Go l Z a0 EL n0 kn B D Q h σ ce sl (pc + 1) Ls (.int (x * y) :: st))  : Go l Z a0 EL n0 kn B D Q h σ ce sl pc Ls (.int y :: .int x :: st) :=
  Go.step (fun T hA hx hb t q => XS.imul hA hx rfl (Jvm.hb hb hd) rfl q) r
theorem ixor (pc : Nat) {x y : Int32} (hd : decode B.bs pc = .ok (.ixor, 1))  (r : Go l Z a0 EL n0 kn B D Q h σ ce sl (pc + 1) Ls (.int (x ^^^ y) :: st))  : Go l Z a0 EL n0 kn B D Q h σ ce sl pc Ls (.int y :: .int x :: st) :=
  Go.step (fun T hA hx hb t q => XT.ixor hA hx rfl (Jvm.hb hb hd) rfl q) r
theorem ior (pc : Nat) {x y : Int32} (hd : decode B.bs pc = .ok (.ior, 1))  (r : Go l Z a0 EL n0 kn B D Q h σ ce sl (pc + 1) Ls (.int (x ||| y) :: st))  : Go l Z a0 EL n0 kn B D Q h σ ce sl pc Ls (.int y :: .int x :: st) :=
  Go.step (fun T hA hx hb t q => XT.ior hA hx rfl (Jvm.hb hb hd) rfl q) r
theorem ishl (pc : Nat) {x y : Int32} (hd : decode B.bs pc = .ok (.ishl, 1))  (r : Go l Z a0 EL n0 kn B D Q h σ ce sl (pc + 1) Ls (.int (x <<< (y &&& 31)) :: st))  : Go l Z a0 EL n0 kn B D Q h σ ce sl pc Ls (.int y :: .int x :: st) :=
  Go.step (fun T hA hx hb t q => XT.ishl hA hx rfl (Jvm.hb hb hd) rfl q) r
theorem ishr (pc : Nat) {x y : Int32} (hd : decode B.bs pc = .ok (.ishr, 1))  (r : Go l Z a0 EL n0 kn B D Q h σ ce sl (pc + 1) Ls (.int (x >>> (y &&& 31)) :: st))  : Go l Z a0 EL n0 kn B D Q h σ ce sl pc Ls (.int y :: .int x :: st) :=
  Go.step (fun T hA hx hb t q => XT.ishr hA hx rfl (Jvm.hb hb hd) rfl q) r
theorem iushr (pc : Nat) {x y : Int32} (hd : decode B.bs pc = .ok (.iushr, 1))  (r : Go l Z a0 EL n0 kn B D Q h σ ce sl (pc + 1) Ls (.int (XT.ushr x y) :: st))  : Go l Z a0 EL n0 kn B D Q h σ ce sl pc Ls (.int y :: .int x :: st) :=
  Go.step (fun T hA hx hb t q => XT.iushr hA hx rfl (Jvm.hb hb hd) rfl q) r
theorem idiv (pc : Nat) {x y : Int32} (hd : decode B.bs pc = .ok (.idiv, 1)) (hy : y ≠ 0) (r : Go l Z a0 EL n0 kn B D Q h σ ce sl (pc + 1) Ls (.int (x / y) :: st))  : Go l Z a0 EL n0 kn B D Q h σ ce sl pc Ls (.int y :: .int x :: st) :=
  Go.step (fun T hA hx hb t q => XS.idiv hA hx rfl (Jvm.hb hb hd) rfl hy q) r
theorem irem (pc : Nat) {x y : Int32} (hd : decode B.bs pc = .ok (.irem, 1)) (hy : y ≠ 0) (r : Go l Z a0 EL n0 kn B D Q h σ ce sl (pc + 1) Ls (.int (x % y) :: st))  : Go l Z a0 EL n0 kn B D Q h σ ce sl pc Ls (.int y :: .int x :: st) :=
  Go.step (fun T hA hx hb t q => XS.irem hA hx rfl (Jvm.hb hb hd) rfl hy (by rw [irem_eq_mod]; exact q)) r
theorem ineg (pc : Nat) {x : Int32} (hd : decode B.bs pc = .ok (.ineg, 1))  (r : Go l Z a0 EL n0 kn B D Q h σ ce sl (pc + 1) Ls (.int (-x) :: st))  : Go l Z a0 EL n0 kn B D Q h σ ce sl pc Ls (.int x :: st) :=
  Go.step (fun T hA hx hb t q => XS.ineg hA hx rfl (Jvm.hb hb hd) rfl q) r
theorem ladd (pc : Nat) {x y : Int64} (hd : decode B.bs pc = .ok (.ladd, 1))  (r : Go l Z a0 EL n0 kn B D Q h σ ce sl (pc + 1) Ls (.long (x + y) :: st))  : Go l Z a0 EL n0 kn B D Q h σ ce sl pc Ls (.long y :: .long x :: st) :=
  Go.step (fun T hA hx hb t q => XT.ladd hA hx rfl (Jvm.hb hb hd) rfl q) r
theorem lsub (pc : Nat) {x y : Int64} (hd : decode B.bs pc = .ok (.lsub, 1))  (r : Go l Z a0 EL n0 kn B D Q h σ ce sl (pc + 1) Ls (.long (x - y) :: st))  : Go l Z a0 EL n0 kn B D Q h σ ce sl pc Ls (.long y :: .long x :: st) :=
  Go.step (fun T hA hx hb t q => XT.lsub hA hx rfl (Jvm.hb hb hd) rfl q) r
theorem land (pc : Nat) {x y : Int64} (hd : decode B.bs pc = .ok (.land, 1))  (r : Go l Z a0 EL n0 kn B D Q h σ ce sl (pc + 1) Ls (.long (x &&& y) :: st))  : Go l Z a0 EL n0 kn B D Q h σ ce sl pc Ls (.long y :: .long x :: st) :=
  Go.step (fun T hA hx hb t q => XT.land hA hx rfl (Jvm.hb hb hd) rfl q) r
theorem lmul (pc : Nat) {x y : Int64} (hd : decode B.bs pc = .ok (.lmul, 1))  (r : Go l Z a0 EL n0 kn B D Q h σ ce sl (pc + 1) Ls (.long (x * y) :: st))  : Go l Z a0 EL n0 kn B D Q h σ ce sl pc Ls (.long y :: .long x :: st) :=
  Go.step (fun T hA hx hb t q => XT.lmul hA hx rfl (Jvm.hb hb hd) rfl q) r
theorem lxor (pc : Nat) {x y : Int64} (hd : decode B.bs pc = .ok (.lxor, 1))  (r : Go l Z a0 EL n0 kn B D Q h σ ce sl (pc + 1) Ls (.long (x ^^^ y) :: st))  : Go l Z a0 EL n0 kn B D Q h σ ce sl pc Ls (.long y :: .long x :: st) :=
  Go.step (fun T hA hx hb t q => XT.lxor hA hx rfl (Jvm.hb hb hd) rfl q) r
theorem lor (pc : Nat) {x y : Int64} (hd : decode B.bs pc = .ok (.lor, 1))  (r : Go l Z a0 EL n0 kn B D Q h σ ce sl (pc + 1) Ls (.long (x ||| y) :: st))  : Go l Z a0 EL n0 kn B D Q h σ ce sl pc Ls (.long y :: .long x :: st) :=
  Go.step (fun T hA hx hb t q => XT.lor hA hx rfl (Jvm.hb hb hd) rfl q) r
theorem lushr (pc : Nat) {x : Int64} {y : Int32} (hd : decode B.bs pc = .ok (.lushr, 1))  (r : Go l Z a0 EL n0 kn B D Q h σ ce sl (pc + 1) Ls (.long (XT.ushrL x y) :: st))  : Go l Z a0 EL n0 kn B D Q h σ ce sl pc Ls (.int y :: .long x :: st) :=
  Go.step (fun T hA hx hb t q => XT.lushr hA hx rfl (Jvm.hb hb hd) rfl q) r
theorem ldiv (pc : Nat) {x y : Int64} (hd : decode B.bs pc = .ok (.ldiv, 1)) (hy : y ≠ 0) (r : Go l Z a0 EL n0 kn B D Q h σ ce sl (pc + 1) Ls (.long (x / y) :: st))  : Go l Z a0 EL n0 kn B D Q h σ ce sl pc Ls (.long y :: .long x :: st) :=
  Go.step (fun T hA hx hb t q => XT.ldiv hA hx rfl (Jvm.hb hb hd) rfl hy q) r
theorem lrem (pc : Nat) {x y : Int64} (hd : decode B.bs pc = .ok (.lrem, 1)) (hy : y ≠ 0) (r : Go l Z a0 EL n0 kn B D Q h σ ce sl (pc + 1) Ls (.long (x - (x / y) * y) :: st))  : Go l Z a0 EL n0 kn B D Q h σ ce sl pc Ls (.long y :: .long x :: st) :=
  Go.step (fun T hA hx hb t q => XT.lrem hA hx rfl (Jvm.hb hb hd) rfl hy q) r
theorem lneg (pc : Nat) {x : Int64} (hd : decode B.bs pc = .ok (.lneg, 1))  (r : Go l Z a0 EL n0 kn B D Q h σ ce sl (pc + 1) Ls (.long (-x) :: st))  : Go l Z a0 EL n0 kn B D Q h σ ce sl pc Ls (.long x :: st) :=
  Go.step (fun T hA hx hb t q => XT.lneg hA hx rfl (Jvm.hb hb hd) rfl q) r
theorem i2l (pc : Nat) {x : Int32} (hd : decode B.bs pc = .ok (.i2l, 1))  (r : Go l Z a0 EL n0 kn B D Q h σ ce sl (pc + 1) Ls (.long x.toInt64 :: st))  : Go l Z a0 EL n0 kn B D Q h σ ce sl pc Ls (.int x :: st) :=
  Go.step (fun T hA hx hb t q => XT.i2l hA hx rfl (Jvm.hb hb hd) rfl q) r
theorem l2i (pc : Nat) {x : Int64} (hd : decode B.bs pc = .ok (.l2i, 1))  (r : Go l Z a0 EL n0 kn B D Q h σ ce sl (pc + 1) Ls (.int x.toInt32 :: st))  : Go l Z a0 EL n0 kn B D Q h σ ce sl pc Ls (.long x :: st) :=
  Go.step (fun T hA hx hb t q => XT.l2i hA hx rfl (Jvm.hb hb hd) rfl q) r
theorem i2b (pc : Nat) {x : Int32} (hd : decode B.bs pc = .ok (.i2b, 1))  (r : Go l Z a0 EL n0 kn B D Q h σ ce sl (pc + 1) Ls (.int x.toInt8.toInt32 :: st))  : Go l Z a0 EL n0 kn B D Q h σ ce sl pc Ls (.int x :: st) :=
  Go.step (fun T hA hx hb t q => XT.i2b hA hx rfl (Jvm.hb hb hd) rfl q) r
theorem i2c (pc : Nat) {x : Int32} (hd : decode B.bs pc = .ok (.i2c, 1))  (r : Go l Z a0 EL n0 kn B D Q h σ ce sl (pc + 1) Ls (.int (chr x) :: st))  : Go l Z a0 EL n0 kn B D Q h σ ce sl pc Ls (.int x :: st) :=
  Go.step (fun T hA hx hb t q => XT.i2c hA hx rfl (Jvm.hb hb hd) rfl q) r
theorem lcmp (pc : Nat) {x y : Int64} (hd : decode B.bs pc = .ok (.lcmp, 1))  (r : Go l Z a0 EL n0 kn B D Q h σ ce sl (pc + 1) Ls (.int (XT.cmpL x y) :: st))  : Go l Z a0 EL n0 kn B D Q h σ ce sl pc Ls (.long y :: .long x :: st) :=
  Go.step (fun T hA hx hb t q => XT.lcmp hA hx rfl (Jvm.hb hb hd) rfl q) r
theorem dup (pc : Nat) {v : Value} (hd : decode B.bs pc = .ok (.dup, 1))  (r : Go l Z a0 EL n0 kn B D Q h σ ce sl (pc + 1) Ls (v :: v :: st)) (hc : v.category = 1 := by rfl) : Go l Z a0 EL n0 kn B D Q h σ ce sl pc Ls (v :: st) :=
  Go.step (fun T hA hx hb t q => XS.dup hA hx rfl (Jvm.hb hb hd) rfl hc q) r
theorem dupX1 (pc : Nat) {v w : Value} (hd : decode B.bs pc = .ok (.dup_x1, 1))   (r : Go l Z a0 EL n0 kn B D Q h σ ce sl (pc + 1) Ls (v :: w :: v :: st)) (hc : v.category = 1 := by rfl) (hw : w.category = 1 := by rfl) : Go l Z a0 EL n0 kn B D Q h σ ce sl pc Ls (v :: w :: st) :=
  Go.step (fun T hA hx hb t q => XT.dupX1 hA hx rfl (Jvm.hb hb hd) rfl hc hw q) r
theorem pop (pc : Nat) {v : Value} (hd : decode B.bs pc = .ok (.pop, 1))  (r : Go l Z a0 EL n0 kn B D Q h σ ce sl (pc + 1) Ls st) (hc : v.category = 1 := by rfl) : Go l Z a0 EL n0 kn B D Q h σ ce sl pc Ls (v :: st) :=
  Go.step (fun T hA hx hb t q => XT.pop hA hx rfl (Jvm.hb hb hd) rfl hc q) r
theorem istore (pc : Nat) {k : Nat} {x : Int32} (l' : Array Slot) (hd : decode B.bs pc = .ok (.istore k, 2)) (hl : storeLocals Ls k (.int x) = some l') (r : Go l Z a0 EL n0 kn B D Q h σ ce sl (pc + 2) l' st)  : Go l Z a0 EL n0 kn B D Q h σ ce sl pc Ls (.int x :: st) :=
  Go.step (fun T hA hx hb t q => XS.istore hA hx rfl (Jvm.hb hb hd) rfl hl q) r
theorem istoreN (pc : Nat) {k : Fin 4} {x : Int32} (l' : Array Slot) (hd : decode B.bs pc = .ok (.istore_n k, 1)) (hl : storeLocals Ls k.val (.int x) = some l') (r : Go l Z a0 EL n0 kn B D Q h σ ce sl (pc + 1) l' st)  : Go l Z a0 EL n0 kn B D Q h σ ce sl pc Ls (.int x :: st) :=
  Go.step (fun T hA hx hb t q => XS.istoreN hA hx rfl (Jvm.hb hb hd) rfl hl q) r
theorem lstore (pc : Nat) {k : Nat} {x : Int64} (l' : Array Slot) (hd : decode B.bs pc = .ok (.lstore k, 2)) (hl : storeLocals Ls k (.long x) = some l') (r : Go l Z a0 EL n0 kn B D Q h σ ce sl (pc + 2) l' st)  : Go l Z a0 EL n0 kn B D Q h σ ce sl pc Ls (.long x :: st) :=
  Go.step (fun T hA hx hb t q => XT.lstore hA hx rfl (Jvm.hb hb hd) rfl hl q) r
theorem lstoreN (pc : Nat) {k : Fin 4} {x : Int64} (l' : Array Slot) (hd : decode B.bs pc = .ok (.lstore_n k, 1)) (hl : storeLocals Ls k.val (.long x) = some l') (r : Go l Z a0 EL n0 kn B D Q h σ ce sl (pc + 1) l' st)  : Go l Z a0 EL n0 kn B D Q h σ ce sl pc Ls (.long x :: st) :=
  Go.step (fun T hA hx hb t q => XT.lstoreN hA hx rfl (Jvm.hb hb hd) rfl hl q) r
theorem astore (pc : Nat) {k : Nat} {v : Value} (l' : Array Slot) (hd : decode B.bs pc = .ok (.astore k, 2)) (hl : storeLocals Ls k v = some l')  (r : Go l Z a0 EL n0 kn B D Q h σ ce sl (pc + 2) l' st) (hv : v.isRef = true := by rfl) : Go l Z a0 EL n0 kn B D Q h σ ce sl pc Ls (v :: st) :=
  Go.step (fun T hA hx hb t q => XS.astore hA hx rfl (Jvm.hb hb hd) rfl hv hl q) r
theorem astoreN (pc : Nat) {k : Fin 4} {v : Value} (l' : Array Slot) (hd : decode B.bs pc = .ok (.astore_n k, 1)) (hl : storeLocals Ls k.val v = some l')  (r : Go l Z a0 EL n0 kn B D Q h σ ce sl (pc + 1) l' st) (hv : v.isRef = true := by rfl) : Go l Z a0 EL n0 kn B D Q h σ ce sl pc Ls (v :: st) :=
  Go.step (fun T hA hx hb t q => XS.astoreN hA hx rfl (Jvm.hb hb hd) rfl hv hl q) r
theorem iinc (pc : Nat) {k : Nat} {c : Int} {x : Int32} (v : Int32) (l' : Array Slot) (hd : decode B.bs pc = .ok (.iinc k c, 3)) (hv : Int32.ofInt c = v) (hl : Ls[k]? = some (.val (.int x))) (hl' : storeLocals Ls k (.int (x + v)) = some l') (r : Go l Z a0 EL n0 kn B D Q h σ ce sl (pc + 3) l' st)  : Go l Z a0 EL n0 kn B D Q h σ ce sl pc Ls st :=
  Go.step (fun T hA hx hb t q => XT.iincV hA hx rfl v (Jvm.hb hb hd) hv hl hl' q) r
theorem goto (pc : Nat) (tgt : Nat) {o : Int} (hd : decode B.bs pc = .ok (.goto o, 3)) (ht : (pc : Int) + o = (tgt : Int)) (r : Go l Z a0 EL n0 kn B D Q h σ ce sl tgt Ls st) : Go l Z a0 EL n0 kn B D Q h σ ce sl pc Ls st :=
  Go.step (fun T hA hx hb t q => XS.goto hA hx rfl (pc0 := pc) (pc' := tgt) rfl (Jvm.hb hb hd) (by rw [ht]; exact Int.natCast_nonneg _) (by rw [ht]; rfl) q) r
theorem icmp_eq (pc : Nat) (tgt : Nat) {o : Int} {x y : Int32} (hd : decode B.bs pc = .ok (.if_icmp .eq o, 3)) (ht : (pc : Int) + o = (tgt : Int)) (yes : x = y → Go l Z a0 EL n0 kn B D Q h σ ce sl tgt Ls st) (no : ¬ (x = y) → Go l Z a0 EL n0 kn B D Q h σ ce sl (pc + 3) Ls st) : Go l Z a0 EL n0 kn B D Q h σ ce sl pc Ls (.int y :: .int x :: st) := by
  by_cases c : x = y
  · exact Go.step (fun T hA hx hb t q => XS.icmpYes hA hx rfl (pc0 := pc) (pc' := tgt) rfl (Jvm.hb hb hd) rfl (XT.ii_eq_t c) (by rw [ht]; exact Int.natCast_nonneg _) (by rw [ht]; rfl) q) (yes c)
  · exact Go.step (fun T hA hx hb t q => XS.icmpNo hA hx rfl (Jvm.hb hb hd) rfl (XT.ii_eq_f c) q) (no c)
theorem icmp_ne (pc : Nat) (tgt : Nat) {o : Int} {x y : Int32} (hd : decode B.bs pc = .ok (.if_icmp .ne o, 3)) (ht : (pc : Int) + o = (tgt : Int)) (yes : ¬ (x = y) → Go l Z a0 EL n0 kn B D Q h σ ce sl tgt Ls st) (no : x = y → Go l Z a0 EL n0 kn B D Q h σ ce sl (pc + 3) Ls st) : Go l Z a0 EL n0 kn B D Q h σ ce sl pc Ls (.int y :: .int x :: st) := by
  by_cases c : x = y
  · exact Go.step (fun T hA hx hb t q => XS.icmpNo hA hx rfl (Jvm.hb hb hd) rfl (XT.ii_ne_f c) q) (no c)
  · exact Go.step (fun T hA hx hb t q => XS.icmpYes hA hx rfl (pc0 := pc) (pc' := tgt) rfl (Jvm.hb hb hd) rfl (XT.ii_ne_t c) (by rw [ht]; exact Int.natCast_nonneg _) (by rw [ht]; rfl) q) (yes c)
theorem icmp_lt (pc : Nat) (tgt : Nat) {o : Int} {x y : Int32} (hd : decode B.bs pc = .ok (.if_icmp .lt o, 3)) (ht : (pc : Int) + o = (tgt : Int)) (yes : x < y → Go l Z a0 EL n0 kn B D Q h σ ce sl tgt Ls st) (no : ¬ (x < y) → Go l Z a0 EL n0 kn B D Q h σ ce sl (pc + 3) Ls st) : Go l Z a0 EL n0 kn B D Q h σ ce sl pc Ls (.int y :: .int x :: st) := by
  by_cases c : x < y
  · exact Go.step (fun T hA hx hb t q => XS.icmpYes hA hx rfl (pc0 := pc) (pc' := tgt) rfl (Jvm.hb hb hd) rfl (XT.ii_lt_t c) (by rw [ht]; exact Int.natCast_nonneg _) (by rw [ht]; rfl) q) (yes c)
  · exact Go.step (fun T hA hx hb t q => XS.icmpNo hA hx rfl (Jvm.hb hb hd) rfl (XT.ii_lt_f c) q) (no c)
theorem icmp_ge (pc : Nat) (tgt : Nat) {o : Int} {x y : Int32} (hd : decode B.bs pc = .ok (.if_icmp .ge o, 3)) (ht : (pc : Int) + o = (tgt : Int)) (yes : ¬ (x < y) → Go l Z a0 EL n0 kn B D Q h σ ce sl tgt Ls st) (no : x < y → Go l Z a0 EL n0 kn B D Q h σ ce sl (pc + 3) Ls st) : Go l Z a0 EL n0 kn B D Q h σ ce sl pc Ls (.int y :: .int x :: st) := by
  by_cases c : x < y
  · exact Go.step (fun T hA hx hb t q => XS.icmpNo hA hx rfl (Jvm.hb hb hd) rfl (XT.ii_ge_f c) q) (no c)
  · exact Go.step (fun T hA hx hb t q => XS.icmpYes hA hx rfl (pc0 := pc) (pc' := tgt) rfl (Jvm.hb hb hd) rfl (XT.ii_ge_t c) (by rw [ht]; exact Int.natCast_nonneg _) (by rw [ht]; rfl) q) (yes c)
theorem icmp_gt (pc : Nat) (tgt : Nat) {o : Int} {x y : Int32} (hd : decode B.bs pc = .ok (.if_icmp .gt o, 3)) (ht : (pc : Int) + o = (tgt : Int)) (yes : y < x → Go l Z a0 EL n0 kn B D Q h σ ce sl tgt Ls st) (no : ¬ (y < x) → Go l Z a0 EL n0 kn B D Q h σ ce sl (pc + 3) Ls st) : Go l Z a0 EL n0 kn B D Q h σ ce sl pc Ls (.int y :: .int x :: st) := by
  by_cases c : y < x
  · exact Go.step (fun T hA hx hb t q => XS.icmpYes hA hx rfl (pc0 := pc) (pc' := tgt) rfl (Jvm.hb hb hd) rfl (XT.ii_gt_t c) (by rw [ht]; exact Int.natCast_nonneg _) (by rw [ht]; rfl) q) (yes c)
  · exact Go.step (fun T hA hx hb t q => XS.icmpNo hA hx rfl (Jvm.hb hb hd) rfl (XT.ii_gt_f c) q) (no c)
theorem icmp_le (pc : Nat) (tgt : Nat) {o : Int} {x y : Int32} (hd : decode B.bs pc = .ok (.if_icmp .le o, 3)) (ht : (pc : Int) + o = (tgt : Int)) (yes : ¬ (y < x) → Go l Z a0 EL n0 kn B D Q h σ ce sl tgt Ls st) (no : y < x → Go l Z a0 EL n0 kn B D Q h σ ce sl (pc + 3) Ls st) : Go l Z a0 EL n0 kn B D Q h σ ce sl pc Ls (.int y :: .int x :: st) := by
  by_cases c : y < x
  · exact Go.step (fun T hA hx hb t q => XS.icmpNo hA hx rfl (Jvm.hb hb hd) rfl (XT.ii_le_f c) q) (no c)
  · exact Go.step (fun T hA hx hb t q => XS.icmpYes hA hx rfl (pc0 := pc) (pc' := tgt) rfl (Jvm.hb hb hd) rfl (XT.ii_le_t c) (by rw [ht]; exact Int.natCast_nonneg _) (by rw [ht]; rfl) q) (yes c)
theorem if_eq (pc : Nat) (tgt : Nat) {o : Int} {x : Int32} (hd : decode B.bs pc = .ok (.ifCond .eq o, 3)) (ht : (pc : Int) + o = (tgt : Int)) (yes : x = 0 → Go l Z a0 EL n0 kn B D Q h σ ce sl tgt Ls st) (no : ¬ (x = 0) → Go l Z a0 EL n0 kn B D Q h σ ce sl (pc + 3) Ls st) : Go l Z a0 EL n0 kn B D Q h σ ce sl pc Ls (.int x :: st) := by
  by_cases c : x = 0
  · exact Go.step (fun T hA hx hb t q => XS.ifYes hA hx rfl (pc0 := pc) (pc' := tgt) rfl (Jvm.hb hb hd) rfl (XT.i0_eq_t c) (by rw [ht]; exact Int.natCast_nonneg _) (by rw [ht]; rfl) q) (yes c)
  · exact Go.step (fun T hA hx hb t q => XS.ifNo hA hx rfl (Jvm.hb hb hd) rfl (XT.i0_eq_f c) q) (no c)
theorem if_ne (pc : Nat) (tgt : Nat) {o : Int} {x : Int32} (hd : decode B.bs pc = .ok (.ifCond .ne o, 3)) (ht : (pc : Int) + o = (tgt : Int)) (yes : ¬ (x = 0) → Go l Z a0 EL n0 kn B D Q h σ ce sl tgt Ls st) (no : x = 0 → Go l Z a0 EL n0 kn B D Q h σ ce sl (pc + 3) Ls st) : Go l Z a0 EL n0 kn B D Q h σ ce sl pc Ls (.int x :: st) := by
  by_cases c : x = 0
  · exact Go.step (fun T hA hx hb t q => XS.ifNo hA hx rfl (Jvm.hb hb hd) rfl (XT.i0_ne_f c) q) (no c)
  · exact Go.step (fun T hA hx hb t q => XS.ifYes hA hx rfl (pc0 := pc) (pc' := tgt) rfl (Jvm.hb hb hd) rfl (XT.i0_ne_t c) (by rw [ht]; exact Int.natCast_nonneg _) (by rw [ht]; rfl) q) (yes c)
theorem if_lt (pc : Nat) (tgt : Nat) {o : Int} {x : Int32} (hd : decode B.bs pc = .ok (.ifCond .lt o, 3)) (ht : (pc : Int) + o = (tgt : Int)) (yes : x < 0 → Go l Z a0 EL n0 kn B D Q h σ ce sl tgt Ls st) (no : ¬ (x < 0) → Go l Z a0 EL n0 kn B D Q h σ ce sl (pc + 3) Ls st) : Go l Z a0 EL n0 kn B D Q h σ ce sl pc Ls (.int x :: st) := by
  by_cases c : x < 0
  · exact Go.step (fun T hA hx hb t q => XS.ifYes hA hx rfl (pc0 := pc) (pc' := tgt) rfl (Jvm.hb hb hd) rfl (XT.i0_lt_t c) (by rw [ht]; exact Int.natCast_nonneg _) (by rw [ht]; rfl) q) (yes c)
  · exact Go.step (fun T hA hx hb t q => XS.ifNo hA hx rfl (Jvm.hb hb hd) rfl (XT.i0_lt_f c) q) (no c)
theorem if_ge (pc : Nat) (tgt : Nat) {o : Int} {x : Int32} (hd : decode B.bs pc = .ok (.ifCond .ge o, 3)) (ht : (pc : Int) + o = (tgt : Int)) (yes : ¬ (x < 0) → Go l Z a0 EL n0 kn B D Q h σ ce sl tgt Ls st) (no : x < 0 → Go l Z a0 EL n0 kn B D Q h σ ce sl (pc + 3) Ls st) : Go l Z a0 EL n0 kn B D Q h σ ce sl pc Ls (.int x :: st) := by
  by_cases c : x < 0
  · exact Go.step (fun T hA hx hb t q => XS.ifNo hA hx rfl (Jvm.hb hb hd) rfl (XT.i0_ge_f c) q) (no c)
  · exact Go.step (fun T hA hx hb t q => XS.ifYes hA hx rfl (pc0 := pc) (pc' := tgt) rfl (Jvm.hb hb hd) rfl (XT.i0_ge_t c) (by rw [ht]; exact Int.natCast_nonneg _) (by rw [ht]; rfl) q) (yes c)
theorem if_gt (pc : Nat) (tgt : Nat) {o : Int} {x : Int32} (hd : decode B.bs pc = .ok (.ifCond .gt o, 3)) (ht : (pc : Int) + o = (tgt : Int)) (yes : 0 < x → Go l Z a0 EL n0 kn B D Q h σ ce sl tgt Ls st) (no : ¬ (0 < x) → Go l Z a0 EL n0 kn B D Q h σ ce sl (pc + 3) Ls st) : Go l Z a0 EL n0 kn B D Q h σ ce sl pc Ls (.int x :: st) := by
  by_cases c : 0 < x
  · exact Go.step (fun T hA hx hb t q => XS.ifYes hA hx rfl (pc0 := pc) (pc' := tgt) rfl (Jvm.hb hb hd) rfl (XT.i0_gt_t c) (by rw [ht]; exact Int.natCast_nonneg _) (by rw [ht]; rfl) q) (yes c)
  · exact Go.step (fun T hA hx hb t q => XS.ifNo hA hx rfl (Jvm.hb hb hd) rfl (XT.i0_gt_f c) q) (no c)
theorem if_le (pc : Nat) (tgt : Nat) {o : Int} {x : Int32} (hd : decode B.bs pc = .ok (.ifCond .le o, 3)) (ht : (pc : Int) + o = (tgt : Int)) (yes : ¬ (0 < x) → Go l Z a0 EL n0 kn B D Q h σ ce sl tgt Ls st) (no : 0 < x → Go l Z a0 EL n0 kn B D Q h σ ce sl (pc + 3) Ls st) : Go l Z a0 EL n0 kn B D Q h σ ce sl pc Ls (.int x :: st) := by
  by_cases c : 0 < x
  · exact Go.step (fun T hA hx hb t q => XS.ifNo hA hx rfl (Jvm.hb hb hd) rfl (XT.i0_le_f c) q) (no c)
  · exact Go.step (fun T hA hx hb t q => XS.ifYes hA hx rfl (pc0 := pc) (pc' := tgt) rfl (Jvm.hb hb hd) rfl (XT.i0_le_t c) (by rw [ht]; exact Int.natCast_nonneg _) (by rw [ht]; rfl) q) (yes c)
theorem ifl_eq (pc : Nat) (tgt : Nat) {o : Int} {x y : Int64} (hd : decode B.bs pc = .ok (.ifCond .eq o, 3)) (ht : (pc : Int) + o = (tgt : Int)) (yes : x = y → Go l Z a0 EL n0 kn B D Q h σ ce sl tgt Ls st) (no : ¬ (x = y) → Go l Z a0 EL n0 kn B D Q h σ ce sl (pc + 3) Ls st) : Go l Z a0 EL n0 kn B D Q h σ ce sl pc Ls (.int (XT.cmpL x y) :: st) := by
  by_cases c : x = y
  · exact Go.step (fun T hA hx hb t q => XS.ifYes hA hx rfl (pc0 := pc) (pc' := tgt) rfl (Jvm.hb hb hd) rfl (XT.ll_eq_t c) (by rw [ht]; exact Int.natCast_nonneg _) (by rw [ht]; rfl) q) (yes c)
  · exact Go.step (fun T hA hx hb t q => XS.ifNo hA hx rfl (Jvm.hb hb hd) rfl (XT.ll_eq_f c) q) (no c)
theorem ifl_ne (pc : Nat) (tgt : Nat) {o : Int} {x y : Int64} (hd : decode B.bs pc = .ok (.ifCond .ne o, 3)) (ht : (pc : Int) + o = (tgt : Int)) (yes : ¬ (x = y) → Go l Z a0 EL n0 kn B D Q h σ ce sl tgt Ls st) (no : x = y → Go l Z a0 EL n0 kn B D Q h σ ce sl (pc + 3) Ls st) : Go l Z a0 EL n0 kn B D Q h σ ce sl pc Ls (.int (XT.cmpL x y) :: st) := by
  by_cases c : x = y
  · exact Go.step (fun T hA hx hb t q => XS.ifNo hA hx rfl (Jvm.hb hb hd) rfl (XT.ll_ne_f c) q) (no c)
  · exact Go.step (fun T hA hx hb t q => XS.ifYes hA hx rfl (pc0 := pc) (pc' := tgt) rfl (Jvm.hb hb hd) rfl (XT.ll_ne_t c) (by rw [ht]; exact Int.natCast_nonneg _) (by rw [ht]; rfl) q) (yes c)
theorem ifl_lt (pc : Nat) (tgt : Nat) {o : Int} {x y : Int64} (hd : decode B.bs pc = .ok (.ifCond .lt o, 3)) (ht : (pc : Int) + o = (tgt : Int)) (yes : x < y → Go l Z a0 EL n0 kn B D Q h σ ce sl tgt Ls st) (no : ¬ (x < y) → Go l Z a0 EL n0 kn B D Q h σ ce sl (pc + 3) Ls st) : Go l Z a0 EL n0 kn B D Q h σ ce sl pc Ls (.int (XT.cmpL x y) :: st) := by
  by_cases c : x < y
  · exact Go.step (fun T hA hx hb t q => XS.ifYes hA hx rfl (pc0 := pc) (pc' := tgt) rfl (Jvm.hb hb hd) rfl (XT.ll_lt_t c) (by rw [ht]; exact Int.natCast_nonneg _) (by rw [ht]; rfl) q) (yes c)
  · exact Go.step (fun T hA hx hb t q => XS.ifNo hA hx rfl (Jvm.hb hb hd) rfl (XT.ll_lt_f c) q) (no c)
theorem ifl_ge (pc : Nat) (tgt : Nat) {o : Int} {x y : Int64} (hd : decode B.bs pc = .ok (.ifCond .ge o, 3)) (ht : (pc : Int) + o = (tgt : Int)) (yes : ¬ (x < y) → Go l Z a0 EL n0 kn B D Q h σ ce sl tgt Ls st) (no : x < y → Go l Z a0 EL n0 kn B D Q h σ ce sl (pc + 3) Ls st) : Go l Z a0 EL n0 kn B D Q h σ ce sl pc Ls (.int (XT.cmpL x y) :: st) := by
  by_cases c : x < y
  · exact Go.step (fun T hA hx hb t q => XS.ifNo hA hx rfl (Jvm.hb hb hd) rfl (XT.ll_ge_f c) q) (no c)
  · exact Go.step (fun T hA hx hb t q => XS.ifYes hA hx rfl (pc0 := pc) (pc' := tgt) rfl (Jvm.hb hb hd) rfl (XT.ll_ge_t c) (by rw [ht]; exact Int.natCast_nonneg _) (by rw [ht]; rfl) q) (yes c)
theorem ifl_gt (pc : Nat) (tgt : Nat) {o : Int} {x y : Int64} (hd : decode B.bs pc = .ok (.ifCond .gt o, 3)) (ht : (pc : Int) + o = (tgt : Int)) (yes : y < x → Go l Z a0 EL n0 kn B D Q h σ ce sl tgt Ls st) (no : ¬ (y < x) → Go l Z a0 EL n0 kn B D Q h σ ce sl (pc + 3) Ls st) : Go l Z a0 EL n0 kn B D Q h σ ce sl pc Ls (.int (XT.cmpL x y) :: st) := by
  by_cases c : y < x
  · exact Go.step (fun T hA hx hb t q => XS.ifYes hA hx rfl (pc0 := pc) (pc' := tgt) rfl (Jvm.hb hb hd) rfl (XT.ll_gt_t c) (by rw [ht]; exact Int.natCast_nonneg _) (by rw [ht]; rfl) q) (yes c)
  · exact Go.step (fun T hA hx hb t q => XS.ifNo hA hx rfl (Jvm.hb hb hd) rfl (XT.ll_gt_f c) q) (no c)
theorem ifl_le (pc : Nat) (tgt : Nat) {o : Int} {x y : Int64} (hd : decode B.bs pc = .ok (.ifCond .le o, 3)) (ht : (pc : Int) + o = (tgt : Int)) (yes : ¬ (y < x) → Go l Z a0 EL n0 kn B D Q h σ ce sl tgt Ls st) (no : y < x → Go l Z a0 EL n0 kn B D Q h σ ce sl (pc + 3) Ls st) : Go l Z a0 EL n0 kn B D Q h σ ce sl pc Ls (.int (XT.cmpL x y) :: st) := by
  by_cases c : y < x
  · exact Go.step (fun T hA hx hb t q => XS.ifNo hA hx rfl (Jvm.hb hb hd) rfl (XT.ll_le_f c) q) (no c)
  · exact Go.step (fun T hA hx hb t q => XS.ifYes hA hx rfl (pc0 := pc) (pc' := tgt) rfl (Jvm.hb hb hd) rfl (XT.ll_le_t c) (by rw [ht]; exact Int.natCast_nonneg _) (by rw [ht]; rfl) q) (yes c)
theorem ifnull (pc : Nat) (tgt : Nat) {o : Int} {v : Value} (hr : v.isRef = true) (hd : decode B.bs pc = .ok (.ifnull o, 3)) (ht : (pc : Int) + o = (tgt : Int)) (yes : v = .null → Go l Z a0 EL n0 kn B D Q h σ ce sl tgt Ls st) (no : ¬ (v = .null) → Go l Z a0 EL n0 kn B D Q h σ ce sl (pc + 3) Ls st) : Go l Z a0 EL n0 kn B D Q h σ ce sl pc Ls (v :: st) := by
  by_cases c : v = .null
  · exact Go.step (fun T hA hx hb t q => XT.nullYes hA hx rfl (pc0 := pc) (pc' := tgt) rfl (Jvm.hb hb hd) rfl c (by rw [ht]; exact Int.natCast_nonneg _) (by rw [ht]; rfl) q) (yes c)
  · exact Go.step (fun T hA hx hb t q => XT.nullNo hA hx rfl (Jvm.hb hb hd) rfl hr c q) (no c)
theorem ifnonnull (pc : Nat) (tgt : Nat) {o : Int} {v : Value} (hr : v.isRef = true) (hd : decode B.bs pc = .ok (.ifnonnull o, 3)) (ht : (pc : Int) + o = (tgt : Int)) (yes : ¬ (v = .null) → Go l Z a0 EL n0 kn B D Q h σ ce sl tgt Ls st) (no : v = .null → Go l Z a0 EL n0 kn B D Q h σ ce sl (pc + 3) Ls st) : Go l Z a0 EL n0 kn B D Q h σ ce sl pc Ls (v :: st) := by
  by_cases c : v = .null
  · exact Go.step (fun T hA hx hb t q => XT.nonnullNo hA hx rfl (Jvm.hb hb hd) rfl c q) (no c)
  · exact Go.step (fun T hA hx hb t q => XT.nonnullYes hA hx rfl (pc0 := pc) (pc' := tgt) rfl (Jvm.hb hb hd) rfl hr c (by rw [ht]; exact Int.natCast_nonneg _) (by rw [ht]; rfl) q) (yes c)
theorem acmp_eq (pc : Nat) (tgt : Nat) {o : Int} {v w : Value} (hv : v.isRef = true) (hw : w.isRef = true) (hd : decode B.bs pc = .ok (.if_acmp .eq o, 3)) (ht : (pc : Int) + o = (tgt : Int)) (yes : v = w → Go l Z a0 EL n0 kn B D Q h σ ce sl tgt Ls st) (no : ¬ (v = w) → Go l Z a0 EL n0 kn B D Q h σ ce sl (pc + 3) Ls st) : Go l Z a0 EL n0 kn B D Q h σ ce sl pc Ls (w :: v :: st) := by
  by_cases c : v = w
  · exact Go.step (fun T hA hx hb t q => XT.acmpYes hA hx rfl (pc0 := pc) (pc' := tgt) rfl (Jvm.hb hb hd) rfl hv hw (XT.aa_eq_t c) (by rw [ht]; exact Int.natCast_nonneg _) (by rw [ht]; rfl) q) (yes c)
  · exact Go.step (fun T hA hx hb t q => XT.acmpNo hA hx rfl (Jvm.hb hb hd) rfl hv hw (XT.aa_eq_f c) q) (no c)
theorem acmp_ne (pc : Nat) (tgt : Nat) {o : Int} {v w : Value} (hv : v.isRef = true) (hw : w.isRef = true) (hd : decode B.bs pc = .ok (.if_acmp .ne o, 3)) (ht : (pc : Int) + o = (tgt : Int)) (yes : ¬ (v = w) → Go l Z a0 EL n0 kn B D Q h σ ce sl tgt Ls st) (no : v = w → Go l Z a0 EL n0 kn B D Q h σ ce sl (pc + 3) Ls st) : Go l Z a0 EL n0 kn B D Q h σ ce sl pc Ls (w :: v :: st) := by
  by_cases c : v = w
  · exact Go.step (fun T hA hx hb t q => XT.acmpNo hA hx rfl (Jvm.hb hb hd) rfl hv hw (XT.aa_ne_f c) q) (no c)
  · exact Go.step (fun T hA hx hb t q => XT.acmpYes hA hx rfl (pc0 := pc) (pc' := tgt) rfl (Jvm.hb hb hd) rfl hv hw (XT.aa_ne_t c) (by rw [ht]; exact Int.natCast_nonneg _) (by rw [ht]; rfl) q) (yes c)
end Plain
end Jvm.Road
namespace Jvm.Road
open Jvm Jvm.ClassFile Sem Op Lib Jvm.Free Jvm.Stand Jvm.LawKit Jvm.RoadKit Bundle
section Facts
variable {Z : State} {h h' : Heap} {a b : Addr} {ty : FieldType} {vs : List Value} {ws : List Addr}
/-- the array at a holds just these values -/
def Ary (Z : State) (h : Heap) (a : Addr) (ty : FieldType) (vs : List Value) : Prop := ∃ c : Cell, Arr Z h a c ty ∧ c.slots.toList = vs ∧ vs.length < 2147483648 ∧ ∀ v ∈ vs, fits ty v = true
theorem Ary.keep (F : Ary Z h a ty vs) (K : Keep h h' ws) (q : a ∉ ws) : Ary Z h' a ty vs := by
  obtain ⟨c, A, r⟩ := F; exact ⟨c, ⟨K.2.1 a c A.1 q, A.2⟩, r⟩
theorem Ary.lt (F : Ary Z h a ty vs) : a < h.size := by obtain ⟨c, A, -⟩ := F; exact A.lt
theorem Ary.small (F : Ary Z h a ty vs) : vs.length < 2147483648 := by obtain ⟨c, A, -, q, -⟩ := F; exact q
theorem Ary.fit (F : Ary Z h a ty vs) : ∀ v ∈ vs, fits ty v = true := by obtain ⟨c, A, -, -, q⟩ := F; exact q
theorem Ary.wr {i : Nat} {v : Value} (F : Ary Z h a ty vs) (W : Wr h h' a i v) (hv : fits ty v = true) : Ary Z h' a ty (vs.set i v) := by
  obtain ⟨c, A, e, q, f⟩ := F
  refine ⟨_, Arr.same W A, ?_, by rw [List.length_set]; exact q, fun u hu => ?_⟩
  · show (c.slots.setIfInBounds i v).toList = _
    rw [Array.toList_setIfInBounds, e]
  · rcases List.mem_or_eq_of_mem_set hu with r | r
    · exact f u r
    · exact r ▸ hv
theorem ix_of {j : Int32} {i : Nat} (hj : j.toInt = (i : Int)) : ¬ j < 0 ∧ j.toNatClampNeg = i := by
  refine ⟨?_, ?_⟩
  · simp only [Int32.lt_iff_toInt_lt, hj, Int32.reduceToInt]; omega
  · simp only [Int32.toNatClampNeg, hj]; omega
theorem Ary.inb {c : Cell} {j : Int32} {i : Nat} (e : c.slots.toList = vs) (hj : j.toInt = (i : Int)) (hi : i < vs.length) : ¬ (j < 0 ∨ c.slots.size ≤ j.toNatClampNeg) := by
  obtain ⟨q1, q2⟩ := ix_of hj
  rw [q2, ← Array.length_toList, e]
  intro q; rcases q with q | q
  · exact q1 q
  · omega
theorem Ary.of_arv {k : ClassId} {z : Int32} {d : Value} (F : Arv Z h a k ty z vs d) (hz : z.toNatClampNeg = vs.length) : Ary Z h a ty vs := by
  obtain ⟨c, A, -, S, hn, H, G⟩ := F
  have hsz : c.slots.size = vs.length := S.trans hz
  have e : c.slots.toList = vs := by
    apply List.ext_getElem?
    intro i
    by_cases hi : i < vs.length
    · have := H i (by rw [hsz]; exact hi)
      rw [Array.getElem?_toList, this, List.getD_eq_getElem?_getD, List.getElem?_eq_getElem hi]; rfl
    · rw [List.getElem?_eq_none (Nat.le_of_not_lt hi), List.getElem?_eq_none (by rw [Array.length_toList, hsz]; exact Nat.le_of_not_lt hi)]
  refine ⟨c, A, e, by have := Int32.toInt_lt z; simp only [Int32.toNatClampNeg] at hz; omega, fun v hv => ?_⟩
  obtain ⟨i, hi, rfl⟩ := List.getElem_of_mem hv
  have := G i (by rw [hsz]; exact hi)
  rwa [List.getD_eq_getElem?_getD, List.getElem?_eq_getElem hi] at this
def byt (c : Int32) : Value := .int c.toInt8.toInt32
abbrev SN : String := "java/lang/String"
/-- the object at a is a compact String of these chars, its bytes at b -/
def Str (Z : State) (h : Heap) (a b : Addr) (cs : List Int32) : Prop := Exa Z h a SN ∧ Fld Z h a SN "coder" "B" (.int 0) ∧ Fld Z h a SN "value" "[B" (.ref b) ∧ Ary Z h b .byte (cs.map byt) ∧ ∀ c ∈ cs, 0 ≤ c.toInt ∧ c.toInt < 256
theorem Str.keep {cs : List Int32} (F : Str Z h a b cs) (K : Keep h h' ws) (q : a ∉ ws) (q' : b ∉ ws) : Str Z h' a b cs := ⟨F.1.keep K, F.2.1.keep K q, F.2.2.1.keep K q, F.2.2.2.1.keep K q', F.2.2.2.2⟩
theorem Str.lt {cs : List Int32} (F : Str Z h a b cs) : a < h.size := F.1.lt
theorem Str.ltb {cs : List Int32} (F : Str Z h a b cs) : b < h.size := F.2.2.2.1.lt
theorem keep_ext (E : Ext h h') : Keep h h' [] := (Keep.refl h []).ext E
end Facts
section Heap
variable {l : Launch} {Z : State} {a0 : Array Value} {EL : List (String × Nat)} {n0 : Nat} {kn : Bool} {B : Bdy} {D : Dyn} {Q : Post} {h : Heap} {σ : Addr → Prop} {ce sl : Nat} {Ls : Array Slot} {st : List Value} {a : Addr}
theorem getfield (pc : Nat) {ix : Nat} {R0 O n d : String} {v : Value} (hd : decode B.bs pc = .ok (.getfield ix, 3)) (w : (Jvm.Cond.fieldLink B.y.cls ix R0 n d).before a0 Z = true) (via : Via Z R0 O n d) (F : Fld Z h a O n d v)
    (r : Go l Z a0 EL n0 kn B D Q h σ ce sl (pc + 3) Ls (v :: st)) : Go l Z a0 EL n0 kn B D Q h σ ce sl pc Ls (.ref a :: st) := by
  intro ok ew T vm0 I
  obtain ⟨k0, locs, X, h1, h2, h3, h4, h5, h6, h7, h8, h9, h10⟩ := I
  obtain ⟨T', X', e', s'⟩ := getF X ok.1 (s := D.s.setVm vm0) h4 h5 (host := "") (Or.inl w) via h1 F (g := mkF D.m pc Ls (.ref a :: st)) rfl rfl (Jvm.hb ok.2.1 hd)
  obtain ⟨s2, o, q, rest⟩ := r ok ew T' vm0 ⟨k0, locs, X', e', h2, h3, h4, h5, h6, h7, h8, h9, h10⟩
  exact ⟨s2, o, s' _ q, rest⟩
theorem own_wr {vm0 : Vm} {h' : Heap} {i : Nat} {v : Value} (W : Wr h h' a i v) (hC : CHv Z EL vm0 h) (ha : Own Z EL n0 vm0 h a) {x : Addr} (hx : Own Z EL n0 vm0 h x) : Own Z EL n0 vm0 h' x :=
  ⟨Safe.wr W ha.1 hC hx.1, hx.2.1, by rw [W.size]; exact hx.2.2⟩
/-- behind a write of one place -/
theorem wrote {pc pc' : Nat} {Ls' : Array Slot} {st' : List Value} {i : Nat} {v : Value} (hσ : σ a)
    (s : ∀ T vm0 locs, Stand D.p l D.e B.rm (D.s.setVm vm0) D.m D.args D.bl D.meth D.c T locs ce sl → T.heap = h → Z.Warmed39 vm0 → vm0.findClass B.y.cls = some D.m.cls → Ok B D →
      ∃ T' h', Stand D.p l D.e B.rm (D.s.setVm vm0) D.m D.args D.bl D.meth D.c T' (locs ++ [⟨a, i⟩]) ce sl ∧ T'.heap = h' ∧ Wr h h' a i v ∧ ∀ target, Steps D.p.tables D.e D.bl (T'.setTop (mkF D.m pc' Ls' st')) target → Steps D.p.tables D.e D.bl (T.setTop (mkF D.m pc Ls st)) target)
    (r : ∀ h', Wr h h' a i v → Keep h h' [a] → Go l Z a0 EL n0 kn B D Q h' σ ce sl pc' Ls' st') : Go l Z a0 EL n0 kn B D Q h σ ce sl pc Ls st := by
  intro ok ew T vm0 I
  obtain ⟨k0, locs, X, h1, h2, h3, h4, h5, h6, h7, h8, h9, h10⟩ := I
  obtain ⟨T', h', X', e', W, s'⟩ := s T vm0 locs X h1 h4 h5 ok
  have ha := h9 a hσ
  obtain ⟨s2, o, q, rest⟩ := r h' W (Keep.of_wr W) ok ew T' vm0 ⟨k0, _, X', e', h2, by rw [W.size]; exact h3, h4, h5, h6.trans (CHr.wr W ha.1 h6.1), h7.app fun y hy => by cases List.mem_singleton.mp hy; exact ha.2.1, h8.wr W ha.2.1, fun x hx => own_wr W h6.1 ha (h9 x hx), h10⟩
  exact ⟨s2, o, s' _ q, rest⟩
theorem putfield (pc : Nat) {ix : Nat} {R0 O n d C : String} {kk : Nat} {ty : FieldType} {v old : Value} (hd : decode B.bs pc = .ok (.putfield ix, 3)) (w : (Jvm.Cond.fieldLink B.y.cls ix R0 n d).before a0 Z = true) (via : Via Z R0 O n d) (F : Fld Z h a O n d old) (E : Exa Z h a C)
    (L : (Jvm.Cond.lays C O n d).before a0 Z = true ∨ ((Jvm.Cond.laysFinal C O n d).before a0 Z = true ∧ B.y.cls = O ∧ B.y.name = "<init>")) (wi : (Jvm.Cond.instantiable C kk).before a0 Z = true) (hty : parseFieldDescriptor d = some ty) (hn : narrow ty v = v) (hf : fits ty v = true) (hσ : σ a)
    (r : ∀ h', Wr h h' a (RoadKit.slotOf Z O n d) v → Keep h h' [a] → Go l Z a0 EL n0 kn B D Q h' σ ce sl (pc + 3) Ls st) : Go l Z a0 EL n0 kn B D Q h σ ce sl pc Ls (v :: .ref a :: st) :=
  wrote hσ (fun T vm0 locs X h1 h4 h5 ok => putF X ok.1 (s := D.s.setVm vm0) h4 h5 (host := "") (Or.inl w) via h1 F E (L.imp id fun q => ⟨q.1, q.2.1, ok.2.2.2.2.2.trans q.2.2⟩) wi hty hn hf (g := mkF D.m pc Ls (v :: .ref a :: st)) rfl rfl (Jvm.hb ok.2.1 hd)) r
theorem getstatic (pc : Nat) {ix : Nat} {R0 O n d : String} {v : Value} (hd : decode B.bs pc = .ok (.getstatic ix, 3)) (w : (Jvm.Cond.fieldLink B.y.cls ix R0 n d).before a0 Z = true) (via : Via Z R0 O n d) (F : Sta Z Z.heap O n d v)
    (r : Go l Z a0 EL n0 kn B D Q h σ ce sl (pc + 3) Ls (v :: st)) : Go l Z a0 EL n0 kn B D Q h σ ce sl pc Ls st := by
  intro ok ew T vm0 I
  obtain ⟨k0, locs, X, h1, h2, h3, h4, h5, h6, h7, h8, h9, h10⟩ := I
  obtain ⟨T', X', e', s'⟩ := getS X ok.1 (s := D.s.setVm vm0) h4 h5 (host := "") w via h1 (F.ext h8.2) (g := mkF D.m pc Ls st) rfl (Jvm.hb ok.2.1 hd)
  obtain ⟨s2, o, q, rest⟩ := r ok ew T' vm0 ⟨k0, locs, X', e', h2, h3, h4, h5, h6, h7, h8, h9, h10⟩
  exact ⟨s2, o, s' _ q, rest⟩
theorem own_new {vm0 : Vm} {h' : Heap} (E : Ext h h') (hC : CHv Z EL vm0 h) (hO : Old Z n0 h) (hlt : h.size < h'.size) : Own Z EL n0 vm0 h' h.size :=
  ⟨(Safe.new (Nat.le_refl _)).ext E hC, hO.1 ▸ hO.2.1, hlt⟩
/-- behind the making of one cell -/
theorem made {pc pc' ce' sl' : Nat} {Ls' : Array Slot} {st' : List Value} {P : Heap → Prop}
    (s : ∀ T vm0 locs, Stand D.p l D.e B.rm (D.s.setVm vm0) D.m D.args D.bl D.meth D.c T locs ce sl → T.heap = h → Z.Warmed39 vm0 → vm0.findClass B.y.cls = some D.m.cls → Ok B D →
      ∃ T' h', Stand D.p l D.e B.rm (D.s.setVm vm0) D.m D.args D.bl D.meth D.c T' locs ce' sl' ∧ T'.heap = h' ∧ Ext h h' ∧ h.size < h'.size ∧ P h' ∧ ∀ target, Steps D.p.tables D.e D.bl (T'.setTop (mkF D.m pc' Ls' st')) target → Steps D.p.tables D.e D.bl (T.setTop (mkF D.m pc Ls st)) target)
    (r : ∀ h' σ', Keep h h' [] → h.size < h'.size → (∀ x, σ x → σ' x) → σ' h.size → P h' → Go l Z a0 EL n0 kn B D Q h' σ' ce' sl' pc' Ls' st') : Go l Z a0 EL n0 kn B D Q h σ ce sl pc Ls st := by
  intro ok ew T vm0 I
  obtain ⟨k0, locs, X, h1, h2, h3, h4, h5, h6, h7, h8, h9, h10⟩ := I
  obtain ⟨T', h', X', e', E, hlt, hP, s'⟩ := s T vm0 locs X h1 h4 h5 ok
  obtain ⟨s2, o, q, rest⟩ := r h' (Own Z EL n0 vm0 h') (keep_ext E) hlt (fun x hx => ⟨(h9 x hx).1.ext E h6.1, (h9 x hx).2.1, Nat.lt_of_lt_of_le (h9 x hx).2.2 E.1⟩) (own_new E h6.1 h8 hlt) hP ok ew T' vm0
    ⟨k0, locs, X', e', h2, Nat.le_trans h3 E.1, h4, h5, h6.trans (CHr.ext E h6.1), h7, h8.ext E, fun x hx => hx, h10⟩
  exact ⟨s2, o, s' _ q, rest⟩
theorem new (pc : Nat) {ix : Nat} (C : String) {n : Nat} (hd : decode B.bs pc = .ok (.new ix, 3)) (w : (Jvm.Cond.classLink B.y.cls ix C).before a0 Z = true) (wi : (Jvm.Cond.instantiable C n).before a0 Z = true) (wz : (Jvm.Cond.initialized C).before a0 Z = true) {ce' sl' : Nat} (hce : ce + 1 = ce') (hsl : sl + n = sl') (hc : ce' ≤ B.rm.cells) (hs : sl' ≤ B.rm.slots)
    (r : ∀ a h' σ', a = h.size → Keep h h' [] → a < h'.size → (∀ x, σ x → σ' x) → σ' a → Exa Z h' a C → (∀ {O nm d : String} {ty : FieldType}, Laid Z a0 C O nm d → parseFieldDescriptor d = some ty → Fld Z h' a O nm d (defaultValue ty)) → (∃ cell : Cell, h'[a]? = some cell ∧ cell.vm = .none ∧ cell.monitor = {}) →
      Go l Z a0 EL n0 kn B D Q h' σ' ce' sl' (pc + 3) Ls (.ref a :: st)) : Go l Z a0 EL n0 kn B D Q h σ ce sl pc Ls st := by
  subst hce hsl
  exact made (P := fun h' => Exa Z h' h.size C ∧ (∀ {O nm d : String} {ty : FieldType}, Laid Z a0 C O nm d → parseFieldDescriptor d = some ty → Fld Z h' h.size O nm d (defaultValue ty)) ∧ (∃ cell : Cell, h'[h.size]? = some cell ∧ cell.vm = .none ∧ cell.monitor = {}))
    (fun T vm0 locs X h1 h4 h5 ok => by
      obtain ⟨T', h', X', e', E, A, Dd, M, s'⟩ := newO X ok.1 (s := D.s.setVm vm0) h4 h5 w wi wz h1 (g := mkF D.m pc Ls st) rfl (Jvm.hb ok.2.1 hd) hc hs
      exact ⟨T', h', X', e', E, A.lt, ⟨A, Dd, M⟩, s'⟩)
    (fun h' σ' K hlt m1 m2 P => r h.size h' σ' rfl K hlt m1 m2 P.1 P.2.1 P.2.2)
theorem newarray (pc : Nat) {aty : ArrayType} (ty : FieldType) (n cap : Nat) {z : Int32} (hd : decode B.bs pc = .ok (.newarray aty, 2)) (hty : newarray.typeOf aty = ty) (w : (Jvm.Cond.arrayClass ty).before a0 Z = true) (hz : z.toInt = (n : Int)) (hcap : n ≤ cap) (hb : cap * 8 ≤ 536870912) {ce' sl' : Nat} (hce : ce + 1 = ce') (hsl : sl + cap = sl') (hc : ce' ≤ B.rm.cells) (hs : sl' ≤ B.rm.slots)
    (r : ∀ a h' σ', a = h.size → Keep h h' [] → a < h'.size → (∀ x, σ x → σ' x) → σ' a → Ary Z h' a ty (List.replicate n (defaultValue ty)) → Go l Z a0 EL n0 kn B D Q h' σ' ce' sl' (pc + 2) Ls (.ref a :: st)) : Go l Z a0 EL n0 kn B D Q h σ ce sl pc Ls (.int z :: st) := by
  subst hce hsl
  exact made (P := fun h' => Ary Z h' h.size ty (List.replicate n (defaultValue ty)))
    (fun T vm0 locs X h1 h4 h5 ok => by
      subst hty
      obtain ⟨q1, q2⟩ := ix_of hz
      obtain ⟨T', h', cA, X', e', E, A, s'⟩ := newP X ok.1 (s := D.s.setVm vm0) h4 w h1 (g := mkF D.m pc Ls (.int z :: st)) rfl (Jvm.hb ok.2.1 hd) rfl q1 (cap := cap) (by rw [q2]; exact hcap) hb hc hs
      refine ⟨T', h', X', e', E, A.lt, ⟨_, A, ?_, ?_, ?_⟩, s'⟩
      · show (Array.replicate z.toNatClampNeg (defaultValue (newarray.typeOf aty))).toList = _
        rw [q2, Array.toList_replicate]
      · rw [List.length_replicate]; omega
      · intro v hv
        rw [(List.mem_replicate.mp hv).2]
        cases aty <;> rfl)
    (fun h' σ' K hlt m1 m2 P => r h.size h' σ' rfl K hlt m1 m2 P)
theorem plainX {pc pc' : Nat} {Ls' : Array Slot} {st' : List Value}
    (k : ∀ T vm0 locs, Stand D.p l D.e B.rm (D.s.setVm vm0) D.m D.args D.bl D.meth D.c T locs ce sl → T.heap = h → Z.Warmed39 vm0 → vm0.findClass B.y.cls = some D.m.cls → Ok B D → ∀ t, Steps D.p.tables D.e D.bl (T.setTop (mkF D.m pc' Ls' st')) t → Steps D.p.tables D.e D.bl (T.setTop (mkF D.m pc Ls st)) t)
    (r : Go l Z a0 EL n0 kn B D Q h σ ce sl pc' Ls' st') : Go l Z a0 EL n0 kn B D Q h σ ce sl pc Ls st := by
  intro ok ew T vm0 I
  obtain ⟨s2, o, q, rest⟩ := r ok ew T vm0 I
  obtain ⟨k0, locs, X, h1, h2, h3, h4, h5, -⟩ := I
  exact ⟨s2, o, k T vm0 locs X h1 h4 h5 ok _ q, rest⟩
theorem alen (pc : Nat) {ty : FieldType} {vs : List Value} {n : Nat} (z : Int32) (hd : decode B.bs pc = .ok (.arraylength, 1)) (A : Ary Z h a ty vs) (hn : vs.length = n) (hz : n.toInt32 = z) (r : Go l Z a0 EL n0 kn B D Q h σ ce sl (pc + 1) Ls (.int z :: st)) : Go l Z a0 EL n0 kn B D Q h σ ce sl pc Ls (.ref a :: st) :=
  plainX (fun T vm0 locs X h1 h4 h5 ok t q => by
    obtain ⟨c, A, e, -⟩ := A
    refine X.arraylength ok.1 (by rw [h1]; exact A.1) (State.isArrayOf_alike (T := D.s.setVm vm0) h4.alike A.2.1) (g := mkF D.m pc Ls (.ref a :: st)) rfl rfl (Jvm.hb ok.2.1 hd) t ?_
    rw [← Array.length_toList, e, hn, hz]; exact q) r
theorem caload (pc : Nat) {vs : List Value} {j : Int32} (i : Nat) {v : Value} (hd : decode B.bs pc = .ok (.caload, 1)) (A : Ary Z h a .char vs) (hj : j.toInt = (i : Int)) (hv : vs[i]? = some v) (r : Go l Z a0 EL n0 kn B D Q h σ ce sl (pc + 1) Ls (v :: st)) : Go l Z a0 EL n0 kn B D Q h σ ce sl pc Ls (.int j :: .ref a :: st) :=
  plainX (fun T vm0 locs X h1 h4 h5 ok t q => by
    obtain ⟨c, A, e, -⟩ := A
    have hi : i < vs.length := (List.getElem?_eq_some_iff.mp hv).1
    exact X.caload ok.1 (by rw [h1]; exact A.1) (State.isArrayOf_alike (T := D.s.setVm vm0) h4.alike A.2.1) A.2.2 (Ary.inb e hj hi) (by rw [(ix_of hj).2, ← Array.getElem?_toList, e]; exact hv) (g := mkF D.m pc Ls (.int j :: .ref a :: st)) rfl rfl (Jvm.hb ok.2.1 hd) t q) r
theorem baload (pc : Nat) {vs : List Value} {j : Int32} (i : Nat) {v : Value} (hd : decode B.bs pc = .ok (.baload, 1)) (A : Ary Z h a .byte vs) (hj : j.toInt = (i : Int)) (hv : vs[i]? = some v) (r : Go l Z a0 EL n0 kn B D Q h σ ce sl (pc + 1) Ls (v :: st)) : Go l Z a0 EL n0 kn B D Q h σ ce sl pc Ls (.int j :: .ref a :: st) :=
  plainX (fun T vm0 locs X h1 h4 h5 ok t q => by
    obtain ⟨c, A, e, -⟩ := A
    have hi : i < vs.length := (List.getElem?_eq_some_iff.mp hv).1
    exact X.baloadBytes ok.1 (by rw [h1]; exact A.1) (State.isArrayOf_alike (T := D.s.setVm vm0) h4.alike A.2.1) A.2.2 (Ary.inb e hj hi) (by rw [(ix_of hj).2, ← Array.getElem?_toList, e]; exact hv) (g := mkF D.m pc Ls (.int j :: .ref a :: st)) rfl rfl (Jvm.hb ok.2.1 hd) t q) r
theorem laload (pc : Nat) {vs : List Value} {j : Int32} (i : Nat) {v : Value} (hd : decode B.bs pc = .ok (.laload, 1)) (A : Ary Z h a .long vs) (hj : j.toInt = (i : Int)) (hv : vs[i]? = some v) (r : Go l Z a0 EL n0 kn B D Q h σ ce sl (pc + 1) Ls (v :: st)) : Go l Z a0 EL n0 kn B D Q h σ ce sl pc Ls (.int j :: .ref a :: st) :=
  plainX (fun T vm0 locs X h1 h4 h5 ok t q => by
    obtain ⟨c, A, e, -⟩ := A
    have hi : i < vs.length := (List.getElem?_eq_some_iff.mp hv).1
    exact X.laload ok.1 (by rw [h1]; exact A.1) (State.isArrayOf_alike (T := D.s.setVm vm0) h4.alike A.2.1) A.2.2 (Ary.inb e hj hi) (by rw [(ix_of hj).2, ← Array.getElem?_toList, e]; exact hv) (g := mkF D.m pc Ls (.int j :: .ref a :: st)) rfl rfl (Jvm.hb ok.2.1 hd) t q) r
theorem castore (pc : Nat) {vs : List Value} {j x : Int32} (i : Nat) (w : Int32) (hd : decode B.bs pc = .ok (.castore, 1)) (A : Ary Z h a .char vs) (hj : j.toInt = (i : Int)) (hi : i < vs.length) (hw : nar .char x = w) (hσ : σ a)
    (r : ∀ h', Keep h h' [a] → Ary Z h' a .char (vs.set i (.int w)) → Go l Z a0 EL n0 kn B D Q h' σ ce sl (pc + 1) Ls st) : Go l Z a0 EL n0 kn B D Q h σ ce sl pc Ls (.int x :: .int j :: .ref a :: st) :=
  wrote hσ (i := i) (v := .int w) (fun T vm0 locs X h1 h4 h5 ok => by
    subst hw
    obtain ⟨c, Ar, e, -⟩ := A
    have := stC X ok.1 (s := D.s.setVm vm0) h4 h1 Ar (Ary.inb e hj hi) (g := mkF D.m pc Ls (.int x :: .int j :: .ref a :: st)) rfl rfl (Jvm.hb ok.2.1 hd)
    rw [(ix_of hj).2] at this; exact this)
    (fun h' W K => r h' K (A.wr W (hw ▸ fits_nar_char x)))
theorem bastore (pc : Nat) {vs : List Value} {j x : Int32} (i : Nat) (w : Int32) (hd : decode B.bs pc = .ok (.bastore, 1)) (A : Ary Z h a .byte vs) (hj : j.toInt = (i : Int)) (hi : i < vs.length) (hw : nar .byte x = w) (hσ : σ a)
    (r : ∀ h', Keep h h' [a] → Ary Z h' a .byte (vs.set i (.int w)) → Go l Z a0 EL n0 kn B D Q h' σ ce sl (pc + 1) Ls st) : Go l Z a0 EL n0 kn B D Q h σ ce sl pc Ls (.int x :: .int j :: .ref a :: st) :=
  wrote hσ (i := i) (v := .int w) (fun T vm0 locs X h1 h4 h5 ok => by
    subst hw
    obtain ⟨c, Ar, e, -⟩ := A
    have := stB X ok.1 (s := D.s.setVm vm0) h4 h1 Ar (Ary.inb e hj hi) (g := mkF D.m pc Ls (.int x :: .int j :: .ref a :: st)) rfl rfl (Jvm.hb ok.2.1 hd)
    rw [(ix_of hj).2] at this; exact this)
    (fun h' W K => r h' K (A.wr W (hw ▸ fits_nar_byte x)))
theorem lastore (pc : Nat) {vs : List Value} {j : Int32} {x : Int64} (i : Nat) (hd : decode B.bs pc = .ok (.lastore, 1)) (A : Ary Z h a .long vs) (hj : j.toInt = (i : Int)) (hi : i < vs.length) (hσ : σ a)
    (r : ∀ h', Keep h h' [a] → Ary Z h' a .long (vs.set i (.long x)) → Go l Z a0 EL n0 kn B D Q h' σ ce sl (pc + 1) Ls st) : Go l Z a0 EL n0 kn B D Q h σ ce sl pc Ls (.long x :: .int j :: .ref a :: st) :=
  wrote hσ (i := i) (v := .long x) (fun T vm0 locs X h1 h4 h5 ok => by
    obtain ⟨c, Ar, e, -⟩ := A
    have := stJ X ok.1 (s := D.s.setVm vm0) h4 h1 Ar (Ary.inb e hj hi) (g := mkF D.m pc Ls (.long x :: .int j :: .ref a :: st)) rfl rfl (Jvm.hb ok.2.1 hd)
    rw [(ix_of hj).2] at this; exact this)
    (fun h' W K => r h' K (A.wr W rfl))
theorem ldcI (pc : Nat) {ix : Nat} {v : Int32} (hd : decode B.bs pc = .ok (.ldc ix, 2)) (w : (Jvm.Cond.constant B.y.cls ix v).before a0 Z = true) (r : Go l Z a0 EL n0 kn B D Q h σ ce sl (pc + 2) Ls (.int v :: st)) : Go l Z a0 EL n0 kn B D Q h σ ce sl pc Ls st :=
  plainX (fun T vm0 locs X h1 h4 h5 ok t q => X.ldcI ok.1 (own := B.y.cls) h5 (mv (s := D.s.setVm vm0) h4 w) (g := mkF D.m pc Ls st) rfl (Jvm.hb ok.2.1 hd) q) r
theorem ldc2J (pc : Nat) {ix : Nat} {v : Int64} (hd : decode B.bs pc = .ok (.ldc2_w ix, 3)) (w : (Jvm.Cond.constantLong B.y.cls ix v).before a0 Z = true) (r : Go l Z a0 EL n0 kn B D Q h σ ce sl (pc + 3) Ls (.long v :: st)) : Go l Z a0 EL n0 kn B D Q h σ ce sl pc Ls st :=
  plainX (fun T vm0 locs X h1 h4 h5 ok t q => X.ldc2J ok.1 (own := B.y.cls) h5 (mv (s := D.s.setVm vm0) h4 w) (g := mkF D.m pc Ls st) rfl (Jvm.hb ok.2.1 hd) q) r
end Heap
end Jvm.Road
namespace Jvm.Road
open Jvm Jvm.ClassFile Sem Op Lib Jvm.Free Jvm.Stand Jvm.LawKit Jvm.RoadKit Bundle
section Cast
variable {l : Launch} {Z : State} {a0 : Array Value} {EL : List (String × Nat)} {n0 : Nat} {kn : Bool} {B : Bdy} {D : Dyn} {Q : Post} {h : Heap} {σ : Addr → Prop} {ce sl : Nat} {Ls : Array Slot} {st : List Value} {a : Addr}
theorem instYes (pc : Nat) {ix : Nat} {K : String} (hd : decode B.bs pc = .ok (.instanceof ix, 3)) (w : (Jvm.Cond.classLink B.y.cls ix K).before a0 Z = true) (F : Ins Z h a K true) (r : Go l Z a0 EL n0 kn B D Q h σ ce sl (pc + 3) Ls (.int 1 :: st)) : Go l Z a0 EL n0 kn B D Q h σ ce sl pc Ls (.ref a :: st) := by
  intro ok ew T vm0 I
  obtain ⟨k0, locs, X, h1, h2, h3, h4, h5, h6, h7, h8, h9, h10⟩ := I
  obtain ⟨T', X', e', s'⟩ := instY X ok.1 (s := D.s.setVm vm0) h4 h5 w h1 F (g := mkF D.m pc Ls (.ref a :: st)) rfl rfl (Jvm.hb ok.2.1 hd)
  obtain ⟨s2, o, q, rest⟩ := r ok ew T' vm0 ⟨k0, locs, X', e', h2, h3, h4, h5, h6, h7, h8, h9, h10⟩
  exact ⟨s2, o, s' _ q, rest⟩
theorem castYes (pc : Nat) {ix : Nat} {K : String} (hd : decode B.bs pc = .ok (.checkcast ix, 3)) (w : (Jvm.Cond.classLink B.y.cls ix K).before a0 Z = true) (F : Ins Z h a K true) (r : Go l Z a0 EL n0 kn B D Q h σ ce sl (pc + 3) Ls (.ref a :: st)) : Go l Z a0 EL n0 kn B D Q h σ ce sl pc Ls (.ref a :: st) := by
  intro ok ew T vm0 I
  obtain ⟨k0, locs, X, h1, h2, h3, h4, h5, h6, h7, h8, h9, h10⟩ := I
  obtain ⟨T', X', e', s'⟩ := castY X ok.1 (s := D.s.setVm vm0) h4 h5 w h1 F (g := mkF D.m pc Ls (.ref a :: st)) rfl rfl (Jvm.hb ok.2.1 hd)
  obtain ⟨s2, o, q, rest⟩ := r ok ew T' vm0 ⟨k0, locs, X', e', h2, h3, h4, h5, h6, h7, h8, h9, h10⟩
  exact ⟨s2, o, s' _ q, rest⟩
end Cast
theorem Fld.uniq {Z : State} {h : Heap} {a : Addr} {C n d : String} {v w : Value} (F : Fld Z h a C n d v) (G : Fld Z h a C n d w) : v = w := by
  obtain ⟨c1, _, _, _, f1, a1, a2, -, -, -, -, a7⟩ := F
  obtain ⟨c2, _, _, _, f2, b1, b2, -, -, -, -, b7⟩ := G
  cases a1.symm.trans b1
  have q := a2.symm.trans b2
  simp only [Option.some.injEq, Prod.mk.injEq] at q
  obtain ⟨-, -, -, rfl⟩ := q
  exact Option.some.inj (a7.symm.trans b7)
theorem Ary.uniq {Z : State} {h : Heap} {a : Addr} {ty ty' : FieldType} {vs ws : List Value} (F : Ary Z h a ty vs) (G : Ary Z h a ty' ws) : vs = ws := by
  obtain ⟨c1, A1, e1, -⟩ := F
  obtain ⟨c2, A2, e2, -⟩ := G
  cases A1.1.symm.trans A2.1
  exact e1.symm.trans e2
end Jvm.Road
namespace Jvm.Road
open Jvm Jvm.ClassFile Sem Op Lib Jvm.Free Jvm.Stand Jvm.LawKit Jvm.RoadKit Bundle
section Clone
variable {l : Launch} {Z : State} {a0 : Array Value} {EL : List (String × Nat)} {n0 : Nat} {kn : Bool} {B : Bdy} {D : Dyn} {Q : Post} {h : Heap} {σ : Addr → Prop} {ce sl : Nat} {Ls : Array Slot} {st : List Value} {a : Addr}
theorem cloneArr (pc : Nat) {ix : Nat} {ad : String} {ty : FieldType} {vs : List Value} (W cap : Nat) (hd : decode B.bs pc = .ok (.invokevirtual ix, 3))
    (w1 : (Jvm.Cond.methodLink B.y.cls ix ⟨ad, "clone", "()Ljava/lang/Object;"⟩).before a0 Z = true) (w2 : (Jvm.Cond.sameMethod ad "java/lang/Object" "clone" "()Ljava/lang/Object;").before a0 Z = true) (w3 : (Jvm.Cond.native ⟨"java/lang/Object", "clone", "()Ljava/lang/Object;"⟩).before a0 Z = true)
    (w4 : (Jvm.Cond.instanceMethod ⟨"java/lang/Object", "clone", "()Ljava/lang/Object;"⟩).before a0 Z = true) (w5 : (Jvm.Cond.selects ad ⟨ad, "clone", "()Ljava/lang/Object;"⟩ ⟨"java/lang/Object", "clone", "()Ljava/lang/Object;"⟩).before a0 Z = true) (w6 : (Jvm.Cond.castable ad "java/lang/Cloneable").before a0 Z = true)
    (A : Ary Z h a ty vs) (E : Exa Z h a ad) (hW : (st.map fun v => v.category).sum = W) (hsz : Ls.size = B.ml) (hf : 1 ≤ B.rm.frames) (hl : W + 14 ≤ B.rm.locals) (hcap : vs.length ≤ cap) {ce' sl' : Nat} (hce : ce + 1 = ce') (hsl : sl + cap = sl') (hc : ce' ≤ B.rm.cells) (hs : sl' ≤ B.rm.slots)
    (r : ∀ b h' σ', b = h.size → Keep h h' [] → b < h'.size → (∀ x, σ x → σ' x) → σ' b → Ary Z h' b ty vs → Exa Z h' b ad → Go l Z a0 EL n0 kn B D Q h' σ' ce' sl' (pc + 3) Ls (.ref b :: st)) : Go l Z a0 EL n0 kn B D Q h σ ce sl pc Ls (.ref a :: st) := by
  subst hce hsl
  exact made (P := fun h' => Ary Z h' h.size ty vs ∧ Exa Z h' h.size ad)
    (fun T vm0 locs X h1 h4 h5 ok => by
      obtain ⟨cl, Ar, e, q, f⟩ := A
      obtain ⟨T', h', X', e', ex, A', E', s'⟩ := cloneA X ok.1 (s := D.s.setVm vm0) h4 h5 w1 w2 w3 w4 w5 w6 h1 Ar E (fitC_of Ar fun i hi v hv => f v (by rw [← e]; exact List.mem_of_getElem? (by rw [Array.getElem?_toList]; exact hv))) (g := mkF D.m pc Ls (.ref a :: st)) rfl (hsz.trans ok.2.2.1.symm) rfl (Jvm.hb ok.2.1 hd) hf (W := W) (cap := cap) (by show 2 * 0 + _ ≤ _; rw [hW]; omega) hl (by rw [← Array.length_toList, e]; exact hcap) hc hs
      exact ⟨T', h', X', e', ex, E'.lt, ⟨⟨_, A', e, q, f⟩, E'⟩, s'⟩)
    (fun h' σ' K hlt m1 m2 P => r h.size h' σ' rfl K hlt m1 m2 P.1 P.2)
theorem aaload (pc : Nat) {ty : FieldType} {vs : List Value} {j : Int32} (i : Nat) {v : Value} (hd : decode B.bs pc = .ok (.aaload, 1)) (A : Ary Z h a ty vs) (hty : ty.isReference = true) (hj : j.toInt = (i : Int)) (hv : vs[i]? = some v) (r : Go l Z a0 EL n0 kn B D Q h σ ce sl (pc + 1) Ls (v :: st)) : Go l Z a0 EL n0 kn B D Q h σ ce sl pc Ls (.int j :: .ref a :: st) :=
  plainX (fun T vm0 locs X h1 h4 h5 ok t q => by
    obtain ⟨c, A, e, -⟩ := A
    have hi : i < vs.length := (List.getElem?_eq_some_iff.mp hv).1
    exact X.aaload ok.1 (by rw [h1]; exact A.1) (State.isArrayOf_alike (T := D.s.setVm vm0) h4.alike A.2.1) hty A.2.2 (Ary.inb e hj hi) (by rw [(ix_of hj).2, ← Array.getElem?_toList, e]; exact hv) (g := mkF D.m pc Ls (.int j :: .ref a :: st)) rfl rfl (Jvm.hb ok.2.1 hd) t q) r
theorem instNull (pc : Nat) {ix : Nat} (hd : decode B.bs pc = .ok (.instanceof ix, 3)) (r : Go l Z a0 EL n0 kn B D Q h σ ce sl (pc + 3) Ls (.int 0 :: st)) : Go l Z a0 EL n0 kn B D Q h σ ce sl pc Ls (.null :: st) :=
  plainX (fun T vm0 locs X h1 h4 h5 ok t q => X.instanceofNull ok.1 (g := mkF D.m pc Ls (.null :: st)) rfl rfl (Jvm.hb ok.2.1 hd) t q) r
end Clone
end Jvm.Road
namespace Jvm.Road
open Jvm Jvm.ClassFile Sem Op Lib Jvm.Free Jvm.Stand Jvm.LawKit Jvm.RoadKit Bundle
section Ends
variable {l : Launch} {Z : State} {a0 : Array Value} {EL : List (String × Nat)} {n0 : Nat} {kn : Bool} {B : Bdy} {D : Dyn} {Q : Post} {h : Heap} {σ : Addr → Prop} {ce sl : Nat} {Ls : Array Slot} {st : List Value} {a : Addr}
theorem own_at {vm0 : Vm} {T : State} {locs : List Loc} (X : Stand D.p l D.e B.rm (D.s.setVm vm0) D.m D.args D.bl D.meth D.c T locs ce sl) (hZ : Z.Warmed39 vm0) (ew : EW Z a0 EL) (hC : CHv Z EL vm0 h) {x : Addr} (hx : Own Z EL n0 vm0 h x) : Own Z EL n0 T.vm h x :=
  ⟨(CHv.at X hZ ew hC).safe hx.2.2 hx.1, hx.2.1, hx.2.2⟩
/-- the end of a walk -/
theorem ended {pc : Nat} {v : Option Value} (hv : B.rt = none → v = none) (hc : ce ≤ B.rm.cells) (hs : sl ≤ B.rm.slots) (hq : ∀ σ', (∀ x, σ x → σ' x) → Q v h σ')
    (k : ∀ T vm0 locs fs, Stand D.p l D.e B.rm (D.s.setVm vm0) D.m D.args D.bl D.meth D.c T locs ce sl → Ok B D → (∀ (f : JFrame) (acts : List Action), f.method = D.m → f.locked = none → f.entered = [] → (doReturn D.e (T.setTop f) acts v).1 = T.setFrames fs) → Steps D.p.tables D.e D.bl (T.setTop (mkF D.m pc Ls st)) (T.setFrames fs)) :
    Go l Z a0 EL n0 kn B D Q h σ ce sl pc Ls st := by
  intro ok ew T vm0 I
  obtain ⟨k0, locs, X, h1, h2, h3, h4, h5, h6, h7, h8, h9, h10⟩ := I
  obtain ⟨fs, hr, hrun, hended, hE⟩ := X.leaveW h2 (by rw [h1]; exact h3) (v := v) (fun q => hv (ok.2.2.2.1.symm.trans q)) ok.2.2.2.2.1
  have hh : (T.setFrames fs).heap = h := h1
  refine ⟨T.setFrames fs, .returned v, k T vm0 locs fs X ok hr, hrun, hended, v, locs, rfl, ?_, h7, ?_, ?_, ⟨hE.1, hE.2.1, hE.2.2.1, hE.2.2.2.mono hc hs⟩⟩
  · rw [hh]; exact hq _ fun x hx => own_at X h4 ew h6.1 (h9 x hx)
  · rw [hh]; exact h6.trans (show CHr Z EL vm0 h T.vm h from CHv.at X h4 ew h6.1)
  · rw [hh]; exact h8
theorem ret (pc : Nat) (hd : decode B.bs pc = .ok (.return_, 1)) (hrt : B.rt = none) (hc : ce ≤ B.rm.cells) (hs : sl ≤ B.rm.slots) (hq : ∀ σ', (∀ x, σ x → σ' x) → Q none h σ') : Go l Z a0 EL n0 kn B D Q h σ ce sl pc Ls [] :=
  ended (fun _ => rfl) hc hs hq (fun T vm0 locs fs X ok hr => X.returnOut ok.1 (ok.2.2.2.1.trans hrt) (Jvm.hb ok.2.1 hd) hr)
theorem iret (pc : Nat) {x : Int32} {t : FieldType} (w : Int32) (hd : decode B.bs pc = .ok (.ireturn, 1)) (hrt : B.rt = some t) (ht : t = .boolean ∨ t = .byte ∨ t = .char ∨ t = .short) (hw : nar t x = w) (hc : ce ≤ B.rm.cells) (hs : sl ≤ B.rm.slots) (hq : ∀ σ', (∀ x, σ x → σ' x) → Q (some (.int w)) h σ') : Go l Z a0 EL n0 kn B D Q h σ ce sl pc Ls (.int x :: st) :=
  ended (fun q => by rw [hrt] at q; cases q) hc hs hq (fun T vm0 locs fs X ok hr => retN X ok.1 (t := t) (ok.2.2.2.1.trans hrt) ht (Jvm.hb ok.2.1 hd) (by rw [hw]; exact hr))
theorem iretI (pc : Nat) {x : Int32} (hd : decode B.bs pc = .ok (.ireturn, 1)) (hrt : B.rt = some .int) (hc : ce ≤ B.rm.cells) (hs : sl ≤ B.rm.slots) (hq : ∀ σ', (∀ x, σ x → σ' x) → Q (some (.int x)) h σ') : Go l Z a0 EL n0 kn B D Q h σ ce sl pc Ls (.int x :: st) :=
  ended (fun q => by rw [hrt] at q; cases q) hc hs hq (fun T vm0 locs fs X ok hr => retOut X ok.1 (t := .int) (ok.2.2.2.1.trans hrt) rfl (Or.inl ⟨rfl, Or.inl rfl, x, rfl⟩) (Jvm.hb ok.2.1 hd) hr)
theorem aret (pc : Nat) {v : Value} {t : FieldType} (hd : decode B.bs pc = .ok (.areturn, 1)) (hrt : B.rt = some t) (ht : t.isReference = true) (hv : v.isRef = true) (hc : ce ≤ B.rm.cells) (hs : sl ≤ B.rm.slots) (hq : ∀ σ', (∀ x, σ x → σ' x) → Q (some v) h σ') : Go l Z a0 EL n0 kn B D Q h σ ce sl pc Ls (v :: st) :=
  ended (fun q => by rw [hrt] at q; cases q) hc hs hq (fun T vm0 locs fs X ok hr => retOut X ok.1 (t := t) (ok.2.2.2.1.trans hrt) (by rcases ref_cases hv with rfl | ⟨_, rfl⟩ <;> cases t <;> first | rfl | (cases ht; done)) (Or.inr (Or.inr (Or.inr (Or.inr ⟨rfl, ht, hv⟩)))) (Jvm.hb ok.2.1 hd) hr)
/-- ldc of a String constant that is read -/
theorem ldcS (pc : Nat) {ix : Nat} (text : String) (cs : List Int32) (n : Nat) (hd : decode B.bs pc = .ok (.ldc ix, 2)) (w : (Jvm.Cond.stringLink B.y.cls ix text).before a0 Z = true) (wS : ∀ a ∈ Bundle.stringAtoms, a.before a0 Z = true) (hmem : (B.y.cls, ix) ∈ EL)
    (ht : ∀ c ∈ text.toList, c.toNat < 256) (hvs : text.toList.map (fun c => Value.int (Jvm.Lit.byteI c.toNat.toUInt16)) = cs.map byt) (hcs : ∀ c ∈ cs, 0 ≤ c.toInt ∧ c.toInt < 256) (hn : 4 * text.toList.length ≤ n) (hbig : n ≤ 536870912) {ce' sl' : Nat} (hce : ce + 2 = ce') (hsl : sl + (n + 4) = sl') (hc : ce' ≤ B.rm.cells) (hs : sl' ≤ B.rm.slots)
    (r : ∀ a b h' σ', Keep h h' [] → (∀ x, σ x → σ' x) → Str Z h' a b cs → (∀ x, σ' x → x ≠ a ∧ x ≠ b) → Go l Z a0 EL n0 kn B D Q h' σ' ce' sl' (pc + 2) Ls (.ref a :: st)) : Go l Z a0 EL n0 kn B D Q h σ ce sl pc Ls st := by
  subst hce hsl
  intro ok ew T vm0 I
  obtain ⟨k0, locs, X, h1, h2, h3, h4, h5, h6, h7, h8, h9, h10⟩ := I
  have hlen : (cs.map byt).length = text.toList.length := by rw [← hvs, List.length_map]
  have hsm : text.toList.length < 2147483648 := by omega
  have hz : (text.toList.length).toInt32.toInt = (text.toList.length : Int) := len_toInt hsm
  obtain ⟨q1, q2⟩ := ix_of hz
  obtain ⟨a, T', h', k1, b, k, X', e', E, hS', hk', hZ', ho', E1, E2, E3, E4, l1, l2, hCr, hL, hne, s'⟩ := ldcCH (s := D.s) X ok.1 h4 h5 w wS h1 h2 h3 ew hmem h6.1 (vs := cs.map byt) (z := (text.toList.length).toInt32) ⟨ht, hvs⟩ q1 (by rw [q2, hlen]) (g := mkF D.m pc Ls st) rfl (Jvm.hb ok.2.1 hd) hn hbig hc hs
  have hal : vm0.Alike T'.vm := by
    have z1 := h4.alike
    have z2 : Z.vm.Alike T'.vm := State.Warmed39.alike hZ'
    exact z1.symm.trans z2
  obtain ⟨s2, o, q, rest⟩ := r a b h' (Own Z EL n0 T'.vm h') (keep_ext E) (fun x hx => ⟨hCr.safe (h9 x hx).2.2 (h9 x hx).1, (h9 x hx).2.1, Nat.lt_of_lt_of_le (h9 x hx).2.2 E.1⟩) ⟨E1, E2, E3, Ary.of_arv E4 (by rw [q2, hlen]), hcs⟩ (fun x hx => hne x hx.1) ok ew T' T'.vm
    ⟨k1, locs, X', e', hS', hk', hZ', ho', h6.trans hCr, h7, h8.ext E, fun x hx => hx, fun z => ⟨(h10 z).1.alikeC hal, (h10 z).2.alikeC hal⟩⟩
  exact ⟨s2, o, s' _ q, rest⟩
end Ends
section Calls
variable {l : Launch} {Z : State} {a0 : Array Value} {EL : List (String × Nat)} {n0 : Nat} {kn : Bool} {B B' : Bdy} {D : Dyn} {Q Q' : Post} {h : Heap} {σ : Addr → Prop} {ce sl : Nat} {Ls : Array Slot} {st : List Value} {a : Addr}
theorem Con.back {R : Room} {p : Program} {e : Env} {below : List Frame} {s : State} {args : Array Value} {vm0 : Vm} {len W : Nat} {as : Array Value} (hM : Con l Z EL n0 kn B' [] σ as h Q') (hZ : Z.Warmed39 vm0) (wc : (Jvm.Cond.code B'.y B'.bs B'.ml B'.rt).before a0 Z = true) (wz : (Jvm.Cond.initialized B'.y.cls).before a0 Z = true)
    (hf : B'.rm.frames + 1 ≤ R.frames) (hl : W + (B'.ml + 11) + B'.rm.locals ≤ R.locals) (hEL : EW Z a0 EL) (H : CHv Z EL vm0 h) (hO : Old Z n0 h) (hσ : ∀ x, σ x → Own Z EL n0 vm0 h x) (hK : kn = true → vm0.MethodsKnown ∧ vm0.FramesKnown below) :
    BackS l R p e below (s.setVm vm0) args B'.y len W (fun A a => a = as ∧ A.U.heap = h ∧ A.cells + B'.rm.cells ≤ R.cells ∧ A.slots + B'.rm.slots ≤ R.slots)
      (fun A _ v Bp => ∃ L, (Q' v Bp.U.heap (Own Z EL n0 Bp.U.vm Bp.U.heap) ∧ Fr n0 L ∧ Old Z n0 Bp.U.heap) ∧ Bp.locs = A.locs ++ L ∧ Bp.cells = A.cells + B'.rm.cells ∧ Bp.slots = A.slots + B'.rm.slots ∧ CHr Z EL vm0 h Bp.U.vm Bp.U.heap) :=
  BackS.of_freeWG (bytes := B'.bs) (maxL := B'.ml) (ret := B'.rt) (E := fun _ first o t L k n => k = B'.rm.cells ∧ n = B'.rm.slots ∧ (∃ v, o = .returned v ∧ Q' v t.heap (Own Z EL n0 t.vm t.heap) ∧ Fr n0 L ∧ Old Z n0 t.heap) ∧ CHr Z EL first.vm first.heap t.vm t.heap) hM hf hl
    (fun m meth c A a Y hp => have hU : Z.Warmed39 A.U.vm := wtrans (s := s.setVm vm0) hZ Y.warmed
      ⟨by show (Cond.and _ .tt).before a A.U = true; rw [Cond.before_and, mv hU wc]; rfl, mv hU wc, mv hU wz, hp.2.2.1, hp.2.2.2⟩)
    (fun m meth c A a g mk Y hp => ⟨hp.1, wtrans (s := s.setVm vm0) hZ Y.warmed, hp.2.1, (CHv.at Y hZ hEL H).1, hO, fun x hx => ⟨(CHv.at Y hZ hEL H).safe (hσ x hx).2.2 (hσ x hx).1, (hσ x hx).2⟩⟩)
    (fun m meth c A a g mk Y _ hg hkn => known_frames Y hg (hK hkn).1 (hK hkn).2)
    (fun _ _ _ _ ⟨v, L, h1, h2, h3, h4, h5, h6⟩ => ⟨L, _, _, h6, rfl, rfl, ⟨v, h1, h2, h3, h5⟩, h4⟩)
    (fun m meth c A a g mk v t L k n Y hp _ _ ⟨e1, e2, ⟨v', e3, e4⟩, e5⟩ => by
      cases e3; subst e1 e2
      refine ⟨L, e4, rfl, rfl, rfl, (CHv.at Y hZ hEL H).trans ?_⟩
      rw [← hp.2.1]; exact e5)
/-- behind a call -/
theorem called {pc len : Nat} {rest : List Value} {as : Array Value} (W : Nat) (hM : Con l Z EL n0 kn B' [] σ as h Q') (wc : (Jvm.Cond.code B'.y B'.bs B'.ml B'.rt).before a0 Z = true) (wz : (Jvm.Cond.initialized B'.y.cls).before a0 Z = true)
    (hf : B'.rm.frames + 1 ≤ B.rm.frames) (hl : W + (B'.ml + 11) + B'.rm.locals ≤ B.rm.locals) (hc : ce + B'.rm.cells ≤ B.rm.cells) (hs : sl + B'.rm.slots ≤ B.rm.slots)
    (k : ∀ T vm0 locs, Stand D.p l D.e B.rm (D.s.setVm vm0) D.m D.args D.bl D.meth D.c T locs ce sl → T.heap = h → Z.Warmed39 vm0 → vm0.findClass B.y.cls = some D.m.cls → Ok B D →
      ∀ {Pre : Pt → Array Value → Prop} {Pst : Pt → Array Value → Option Value → Pt → Prop}, BackS l B.rm D.p D.e D.bl (D.s.setVm vm0) D.args B'.y len W Pre Pst → (∀ vm₁, (D.s.setVm vm0).WarmedH vm₁ → Pre ⟨T.setVm vm₁, locs, ce, sl⟩ as) →
      ∃ (v : Option Value) (vm₁ : Vm) (Bp : Pt), (D.s.setVm vm0).WarmedH vm₁ ∧ Stand D.p l D.e B.rm ((D.s.setVm vm0).setVm Bp.U.vm) D.m D.args D.bl D.meth D.c Bp.U Bp.locs Bp.cells Bp.slots ∧ (D.s.setVm vm0).Since Bp.U.vm Bp.U.heap.size ∧ T.heap.size ≤ Bp.U.heap.size ∧ Pst ⟨T.setVm vm₁, locs, ce, sl⟩ as v Bp ∧
        Steps D.p.tables D.e D.bl (T.setTop (mkF D.m pc Ls st)) (Bp.U.setTop (mkF D.m (pc + len) Ls (v.toList ++ rest))))
    (r : ∀ v h' σ', (∀ x, σ x → σ' x) → Q' v h' σ' → Go l Z a0 EL n0 kn B D Q h' σ' (ce + B'.rm.cells) (sl + B'.rm.slots) (pc + len) Ls (push v rest)) : Go l Z a0 EL n0 kn B D Q h σ ce sl pc Ls st := by
  intro ok ew T vm0 I
  obtain ⟨k0, locs, X, h1, h2, h3, h4, h5, h6, h7, h8, h9, h10⟩ := I
  obtain ⟨v, vm₁, ⟨U, Lc, kc, ks⟩, -, X', hS', hgr, ⟨L, ⟨hQ, hFr, hOld⟩, e1, e2, e3, hCr⟩, stp⟩ := k T vm0 locs X h1 h4 h5 ok (Con.back (s := D.s) hM h4 wc wz hf hl ew h6.1 h8 h9 h10) (fun vm₁ _ => ⟨rfl, h1, hc, hs⟩)
  dsimp only [Pt.U, Pt.locs, Pt.cells, Pt.slots] at X' hS' hgr hQ hOld e1 e2 e3 hCr stp
  subst e1 e2 e3
  obtain ⟨Y, hS2, hZ2, ho2⟩ := rebS h2 (by rw [← h1] at h3; exact h3) X' hS' hgr h4 h5
  have hal : vm0.Alike U.vm := hS'.1.alike
  rw [push_eq] at stp
  obtain ⟨s2, o, q, rest'⟩ := r v U.heap (Own Z EL n0 U.vm U.heap) (fun x hx => ⟨hCr.safe (h9 x hx).2.2 (h9 x hx).1, (h9 x hx).2.1, Nat.lt_of_lt_of_le (h9 x hx).2.2 (by rw [← h1]; exact hgr)⟩) hQ ok ew U U.vm
    ⟨U.heap.size, _, Y, rfl, hS2, Nat.le_refl _, hZ2, ho2, h6.trans hCr, h7.app hFr, hOld, fun x hx => hx, fun z => ⟨(h10 z).1.alikeC hal, (h10 z).2.alikeC hal⟩⟩
  exact ⟨s2, o, stp.trans q, rest'⟩
abbrev notMH (y : MethodName) : Prop := y.cls ≠ "java/lang/invoke/MethodHandle" ∧ y.cls ≠ "java/lang/invoke/VarHandle"
theorem callS (pc : Nat) {ix : Nat} {argsL rest : List Value} (W : Nat) (hd : decode B.bs pc = .ok (.invokestatic ix, 3)) (w1 : (Jvm.Cond.methodLink B.y.cls ix B'.y).before a0 Z = true) (w2 : (Jvm.Cond.static B'.y).before a0 Z = true) (w3 : (Jvm.Cond.initialized B'.y.cls).before a0 Z = true) (w4 : (Jvm.Cond.code B'.y B'.bs B'.ml B'.rt).before a0 Z = true) (hy : notMH B'.y)
    (hM : Con l Z EL n0 kn B' [] σ argsL.toArray h Q') (hlen : ∀ sig, parseMethodDescriptor B'.y.desc = some sig → argsL.length = sig.parameters.length) (hst : st = argsL.reverse ++ rest) (hW : (rest.map fun v => v.category).sum = W) (hsz : Ls.size = B.ml)
    (hf : B'.rm.frames + 1 ≤ B.rm.frames) (hl : W + (B'.ml + 11) + B'.rm.locals ≤ B.rm.locals) {ce' sl' : Nat} (hce : ce + B'.rm.cells = ce') (hsl : sl + B'.rm.slots = sl') (hc : ce' ≤ B.rm.cells) (hs : sl' ≤ B.rm.slots)
    (r : ∀ v h' σ', (∀ x, σ x → σ' x) → Q' v h' σ' → Go l Z a0 EL n0 kn B D Q h' σ' ce' sl' (pc + 3) Ls (push v rest)) : Go l Z a0 EL n0 kn B D Q h σ ce sl pc Ls st := by
  subst hce hsl
  exact called W hM w4 w3 hf hl hc hs (fun T vm0 locs X h1 h4 h5 ok {Pre Pst} hB hpre =>
    callSS X ok.1 (s := D.s.setVm vm0) h5 (mv (s := D.s.setVm vm0) h4 w1) (mv (s := D.s.setVm vm0) h4 w2) (mv (s := D.s.setVm vm0) h4 w3) (mv (s := D.s.setVm vm0) h4 w4) hy hB (g := mkF D.m pc Ls st) rfl (hsz.trans ok.2.2.1.symm) (argsL := argsL) (rest := rest) hlen hst (by show 2 * 0 + _ ≤ _; rw [hW]; omega) (Jvm.hb ok.2.1 hd) hpre) r
theorem callI (pc : Nat) {ix : Nat} {argsL rest : List Value} (W : Nat) (hd : decode B.bs pc = .ok (.invokespecial ix, 3)) (w1 : (Jvm.Cond.methodLink B.y.cls ix B'.y).before a0 Z = true) (w2 : (Jvm.Cond.instanceMethod B'.y).before a0 Z = true) (w3 : (Jvm.Cond.initialized B'.y.cls).before a0 Z = true) (w4 : (Jvm.Cond.code B'.y B'.bs B'.ml B'.rt).before a0 Z = true) (hi : B'.y.name = "<init>") (hrt : B'.rt = none) (hy : notMH B'.y)
    (hM : Con l Z EL n0 kn B' [] σ (.ref a :: argsL).toArray h Q') (hlen : ∀ sig, parseMethodDescriptor B'.y.desc = some sig → argsL.length = sig.parameters.length) (hst : st = argsL.reverse ++ .ref a :: rest) (hW : (rest.map fun v => v.category).sum = W) (hsz : Ls.size = B.ml)
    (hf : B'.rm.frames + 1 ≤ B.rm.frames) (hl : W + (B'.ml + 11) + B'.rm.locals ≤ B.rm.locals) {ce' sl' : Nat} (hce : ce + B'.rm.cells = ce') (hsl : sl + B'.rm.slots = sl') (hc : ce' ≤ B.rm.cells) (hs : sl' ≤ B.rm.slots)
    (r : ∀ v h' σ', (∀ x, σ x → σ' x) → Q' v h' σ' → Go l Z a0 EL n0 kn B D Q h' σ' ce' sl' (pc + 3) Ls (push v rest)) : Go l Z a0 EL n0 kn B D Q h σ ce sl pc Ls st := by
  subst hce hsl
  exact called W hM w4 w3 hf hl hc hs (fun T vm0 locs X h1 h4 h5 ok {Pre Pst} hB hpre =>
    X.specialBackS ok.1 hi (s := D.s.setVm vm0) h5 (mv (s := D.s.setVm vm0) h4 w1) (mv (s := D.s.setVm vm0) h4 w2) (bytes := B'.bs) (maxL := B'.ml) (mv (s := D.s.setVm vm0) h4 (hrt ▸ w4)) hy hB (g := mkF D.m pc Ls st) rfl (hsz.trans ok.2.2.1.symm) (Steps.refl _) (argsL := argsL) (rest := rest) hlen hst (by show 2 * 0 + _ ≤ _; rw [hW]; omega) (Jvm.hb ok.2.1 hd) hpre) r
theorem callV (pc : Nat) {ix : Nat} {y : MethodName} {argsL rest : List Value} (C : String) (W : Nat) (hd : decode B.bs pc = .ok (.invokevirtual ix, 3)) (w1 : (Jvm.Cond.methodLink B.y.cls ix y).before a0 Z = true) (w2 : (Jvm.Cond.declares y).before a0 Z = true) (nf : ∀ vm0, Z.Warmed39 vm0 → NotFace (D.s.setVm vm0) y) (w5 : (Jvm.Cond.selects C y B'.y).before a0 Z = true) (w6 : (Jvm.Cond.instanceMethod B'.y).before a0 Z = true) (w3 : (Jvm.Cond.initialized B'.y.cls).before a0 Z = true) (w4 : (Jvm.Cond.code B'.y B'.bs B'.ml B'.rt).before a0 Z = true) (hy : notMH y)
    (E : Exa Z h a C) (hM : Con l Z EL n0 kn B' [] σ (.ref a :: argsL).toArray h Q') (hlen : ∀ sig, parseMethodDescriptor y.desc = some sig → argsL.length = sig.parameters.length) (hst : st = argsL.reverse ++ .ref a :: rest) (hW : (rest.map fun v => v.category).sum = W) (hsz : Ls.size = B.ml)
    (hf : B'.rm.frames + 1 ≤ B.rm.frames) (hl : W + (B'.ml + 11) + B'.rm.locals ≤ B.rm.locals) {ce' sl' : Nat} (hce : ce + B'.rm.cells = ce') (hsl : sl + B'.rm.slots = sl') (hc : ce' ≤ B.rm.cells) (hs : sl' ≤ B.rm.slots)
    (r : ∀ v h' σ', (∀ x, σ x → σ' x) → Q' v h' σ' → Go l Z a0 EL n0 kn B D Q h' σ' ce' sl' (pc + 3) Ls (push v rest)) : Go l Z a0 EL n0 kn B D Q h σ ce sl pc Ls st := by
  subst hce hsl
  exact called W hM w4 w3 hf hl hc hs (fun T vm0 locs X h1 h4 h5 ok {Pre Pst} hB hpre => by
    obtain ⟨cq, kq, qa, qb, qc⟩ := isOf (s := D.s.setVm vm0) h4 h1 E
    exact X.virtualBackS ok.1 (s := D.s.setVm vm0) (C := C) h5 (mv (s := D.s.setVm vm0) h4 w1) (mv (s := D.s.setVm vm0) h4 w2) (nf vm0 h4) (mv (s := D.s.setVm vm0) h4 w5) (mv (s := D.s.setVm vm0) h4 w6) hy hB qa qc (g := mkF D.m pc Ls st) rfl (hsz.trans ok.2.2.1.symm) (Steps.refl _) (argsL := argsL) (rest := rest) hlen hst (by show 2 * 0 + _ ≤ _; rw [hW]; omega) (Jvm.hb ok.2.1 hd) hpre) r
/-- Object.<init> -/
theorem initObj (pc : Nat) {ix : Nat} (hd : decode B.bs pc = .ok (.invokespecial ix, 3)) (w1 : (Jvm.Cond.methodLink B.y.cls ix Lib.objectInit).before a0 Z = true) (w2 : (Jvm.Cond.instanceMethod Lib.objectInit).before a0 Z = true) (w3 : (Jvm.Cond.code Lib.objectInit ⟨#[0xb1]⟩ 1 none).before a0 Z = true) (W : Nat) (hW : (st.map fun v => v.category).sum = W) (hsz : Ls.size = B.ml) (hf : 1 ≤ B.rm.frames) (hl : W + 12 ≤ B.rm.locals)
    (r : Go l Z a0 EL n0 kn B D Q h σ ce sl (pc + 3) Ls st) : Go l Z a0 EL n0 kn B D Q h σ ce sl pc Ls (.ref a :: st) := by
  intro ok ew T vm0 I
  obtain ⟨k0, locs, X, h1, h2, h3, h4, h5, h6, h7, h8, h9, h10⟩ := I
  obtain ⟨T', X', e', s'⟩ := initO X ok.1 (s := D.s.setVm vm0) h4 h5 w1 w2 w3 h1 (g := mkF D.m pc Ls (.ref a :: st)) rfl (hsz.trans ok.2.2.1.symm) rfl (Jvm.hb ok.2.1 hd) hf (W := W) (by show 2 * 0 + _ ≤ _; rw [hW]; omega) hl
  obtain ⟨s2, o, q, rest⟩ := r ok ew T' vm0 ⟨k0, locs, X', e', h2, h3, h4, h5, h6, h7, h8, h9, h10⟩
  exact ⟨s2, o, s' _ q, rest⟩
end Calls
end Jvm.Road
namespace Jvm.Road
open Jvm Jvm.ClassFile Sem Op Lib Jvm.Free Jvm.Stand Jvm.LawKit Jvm.RoadKit Bundle
theorem n32 {i : Nat} (h : i < 2147483648) : i.toInt32.toInt = (i : Int) := len_toInt h
theorem succ32 (i : Nat) : i.toInt32 + 1 = (i + 1).toInt32 := (Int32.ofNat_add i 1).symm
theorem add32n (i j : Nat) : i.toInt32 + j.toInt32 = (i + j).toInt32 := (Int32.ofNat_add i j).symm
theorem lt32 {i j : Nat} (hi : i < 2147483648) (hj : j < 2147483648) : i.toInt32 < j.toInt32 ↔ i < j := by
  rw [Int32.lt_iff_toInt_lt, n32 hi, n32 hj]; omega
theorem eq32 {i j : Nat} (hi : i < 2147483648) (hj : j < 2147483648) : i.toInt32 = j.toInt32 ↔ i = j := by
  rw [← Int32.toInt_inj, n32 hi, n32 hj]; omega
/-- a slot that an int may be stored in -/
def W1 (w : Slot) : Prop := w = .unset ∨ ∃ v, w = .val (.int v)
theorem nar_byte (x : Int32) : nar .byte (Int8.toInt32 (Int32.toInt8 x)) = Int8.toInt32 (Int32.toInt8 x) := by simp [nar]
theorem nar_chr (x : Int32) : nar .char (chr x) = chr x := by simp only [nar, chr, UInt32.toUInt32_toInt32, UInt16.toUInt16_toUInt32]
theorem set_mid {α β : Type} (f : α → β) (cs : List α) (z : β) (k r : Nat) (hk : k < cs.length) : ((cs.take k).map f ++ List.replicate (r + 1) z).set k (f cs[k]) = (cs.take (k + 1)).map f ++ List.replicate r z := by
  have hl : ((cs.take k).map f).length = k := by simp; omega
  rw [List.set_append, if_neg (by omega), hl, Nat.sub_self, List.replicate_succ, List.set_cons_zero, List.take_succ_eq_append_getElem hk, List.map_append]
  simp
end Jvm.Road
namespace Jvm.Road
open Jvm Jvm.ClassFile Sem Op Lib Jvm.Free Jvm.Stand Jvm.LawKit Jvm.RoadKit Bundle
theorem narRef {t : FieldType} {v : Value} (ht : t.isReference = true) (hv : v.isRef = true) : narrow t v = v := by
  rcases ref_cases hv with rfl | ⟨_, rfl⟩ <;> cases t <;> first | rfl | (cases ht; done)
theorem fitRef {t : FieldType} {v : Value} (ht : t.isReference = true) (hv : v.isRef = true) : fits t v = true := by
  rcases ref_cases hv with rfl | ⟨_, rfl⟩ <;> cases t <;> first | rfl | (cases ht; done)
theorem and255 (x : Int32) : 0 ≤ (chr (x &&& 255)).toInt ∧ (chr (x &&& 255)).toInt < 256 := by
  rw [show chr (x &&& 255) = x &&& 255 from i2c_mask x]
  have h1 : (x &&& 255).toInt = ((x.toBitVec &&& 255#32).toInt) := rfl
  have h2 : (x.toBitVec &&& 255#32).toNat ≤ 255 := by rw [BitVec.toNat_and]; exact Nat.and_le_right
  have h3 : (x.toBitVec &&& 255#32).toInt = ((x.toBitVec &&& 255#32).toNat : Int) := BitVec.toInt_eq_toNat_of_lt (by omega)
  rw [h1, h3]; omega
end Jvm.Road
namespace Jvm.Road
open Jvm Jvm.ClassFile Sem Op Lib Jvm.Free Jvm.Stand Jvm.LawKit Jvm.RoadKit Bundle
theorem nameI {l : Launch} {Z : State} {a0 : Array Value} {EL : List (String × Nat)} {n0 : Nat} {kn : Bool} {B : Bdy} {D : Dyn} {Q : Post} {h : Heap} {σ : Addr → Prop} {ce sl : Nat} {Ls : Array Slot} {st : List Value} {pc : Nat} {x : Int32}
    (r : ∀ z, z = x → Go l Z a0 EL n0 kn B D Q h σ ce sl pc Ls (.int z :: st)) : Go l Z a0 EL n0 kn B D Q h σ ce sl pc Ls (.int x :: st) := r x rfl
theorem nameJ {l : Launch} {Z : State} {a0 : Array Value} {EL : List (String × Nat)} {n0 : Nat} {kn : Bool} {B : Bdy} {D : Dyn} {Q : Post} {h : Heap} {σ : Addr → Prop} {ce sl : Nat} {Ls : Array Slot} {st : List Value} {pc : Nat} {x : Int64}
    (r : ∀ z, z = x → Go l Z a0 EL n0 kn B D Q h σ ce sl pc Ls (.long z :: st)) : Go l Z a0 EL n0 kn B D Q h σ ce sl pc Ls (.long x :: st) := r x rfl
theorem and3 (x : Int32) : x &&& 3 = 0 ∨ x &&& 3 = 1 ∨ x &&& 3 = 2 ∨ x &&& 3 = 3 := by
  have h1 : (x &&& 3).toInt = ((x.toBitVec &&& 3#32).toInt) := rfl
  have h2 : (x.toBitVec &&& 3#32).toNat ≤ 3 := by rw [BitVec.toNat_and]; exact Nat.and_le_right
  have h3 : (x.toBitVec &&& 3#32).toInt = ((x.toBitVec &&& 3#32).toNat : Int) := BitVec.toInt_eq_toNat_of_lt (by omega)
  have h4 : (x &&& 3).toInt = 0 ∨ (x &&& 3).toInt = 1 ∨ (x &&& 3).toInt = 2 ∨ (x &&& 3).toInt = 3 := by rw [h1, h3]; omega
  rcases h4 with h | h | h | h
  · exact Or.inl (Int32.toInt_inj.mp h)
  · exact Or.inr (Or.inl (Int32.toInt_inj.mp h))
  · exact Or.inr (Or.inr (Or.inl (Int32.toInt_inj.mp h)))
  · exact Or.inr (Or.inr (Or.inr (Int32.toInt_inj.mp h)))
/-- a slot that a reference may be stored in -/
def W2 (w : Slot) : Prop := w = .unset ∨ ∃ v, w = .val (.ref v)
end Jvm.Road
namespace Jvm.Road
open Jvm Jvm.ClassFile Sem Op Lib Jvm.Free Jvm.Stand Jvm.LawKit Jvm.RoadKit Bundle
theorem shr0 (x : Int32) : x >>> ((0 : Int32) &&& 31) = x := by
  apply Int32.toBitVec_inj.mp; simp [Int32.toBitVec_shiftRight]
theorem lat_nat {c : Int32} (h : 0 ≤ c.toInt ∧ c.toInt < 256) : ∃ i : Fin 256, c = Int32.ofInt (i.1 : Int) := by
  refine ⟨⟨c.toInt.toNat, by omega⟩, ?_⟩
  apply Int32.toInt_inj.mp
  show c.toInt = (Int32.ofInt ((c.toInt.toNat : Nat) : Int)).toInt
  rw [Int.toNat_of_nonneg h.1, Int32.ofInt_toInt]
theorem byte_back {c : Int32} (h : 0 ≤ c.toInt ∧ c.toInt < 256) : nar .char (chr (Int8.toInt32 (Int32.toInt8 c) &&& 255)) = c := by
  obtain ⟨i, rfl⟩ := lat_nat h
  exact (by decide +kernel : ∀ i : Fin 256, nar .char (chr (Int8.toInt32 (Int32.toInt8 (Int32.ofInt (i.1 : Int))) &&& 255)) = Int32.ofInt (i.1 : Int)) i
theorem nar_lat {c : Int32} (h : 0 ≤ c.toInt ∧ c.toInt < 256) : nar .char c = c := by
  obtain ⟨i, rfl⟩ := lat_nat h
  exact (by decide +kernel : ∀ i : Fin 256, nar .char (Int32.ofInt (i.1 : Int)) = Int32.ofInt (i.1 : Int)) i
end Jvm.Road
namespace Jvm.Road
open Jvm Jvm.ClassFile Sem Op Lib Jvm.Free Jvm.Stand Jvm.LawKit Jvm.RoadKit Bundle
/-- an int's 32 bits as a number -/
def u32 (x : Int32) : Nat := x.toBitVec.toNat
theorem u32_lt (x : Int32) : u32 x < 4294967296 := x.toBitVec.isLt
theorem u32_inj {x y : Int32} (h : u32 x = u32 y) : x = y := Int32.toBitVec_inj.mp (BitVec.eq_of_toNat_eq h)
theorem toInt_u32 {x : Int32} (h : u32 x < 2147483648) : x.toInt = (u32 x : Int) := by
  show x.toBitVec.toInt = _
  exact BitVec.toInt_eq_toNat_of_lt (by show 2 * u32 x < 2 ^ 32; omega)
theorem u32_and (x y : Int32) : u32 (x &&& y) = u32 x &&& u32 y := BitVec.toNat_and ..
theorem u32_chr (x : Int32) : u32 (chr x) = u32 x % 65536 := by
  show ((x.toBitVec.setWidth 16).setWidth 32).toNat = _
  rw [BitVec.toNat_setWidth, BitVec.toNat_setWidth]
  show x.toBitVec.toNat % 65536 % 4294967296 = _
  show _ = x.toBitVec.toNat % 65536
  omega
theorem u32_ushr (x y : Int32) : u32 (XT.ushr x y) = u32 x >>> (u32 y % 32) := by
  show ((x.toBitVec >>> ((y &&& 31).toBitVec.umod 32#32)).toNat) = _
  have h : ((y &&& 31).toBitVec.umod 32#32).toNat = u32 y % 32 := by
    show (BitVec.umod (y.toBitVec &&& 31#32) 32#32).toNat = _
    rw [show (BitVec.umod (y.toBitVec &&& 31#32) 32#32) = (y.toBitVec &&& 31#32) % 32#32 from rfl, BitVec.toNat_umod, BitVec.toNat_and]
    show (u32 y &&& 31) % 32 = _
    rw [show (31 : Nat) = 2 ^ 5 - 1 from rfl, Nat.and_two_pow_sub_one_eq_mod]
    omega
  rw [← h]
  exact BitVec.toNat_ushiftRight ..
theorem and_mask (x : Nat) (k : Nat) : x &&& (2 ^ k - 1) = x % 2 ^ k := Nat.and_two_pow_sub_one_eq_mod x k
theorem u32_and255 (x : Int32) : u32 (x &&& 255) = u32 x % 256 := by rw [u32_and]; exact and_mask _ 8
theorem u32_and7 (x : Int32) : u32 (x &&& 7) = u32 x % 8 := by rw [u32_and]; exact and_mask _ 3
theorem u32_and3 (x : Int32) : u32 (x &&& 3) = u32 x % 4 := by rw [u32_and]; exact and_mask _ 2
theorem u32_and1 (x : Int32) : u32 (x &&& 1) = u32 x % 2 := by rw [u32_and]; exact and_mask _ 1
theorem chr_id {x : Int32} (h : u32 x < 65536) : chr x = x := u32_inj (by rw [u32_chr]; omega)
end Jvm.Road
namespace Jvm.Road
open Jvm Jvm.ClassFile Sem Op Lib Jvm.Free Jvm.Stand Jvm.LawKit Jvm.RoadKit Bundle
/-- the byte of a char, as an int -/
def bf (c : Int32) : Int32 := Int8.toInt32 (Int32.toInt8 c)
theorem bf_inj {c d : Int32} (hc : 0 ≤ c.toInt ∧ c.toInt < 256) (hd : 0 ≤ d.toInt ∧ d.toInt < 256) (h : bf c = bf d) : c = d := by
  rw [← byte_back hc, ← byte_back hd]
  show nar .char (chr (bf c &&& 255)) = nar .char (chr (bf d &&& 255))
  rw [h]
theorem bfs_inj : ∀ {cs ds : List Int32}, (∀ c ∈ cs, 0 ≤ c.toInt ∧ c.toInt < 256) → (∀ c ∈ ds, 0 ≤ c.toInt ∧ c.toInt < 256) → cs.map bf = ds.map bf → cs = ds
  | [], [], _, _, _ => rfl
  | [], d :: ds, _, _, h => by simp at h
  | c :: cs, [], _, _, h => by simp at h
  | c :: cs, d :: ds, h1, h2, h => by
    simp only [List.map_cons, List.cons.injEq] at h
    rw [bf_inj (h1 _ (by simp)) (h2 _ (by simp)) h.1, bfs_inj (fun x hx => h1 x (by simp [hx])) (fun x hx => h2 x (by simp [hx])) h.2]
theorem byts (cs : List Int32) : cs.map byt = (cs.map bf).map Value.int := by rw [List.map_map]; rfl
theorem ints_inj : ∀ {xs ys : List Int32}, xs.map Value.int = ys.map Value.int → xs = ys
  | [], [], _ => rfl
  | [], d :: ds, h => by simp at h
  | c :: cs, [], h => by simp at h
  | c :: cs, d :: ds, h => by
    simp only [List.map_cons, List.cons.injEq, Value.int.injEq] at h
    rw [h.1, ints_inj h.2]
theorem Str.uniq {Z : State} {h : Heap} {a b b' : Addr} {cs ds : List Int32} (S : Str Z h a b cs) (S' : Str Z h a b' ds) : cs = ds := by
  have e := Value.ref.inj (Fld.uniq S.2.2.1 S'.2.2.1)
  subst e
  have q := Ary.uniq S.2.2.2.1 S'.2.2.2.1
  rw [byts, byts] at q
  exact bfs_inj S.2.2.2.2 S'.2.2.2.2 (ints_inj q)
theorem take_ext {xs ys : List Int32} {k : Nat} (hk : k < xs.length) (hk' : k < ys.length) (h : xs.take k = ys.take k) (e : xs[k] = ys[k]) : xs.take (k + 1) = ys.take (k + 1) := by
  rw [List.take_succ_eq_append_getElem hk, List.take_succ_eq_append_getElem hk', h, e]
theorem u32_mask31 (x : Int32) : u32 (x &&& 2147483647) = u32 x % 2147483648 := by rw [u32_and]; exact and_mask _ 31
theorem rem_pos {x y : Int32} {n : Nat} (hx : u32 x < 2147483648) (hy : y.toInt = (n : Int)) (hn : 0 < n) : (x % y).toInt = ((u32 x % n : Nat) : Int) := by
  rw [Int32.toInt_mod, toInt_u32 hx, hy]
  rfl
theorem small_of {x : Int32} {n : Nat} {k : Nat} (h : x.toInt = ((k % n : Nat) : Int)) (hn : 0 < n) : ∃ i : Fin n, x = Int32.ofInt (i.1 : Int) := by
  refine ⟨⟨k % n, Nat.mod_lt _ hn⟩, ?_⟩
  have := congrArg Int32.ofInt h
  rwa [Int32.ofInt_toInt] at this
end Jvm.Road
namespace Jvm.Road
open Jvm Jvm.ClassFile Sem Op Lib Jvm.Free Jvm.Stand Jvm.LawKit Jvm.RoadKit Bundle Jvm.Free.Exc
section Exc
variable {l : Launch} {Z : State} {a0 : Array Value} {EL : List (String × Nat)} {n0 : Nat} {kn : Bool} {B : Bdy} {D : Dyn} {Q : Post} {h : Heap} {σ : Addr → Prop} {ce sl : Nat} {Ls : Array Slot} {st : List Value} {a : Addr}
/-- super(msg) of a Throwable, down a chain of constructors that only pass it on -/
theorem excInit (pc : Nat) {ix n : Nat} {rc : String} {links : List Link} {msg : Value} (W : Nat) (hd : decode B.bs pc = .ok (.invokespecial ix, 3)) (hok : linksOk 1 links = true)
    (w1 : (Jvm.Cond.methodLink B.y.cls ix (ctor 1 (headName links))).before a0 Z = true) (w2 : (Jvm.Cond.instanceMethod (ctor 1 (headName links))).before a0 Z = true) (wT : (chainTab 1 rc links).before a0 Z = true) (wi : (Jvm.Cond.instantiable rc n).before a0 Z = true) (r2 : ∀ d ∈ twoRefs, d.before a0 Z = true)
    (hl : l.stackTraces = true) (hkn : kn = true) (hO : Old Z n0 D.s.heap) (E : Exa Z h a rc) (N : Unt h a) (F1 : Fld Z h a tN "backtrace" obD .null) (F2 : Fld Z h a tN "detailMessage" msgD .null) (hmsg : msg.isRef = true) (hσ : σ a)
    (hW : (st.map fun v => v.category).sum = W) (hsz : Ls.size = B.ml) (hf : 4 + links.length ≤ B.rm.frames) (hlo : W + (56 + 14 * links.length) ≤ B.rm.locals) {ce' sl' : Nat} (hce : ce + 1 = ce') (hsl : sl + 2752 = sl') (hc : ce' ≤ B.rm.cells) (hs : sl' ≤ B.rm.slots)
    (r : ∀ h', Kp Z h h' a → Keep h h' [a] → Exa Z h' a rc → Unt h' a → Fld Z h' a tN "detailMessage" msgD msg → Fld Z h' a tN "cause" thD (.ref a) → Go l Z a0 EL n0 kn B D Q h' σ ce' sl' (pc + 3) Ls st) : Go l Z a0 EL n0 kn B D Q h σ ce sl pc Ls (msg :: .ref a :: st) := by
  subst hce hsl
  intro ok ew T vm0 I
  obtain ⟨k0, locs, X, h1, h2, h3, h4, h5, h6, h7, h8, h9, h10⟩ := I
  obtain ⟨T', h', X', e', K, E', N', M', C', -, s'⟩ := excL1 X ok.1 hl (s := D.s.setVm vm0) h4 h5 hok w1 w2 wT wi r2 (ThS.start.ext hO.2) (ThS.start.ext h8.2) (h10 hkn).1 (h10 hkn).2 h1 E N F1 F2 hmsg (g := mkF D.m pc Ls (msg :: .ref a :: st)) rfl (hsz.trans ok.2.2.1.symm) (rest := st) rfl (Jvm.hb ok.2.1 hd) hf (by show 2 * 0 + _ + _ ≤ _; rw [hW]; omega) hc hs
  have ha := h9 a hσ
  have K2 : Keep h h' [a] := keep_of_kp K
  have hsf : ∀ x ∈ [a], Safe Z EL vm0 h x := fun x hx => by cases List.mem_singleton.mp hx; exact ha.1
  obtain ⟨s2, o, q, rest⟩ := r h' K K2 E' N' M' C' ok ew T' vm0
    ⟨k0, _, X', e', h2, Nat.le_trans h3 K2.1, h4, h5, h6.trans (CHr.keep K2 hsf h6.1), Fr.six h7 ha.2.1, h8.keep K2 (fun x hx => by cases List.mem_singleton.mp hx; exact ha.2.1), fun x hx => ⟨Safe.keep K2 hsf h6.1 (h9 x hx).1, (h9 x hx).2.1, Nat.lt_of_lt_of_le (h9 x hx).2.2 K2.1⟩, h10⟩
  exact ⟨s2, o, s' _ q, rest⟩
end Exc
section Up
variable {l : Launch} {Z : State} {a0 : Array Value} {EL : List (String × Nat)} {n0 : Nat} {kn : Bool} {B B' : Bdy} {D : Dyn} {Q Q' : Post} {h : Heap} {σ : Addr → Prop} {ce sl : Nat} {Ls : Array Slot} {st : List Value} {a : Addr}
/-- invokevirtual whose entry names the method by a subclass of the one that declares it -/
theorem callU (pc : Nat) {ix : Nat} {y : MethodName} {argsL rest : List Value} (C owner : String) (W : Nat) (hd : decode B.bs pc = .ok (.invokevirtual ix, 3)) (w1 : (Jvm.Cond.methodLink B.y.cls ix y).before a0 Z = true) (w2 : (Jvm.Cond.sameMethod y.cls owner y.name y.desc).before a0 Z = true) (w2' : (Jvm.Cond.declares ⟨owner, y.name, y.desc⟩).before a0 Z = true) (hy : owner ≠ "java/lang/invoke/MethodHandle" ∧ owner ≠ "java/lang/invoke/VarHandle") (w5 : (Jvm.Cond.selects C y B'.y).before a0 Z = true) (w6 : (Jvm.Cond.instanceMethod B'.y).before a0 Z = true) (w3 : (Jvm.Cond.initialized B'.y.cls).before a0 Z = true) (w4 : (Jvm.Cond.code B'.y B'.bs B'.ml B'.rt).before a0 Z = true)
    (E : Exa Z h a C) (hM : Con l Z EL n0 kn B' [] σ (.ref a :: argsL).toArray h Q') (hlen : ∀ sig, parseMethodDescriptor y.desc = some sig → argsL.length = sig.parameters.length) (hst : st = argsL.reverse ++ .ref a :: rest) (hW : (rest.map fun v => v.category).sum = W) (hsz : Ls.size = B.ml)
    (hf : B'.rm.frames + 1 ≤ B.rm.frames) (hl : W + (B'.ml + 11) + B'.rm.locals ≤ B.rm.locals) {ce' sl' : Nat} (hce : ce + B'.rm.cells = ce') (hsl : sl + B'.rm.slots = sl') (hc : ce' ≤ B.rm.cells) (hs : sl' ≤ B.rm.slots)
    (r : ∀ v h' σ', (∀ x, σ x → σ' x) → Q' v h' σ' → Go l Z a0 EL n0 kn B D Q h' σ' ce' sl' (pc + 3) Ls (push v rest)) : Go l Z a0 EL n0 kn B D Q h σ ce sl pc Ls st := by
  subst hce hsl
  exact called W hM w4 w3 hf hl hc hs (fun T vm0 locs X h1 h4 h5 ok {Pre Pst} hB hpre => by
    obtain ⟨cq, kq, qa, qb, qc⟩ := isOf (s := D.s.setVm vm0) h4 h1 E
    exact X.virtualBackUpS ok.1 (s := D.s.setVm vm0) (C := C) h5 (mv (s := D.s.setVm vm0) h4 w1) (mv (s := D.s.setVm vm0) h4 w2) (mv (s := D.s.setVm vm0) h4 w2') hy (mv (s := D.s.setVm vm0) h4 w5) (mv (s := D.s.setVm vm0) h4 w6) hB qa qc (g := mkF D.m pc Ls st) rfl (hsz.trans ok.2.2.1.symm) (Steps.refl _) (argsL := argsL) (rest := rest) hlen hst (by show 2 * 0 + _ ≤ _; rw [hW]; omega) (Jvm.hb ok.2.1 hd) hpre) r
end Up
end Jvm.Road
namespace Jvm.Road
open Jvm Jvm.ClassFile Sem Op Lib Jvm.Free Jvm.Stand Jvm.LawKit Jvm.RoadKit Bundle
section Start
variable {Z : State} {a : Addr} {args : Array Value} {t b : Term} {ty : FieldType}
theorem eq_int_of {n : Int32} (h : (Cond.eq t (Term.int n)).value args Z none Z [] = some true) : t.eval args Z none [] Z = some (.int n) := by
  obtain ⟨x, y, q1, q2, -, k2⟩ := cmp_v (Or.inl h)
  cases q2
  obtain ⟨z, rfl⟩ := k2
  have := gotT (Cond.eq_ints q1 (Term.int_eval n)) h
  rw [← this]; exact q1
theorem eq_ref_of {q : Addr} (h : (Cond.eq t b).value args Z none Z [] = some true) (hb : b.eval args Z none [] Z = some (.ref q)) : t.eval args Z none [] Z = some (.ref q) := by
  obtain ⟨x, y, q1, q2, -, k2⟩ := cmp_v (Or.inl h)
  cases hb.symm.trans q2
  have := gotT (eq_R q1 hb k2.2 rfl) h
  rw [← this]; exact q1
theorem len_lt {v : Value} (h : (Term.length t).eval args Z none [] Z = some v) (ev : t.eval args Z none [] Z = some (.ref a)) : ∃ c, Z.arrayAt? a = some c ∧ c.slots.size < 2 ^ 31 ∧ v = .int c.slots.size.toInt32 := by
  obtain ⟨x, c, e1, e2, e3⟩ := Term.length_spec h
  cases ev.symm.trans e1
  refine ⟨c, e2, ?_, e3⟩
  by_cases q : c.slots.size < 2 ^ 31
  · exact q
  · simp [Term.eval, ev, e2, q] at h
theorem Ary.start {n : Int32} {vs : List Value} (ev : t.eval args Z none [] Z = some (.ref a)) (hx : (Cond.arrayOf t ty).value args Z none Z [] = some true)
    (hl : (Cond.eq (Term.length t) (Term.int n)).value args Z none Z [] = some true) (hn : n.toInt = vs.length)
    (he : ∀ i, i < vs.length → ∃ j : Int32, j.toInt = (i : Int) ∧ (Term.elem t (Term.int j)).eval args Z none [] Z = vs[i]?) (hf : ∀ v ∈ vs, fits ty v = true) : Ary Z Z.heap a ty vs := by
  obtain ⟨c, A⟩ := Arr.start ev hx
  obtain ⟨c', e1, e2, e3⟩ := len_lt (eq_int_of hl) ev
  have e4 : Z.heap[a]? = some c' := (arrayAt_spec e1).1
  cases A.1.symm.trans e4
  have e5 : c.slots.size = vs.length := by
    have : n.toInt = (c.slots.size : Int) := by
      injection e3 with q; rw [q]; exact len_toInt e2
    omega
  refine ⟨c, A, ?_, by omega, hf⟩
  apply List.ext_getElem?
  intro i
  by_cases hi : i < vs.length
  · obtain ⟨j, j1, j2⟩ := he i hi
    rw [List.getElem?_eq_getElem hi] at j2 ⊢
    have := (elem_in j2 ev (Term.int_eval j) A.1).2
    rw [(ix_of j1).2] at this
    rw [Array.getElem?_toList]; exact this
  · rw [List.getElem?_eq_none (Nat.le_of_not_lt hi), List.getElem?_eq_none (by rw [Array.length_toList, e5]; exact Nat.le_of_not_lt hi)]
end Start
end Jvm.Road
namespace Jvm.Road
open Jvm Jvm.ClassFile Sem Op Lib Jvm.Free Jvm.Stand Jvm.LawKit Jvm.RoadKit Bundle
section Copy
variable {l : Launch} {Z : State} {a0 : Array Value} {EL : List (String × Nat)} {n0 : Nat} {kn : Bool} {B : Bdy} {D : Dyn} {Q : Post} {h : Heap} {σ : Addr → Prop} {ce sl : Nat} {Ls : Array Slot} {st : List Value} {a b : Addr}
theorem arv_of {ty : FieldType} {vs : List Value} (A : Ary Z h a ty vs) : ∃ k, Arv Z h a k ty (Nat.toInt32 vs.length) vs .null ∧ (Nat.toInt32 vs.length).toNatClampNeg = vs.length := by
  obtain ⟨c, A, e, q, f⟩ := A
  have e1 : (Nat.toInt32 vs.length).toInt = vs.length := len_toInt q
  have e2 := ix_of e1
  have e3 : c.slots.size = vs.length := by rw [← Array.length_toList, e]
  refine ⟨_, ⟨c, A, rfl, e3.trans e2.2.symm, e2.1, fun i hi => ?_, fun i hi => ?_⟩, e2.2⟩
  · rw [← Array.getElem?_toList, e, List.getElem?_eq_getElem (by omega), List.getD_eq_getElem?_getD, List.getElem?_eq_getElem (by omega)]; rfl
  · rw [List.getD_eq_getElem?_getD, List.getElem?_eq_getElem (by omega)]; exact f _ (List.getElem_mem _)
theorem stretch_eq (vs : List Value) (i n : Nat) (h : i + n ≤ vs.length) : (List.range n).map (fun k => vs.getD (i + k) .null) = (vs.drop i).take n := by
  apply List.ext_getElem?
  intro k
  by_cases hk : k < n
  · rw [List.getElem?_map, List.getElem?_range hk, List.getElem?_take_of_lt hk, List.getElem?_drop, List.getElem?_eq_getElem (by omega)]
    simp [List.getD_eq_getElem?_getD, List.getElem?_eq_getElem (show i + k < vs.length by omega)]
  · rw [List.getElem?_eq_none (by simp; omega), List.getElem?_eq_none (by simp; omega)]
theorem acopy (pc : Nat) {ix : Nat} {ty : FieldType} {vs vd : List Value} {sp dp nn : Int32} (i j n W : Nat) (hd : decode B.bs pc = .ok (.invokestatic ix, 3))
    (w1 : (Jvm.Cond.methodLink B.y.cls ix Jvm.Stand.acN).before a0 Z = true) (w2 : (Jvm.Cond.native Jvm.Stand.acN).before a0 Z = true) (w3 : (Jvm.Cond.static Jvm.Stand.acN).before a0 Z = true) (w4 : (Jvm.Cond.initialized "java/lang/System").before a0 Z = true)
    (A : Ary Z h a ty vs) (Ab : Ary Z h b ty vd) (hr : refKind ty = false) (h1 : sp.toInt = (i : Int)) (h2 : dp.toInt = (j : Int)) (h3 : nn.toInt = (n : Int)) (h4 : i + n ≤ vs.length) (h5 : j + n ≤ vd.length) (hσ : σ b)
    (hW : (st.map fun v => v.category).sum = W) (hsz : Ls.size = B.ml) (hf : 1 ≤ B.rm.frames) (hl : W + 18 ≤ B.rm.locals)
    (r : ∀ h', Keep h h' [b] → Ary Z h' b ty (vd.take j ++ (vs.drop i).take n ++ vd.drop (j + n)) → Go l Z a0 EL n0 kn B D Q h' σ ce sl (pc + 3) Ls st) :
    Go l Z a0 EL n0 kn B D Q h σ ce sl pc Ls (.int nn :: .int dp :: .ref b :: .int sp :: .ref a :: st) := by
  intro ok ew T vm0 I
  obtain ⟨k0, locs, X, g1, g2, g3, g4, g5, g6, g7, g8, g9, g10⟩ := I
  obtain ⟨k1, A1, z1⟩ := arv_of A
  obtain ⟨k2, A2, z2⟩ := arv_of Ab
  have ha := g9 b hσ
  obtain ⟨s1, s1'⟩ := ix_of h1
  obtain ⟨s2, s2'⟩ := ix_of h2
  obtain ⟨s3, s3'⟩ := ix_of h3
  obtain ⟨T', h', L, X', e', N, K, A3, s'⟩ := cpA X ok.1 (s := D.s.setVm vm0) g4 g5 w1 w2 w3 w4 g1 A1 A2 (Or.inl ⟨rfl, hr⟩) (sp := sp) (dp := dp) (nn := nn) s1 s2 s3 (by rw [s1', s3', z1]; exact h4) (by rw [s2', s3', z2]; exact h5) rfl (by rw [s2', s3']; exact h5) g7 ha.2.1
    (g := mkF D.m pc Ls (.int nn :: .int dp :: .ref b :: .int sp :: .ref a :: st)) rfl (hsz.trans ok.2.2.1.symm) rfl (Jvm.hb ok.2.1 hd) hf (W := W) (by show 2 * 0 + _ ≤ _; rw [hW]; omega) (by show W + 18 ≤ _; exact hl)
  rw [s1', s2', s3', stretch_eq _ _ _ h4] at A3
  have hlen : (vd.take j ++ (vs.drop i).take n ++ vd.drop (j + n)).length = vd.length := by
    simp only [List.length_append, List.length_take, List.length_drop]; omega
  have hs : ∀ x ∈ [b], Safe Z EL vm0 h x := fun x hx => by cases List.mem_singleton.mp hx; exact ha.1
  obtain ⟨s2, o, q, rest⟩ := r h' K (Ary.of_arv A3 (by rw [z2, hlen])) ok ew T' vm0 ⟨k0, _, X', e', g2, Nat.le_trans g3 K.1, g4, g5, g6.trans (CHr.keep K hs g6.1), N, g8.keep K (fun x hx => by cases List.mem_singleton.mp hx; exact ha.2.1),
    fun x hx => ⟨Safe.keep K hs g6.1 (g9 x hx).1, (g9 x hx).2.1, Nat.lt_of_lt_of_le (g9 x hx).2.2 K.1⟩, g10⟩
  exact ⟨s2, o, s' _ q, rest⟩
end Copy
theorem shl0 (x : Int32) : x <<< ((0 : Int32) &&& 31) = x := by
  apply Int32.toBitVec_inj.mp; simp [Int32.toBitVec_shiftLeft]
theorem sub32n {i j : Nat} (h : j ≤ i) : i.toInt32 - j.toInt32 = (i - j).toInt32 := by
  have e : (i - j).toInt32 + j.toInt32 = i.toInt32 := by rw [add32n, Nat.sub_add_cancel h]
  rw [← e, Int32.add_sub_cancel]
theorem gsub {m N : Nat} (hm : m < 2147483648) (hN : N < 2147483648) : (0 : Int32) < m.toInt32 - N.toInt32 ↔ N < m := by
  by_cases h : N ≤ m
  · rw [sub32n h, show (0 : Int32) = (0 : Nat).toInt32 from rfl, lt32 (by omega) (by omega)]; omega
  · have e : m.toInt32 - N.toInt32 = -((N - m).toInt32) := by rw [← sub32n (show m ≤ N by omega), Int32.neg_sub]
    rw [e, Int32.lt_iff_toInt_lt]
    have : (-((N - m).toInt32)).toInt = -((N - m : Nat) : Int) := by
      rw [Int32.toInt_neg, n32 (by omega)]
      rw [Int.bmod_eq_of_le] <;> omega
    rw [this]
    have : (0 : Int32).toInt = 0 := rfl
    omega
abbrev SB : String := "java/lang/StringBuilder"
abbrev AB : String := "java/lang/AbstractStringBuilder"
/-- the StringBuilder at a holds these chars; its bytes at b, of which there are N -/
def Sb (Z : State) (h : Heap) (a b : Addr) (cs : List Int32) (N : Nat) : Prop := Exa Z h a SB ∧ Fld Z h a AB "coder" "B" (.int 0) ∧ Fld Z h a AB "value" "[B" (.ref b) ∧ Fld Z h a AB "count" "I" (.int (Nat.toInt32 cs.length)) ∧ (∃ r : List Value, Ary Z h b .byte (cs.map byt ++ r) ∧ cs.length + r.length = N) ∧ (∀ c ∈ cs, 0 ≤ c.toInt ∧ c.toInt < 256)
section Builder
variable {Z : State} {h h' : Heap} {a b : Addr} {cs : List Int32} {N : Nat} {ws : List Addr}
theorem Sb.keep (F : Sb Z h a b cs N) (K : Keep h h' ws) (q : a ∉ ws) (q' : b ∉ ws) : Sb Z h' a b cs N := by
  obtain ⟨f1, f2, f3, f4, ⟨r, f5, f6⟩, f7⟩ := F
  exact ⟨f1.keep K, f2.keep K q, f3.keep K q, f4.keep K q, ⟨r, f5.keep K q', f6⟩, f7⟩
theorem Sb.lt (F : Sb Z h a b cs N) : a < h.size := F.1.lt
theorem Sb.ltb (F : Sb Z h a b cs N) : b < h.size := by obtain ⟨_, _, _, _, ⟨r, f5, -⟩, _⟩ := F; exact f5.lt
theorem Sb.le (F : Sb Z h a b cs N) : cs.length ≤ N := by obtain ⟨_, _, _, _, ⟨r, -, f6⟩, _⟩ := F; omega
theorem Sb.small (F : Sb Z h a b cs N) : N < 2147483648 := by obtain ⟨_, _, _, _, ⟨r, f5, f6⟩, _⟩ := F; have := f5.small; simp only [List.length_append, List.length_map] at this; omega
theorem put_str (cs ds : List Int32) (r : List Value) (hl : ds.length ≤ r.length) : (cs.map byt ++ r).take cs.length ++ ((ds.map byt).drop 0).take ds.length ++ (cs.map byt ++ r).drop (cs.length + ds.length) = (cs ++ ds).map byt ++ r.drop ds.length := by
  have e1 : (cs.map byt).length = cs.length := List.length_map _
  have e2 : (ds.map byt).length = ds.length := List.length_map _
  rw [List.take_append_of_le_length (by omega), List.take_of_length_le (by omega), List.drop_zero, List.take_of_length_le (by omega), List.map_append, ← e1, ← List.drop_drop, List.drop_left]
theorem put_chr (cs : List Int32) (x : Int32) (r : List Value) (hl : 1 ≤ r.length) : (cs.map byt ++ r).set cs.length (byt x) = (cs ++ [x]).map byt ++ r.drop 1 := by
  have e1 : (cs.map byt).length = cs.length := List.length_map _
  cases r with
  | nil => simp at hl
  | cons v r => rw [List.set_append_right _ _ (by omega), e1, Nat.sub_self]; simp
theorem keep1 (K : Keep h h' [a]) : Keep h h' [a, b] := ⟨K.1, fun x c q r => K.2.1 x c q (fun z => r (by cases List.mem_singleton.mp z; simp)), K.2.2⟩
theorem keep2 {h2 : Heap} (K : Keep h h' [b]) (K' : Keep h' h2 [a]) : Keep h h2 [a, b] :=
  Keep.trans (ws := [a, b]) ⟨K.1, fun x c q r => K.2.1 x c q (fun z => r (by cases List.mem_singleton.mp z; simp)), K.2.2⟩ K' (by simp)
theorem keep2' {h2 : Heap} (K : Keep h h' [a]) (K' : Keep h' h2 [b]) : Keep h h2 [a, b] :=
  Keep.trans (ws := [a, b]) ⟨K.1, fun x c q r => K.2.1 x c q (fun z => r (by cases List.mem_singleton.mp z; simp)), K.2.2⟩ K' (by simp)
end Builder
end Jvm.Road

namespace Jvm.Road
open Jvm Jvm.ClassFile Sem Op Lib Jvm.Free Jvm.Stand Jvm.LawKit Jvm.RoadKit Bundle
theorem keep_sub {h h' : Heap} {ws ws' : List Addr} (K : Keep h h' ws) (q : ∀ x ∈ ws, x ∈ ws') : Keep h h' ws' := ⟨K.1, fun x c e n => K.2.1 x c e (fun z => n (q x z)), K.2.2⟩
end Jvm.Road
namespace Jvm.Road
open Jvm Jvm.ClassFile Sem Op Lib Jvm.Free Jvm.Stand Jvm.LawKit Jvm.RoadKit Bundle
/-- a method's class is no interface, by another method of the same class -/
theorem notFace_sib {args : Array Value} {s : State} {C : String} {x y z : MethodName} (hsel : (Jvm.Cond.selects C x y).before args s = true) (e : z.cls = y.cls) : NotFace s z := fun r0 h0 => by
  obtain ⟨c2, r2, m2, q1, q2, q3, q4, kP, hkP, hkPi⟩ := Cond.selects_spec hsel
  have e1 := findClass_of_methodNamed h0
  have e2 := findClass_of_methodNamed q3
  rw [e] at e1
  have e3 := Option.some.inj (e1.symm.trans e2)
  exact ⟨kP, by rw [e3]; exact hkP, hkPi⟩
theorem same_of {args : Array Value} {s : State} {y : MethodName} (hi : (Jvm.Cond.instanceMethod y).before args s = true) (nf : NotFace s y) (hy : y.cls ≠ "java/lang/invoke/MethodHandle" ∧ y.cls ≠ "java/lang/invoke/VarHandle") : (Jvm.Cond.sameMethod y.cls y.cls y.name y.desc).before args s = true := by
  obtain ⟨mk, meth, hnamed, -⟩ := Cond.instanceMethod_spec hi
  have h1 := findClass_of_methodNamed hnamed
  have h2 := State.methodFound?_of_named hnamed hy
  obtain ⟨kr, hk, hni⟩ := nf _ hnamed
  simp [Cond.before, Cond.holds, Cond.value, h1, h2, hnamed, hk, hni]
section Calls2
variable {l : Launch} {Z : State} {a0 : Array Value} {EL : List (String × Nat)} {n0 : Nat} {kn : Bool} {B B' : Bdy} {D : Dyn} {Q Q' : Post} {h : Heap} {σ : Addr → Prop} {ce sl : Nat} {Ls : Array Slot} {st : List Value} {a : Addr}
/-- a private method by invokevirtual -/
theorem callP (pc : Nat) {ix : Nat} {argsL rest : List Value} (C : String) (W : Nat) (hd : decode B.bs pc = .ok (.invokevirtual ix, 3)) (w1 : (Jvm.Cond.methodLink B.y.cls ix B'.y).before a0 Z = true) (w2 : (Jvm.Cond.privateMethod B'.y).before a0 Z = true) (w5 : (Jvm.Cond.selects C B'.y B'.y).before a0 Z = true) (w6 : (Jvm.Cond.instanceMethod B'.y).before a0 Z = true) (w3 : (Jvm.Cond.initialized B'.y.cls).before a0 Z = true) (w4 : (Jvm.Cond.code B'.y B'.bs B'.ml B'.rt).before a0 Z = true) (hy : notMH B'.y)
    (E : Exa Z h a C) (hM : Con l Z EL n0 kn B' [] σ (.ref a :: argsL).toArray h Q') (hlen : ∀ sig, parseMethodDescriptor B'.y.desc = some sig → argsL.length = sig.parameters.length) (hst : st = argsL.reverse ++ .ref a :: rest) (hW : (rest.map fun v => v.category).sum = W) (hsz : Ls.size = B.ml)
    (hf : B'.rm.frames + 1 ≤ B.rm.frames) (hl : W + (B'.ml + 11) + B'.rm.locals ≤ B.rm.locals) {ce' sl' : Nat} (hce : ce + B'.rm.cells = ce') (hsl : sl + B'.rm.slots = sl') (hc : ce' ≤ B.rm.cells) (hs : sl' ≤ B.rm.slots)
    (r : ∀ v h' σ', (∀ x, σ x → σ' x) → Q' v h' σ' → Go l Z a0 EL n0 kn B D Q h' σ' ce' sl' (pc + 3) Ls (push v rest)) : Go l Z a0 EL n0 kn B D Q h σ ce sl pc Ls st := by
  subst hce hsl
  refine called W hM w4 w3 hf hl hc hs (fun T vm0 locs X h1 h4 h5 ok {Pre Pst} hB hpre => ?_) r
  obtain ⟨mk, methM, hnamed, hmethM, hstM, habM⟩ := Cond.instanceMethod_spec (mv (s := D.s.setVm vm0) (args := D.args) h4 w6)
  obtain ⟨methM', cM, hmethM', -, -, -, -, -, -, hsigM⟩ := Cond.code_spec hnamed (mv (s := D.s.setVm vm0) (args := D.args) h4 w4)
  cases hmethM.symm.trans hmethM'
  obtain ⟨c2, r2, m2, -, -, q3, -, kP, hkP, hkPi⟩ := Cond.selects_spec (mv (s := D.s.setVm vm0) (args := D.args) h4 w5)
  cases hnamed.symm.trans q3
  have hpriv := Cond.privateMethod_at (mvP (s := D.s.setVm vm0) (args := D.args) h4 w2)
  obtain ⟨cell, k, hcell, -, -, hns, -⟩ := E
  have hselP : selectMethod D.e.platform (D.s.setVm vm0).vm cell.cls mk = .method mk := selectMethod_private hmethM (hpriv mk methM hnamed hmethM)
  obtain ⟨vm₁, X₁, hstep₁⟩ := X.invokevirtual ok.1 (s := D.s.setVm vm0) h5 (mv (s := D.s.setVm vm0) h4 w1) hnamed hmethM hstM hkP hkPi hy (a := a) (cell := cell) (by rw [h1]; exact hcell) (fun q e => by rw [e] at hns; cases hns) hselP hmethM habM hkP hkPi (g := mkF D.m pc Ls st) rfl (argsL := argsL) (rest := rest) (hlen _ hsigM) hst (Jvm.hb ok.2.1 hd)
  obtain ⟨v, Bp, X', hS, hgr, hpost, hsteps⟩ := hB D.m D.meth D.c ⟨T.setVm vm₁, locs, ce, sl⟩ { mkF D.m pc Ls st with stack := rest } (.invokevirtual ix) mk (.ref a :: argsL).toArray X₁ rfl (hsz.trans ok.2.2.1.symm) (Jvm.hb ok.2.1 hd) (by show 2 * 0 + _ ≤ _; rw [hW]; omega) (X₁.named hnamed) (hpre vm₁ X₁.warmed)
  exact ⟨v, vm₁, Bp, X₁.warmed, X', hS, hgr, hpost, (hstep₁ _ fun acts => by rw [doInvoke_state]; exact Steps.refl _).trans hsteps⟩
/-- super.m(..) -/
theorem callUp (pc : Nat) {ix : Nat} {argsL rest : List Value} (C : String) (W : Nat) (hd : decode B.bs pc = .ok (.invokespecial ix, 3)) (w1 : (Jvm.Cond.methodLink B.y.cls ix B'.y).before a0 Z = true) (nf : NotFace Z B'.y) (w6 : (Jvm.Cond.instanceMethod B'.y).before a0 Z = true) (w7 : (Jvm.Cond.superclass B.y.cls B'.y.cls).before a0 Z = true) (w3 : (Jvm.Cond.initialized B'.y.cls).before a0 Z = true) (w4 : (Jvm.Cond.code B'.y B'.bs B'.ml B'.rt).before a0 Z = true) (hn : B'.y.name ≠ "<init>") (hy : notMH B'.y)
    (E : Exa Z h a C) (hM : Con l Z EL n0 kn B' [] σ (.ref a :: argsL).toArray h Q') (hlen : ∀ sig, parseMethodDescriptor B'.y.desc = some sig → argsL.length = sig.parameters.length) (hst : st = argsL.reverse ++ .ref a :: rest) (hW : (rest.map fun v => v.category).sum = W) (hsz : Ls.size = B.ml)
    (hf : B'.rm.frames + 1 ≤ B.rm.frames) (hl : W + (B'.ml + 11) + B'.rm.locals ≤ B.rm.locals) {ce' sl' : Nat} (hce : ce + B'.rm.cells = ce') (hsl : sl + B'.rm.slots = sl') (hc : ce' ≤ B.rm.cells) (hs : sl' ≤ B.rm.slots)
    (r : ∀ v h' σ', (∀ x, σ x → σ' x) → Q' v h' σ' → Go l Z a0 EL n0 kn B D Q h' σ' ce' sl' (pc + 3) Ls (push v rest)) : Go l Z a0 EL n0 kn B D Q h σ ce sl pc Ls st := by
  subst hce hsl
  exact called W hM w4 w3 hf hl hc hs (fun T vm0 locs X h1 h4 h5 ok {Pre Pst} hB hpre =>
    superBackS X ok.1 (s := D.s.setVm vm0) h4 h5 w1 (same_of w6 nf hy) w6 w7 hn hB h1 (Ins.self E) (g := mkF D.m pc Ls st) rfl (hsz.trans ok.2.2.1.symm) w4 (argsL := argsL) (rest := rest) hlen hst (by show 2 * 0 + _ ≤ _; rw [hW]; omega) (Jvm.hb ok.2.1 hd) hpre) r
end Calls2
end Jvm.Road
namespace Jvm.Road
open Jvm Jvm.ClassFile Sem Op Lib Jvm.Free Jvm.Stand Jvm.LawKit Jvm.RoadKit Bundle
/-- a digit's char -/
def dc (k : Nat) : Int32 := Nat.toInt32 (48 + k)
def decN (n : Nat) : List Int32 := if n < 10 then [dc n] else decN (n / 10) ++ [dc (n % 10)]
termination_by n
theorem decN_lt {n : Nat} (h : n < 10) : decN n = [dc n] := by rw [decN, if_pos h]
theorem decN_ge {n : Nat} (h : 10 ≤ n) : decN n = decN (n / 10) ++ [dc (n % 10)] := by rw [decN, if_neg (by omega)]
theorem decN_100 {n : Nat} (h : 100 ≤ n) : decN n = decN (n / 100) ++ [dc (n % 100 / 10), dc (n % 100 % 10)] := by
  rw [decN_ge (by omega), decN_ge (show 10 ≤ n / 10 by omega), List.append_assoc, Nat.div_div_eq_div_mul, show n / 10 % 10 = n % 100 / 10 by omega, show n % 10 = n % 100 % 10 by omega]; rfl
theorem decN_len : ∀ (k n : Nat), n < 10 ^ (k + 1) → (k = 0 ∨ 10 ^ k ≤ n) → (decN n).length = k + 1
  | 0, n, h, _ => by rw [decN_lt (by simpa using h)]; rfl
  | k + 1, n, h, q => by
    have q : 10 ^ (k + 1) ≤ n := q.resolve_left (by omega)
    have e : 10 ^ (k + 1 + 1) = 10 ^ (k + 1) * 10 := Nat.pow_succ ..
    have e2 : 10 ^ (k + 1) = 10 ^ k * 10 := Nat.pow_succ ..
    have e3 : 0 < 10 ^ k := Nat.pow_pos (by omega)
    rw [decN_ge (by omega), List.length_append, decN_len k (n / 10) (by omega) (by by_cases hk : k = 0; exact Or.inl hk; exact Or.inr (by omega))]; rfl
theorem decN_pos (n : Nat) : 1 ≤ (decN n).length := by
  rw [decN]; split
  · simp
  · simp
theorem dc_int {k : Nat} (h : k < 10) : (dc k).toInt = 48 + k := by unfold dc; rw [n32 (by omega)]; omega
theorem decN_lat (n : Nat) : ∀ c ∈ decN n, 0 ≤ c.toInt ∧ c.toInt < 256 := by
  induction n using Nat.strongRecOn with
  | _ n ih =>
    intro c hc
    by_cases h : n < 10
    · rw [decN_lt h] at hc; cases List.mem_singleton.mp hc; rw [dc_int h]; omega
    · rw [decN_ge (by omega)] at hc
      rcases List.mem_append.mp hc with q | q
      · exact ih _ (by omega) c q
      · cases List.mem_singleton.mp q; rw [dc_int (by omega)]; omega
theorem decN_get : ∀ (n i : Nat) (hi : i < (decN n).length), (decN n)[i] = dc (n / 10 ^ ((decN n).length - 1 - i) % 10) := by
  intro n
  induction n using Nat.strongRecOn with
  | _ n ih =>
    intro i hi
    by_cases h : n < 10
    · simp only [decN_lt h, List.length_singleton] at hi ⊢
      have : i = 0 := by omega
      subst this
      simp [Nat.mod_eq_of_lt h]
    · have e := decN_ge (show 10 ≤ n by omega)
      have hl : (decN n).length = (decN (n / 10)).length + 1 := by rw [e, List.length_append]; rfl
      by_cases hk : i < (decN (n / 10)).length
      · have h1 : (decN n)[i] = (decN (n / 10))[i] := by simp only [e]; rw [List.getElem_append_left hk]
        rw [h1, ih _ (by omega) i hk, hl]
        have e2 : (decN (n / 10)).length + 1 - 1 - i = ((decN (n / 10)).length - 1 - i) + 1 := by omega
        rw [e2, Nat.pow_succ, Nat.mul_comm, Nat.div_div_eq_div_mul]
      · have hi2 : i = (decN (n / 10)).length := by omega
        have h1 : (decN n)[i] = dc (n % 10) := by simp only [e]; rw [List.getElem_append_right (by omega)]; simp [hi2]
        rw [h1, hl, hi2]; simp
/-- an int in decimal -/
def dec (x : Int32) : List Int32 := if x.toInt < 0 then 45 :: decN x.toInt.natAbs else decN x.toInt.natAbs
theorem dec_lat (x : Int32) : ∀ c ∈ dec x, 0 ≤ c.toInt ∧ c.toInt < 256 := by
  intro c hc; unfold dec at hc; split at hc
  · rcases List.mem_cons.mp hc with q | q
    · rw [q]; decide
    · exact decN_lat _ c q
  · exact decN_lat _ c hc
theorem set_last (U T : List Value) (v : Value) (P : Nat) (h : U.length = P + 1) : (U ++ T).set P v = U.take P ++ v :: T := by
  rw [List.set_append_left _ _ (by omega), List.set_eq_take_append_cons_drop, if_pos (by omega), List.drop_of_length_le (by omega), List.append_assoc]; rfl
theorem put_wr (cs ds : List Int32) (r : List Value) (hl : ds.length ≤ r.length) : (cs.map byt ++ r).take cs.length ++ (ds.map byt ++ (cs.map byt ++ r).drop (cs.length + ds.length)) = (cs ++ ds).map byt ++ r.drop ds.length := by
  have e1 : (cs.map byt).length = cs.length := List.length_map _
  rw [List.take_append_of_le_length (by omega), List.take_of_length_le (by omega), List.map_append, ← e1, ← List.drop_drop, List.drop_left, List.append_assoc]
def OnesL : List Value := (List.range 100).map fun i => byt (dc (i % 10))
def TensL : List Value := (List.range 100).map fun i => byt (dc (i / 10))
theorem ones_at {k : Nat} (h : k < 100) : OnesL[k]? = some (byt (dc (k % 10))) := by unfold OnesL; rw [List.getElem?_map, List.getElem?_range h]; rfl
theorem tens_at {k : Nat} (h : k < 100) : TensL[k]? = some (byt (dc (k / 10))) := by unfold TensL; rw [List.getElem?_map, List.getElem?_range h]; rfl
theorem byt_dc {k : Nat} (h : k < 10) : byt (dc k) = .int (dc k) := (by decide +kernel : ∀ i : Fin 10, byt (dc i.1) = .int (dc i.1)) ⟨k, h⟩
theorem nar_dc {k : Nat} (h : k < 10) : nar .byte (dc k) = dc k := (by decide +kernel : ∀ i : Fin 10, nar .byte (dc i.1) = dc i.1) ⟨k, h⟩
theorem div100 {x : Int32} {m : Nat} (hm : m ≤ 2147483648) (hx : x.toInt = -(m : Int)) : (x / 100).toInt = -((m / 100 : Nat) : Int) := by
  rw [Int32.toInt_div, hx, show (100 : Int32).toInt = 100 from rfl, Int.neg_tdiv]
  rw [show (m : Int).tdiv 100 = ((m / 100 : Nat) : Int) by rw [Int.tdiv_eq_ediv_of_nonneg (by omega)]; omega]
  rw [Int.bmod_eq_of_le] <;> omega
theorem rem100 {x : Int32} {m : Nat} (hm : m ≤ 2147483648) (hx : x.toInt = -(m : Int)) : (x / 100 * 100 - x).toInt = ((m % 100 : Nat) : Int) := by
  have h1 := div100 hm hx
  rw [Int32.toInt_sub, Int32.toInt_mul, h1, hx, show (100 : Int32).toInt = 100 from rfl]
  rw [Int.bmod_eq_of_le (n := -((m / 100 : Nat) : Int) * 100) (by omega) (by omega)]
  rw [Int.bmod_eq_of_le] <;> omega
theorem neg_int {x : Int32} {m : Nat} (hm : m < 2147483648) (hx : x.toInt = -(m : Int)) : (-x).toInt = (m : Int) := by
  rw [Int32.toInt_neg, hx, Int.bmod_eq_of_le] <;> omega
theorem neg_nat {x : Int32} (hx : 0 ≤ x.toInt) : (-x).toInt = -((x.toInt.natAbs : Nat) : Int) := by
  have := Int32.toInt_lt x
  rw [Int32.toInt_neg, Int.bmod_eq_of_le] <;> omega
theorem nat_le (x : Int32) : x.toInt.natAbs ≤ 2147483648 := by
  have := Int32.toInt_lt x; have := Int32.le_toInt x; omega
theorem lt0 (x : Int32) : x < 0 ↔ x.toInt < 0 := by rw [Int32.lt_iff_toInt_lt]; rfl
theorem pred32 (i : Nat) : (i + 1).toInt32 + (-1) = i.toInt32 := by rw [← succ32, Int32.add_assoc]; exact Int32.add_zero _
theorem decN_le : ∀ (k n : Nat), n < 10 ^ (k + 1) → (decN n).length ≤ k + 1
  | 0, n, h => by rw [decN_lt (by simpa using h)]; exact Nat.le_refl _
  | k + 1, n, h => by
    by_cases q : n < 10
    · rw [decN_lt q]; simp
    · have e : 10 ^ (k + 1 + 1) = 10 ^ (k + 1) * 10 := Nat.pow_succ ..
      rw [decN_ge (by omega), List.length_append]
      have := decN_le k (n / 10) (by omega)
      simp only [List.length_singleton]; omega
theorem dec_le (x : Int32) : (dec x).length ≤ 11 := by
  have h := decN_le 9 x.toInt.natAbs (by have := nat_le x; omega)
  unfold dec; split
  · rw [List.length_cons]; omega
  · omega
theorem dec_pos (x : Int32) : 1 ≤ (dec x).length := by
  unfold dec; split
  · simp
  · exact decN_pos _
def PWL : List Value := [.long 1, .long 10, .long 100, .long 1000, .long 10000, .long 100000, .long 1000000, .long 10000000, .long 100000000, .long 1000000000]
def pw (e : Nat) : Int64 := Int64.ofNat (10 ^ e)
theorem pw_at {e : Nat} (h : e < 10) : PWL[e]? = some (.long (pw e)) := (fun | 0 => rfl | 1 => rfl | 2 => rfl | 3 => rfl | 4 => rfl | 5 => rfl | 6 => rfl | 7 => rfl | 8 => rfl | 9 => rfl : ∀ i : Fin 10, PWL[i.1]? = some (.long (pw i.1))) ⟨e, h⟩
theorem pw_int {e : Nat} (h : e < 10) : (pw e).toInt = ((10 ^ e : Nat) : Int) := (by decide +kernel : ∀ i : Fin 10, (pw i.1).toInt = ((10 ^ i.1 : Nat) : Int)) ⟨e, h⟩
theorem pw_ne {e : Nat} (h : e < 10) : pw e ≠ 0 := (by decide +kernel : ∀ i : Fin 10, pw i.1 ≠ 0) ⟨e, h⟩
theorem ldiv_nat {v w : Int64} {m k : Nat} (hm : m ≤ 2147483648) (hk : 0 < k) (hv : v.toInt = (m : Int)) (hw : w.toInt = (k : Int)) : (v / w).toInt = ((m / k : Nat) : Int) := by
  have hle : m / k ≤ m := Nat.div_le_self m k
  rw [Int64.toInt_div, hv, hw, Int.tdiv_eq_ediv_of_nonneg (by omega), ← Int.natCast_ediv]
  generalize m / k = c at *
  rw [Int.bmod_eq_of_le] <;> omega
theorem lrem_nat {v : Int64} {m : Nat} (hm : m ≤ 2147483648) (hv : v.toInt = (m : Int)) : (v - v / 10 * 10).toInt = ((m % 10 : Nat) : Int) := by
  have h1 := ldiv_nat (w := 10) (k := 10) hm (by omega) hv rfl
  rw [Int64.toInt_sub, Int64.toInt_mul, h1, hv, show (10 : Int64).toInt = 10 from rfl]
  rw [Int.bmod_eq_of_le (n := ((m / 10 : Nat) : Int) * 10) (by omega) (by omega)]
  rw [Int.bmod_eq_of_le] <;> omega
theorem l2i_nat {v : Int64} {m : Nat} (hm : m < 2147483648) (hv : v.toInt = (m : Int)) : v.toInt32 = Nat.toInt32 m := by
  apply Int32.toInt_inj.mp
  rw [n32 hm, Int64.toInt_toInt32, hv, Int.bmod_eq_of_le] <;> omega
theorem digit_chr {k : Nat} (h : k < 10) : chr ((48 : Int32) + Nat.toInt32 k) = dc k := (by decide +kernel : ∀ i : Fin 10, chr ((48 : Int32) + Nat.toInt32 i.1) = dc i.1) ⟨k, h⟩
theorem digit_char {k : Nat} (h : k < 10) : nar .char (chr ((48 : Int32) + Nat.toInt32 k)) = dc k := (by decide +kernel : ∀ i : Fin 10, nar .char (chr ((48 : Int32) + Nat.toInt32 i.1)) = dc i.1) ⟨k, h⟩
theorem i2l_int (x : Int32) : (Int32.toInt64 x).toInt = x.toInt := Int32.toInt_toInt64 x
theorem lneg_nat {v : Int64} {m : Nat} (hm : m ≤ 2147483648) (hv : v.toInt = -(m : Int)) : (-v).toInt = (m : Int) := by
  rw [Int64.toInt_neg, hv, Int.bmod_eq_of_le] <;> omega
theorem decN_list (m : Nat) : decN m = (List.range (decN m).length).map (fun j => dc (m / 10 ^ ((decN m).length - 1 - j) % 10)) := by
  apply List.ext_getElem (by simp)
  intro i h1 h2
  rw [decN_get m i h1, List.getElem_map, List.getElem_range]
theorem nar_dcc {k : Nat} (h : k < 10) : nar .char (dc k) = dc k := (by decide +kernel : ∀ i : Fin 10, nar .char (dc i.1) = dc i.1) ⟨k, h⟩
theorem buf_set {pre : List Int32} {c : Int32} {r k : Nat} (h : k < r) : (pre.map Value.int ++ List.replicate (r - k) (Value.int 0)).set pre.length (Value.int c) = (pre ++ [c]).map Value.int ++ List.replicate (r - (k + 1)) (Value.int 0) := by
  have e1 : (pre.map Value.int).length = pre.length := List.length_map _
  rw [show r - k = (r - (k + 1)) + 1 from by omega, List.set_append_right _ _ (by omega), e1, Nat.sub_self, List.replicate_succ]; simp
theorem rem3 (x : Int32) : (x &&& 1073741823) % 3 = 0 ∨ (x &&& 1073741823) % 3 = 1 ∨ (x &&& 1073741823) % 3 = 2 := by
  have h1 : (x &&& 1073741823).toInt = ((x.toBitVec &&& 1073741823#32).toInt) := rfl
  have h2 : (x.toBitVec &&& 1073741823#32).toNat ≤ 1073741823 := by rw [BitVec.toNat_and]; exact Nat.and_le_right
  have h3 : (x &&& 1073741823).toInt = ((x.toBitVec &&& 1073741823#32).toNat : Int) := by rw [h1, BitVec.toInt_eq_toNat_of_lt (by omega)]
  have h4 : ((x &&& 1073741823) % 3).toInt = (x &&& 1073741823).toInt % 3 := by
    rw [Int32.toInt_mod, show (3 : Int32).toInt = 3 from rfl, Int.tmod_eq_emod_of_nonneg (by omega)]
  have h5 : ∀ k : Int32, ((x &&& 1073741823) % 3).toInt = k.toInt → (x &&& 1073741823) % 3 = k := fun k q => Int32.toInt_inj.mp q
  have e : (x &&& 1073741823).toInt % 3 = 0 ∨ (x &&& 1073741823).toInt % 3 = 1 ∨ (x &&& 1073741823).toInt % 3 = 2 := by omega
  rcases e with e | e | e
  · exact Or.inl (h5 0 (by rw [h4, e]; rfl))
  · exact Or.inr (Or.inl (h5 1 (by rw [h4, e]; rfl)))
  · exact Or.inr (Or.inr (h5 2 (by rw [h4, e]; rfl)))
end Jvm.Road
namespace Jvm.Road
open Jvm Jvm.ClassFile Sem Op Lib Jvm.Free Jvm.Stand Jvm.LawKit Jvm.RoadKit Bundle
section Boot
variable {Z : State} {a : Addr} {args a0 : Array Value}
theorem Ary.boot {C n d : String} {k : Int32} {vs : List Value} {body : Term} (ev : (Term.static C n d).eval args Z none [] Z = some (.ref a)) (hx : (Cond.exactly (Term.static C n d) "[B").value args Z none Z [] = some true)
    (wa : (Jvm.Cond.arrayClass .byte).before a0 Z = true) (hl : (Cond.eq (Term.length (Term.static C n d)) (Term.int k)).value args Z none Z [] = some true) (hn : k.toInt = vs.length)
    (hall : (Cond.all (Term.static C n d) (Cond.eq (Term.elem (Term.static C n d) (Term.index 0)) body)).value args Z none Z [] = some true)
    (hb : ∀ i, i < vs.length → ∃ w, vs[i]? = some (.int w) ∧ fits .byte (.int w) = true ∧ body.eval args Z none [i] Z = some (.int w)) : Ary Z Z.heap a .byte vs := by
  obtain ⟨c, e1, e2, e3⟩ := len_lt (eq_int_of hl) ev
  have e4 := (arrayAt_spec e1).1
  have e5 : c.slots.size = vs.length := by
    have : k.toInt = (c.slots.size : Int) := by
      injection e3 with q; rw [q]; exact len_toInt e2
    omega
  obtain ⟨cell, kk, g1, g2, g3, g4, -⟩ := Exa.start ev hx
  cases e4.symm.trans g1
  obtain ⟨cA, kA, comp, hfind, hk, hkind⟩ := Cond.arrayClass_spec wa
  have hfind : Z.vm.findClass "[B" = some cA := hfind
  cases g2.symm.trans hfind
  have A : Arr Z Z.heap a c .byte := ⟨e4, ⟨(fun q e => by rw [e] at g4; cases g4), kA, hk, comp, hkind⟩, arrayAt_known e1⟩
  have hat : ∀ i, i < vs.length → c.slots[i]? = vs[i]? ∧ ∃ w, vs[i]? = some (.int w) ∧ fits .byte (.int w) = true := fun i hi => by
    obtain ⟨w, w1, w2, w3⟩ := hb i hi
    have q := Cond.all_elim ev e1 hall i (by omega)
    obtain ⟨x, y, q1, q2, -, k2⟩ := cmp_v (Or.inl q)
    cases w3.symm.trans q2
    obtain ⟨z, rfl⟩ := k2
    have r := gotT (Cond.eq_ints q1 w3) q
    subst r
    have hj : (Term.index 0).eval args Z none [i] Z = some (.int (Nat.toInt32 i)) := rfl
    have ev' : (Term.static C n d).eval args Z none [i] Z = some (.ref a) := ev
    have := (elem_in q1 ev' hj e4).2
    rw [(ix_of (n32 (i := i) (by omega))).2] at this
    exact ⟨this.trans w1.symm, _, w1, w2⟩
  refine ⟨c, A, ?_, by omega, fun v hv => ?_⟩
  · apply List.ext_getElem?
    intro i
    by_cases hi : i < vs.length
    · rw [Array.getElem?_toList]; exact (hat i hi).1
    · rw [List.getElem?_eq_none (Nat.le_of_not_lt hi), List.getElem?_eq_none (by rw [Array.length_toList, e5]; exact Nat.le_of_not_lt hi)]
  · obtain ⟨i, hi, rfl⟩ := List.getElem_of_mem hv
    obtain ⟨-, w, w1, w2⟩ := hat i hi
    rw [List.getElem?_eq_getElem hi] at w1
    rw [Option.some.inj w1]; exact w2
theorem ones_boot : ∀ i, i < OnesL.length → ∃ w, OnesL[i]? = some (.int w) ∧ fits .byte (.int w) = true ∧ (Term.add (Term.int 48) (Term.rem (Term.index 0) (Term.int 10))).eval args Z none [i] Z = some (.int w) := fun i hi => by
  have hi : i < 100 := by simpa [OnesL] using hi
  refine ⟨dc (i % 10), by rw [ones_at hi, byt_dc (by omega)], (by decide +kernel : ∀ i : Fin 10, fits .byte (.int (dc i.1)) = true) ⟨i % 10, by omega⟩, ?_⟩
  simp only [Term.eval, List.getElem?_cons_zero, Option.map_some, Option.bind_eq_bind, Option.bind_some]
  have := (by decide +kernel : ∀ i : Fin 100, (48 : Int32) + (Nat.toInt32 i.1) % 10 = dc (i.1 % 10)) ⟨i, hi⟩
  simpa using this
theorem tens_boot : ∀ i, i < TensL.length → ∃ w, TensL[i]? = some (.int w) ∧ fits .byte (.int w) = true ∧ (Term.add (Term.int 48) (Term.div (Term.index 0) (Term.int 10))).eval args Z none [i] Z = some (.int w) := fun i hi => by
  have hi : i < 100 := by simpa [TensL] using hi
  refine ⟨dc (i / 10), by rw [tens_at hi, byt_dc (by omega)], (by decide +kernel : ∀ i : Fin 10, fits .byte (.int (dc i.1)) = true) ⟨i / 10, by omega⟩, ?_⟩
  simp only [Term.eval, List.getElem?_cons_zero, Option.map_some, Option.bind_eq_bind, Option.bind_some]
  have := (by decide +kernel : ∀ i : Fin 100, (48 : Int32) + (Nat.toInt32 i.1) / 10 = dc (i.1 / 10)) ⟨i, hi⟩
  simpa using this
end Boot
end Jvm.Road
namespace Jvm.Road
open Jvm Jvm.ClassFile Sem Op Lib Jvm.Free Jvm.Stand Jvm.LawKit Jvm.RoadKit Bundle
/-- the array at a is over the class C -/
def Ova (Z : State) (h : Heap) (a : Addr) (C : String) : Prop := ∃ cell : Cell, h[a]? = some cell ∧ Ovr Z cell.cls C
theorem Ova.keep {Z : State} {h h' : Heap} {a : Addr} {C : String} {ws : List Addr} (F : Ova Z h a C) (K : Keep h h' ws) : Ova Z h' a C := by
  obtain ⟨c, e, O⟩ := F
  obtain ⟨c', e', q, -⟩ := K.2.2 a c e
  exact ⟨c', e', by rw [q]; exact O⟩
section Refs
variable {l : Launch} {Z : State} {a0 : Array Value} {EL : List (String × Nat)} {n0 : Nat} {kn : Bool} {B B' : Bdy} {D : Dyn} {Q Q' : Post} {h : Heap} {σ : Addr → Prop} {ce sl : Nat} {Ls : Array Slot} {st : List Value} {a : Addr}
theorem anewarray (pc : Nat) {ix : Nat} (C : String) (n cap : Nat) {z : Int32} (hd : decode B.bs pc = .ok (.anewarray ix, 3)) (w1 : (Jvm.Cond.classLink B.y.cls ix C).before a0 Z = true) (w2 : (Jvm.Cond.arrayOver (.object C)).before a0 Z = true) (hz : z.toInt = (n : Int)) (hcap : n ≤ cap) (hb : cap * 8 ≤ 536870912) {ce' sl' : Nat} (hce : ce + 1 = ce') (hsl : sl + cap = sl') (hc : ce' ≤ B.rm.cells) (hs : sl' ≤ B.rm.slots)
    (r : ∀ a h' σ', a = h.size → Keep h h' [] → a < h'.size → (∀ x, σ x → σ' x) → σ' a → Ary Z h' a (.object C) (List.replicate n .null) → Ova Z h' a C → Go l Z a0 EL n0 kn B D Q h' σ' ce' sl' (pc + 3) Ls (.ref a :: st)) : Go l Z a0 EL n0 kn B D Q h σ ce sl pc Ls (.int z :: st) := by
  subst hce hsl
  exact made (P := fun h' => Ary Z h' h.size (.object C) (List.replicate n .null) ∧ Ova Z h' h.size C)
    (fun T vm0 locs X h1 h4 h5 ok => by
      obtain ⟨q1, q2⟩ := ix_of hz
      obtain ⟨T', h', cA, X', e', E, A, O, s'⟩ := newR X ok.1 (s := D.s.setVm vm0) h4 h5 w1 w2 h1 (g := mkF D.m pc Ls (.int z :: st)) rfl (Jvm.hb ok.2.1 hd) rfl q1 (cap := cap) (by rw [q2]; exact hcap) hb hc hs
      refine ⟨T', h', X', e', E, A.lt, ⟨⟨_, A, ?_, ?_, ?_⟩, ⟨_, A.1, O⟩⟩, s'⟩
      · show (Array.replicate z.toNatClampNeg (defaultValue (.object C))).toList = _
        rw [q2, Array.toList_replicate]; rfl
      · rw [List.length_replicate]; omega
      · intro v hv
        rw [(List.mem_replicate.mp hv).2]; rfl)
    (fun h' σ' K hlt m1 m2 P => r h.size h' σ' rfl K hlt m1 m2 P.1 P.2)
theorem newarrayE (pc : Nat) {aty : ArrayType} (ty : FieldType) (n cap : Nat) {z : Int32} (ad : String) (had : "[" ++ (newarray.typeOf aty).toString = ad) (hd : decode B.bs pc = .ok (.newarray aty, 2)) (hty : newarray.typeOf aty = ty) (w : (Jvm.Cond.arrayClass ty).before a0 Z = true) (hz : z.toInt = (n : Int)) (hcap : n ≤ cap) (hb : cap * 8 ≤ 536870912) {ce' sl' : Nat} (hce : ce + 1 = ce') (hsl : sl + cap = sl') (hc : ce' ≤ B.rm.cells) (hs : sl' ≤ B.rm.slots)
    (r : ∀ a h' σ', a = h.size → Keep h h' [] → a < h'.size → (∀ x, σ x → σ' x) → σ' a → Ary Z h' a ty (List.replicate n (defaultValue ty)) → Exa Z h' a ad → Go l Z a0 EL n0 kn B D Q h' σ' ce' sl' (pc + 2) Ls (.ref a :: st)) : Go l Z a0 EL n0 kn B D Q h σ ce sl pc Ls (.int z :: st) := by
  subst hce hsl
  exact made (P := fun h' => Ary Z h' h.size ty (List.replicate n (defaultValue ty)) ∧ Exa Z h' h.size ad)
    (fun T vm0 locs X h1 h4 h5 ok => by
      subst hty
      obtain ⟨q1, q2⟩ := ix_of hz
      obtain ⟨T', h', cA, X', e', E, A, EE, s'⟩ := newPE X ok.1 (s := D.s.setVm vm0) h4 w h1 (g := mkF D.m pc Ls (.int z :: st)) rfl (Jvm.hb ok.2.1 hd) rfl q1 (cap := cap) (by rw [q2]; exact hcap) hb hc hs had
      refine ⟨T', h', X', e', E, A.lt, ⟨⟨_, A, ?_, ?_, ?_⟩, EE⟩, s'⟩
      · show (Array.replicate z.toNatClampNeg (defaultValue (newarray.typeOf aty))).toList = _
        rw [q2, Array.toList_replicate]
      · rw [List.length_replicate]; omega
      · intro v hv
        rw [(List.mem_replicate.mp hv).2]
        cases aty <;> rfl)
    (fun h' σ' K hlt m1 m2 P => r h.size h' σ' rfl K hlt m1 m2 P.1 P.2)
theorem aastore (pc : Nat) {C : String} {vs : List Value} {j : Int32} {y : Addr} (i : Nat) (hd : decode B.bs pc = .ok (.aastore, 1)) (A : Ary Z h a (.object C) vs) (O : Ova Z h a C) (I : Ins Z h y C true) (hj : j.toInt = (i : Int)) (hi : i < vs.length) (hσ : σ a)
    (r : ∀ h', Keep h h' [a] → Ary Z h' a (.object C) (vs.set i (.ref y)) → Go l Z a0 EL n0 kn B D Q h' σ ce sl (pc + 1) Ls st) : Go l Z a0 EL n0 kn B D Q h σ ce sl pc Ls (.ref y :: .int j :: .ref a :: st) :=
  wrote hσ (i := i) (v := .ref y) (fun T vm0 locs X h1 h4 h5 ok => by
    obtain ⟨c, Ar, e, -⟩ := A
    obtain ⟨c', e', Ov⟩ := O
    cases Ar.1.symm.trans e'
    have := stR X ok.1 (s := D.s.setVm vm0) h4 h1 Ar (Ary.inb e hj hi) rfl (Sto.of Ar Ov I) (g := mkF D.m pc Ls (.ref y :: .int j :: .ref a :: st)) rfl rfl (Jvm.hb ok.2.1 hd)
    rw [(ix_of hj).2] at this; exact this)
    (fun h' W K => r h' K (A.wr W rfl))
theorem callF (pc : Nat) {ix cnt : Nat} {xi : MethodName} {argsL rest : List Value} (C : String) (W : Nat) (hd : decode B.bs pc = .ok (.invokeinterface ix cnt, 5)) (w1 : (Jvm.Cond.methodLink B.y.cls ix xi).before a0 Z = true) (w2 : (Jvm.Cond.declares xi).before a0 Z = true) (w7 : (Jvm.Cond.interfaceMethod xi.cls xi.cls xi.name xi.desc).before a0 Z = true)
    (w5 : (Jvm.Cond.selects C xi B'.y).before a0 Z = true) (w6 : (Jvm.Cond.instanceMethod B'.y).before a0 Z = true) (w8 : (Jvm.Cond.publicMethod B'.y).before a0 Z = true) (w9 : (Jvm.Cond.unhidden C xi.name xi.desc).before a0 Z = true) (w10 : (Jvm.Cond.castable C xi.cls).before a0 Z = true) (w3 : (Jvm.Cond.initialized B'.y.cls).before a0 Z = true) (w4 : (Jvm.Cond.code B'.y B'.bs B'.ml B'.rt).before a0 Z = true) (hy : notMH xi) (hk : ((Jvm.Cond.interfaceMethod xi.cls xi.cls xi.name xi.desc).onTables && (Jvm.Cond.interfaceMethod xi.cls xi.cls xi.name xi.desc).keepsFace) = true)
    (E : Exa Z h a C) (hM : Con l Z EL n0 kn B' [] σ (.ref a :: argsL).toArray h Q') (hlen : ∀ sig, parseMethodDescriptor xi.desc = some sig → argsL.length = sig.parameters.length) (hst : st = argsL.reverse ++ .ref a :: rest) (hW : (rest.map fun v => v.category).sum = W) (hsz : Ls.size = B.ml)
    (hf : B'.rm.frames + 1 ≤ B.rm.frames) (hl : W + (B'.ml + 11) + B'.rm.locals ≤ B.rm.locals) {ce' sl' : Nat} (hce : ce + B'.rm.cells = ce') (hsl : sl + B'.rm.slots = sl') (hc : ce' ≤ B.rm.cells) (hs : sl' ≤ B.rm.slots)
    (r : ∀ v h' σ', (∀ x, σ x → σ' x) → Q' v h' σ' → Go l Z a0 EL n0 kn B D Q h' σ' ce' sl' (pc + 5) Ls (push v rest)) : Go l Z a0 EL n0 kn B D Q h σ ce sl pc Ls st := by
  subst hce hsl
  exact called W hM w4 w3 hf hl hc hs (fun T vm0 locs X h1 h4 h5 ok {Pre Pst} hB hpre => by
    obtain ⟨cq, kq, qa, qb, qc⟩ := isOf (s := D.s.setVm vm0) h4 h1 E
    exact X.interfaceBackS ok.1 (s := D.s.setVm vm0) (C := C) h5 (mv (s := D.s.setVm vm0) h4 w1) (mv (s := D.s.setVm vm0) h4 w2) (mv (s := D.s.setVm vm0) h4 w7 hk) (mv (s := D.s.setVm vm0) h4 w5) (mv (s := D.s.setVm vm0) h4 w6) (mv (s := D.s.setVm vm0) h4 w8) (mv (s := D.s.setVm vm0) h4 w9) (mv (s := D.s.setVm vm0) h4 w10) hy hB qa qb qc (g := mkF D.m pc Ls st) rfl (hsz.trans ok.2.2.1.symm) (Steps.refl _) (argsL := argsL) (rest := rest) hlen hst (by show 2 * 0 + _ ≤ _; rw [hW]; omega) (Jvm.hb ok.2.1 hd) hpre) r
end Refs
end Jvm.Road
namespace Jvm.Road
open Jvm Jvm.ClassFile Sem Op Lib Jvm.Free Jvm.Stand Jvm.LawKit Jvm.RoadKit Bundle
theorem u32_of {c : Int32} (h : 0 ≤ c.toInt) : (u32 c : Int) = c.toInt := by
  have e : c.toInt = c.toBitVec.toInt := rfl
  have := BitVec.toInt_eq_toNat_cond c.toBitVec
  unfold u32; rw [e] at h ⊢; split at this <;> omega
theorem toInt8_and (x : Int32) : Int32.toInt8 (x &&& 255) = Int32.toInt8 x := by
  apply Int8.toBitVec_inj.mp
  apply BitVec.eq_of_toNat_eq
  show ((x &&& 255).toBitVec.signExtend 8).toNat = (x.toBitVec.signExtend 8).toNat
  have e : ∀ y : BitVec 32, (y.signExtend 8).toNat = y.toNat % 256 := fun y => by rw [BitVec.signExtend_eq_setWidth_of_le _ (by omega), BitVec.toNat_setWidth]
  rw [e, e]
  have := u32_and255 x
  unfold u32 at this
  rw [this]; omega
theorem u32_bf (x : Int32) : u32 (bf x &&& 255) = u32 x % 256 := by
  have h1 : bf x = bf (x &&& 255) := by unfold bf; rw [toInt8_and]
  have h2 : 0 ≤ (x &&& 255).toInt ∧ (x &&& 255).toInt < 256 := by
    have := u32_and255 x
    have h3 : u32 (x &&& 255) < 2147483648 := by omega
    rw [toInt_u32 h3]; omega
  rw [h1, ← u32_and255 x]
  obtain ⟨i, e⟩ := lat_nat h2
  rw [e]
  exact congrArg u32 ((by decide +kernel : ∀ i : Fin 256, bf (Int32.ofInt (i.1 : Int)) &&& 255 = Int32.ofInt (i.1 : Int)) i)
theorem u32_shr8 {c : Int32} (h : 0 ≤ c.toInt) : u32 (c >>> ((8 : Int32) &&& 31)) = u32 c / 256 := by
  have hc : u32 c < 2147483648 := by have := u32_of h; have := Int32.toInt_lt c; omega
  show ((c >>> (8 : Int32)).toBitVec).toNat = _
  have e : (c >>> (8 : Int32)).toBitVec = c.toBitVec.sshiftRight 8 := by
    rw [Int32.toBitVec_shiftRight]; rfl
  rw [e, BitVec.sshiftRight_eq_of_msb_false (by rw [BitVec.msb_eq_false_iff_two_mul_lt]; unfold u32 at hc; omega), BitVec.toNat_ushiftRight, Nat.shiftRight_eq_div_pow]; rfl
theorem u32_shl8 (x : Int32) : u32 (x <<< ((8 : Int32) &&& 31)) = u32 x * 256 % 4294967296 := by
  show ((x <<< (8 : Int32)).toBitVec).toNat = _
  have e : (x <<< (8 : Int32)).toBitVec = x.toBitVec <<< 8 := by
    rw [Int32.toBitVec_shiftLeft]; rfl
  rw [e, BitVec.toNat_shiftLeft, Nat.shiftLeft_eq]; rfl
theorem u32_or (x y : Int32) : u32 (x ||| y) = u32 x ||| u32 y := BitVec.toNat_or ..
/-- two bytes and back -/
theorem u16_back {c : Int32} (h : 0 ≤ c.toInt ∧ c.toInt < 65536) : nar .char (chr (((bf (c >>> ((0 : Int32) &&& 31)) &&& 255) <<< ((0 : Int32) &&& 31)) ||| ((bf (c >>> ((8 : Int32) &&& 31)) &&& 255) <<< ((8 : Int32) &&& 31)))) = c := by
  have hc := u32_of h.1
  have hlt : u32 c < 65536 := by omega
  rw [nar_chr]
  apply u32_inj
  rw [u32_chr, u32_or, shr0, shl0, u32_shl8, u32_bf, u32_bf, u32_shr8 h.1]
  have e1 : u32 c / 256 % 256 = u32 c / 256 := by omega
  rw [e1, Nat.mod_eq_of_lt (show u32 c / 256 * 256 < 4294967296 by omega)]
  have e2 : u32 c % 256 ||| u32 c / 256 * 256 = u32 c := by
    rw [Nat.or_comm, Nat.mul_comm, show (256 : Nat) = 2 ^ 8 from rfl, ← Nat.two_pow_add_eq_or_of_lt (show u32 c % 2 ^ 8 < 2 ^ 8 by omega)]
    omega
  rw [e2]; omega
theorem u32_nat (k : Nat) : u32 (Nat.toInt32 k) = k % 4294967296 := by unfold u32; show (BitVec.ofNat 32 k).toNat = _; rw [BitVec.toNat_ofNat]
theorem u32_shl1 (x : Int32) : u32 (x <<< ((1 : Int32) &&& 31)) = u32 x * 2 % 4294967296 := by
  show ((x <<< (1 : Int32)).toBitVec).toNat = _
  have e : (x <<< (1 : Int32)).toBitVec = x.toBitVec <<< 1 := by
    rw [Int32.toBitVec_shiftLeft]; rfl
  rw [e, BitVec.toNat_shiftLeft, Nat.shiftLeft_eq]; rfl
theorem shl1 (k : Nat) : (Nat.toInt32 k) <<< ((1 : Int32) &&& 31) = Nat.toInt32 (2 * k) := u32_inj (by rw [u32_shl1, u32_nat, u32_nat]; omega)
theorem u32_shr1 {c : Int32} (h : 0 ≤ c.toInt) : u32 (c >>> ((1 : Int32) &&& 31)) = u32 c / 2 := by
  have hc : u32 c < 2147483648 := by have := u32_of h; have := Int32.toInt_lt c; omega
  show ((c >>> (1 : Int32)).toBitVec).toNat = _
  have e : (c >>> (1 : Int32)).toBitVec = c.toBitVec.sshiftRight 1 := by
    rw [Int32.toBitVec_shiftRight]; rfl
  rw [e, BitVec.sshiftRight_eq_of_msb_false (by rw [BitVec.msb_eq_false_iff_two_mul_lt]; unfold u32 at hc; omega), BitVec.toNat_ushiftRight, Nat.shiftRight_eq_div_pow]; rfl
theorem shr1 {k : Nat} (h : 2 * k < 2147483648) : (Nat.toInt32 (2 * k)) >>> ((1 : Int32) &&& 31) = Nat.toInt32 k := u32_inj (by rw [u32_shr1 (by rw [n32 h]; omega), u32_nat, u32_nat]; omega)
def lo8 (c : Int32) : Int32 := Int8.toInt32 (Int32.toInt8 (c >>> ((0 : Int32) &&& 31)))
def hi8 (c : Int32) : Int32 := Int8.toInt32 (Int32.toInt8 (c >>> ((8 : Int32) &&& 31)))
/-- a char's two bytes, the low one first -/
def utf : List Int32 → List Value
  | [] => []
  | c :: r => .int (lo8 c) :: .int (hi8 c) :: utf r
theorem utf_len : ∀ cs : List Int32, (utf cs).length = 2 * cs.length
  | [] => rfl
  | c :: r => by simp only [utf, List.length_cons, utf_len r]; omega
theorem utf_app : ∀ cs ds : List Int32, utf (cs ++ ds) = utf cs ++ utf ds
  | [], ds => rfl
  | c :: r, ds => by simp only [List.cons_append, utf, utf_app r ds]
theorem utf_at : ∀ (cs : List Int32) (k : Nat) (h : k < cs.length), (utf cs)[2 * k]? = some (.int (lo8 cs[k])) ∧ (utf cs)[2 * k + 1]? = some (.int (hi8 cs[k]))
  | c :: r, 0, _ => ⟨rfl, rfl⟩
  | c :: r, k + 1, h => by
    have := utf_at r k (by simpa using h)
    simpa [utf, Nat.mul_add, Nat.add_right_comm] using this
theorem utf_put (cs : List Int32) (r k : Nat) (h : k < cs.length) : ((utf (cs.take k) ++ List.replicate (2 * (r + 1)) (Value.int 0)).set (2 * k) (.int (lo8 cs[k]))).set (2 * k + 1) (.int (hi8 cs[k])) = utf (cs.take (k + 1)) ++ List.replicate (2 * r) (.int 0) := by
  have hl : (utf (cs.take k)).length = 2 * k := by rw [utf_len, List.length_take]; omega
  rw [List.take_succ_eq_append_getElem h, utf_app, show 2 * (r + 1) = 2 * r + 1 + 1 from by omega, List.replicate_succ, List.replicate_succ]
  rw [List.set_append_right _ _ (by omega), List.set_append_right _ _ (by omega), hl, Nat.sub_self, show 2 * k + 1 - 2 * k = 1 from by omega]
  simp [utf]
def Str16 (Z : State) (h : Heap) (a b : Addr) (cs : List Int32) : Prop := Exa Z h a SN ∧ Fld Z h a SN "coder" "B" (.int 1) ∧ Fld Z h a SN "value" "[B" (.ref b) ∧ Ary Z h b .byte (utf cs) ∧ (∀ c ∈ cs, 0 ≤ c.toInt ∧ c.toInt < 65536) ∧ 0 < cs.length
/-- a String of either kind -/
def StrX (Z : State) (h : Heap) (a b : Addr) (cs : List Int32) : Prop := Str Z h a b cs ∨ Str16 Z h a b cs
def hiS (c : Int32) : Prop := 55296 ≤ c.toInt ∧ c.toInt < 56320
def loS (c : Int32) : Prop := 56320 ≤ c.toInt ∧ c.toInt < 57344
instance (c : Int32) : Decidable (hiS c) := inferInstanceAs (Decidable (_ ∧ _))
instance (c : Int32) : Decidable (loS c) := inferInstanceAs (Decidable (_ ∧ _))
/-- a surrogate pair begins at i -/
def pr (cs : List Int32) (i : Nat) : Nat := if h : i + 1 < cs.length then (if hiS cs[i] ∧ loS cs[i + 1] then 1 else 0) else 0
def psum (cs : List Int32) : Nat → Nat
  | 0 => 0
  | m + 1 => psum cs m + pr cs m
theorem pr_le (cs : List Int32) (i : Nat) : pr cs i ≤ 1 := by unfold pr; split <;> (try split) <;> omega
theorem psum_le (cs : List Int32) : ∀ m, psum cs m ≤ m
  | 0 => Nat.le_refl _
  | m + 1 => by have := psum_le cs m; have := pr_le cs m; simp only [psum]; omega
theorem pr_end {cs : List Int32} {i : Nat} (h : cs.length ≤ i + 1) : pr cs i = 0 := by unfold pr; rw [dif_neg (by omega)]
theorem psum_end {cs : List Int32} : ∀ {m k : Nat}, cs.length ≤ m + 1 → m ≤ k → psum cs k = psum cs m := by
  intro m k h hk
  induction k with
  | zero => have : m = 0 := by omega
            subst this; rfl
  | succ k ih =>
    by_cases e : m = k + 1
    · rw [e]
    · simp only [psum]; rw [ih (by omega), pr_end (by omega), Nat.add_zero]
theorem psum_lat {cs : List Int32} (h : ∀ c ∈ cs, 0 ≤ c.toInt ∧ c.toInt < 256) : ∀ m, psum cs m = 0
  | 0 => rfl
  | m + 1 => by
    simp only [psum, psum_lat h m]; unfold pr; split
    · rw [if_neg]; intro q; have := h _ (List.getElem_mem (show m < cs.length by omega)); unfold hiS at q; omega
    · rfl
theorem cfa16 {n : Nat} (h0 : 0 < n) (h : n < 1000) : nar .byte (Int8.toInt32 (Int32.toInt8 (XT.ushr (Nat.toInt32 n - Nat.toInt32 (2 * n)) 31))) = 1 := by
  have e : Nat.toInt32 n - Nat.toInt32 (2 * n) = -(Nat.toInt32 n) := by
    rw [show 2 * n = n + n from by omega, ← add32n]
    generalize Nat.toInt32 n = x
    rw [Int32.sub_eq_add_neg, Int32.neg_add, Int32.sub_eq_add_neg, ← Int32.add_assoc, Int32.add_right_neg, Int32.zero_add]
  rw [e]
  exact (by decide +kernel : ∀ i : Fin 1000, 0 < i.1 → nar .byte (Int8.toInt32 (Int32.toInt8 (XT.ushr (-(Nat.toInt32 i.1)) 31))) = 1) ⟨n, h⟩ h0
theorem pr_lo {cs : List Int32} {i : Nat} (h : i < cs.length) (hl : loS cs[i]) : pr cs i = 0 := by
  unfold pr; split
  · rw [if_neg]; intro q; have := q.1; unfold hiS at this; unfold loS at hl; omega
  · rfl
theorem and255L (y : Int64) : 0 ≤ (Int64.toInt32 (y &&& 255)).toInt ∧ (Int64.toInt32 (y &&& 255)).toInt < 256 := by
  have h : u32 (Int64.toInt32 (y &&& 255)) < 256 := by
    show ((y &&& 255).toBitVec.signExtend 32).toNat < 256
    rw [BitVec.signExtend_eq_setWidth_of_le _ (by omega), BitVec.toNat_setWidth]
    have : ((y &&& 255).toBitVec).toNat ≤ 255 := by
      show (y.toBitVec &&& (255 : Int64).toBitVec).toNat ≤ 255
      rw [BitVec.toNat_and]; exact Nat.and_le_right
    omega
  rw [toInt_u32 (by omega)]; omega
theorem chr_add {a x : Int32} {A : Nat} (ha : a.toInt = (A : Int)) (hA : A + 255 < 65536) (hx : 0 ≤ x.toInt ∧ x.toInt < 256) : (chr (a + x)).toInt = A + x.toInt ∧ nar .char (chr (a + x)) = chr (a + x) := by
  have e1 := u32_of (c := a) (by omega)
  have e2 := u32_of hx.1
  have e3 : u32 (a + x) = u32 a + u32 x := by
    show (a.toBitVec + x.toBitVec).toNat = _
    rw [BitVec.toNat_add]; unfold u32 at *; omega
  have e4 : u32 (chr (a + x)) = u32 a + u32 x := by rw [u32_chr, e3]; omega
  refine ⟨?_, nar_chr _⟩
  rw [toInt_u32 (by omega), e4]; omega
/-- the law's kind of a place -/
def kd (kinds : Int32) (i : Nat) : Int32 := XT.ushr kinds ((2 : Int32) * Nat.toInt32 i) &&& 3
theorem u32_and15 (x : Int32) : x &&& 15 = Nat.toInt32 (u32 x % 16) := u32_inj (by rw [u32_nat, u32_and]; have : u32 x &&& u32 (15 : Int32) = u32 x % 16 := and_mask _ 4; rw [this]; omega)
/-- what the law's chars are, by their kinds -/
def KF (kinds : Int32) (cs : List Int32) : Prop := ∀ j (hj : j < cs.length), (0 ≤ cs[j].toInt ∧ cs[j].toInt < 65536) ∧ (hiS cs[j] ↔ kd kinds j = 2) ∧ (loS cs[j] ↔ kd kinds j = 3)
theorem KF.snoc {kinds : Int32} {cs : List Int32} {c : Int32} {i : Nat} (h : KF kinds cs) (hi : cs.length = i) (hc : (0 ≤ c.toInt ∧ c.toInt < 65536) ∧ (hiS c ↔ kd kinds i = 2) ∧ (loS c ↔ kd kinds i = 3)) : KF kinds (cs ++ [c]) := by
  intro j hj
  rw [List.length_append, List.length_singleton] at hj
  by_cases q : j < cs.length
  · rw [List.getElem_append_left q]; exact h j q
  · have : j = cs.length := by omega
    subst this
    rw [List.getElem_append_right (Nat.le_refl _)]; simp only [Nat.sub_self, List.getElem_cons_zero]; rw [hi]; exact hc
theorem KF.c16 {kinds : Int32} {cs : List Int32} (h : KF kinds cs) : ∀ c ∈ cs, 0 ≤ c.toInt ∧ c.toInt < 65536 := fun c hc => by
  obtain ⟨j, hj, rfl⟩ := List.getElem_of_mem hc; exact (h j hj).1
theorem KF.pr {kinds : Int32} {cs : List Int32} (h : KF kinds cs) (i : Nat) : pr cs i = if i + 1 < cs.length ∧ kd kinds i = 2 ∧ kd kinds (i + 1) = 3 then 1 else 0 := by
  unfold Road.pr
  by_cases q : i + 1 < cs.length
  · rw [dif_pos q]
    have a := (h i (by omega)).2.1
    have b := (h (i + 1) q).2.2
    by_cases u : hiS cs[i] ∧ loS cs[i + 1]
    · rw [if_pos u, if_pos ⟨q, a.mp u.1, b.mp u.2⟩]
    · rw [if_neg u, if_neg (fun v => u ⟨a.mpr v.2.1, b.mpr v.2.2⟩)]
  · rw [dif_neg q, if_neg (fun v => q v.1)]
theorem buf_put (pre : List Int32) (c : Int32) (r : Nat) : (pre.map Value.int ++ List.replicate (r + 1) (Value.int 0)).set pre.length (Value.int c) = (pre ++ [c]).map Value.int ++ List.replicate r (Value.int 0) := by
  have e1 : (pre.map Value.int).length = pre.length := List.length_map _
  rw [List.set_append_right _ _ (by omega), e1, Nat.sub_self, List.replicate_succ]; simp
theorem nar16 {c : Int32} (h : 0 ≤ c.toInt ∧ c.toInt < 65536) : nar .char c = c := by
  have e := u32_of h.1
  have : chr c = c := chr_id (by omega)
  rw [← this, nar_chr]
end Jvm.Road
namespace Jvm.Pilot.@@N@@
open Jvm Jvm.ClassFile Sem Op Lib Jvm.Free Jvm.Stand Jvm.LawKit Jvm.RoadKit Bundle Jvm.Pilot.@@N@@.Jvm.D
set_option maxRecDepth 65536
theorem wI {a0 : Array Value} {Z : State} (hw : ∀ d ∈ tables_1, d.before a0 Z = true) (i : Nat) {d : Jvm.Cond} (h : tables_1[i]? = some d) : d.before a0 Z = true := hw d (List.mem_of_getElem? h)
def bPch : Road.Bdy := (⟨"java/lang/StringUTF16", "putChar", "([BII)V"⟩, jdk_52_method_4_code, 3, none, { frames := 0, cells := 0, slots := 0, locals := 0 })
theorem bPch_d0 : decode bPch.bs 0 = .ok (.getstatic 44, 3) := by decide +kernel
theorem bPch_d3 : decode bPch.bs 3 = .ok (.ifCond .ne 25, 3) := by decide +kernel
theorem bPch_d6 : decode bPch.bs 6 = .ok (.iload_n 1, 1) := by decide +kernel
theorem bPch_d7 : decode bPch.bs 7 = .ok (.ifCond .lt 11, 3) := by decide +kernel
theorem bPch_d10 : decode bPch.bs 10 = .ok (.iload_n 1, 1) := by decide +kernel
theorem bPch_d11 : decode bPch.bs 11 = .ok (.aload_n 0, 1) := by decide +kernel
theorem bPch_d12 : decode bPch.bs 12 = .ok (.invokestatic 48, 3) := by decide +kernel
theorem bPch_d15 : decode bPch.bs 15 = .ok (.if_icmp .lt 13, 3) := by decide +kernel
theorem bPch_d18 : decode bPch.bs 18 = .ok (.new 52, 3) := by decide +kernel
theorem bPch_d21 : decode bPch.bs 21 = .ok (.dup, 1) := by decide +kernel
theorem bPch_d22 : decode bPch.bs 22 = .ok (.ldc 54, 2) := by decide +kernel
theorem bPch_d24 : decode bPch.bs 24 = .ok (.invokespecial 56, 3) := by decide +kernel
theorem bPch_d27 : decode bPch.bs 27 = .ok (.athrow, 1) := by decide +kernel
theorem bPch_d28 : decode bPch.bs 28 = .ok (.iload_n 1, 1) := by decide +kernel
theorem bPch_d29 : decode bPch.bs 29 = .ok (.iconst 1, 1) := by decide +kernel
theorem bPch_d30 : decode bPch.bs 30 = .ok (.ishl, 1) := by decide +kernel
theorem bPch_d31 : decode bPch.bs 31 = .ok (.istore_n 1, 1) := by decide +kernel
theorem bPch_d32 : decode bPch.bs 32 = .ok (.aload_n 0, 1) := by decide +kernel
theorem bPch_d33 : decode bPch.bs 33 = .ok (.iload_n 1, 1) := by decide +kernel
theorem bPch_d34 : decode bPch.bs 34 = .ok (.iinc 1 1, 3) := by decide +kernel
theorem bPch_d37 : decode bPch.bs 37 = .ok (.iload_n 2, 1) := by decide +kernel
theorem bPch_d38 : decode bPch.bs 38 = .ok (.getstatic 59, 3) := by decide +kernel
theorem bPch_d41 : decode bPch.bs 41 = .ok (.ishr, 1) := by decide +kernel
theorem bPch_d42 : decode bPch.bs 42 = .ok (.i2b, 1) := by decide +kernel
theorem bPch_d43 : decode bPch.bs 43 = .ok (.bastore, 1) := by decide +kernel
theorem bPch_d44 : decode bPch.bs 44 = .ok (.aload_n 0, 1) := by decide +kernel
theorem bPch_d45 : decode bPch.bs 45 = .ok (.iload_n 1, 1) := by decide +kernel
theorem bPch_d46 : decode bPch.bs 46 = .ok (.iload_n 2, 1) := by decide +kernel
theorem bPch_d47 : decode bPch.bs 47 = .ok (.getstatic 63, 3) := by decide +kernel
theorem bPch_d50 : decode bPch.bs 50 = .ok (.ishr, 1) := by decide +kernel
theorem bPch_d51 : decode bPch.bs 51 = .ok (.i2b, 1) := by decide +kernel
theorem bPch_d52 : decode bPch.bs 52 = .ok (.bastore, 1) := by decide +kernel
theorem bPch_d53 : decode bPch.bs 53 = .ok (.return_, 1) := by decide +kernel
theorem bPch_pd : parseMethodDescriptor "([BII)V" = some ⟨[(.array .byte), .int, .int], none⟩ := by decide +kernel
theorem bPch_pn : plainFor bPch.y = true := plainFor_of_name (show plainName "java/lang/StringUTF16" = true from by first | (simp [plainName, overriddenIn]; done) | decide +kernel)
theorem cPch (l : Launch) (Z : State) (a0 : Array Value) (hw : ∀ d ∈ tables_1, d.before a0 Z = true) (n0 : Nat) (hEW : EW Z a0 consts_1) (d : Addr) (vd : List Value) (k : Nat) (c : Int32) (h0 : Heap) (σ : Addr → Prop) (A : Road.Ary Z h0 d .byte vd) (hk : 2 * k + 1 < vd.length) (sd : σ d) (H0 : Sta Z Z.heap "java/lang/StringUTF16" "$assertionsDisabled" "Z" (.int 1)) (H1 : Sta Z Z.heap "java/lang/StringUTF16" "HI_BYTE_SHIFT" "I" (.int 0)) (H2 : Sta Z Z.heap "java/lang/StringUTF16" "LO_BYTE_SHIFT" "I" (.int 8)) :
    Road.Con l Z consts_1 n0 false bPch [] σ #[(.ref d), (.int (Nat.toInt32 k)), (.int c)] h0 (fun v h2 _ => v = none ∧ Keep h0 h2 [d] ∧ Road.Ary Z h2 d .byte ((vd.set (2 * k) (.int (Road.lo8 c))).set (2 * k + 1) (.int (Road.hi8 c)))) := by
  have hsm := A.small
  refine Road.Con.of bPch_pn hEW #[.val (.ref d), .val (.int (Nat.toInt32 k)), .val (.int c)] (fun m => Road.ent (Road.laid1 rfl (Road.laid1 rfl (Road.laid1 rfl Road.laid0))) (k := 0) rfl rfl) ?_
  intro D hD
  refine Road.getstatic 0 bPch_d0 (wI hw 88 rfl) Via.refl H0 ?_
  refine Road.if_ne 3 28 bPch_d3 rfl (fun hc3 => ?_) (fun q => absurd q (by decide))
  refine Road.iloadN 28 bPch_d28 rfl ?_
  refine Road.iconst 29 (1 : Int32) bPch_d29 rfl ?_
  refine Road.ishl 30 bPch_d30 ?_
  refine Road.nameI ?_
  intro z_1 hz_1
  obtain rfl : z_1 = (Nat.toInt32 (2 * k)) := by rw [hz_1]; exact Road.shl1 _
  refine Road.istoreN 31 #[.val (.ref d), .val (.int (Nat.toInt32 (2 * k))), .val (.int c)] bPch_d31 rfl ?_
  refine Road.aloadN 32 bPch_d32 rfl ?_
  refine Road.iloadN 33 bPch_d33 rfl ?_
  refine Road.iinc 34 (1) #[.val (.ref d), .val (.int ((Nat.toInt32 (2 * k)) + 1)), .val (.int c)] bPch_d34 rfl rfl rfl ?_
  refine Road.iloadN 37 bPch_d37 rfl ?_
  refine Road.getstatic 38 bPch_d38 (wI hw 89 rfl) Via.refl H1 ?_
  refine Road.ishr 41 bPch_d41 ?_
  refine Road.i2b 42 bPch_d42 ?_
  refine Road.bastore 43 (2 * k) (Road.lo8 c) bPch_d43 A (Road.n32 (by omega)) (by omega) (Road.nar_byte _) sd ?_
  intro h_2 K_3 A_4
  replace A := A_4
  refine Road.aloadN 44 bPch_d44 rfl ?_
  refine Road.iloadN 45 bPch_d45 rfl ?_
  refine Road.nameI ?_
  intro z_5 hz_5
  obtain rfl : z_5 = (Nat.toInt32 (2 * k + 1)) := by rw [hz_5]; exact Road.succ32 _
  refine Road.iloadN 46 bPch_d46 rfl ?_
  refine Road.getstatic 47 bPch_d47 (wI hw 90 rfl) Via.refl H2 ?_
  refine Road.ishr 50 bPch_d50 ?_
  refine Road.i2b 51 bPch_d51 ?_
  refine Road.bastore 52 (2 * k + 1) (Road.hi8 c) bPch_d52 A (Road.n32 (by omega)) (by rw [List.length_set]; omega) (Road.nar_byte _) sd ?_
  intro h_6 K_7 A_8
  replace A := A_8
  exact Road.ret 53 bPch_d53 rfl (by decide) (by decide) (fun σ' m => ⟨rfl, K_3.trans K_7 (by simp), A⟩)
def bGch16 : Road.Bdy := (⟨"java/lang/StringUTF16", "getChar", "([BI)C"⟩, jdk_52_method_5_code, 2, (some .char), { frames := 0, cells := 0, slots := 0, locals := 0 })
theorem bGch16_d0 : decode bGch16.bs 0 = .ok (.getstatic 44, 3) := by decide +kernel
theorem bGch16_d3 : decode bGch16.bs 3 = .ok (.ifCond .ne 25, 3) := by decide +kernel
theorem bGch16_d6 : decode bGch16.bs 6 = .ok (.iload_n 1, 1) := by decide +kernel
theorem bGch16_d7 : decode bGch16.bs 7 = .ok (.ifCond .lt 11, 3) := by decide +kernel
theorem bGch16_d10 : decode bGch16.bs 10 = .ok (.iload_n 1, 1) := by decide +kernel
theorem bGch16_d11 : decode bGch16.bs 11 = .ok (.aload_n 0, 1) := by decide +kernel
theorem bGch16_d12 : decode bGch16.bs 12 = .ok (.invokestatic 48, 3) := by decide +kernel
theorem bGch16_d15 : decode bGch16.bs 15 = .ok (.if_icmp .lt 13, 3) := by decide +kernel
theorem bGch16_d18 : decode bGch16.bs 18 = .ok (.new 52, 3) := by decide +kernel
theorem bGch16_d21 : decode bGch16.bs 21 = .ok (.dup, 1) := by decide +kernel
theorem bGch16_d22 : decode bGch16.bs 22 = .ok (.ldc 54, 2) := by decide +kernel
theorem bGch16_d24 : decode bGch16.bs 24 = .ok (.invokespecial 56, 3) := by decide +kernel
theorem bGch16_d27 : decode bGch16.bs 27 = .ok (.athrow, 1) := by decide +kernel
theorem bGch16_d28 : decode bGch16.bs 28 = .ok (.iload_n 1, 1) := by decide +kernel
theorem bGch16_d29 : decode bGch16.bs 29 = .ok (.iconst 1, 1) := by decide +kernel
theorem bGch16_d30 : decode bGch16.bs 30 = .ok (.ishl, 1) := by decide +kernel
theorem bGch16_d31 : decode bGch16.bs 31 = .ok (.istore_n 1, 1) := by decide +kernel
theorem bGch16_d32 : decode bGch16.bs 32 = .ok (.aload_n 0, 1) := by decide +kernel
theorem bGch16_d33 : decode bGch16.bs 33 = .ok (.iload_n 1, 1) := by decide +kernel
theorem bGch16_d34 : decode bGch16.bs 34 = .ok (.iinc 1 1, 3) := by decide +kernel
theorem bGch16_d37 : decode bGch16.bs 37 = .ok (.baload, 1) := by decide +kernel
theorem bGch16_d38 : decode bGch16.bs 38 = .ok (.sipush 255, 3) := by decide +kernel
theorem bGch16_d41 : decode bGch16.bs 41 = .ok (.iand, 1) := by decide +kernel
theorem bGch16_d42 : decode bGch16.bs 42 = .ok (.getstatic 59, 3) := by decide +kernel
theorem bGch16_d45 : decode bGch16.bs 45 = .ok (.ishl, 1) := by decide +kernel
theorem bGch16_d46 : decode bGch16.bs 46 = .ok (.aload_n 0, 1) := by decide +kernel
theorem bGch16_d47 : decode bGch16.bs 47 = .ok (.iload_n 1, 1) := by decide +kernel
theorem bGch16_d48 : decode bGch16.bs 48 = .ok (.baload, 1) := by decide +kernel
theorem bGch16_d49 : decode bGch16.bs 49 = .ok (.sipush 255, 3) := by decide +kernel
theorem bGch16_d52 : decode bGch16.bs 52 = .ok (.iand, 1) := by decide +kernel
theorem bGch16_d53 : decode bGch16.bs 53 = .ok (.getstatic 63, 3) := by decide +kernel
theorem bGch16_d56 : decode bGch16.bs 56 = .ok (.ishl, 1) := by decide +kernel
theorem bGch16_d57 : decode bGch16.bs 57 = .ok (.ior, 1) := by decide +kernel
theorem bGch16_d58 : decode bGch16.bs 58 = .ok (.i2c, 1) := by decide +kernel
theorem bGch16_d59 : decode bGch16.bs 59 = .ok (.ireturn, 1) := by decide +kernel
theorem bGch16_pd : parseMethodDescriptor "([BI)C" = some ⟨[(.array .byte), .int], (some .char)⟩ := by decide +kernel
theorem bGch16_pn : plainFor bGch16.y = true := plainFor_of_name (show plainName "java/lang/StringUTF16" = true from by first | (simp [plainName, overriddenIn]; done) | decide +kernel)
theorem cGch16 (l : Launch) (Z : State) (a0 : Array Value) (hw : ∀ d ∈ tables_1, d.before a0 Z = true) (n0 : Nat) (hEW : EW Z a0 consts_1) (b : Addr) (cs : List Int32) (k : Nat) (h0 : Heap) (σ : Addr → Prop) (A : Road.Ary Z h0 b .byte (Road.utf cs)) (hk : k < cs.length) (h16 : ∀ c ∈ cs, 0 ≤ c.toInt ∧ c.toInt < 65536) (H0 : Sta Z Z.heap "java/lang/StringUTF16" "$assertionsDisabled" "Z" (.int 1)) (H1 : Sta Z Z.heap "java/lang/StringUTF16" "HI_BYTE_SHIFT" "I" (.int 0)) (H2 : Sta Z Z.heap "java/lang/StringUTF16" "LO_BYTE_SHIFT" "I" (.int 8)) :
    Road.Con l Z consts_1 n0 false bGch16 [] σ #[(.ref b), (.int (Nat.toInt32 k))] h0 (fun v h2 _ => v = some (.int cs[k]) ∧ h0 = h2) := by
  have hsm := A.small
  rw [Road.utf_len] at hsm
  refine Road.Con.of bGch16_pn hEW #[.val (.ref b), .val (.int (Nat.toInt32 k))] (fun m => Road.ent (Road.laid1 rfl (Road.laid1 rfl Road.laid0)) (k := 0) rfl rfl) ?_
  intro D hD
  refine Road.getstatic 0 bGch16_d0 (wI hw 88 rfl) Via.refl H0 ?_
  refine Road.if_ne 3 28 bGch16_d3 rfl (fun hc3 => ?_) (fun q => absurd q (by decide))
  refine Road.iloadN 28 bGch16_d28 rfl ?_
  refine Road.iconst 29 (1 : Int32) bGch16_d29 rfl ?_
  refine Road.ishl 30 bGch16_d30 ?_
  refine Road.nameI ?_
  intro z_1 hz_1
  obtain rfl : z_1 = (Nat.toInt32 (2 * k)) := by rw [hz_1]; exact Road.shl1 _
  refine Road.istoreN 31 #[.val (.ref b), .val (.int (Nat.toInt32 (2 * k)))] bGch16_d31 rfl ?_
  refine Road.aloadN 32 bGch16_d32 rfl ?_
  refine Road.iloadN 33 bGch16_d33 rfl ?_
  refine Road.iinc 34 (1) #[.val (.ref b), .val (.int ((Nat.toInt32 (2 * k)) + 1))] bGch16_d34 rfl rfl rfl ?_
  refine Road.baload 37 (2 * k) bGch16_d37 A (Road.n32 (by omega)) (Road.utf_at cs k hk).1 ?_
  refine Road.sipush 38 (255 : Int32) bGch16_d38 rfl ?_
  refine Road.iand 41 bGch16_d41 ?_
  refine Road.getstatic 42 bGch16_d42 (wI hw 89 rfl) Via.refl H1 ?_
  refine Road.ishl 45 bGch16_d45 ?_
  refine Road.aloadN 46 bGch16_d46 rfl ?_
  refine Road.iloadN 47 bGch16_d47 rfl ?_
  refine Road.nameI ?_
  intro z_2 hz_2
  obtain rfl : z_2 = (Nat.toInt32 (2 * k + 1)) := by rw [hz_2]; exact Road.succ32 _
  refine Road.baload 48 (2 * k + 1) bGch16_d48 A (Road.n32 (by omega)) (Road.utf_at cs k hk).2 ?_
  refine Road.sipush 49 (255 : Int32) bGch16_d49 rfl ?_
  refine Road.iand 52 bGch16_d52 ?_
  refine Road.getstatic 53 bGch16_d53 (wI hw 90 rfl) Via.refl H2 ?_
  refine Road.ishl 56 bGch16_d56 ?_
  refine Road.ior 57 bGch16_d57 ?_
  refine Road.i2c 58 bGch16_d58 ?_
  exact Road.iret 59 cs[k] bGch16_d59 (t := .char) rfl (by simp) (Road.u16_back (h16 _ (List.getElem_mem hk))) (by decide) (by decide) (fun σ' m => ⟨rfl, rfl⟩)
def bCmp5 : Road.Bdy := (⟨"java/lang/StringUTF16", "compress", "([CI[BII)I"⟩, jdk_52_method_21_code, 7, (some .int), { frames := 0, cells := 0, slots := 0, locals := 0 })
theorem bCmp5_d0 : decode bCmp5.bs 0 = .ok (.iconst 0, 1) := by decide +kernel
theorem bCmp5_d1 : decode bCmp5.bs 1 = .ok (.istore 5, 2) := by decide +kernel
theorem bCmp5_d3 : decode bCmp5.bs 3 = .ok (.iload 5, 2) := by decide +kernel
theorem bCmp5_d5 : decode bCmp5.bs 5 = .ok (.iload 4, 2) := by decide +kernel
theorem bCmp5_d7 : decode bCmp5.bs 7 = .ok (.if_icmp .ge 37, 3) := by decide +kernel
theorem bCmp5_d10 : decode bCmp5.bs 10 = .ok (.aload_n 0, 1) := by decide +kernel
theorem bCmp5_d11 : decode bCmp5.bs 11 = .ok (.iload_n 1, 1) := by decide +kernel
theorem bCmp5_d12 : decode bCmp5.bs 12 = .ok (.caload, 1) := by decide +kernel
theorem bCmp5_d13 : decode bCmp5.bs 13 = .ok (.istore 6, 2) := by decide +kernel
theorem bCmp5_d15 : decode bCmp5.bs 15 = .ok (.iload 6, 2) := by decide +kernel
theorem bCmp5_d17 : decode bCmp5.bs 17 = .ok (.sipush 255, 3) := by decide +kernel
theorem bCmp5_d20 : decode bCmp5.bs 20 = .ok (.if_icmp .le 6, 3) := by decide +kernel
theorem bCmp5_d23 : decode bCmp5.bs 23 = .ok (.iload 5, 2) := by decide +kernel
theorem bCmp5_d25 : decode bCmp5.bs 25 = .ok (.ireturn, 1) := by decide +kernel
theorem bCmp5_d26 : decode bCmp5.bs 26 = .ok (.aload_n 2, 1) := by decide +kernel
theorem bCmp5_d27 : decode bCmp5.bs 27 = .ok (.iload_n 3, 1) := by decide +kernel
theorem bCmp5_d28 : decode bCmp5.bs 28 = .ok (.iload 6, 2) := by decide +kernel
theorem bCmp5_d30 : decode bCmp5.bs 30 = .ok (.i2b, 1) := by decide +kernel
theorem bCmp5_d31 : decode bCmp5.bs 31 = .ok (.bastore, 1) := by decide +kernel
theorem bCmp5_d32 : decode bCmp5.bs 32 = .ok (.iinc 1 1, 3) := by decide +kernel
theorem bCmp5_d35 : decode bCmp5.bs 35 = .ok (.iinc 3 1, 3) := by decide +kernel
theorem bCmp5_d38 : decode bCmp5.bs 38 = .ok (.iinc 5 1, 3) := by decide +kernel
theorem bCmp5_d41 : decode bCmp5.bs 41 = .ok (.goto (-38), 3) := by decide +kernel
theorem bCmp5_d44 : decode bCmp5.bs 44 = .ok (.iload 4, 2) := by decide +kernel
theorem bCmp5_d46 : decode bCmp5.bs 46 = .ok (.ireturn, 1) := by decide +kernel
theorem bCmp5_pd : parseMethodDescriptor "([CI[BII)I" = some ⟨[(.array .char), .int, (.array .byte), .int, .int], (some .int)⟩ := by decide +kernel
theorem bCmp5_pn : plainFor bCmp5.y = true := plainFor_of_name (show plainName "java/lang/StringUTF16" = true from by first | (simp [plainName, overriddenIn]; done) | decide +kernel)
theorem cCmp5 (l : Launch) (Z : State) (a0 : Array Value) (hw : ∀ d ∈ tables_1, d.before a0 Z = true) (n0 : Nat) (hEW : EW Z a0 consts_1) (b d : Addr) (cs : List Int32) (h0 : Heap) (σ : Addr → Prop) (A : Road.Ary Z h0 b .char (cs.map .int)) (Dd : Road.Ary Z h0 d .byte (List.replicate cs.length (.int 0))) (h16 : ∀ c ∈ cs, 0 ≤ c.toInt ∧ c.toInt < 65536) (hbd : b ≠ d) (sd : σ d) :
    Road.Con l Z consts_1 n0 false bCmp5 [] σ #[(.ref b), (.int (0 : Int32)), (.ref d), (.int (0 : Int32)), (.int (Nat.toInt32 cs.length))] h0 (fun v h2 _ => ∃ x : Int32, v = some (.int x) ∧ Keep h0 h2 [d] ∧ (((∀ c ∈ cs, 0 ≤ c.toInt ∧ c.toInt < 256) ∧ x = (Nat.toInt32 cs.length) ∧ Road.Ary Z h2 d .byte (cs.map Road.byt)) ∨ (∃ (k : Nat) (hk : k < cs.length), x = Nat.toInt32 k ∧ 255 < cs[k].toInt))) := by
  have hn : cs.length < 2147483648 := by have := A.small; rwa [List.length_map] at this
  refine Road.Con.of bCmp5_pn hEW #[.val (.ref b), .val (.int (0 : Int32)), .val (.ref d), .val (.int (0 : Int32)), .val (.int (Nat.toInt32 cs.length)), .unset, .unset] (fun m => Road.ent (Road.laid1 rfl (Road.laid1 rfl (Road.laid1 rfl (Road.laid1 rfl (Road.laid1 rfl Road.laid0))))) (k := 2) rfl rfl) ?_
  intro D hD
  refine Road.iconst 0 (0 : Int32) bCmp5_d0 rfl ?_
  refine Road.istore 1 #[.val (.ref b), .val (.int (0 : Int32)), .val (.ref d), .val (.int (0 : Int32)), .val (.int (Nat.toInt32 cs.length)), .val (.int (0 : Int32)), .unset] bCmp5_d1 rfl ?_
  have loop : ∀ r k, k + r = cs.length → ∀ (h : Heap) (w6 : Slot), Road.W1 w6 → Keep h0 h [d] → (∀ c ∈ cs.take k, 0 ≤ c.toInt ∧ c.toInt < 256) → Road.Ary Z h d .byte ((cs.take k).map Road.byt ++ List.replicate r (.int 0)) → Road.Go l Z a0 consts_1 n0 false bCmp5 D (fun v h2 _ => ∃ x : Int32, v = some (.int x) ∧ Keep h0 h2 [d] ∧ (((∀ c ∈ cs, 0 ≤ c.toInt ∧ c.toInt < 256) ∧ x = (Nat.toInt32 cs.length) ∧ Road.Ary Z h2 d .byte (cs.map Road.byt)) ∨ (∃ (k : Nat) (hk : k < cs.length), x = Nat.toInt32 k ∧ 255 < cs[k].toInt))) h σ 0 0 3 #[.val (.ref b), .val (.int (Nat.toInt32 k)), .val (.ref d), .val (.int (Nat.toInt32 k)), .val (.int (Nat.toInt32 cs.length)), .val (.int (Nat.toInt32 k)), w6] [] := by
    intro r
    induction r with
    | zero =>
      intro k hk h w6 hw6 K1 hL A1
      have hk' : k = cs.length := by omega
      subst hk'
      refine Road.iload 3 bCmp5_d3 rfl ?_
      refine Road.iload 5 bCmp5_d5 rfl ?_
      refine Road.icmp_ge 7 44 bCmp5_d7 rfl (fun hc7 => ?_) (fun q => absurd q Int32.lt_irrefl)
      refine Road.iload 44 bCmp5_d44 rfl ?_
      exact Road.iretI 46 bCmp5_d46 rfl (by decide) (by decide) (fun σ' m => ⟨_, rfl, K1, Or.inl ⟨by rw [List.take_length] at hL; exact hL, rfl, by simpa using A1⟩⟩)
    | succ r ih =>
      intro k hk h w6 hw6 K1 hL A1
      have hk' : k < cs.length := by omega
      have hc := h16 _ (List.getElem_mem hk')
      have A2 := A.keep K1 (ninS hbd nin0)
      refine Road.iload 3 bCmp5_d3 rfl ?_
      refine Road.iload 5 bCmp5_d5 rfl ?_
      refine Road.icmp_ge 7 44 bCmp5_d7 rfl (fun q => absurd q (by rw [Decidable.not_not, Road.lt32 (by omega) hn]; omega)) (fun hc7 => ?_)
      refine Road.aloadN 10 bCmp5_d10 rfl ?_
      refine Road.iloadN 11 bCmp5_d11 rfl ?_
      refine Road.caload 12 k bCmp5_d12 A2 (Road.n32 (by omega)) (by rw [List.getElem?_map, List.getElem?_eq_getElem hk']; rfl) ?_
      refine Road.istore 13 #[.val (.ref b), .val (.int (Nat.toInt32 k)), .val (.ref d), .val (.int (Nat.toInt32 k)), .val (.int (Nat.toInt32 cs.length)), .val (.int (Nat.toInt32 k)), .val (.int cs[k])] bCmp5_d13 (by rcases hw6 with rfl | ⟨x, rfl⟩ <;> rfl) ?_
      refine Road.iload 15 bCmp5_d15 rfl ?_
      refine Road.sipush 17 (255 : Int32) bCmp5_d17 rfl ?_
      refine Road.icmp_le 20 26 bCmp5_d20 rfl (fun hc20 => ?_) (fun hc20 => ?_)
      · skip
        rw [Int32.lt_iff_toInt_lt, show (255 : Int32).toInt = 255 from rfl] at hc20
        refine Road.aloadN 26 bCmp5_d26 rfl ?_
        refine Road.iloadN 27 bCmp5_d27 rfl ?_
        refine Road.iload 28 bCmp5_d28 rfl ?_
        refine Road.i2b 30 bCmp5_d30 ?_
        refine Road.bastore 31 k (Int8.toInt32 (Int32.toInt8 cs[k])) bCmp5_d31 A1 (Road.n32 (by omega)) (by simp; omega) (Road.nar_byte _) sd ?_
        intro h_1 K_2 A_3
        replace A1 := A_3
        refine Road.iinc 32 (1) #[.val (.ref b), .val (.int ((Nat.toInt32 k) + 1)), .val (.ref d), .val (.int (Nat.toInt32 k)), .val (.int (Nat.toInt32 cs.length)), .val (.int (Nat.toInt32 k)), .val (.int cs[k])] bCmp5_d32 rfl rfl rfl ?_
        refine Road.iinc 35 (1) #[.val (.ref b), .val (.int ((Nat.toInt32 k) + 1)), .val (.ref d), .val (.int ((Nat.toInt32 k) + 1)), .val (.int (Nat.toInt32 cs.length)), .val (.int (Nat.toInt32 k)), .val (.int cs[k])] bCmp5_d35 rfl rfl rfl ?_
        refine Road.iinc 38 (1) #[.val (.ref b), .val (.int ((Nat.toInt32 k) + 1)), .val (.ref d), .val (.int ((Nat.toInt32 k) + 1)), .val (.int (Nat.toInt32 cs.length)), .val (.int ((Nat.toInt32 k) + 1)), .val (.int cs[k])] bCmp5_d38 rfl rfl rfl ?_
        refine Road.goto 41 3 bCmp5_d41 rfl ?_
        rw [show (Value.int (Int8.toInt32 (Int32.toInt8 cs[k]))) = Road.byt cs[k] from rfl, Road.set_mid] at A1
        have := ih (k + 1) (by omega) h_1 (.val (.int cs[k])) (Or.inr ⟨_, rfl⟩) (K1.trans K_2 (by simp)) (fun c q => by rw [List.take_succ_eq_append_getElem hk'] at q; exact (List.mem_append.mp q).elim (hL c) (fun q => by rw [List.mem_singleton.mp q]; omega)) A1
        rw [← Road.succ32] at this
        exact this
      · skip
        rw [Int32.lt_iff_toInt_lt, show (255 : Int32).toInt = 255 from rfl] at hc20
        refine Road.iload 23 bCmp5_d23 rfl ?_
        exact Road.iretI 25 bCmp5_d25 rfl (by decide) (by decide) (fun σ' m => ⟨_, rfl, K1, Or.inr ⟨k, hk', rfl, hc20⟩⟩)
  exact loop cs.length 0 (by omega) h0 .unset (Or.inl rfl) (Keep.refl _ _) (by simp) (by simpa using Dd)
def bNbl : Road.Bdy := (⟨"java/lang/StringUTF16", "newBytesLength", "(I)I"⟩, jdk_52_method_3_code, 1, (some .int), { frames := 0, cells := 0, slots := 0, locals := 0 })
theorem bNbl_d0 : decode bNbl.bs 0 = .ok (.iload_n 0, 1) := by decide +kernel
theorem bNbl_d1 : decode bNbl.bs 1 = .ok (.ifCond .ge 11, 3) := by decide +kernel
theorem bNbl_d4 : decode bNbl.bs 4 = .ok (.new 17, 3) := by decide +kernel
theorem bNbl_d7 : decode bNbl.bs 7 = .ok (.dup, 1) := by decide +kernel
theorem bNbl_d8 : decode bNbl.bs 8 = .ok (.invokespecial 19, 3) := by decide +kernel
theorem bNbl_d11 : decode bNbl.bs 11 = .ok (.athrow, 1) := by decide +kernel
theorem bNbl_d12 : decode bNbl.bs 12 = .ok (.iload_n 0, 1) := by decide +kernel
theorem bNbl_d13 : decode bNbl.bs 13 = .ok (.ldc 20, 2) := by decide +kernel
theorem bNbl_d15 : decode bNbl.bs 15 = .ok (.if_icmp .lt 40, 3) := by decide +kernel
theorem bNbl_d18 : decode bNbl.bs 18 = .ok (.new 21, 3) := by decide +kernel
theorem bNbl_d21 : decode bNbl.bs 21 = .ok (.dup, 1) := by decide +kernel
theorem bNbl_d22 : decode bNbl.bs 22 = .ok (.new 23, 3) := by decide +kernel
theorem bNbl_d25 : decode bNbl.bs 25 = .ok (.dup, 1) := by decide +kernel
theorem bNbl_d26 : decode bNbl.bs 26 = .ok (.invokespecial 25, 3) := by decide +kernel
theorem bNbl_d29 : decode bNbl.bs 29 = .ok (.ldc 26, 2) := by decide +kernel
theorem bNbl_d31 : decode bNbl.bs 31 = .ok (.invokevirtual 28, 3) := by decide +kernel
theorem bNbl_d34 : decode bNbl.bs 34 = .ok (.iload_n 0, 1) := by decide +kernel
theorem bNbl_d35 : decode bNbl.bs 35 = .ok (.invokevirtual 32, 3) := by decide +kernel
theorem bNbl_d38 : decode bNbl.bs 38 = .ok (.ldc 35, 2) := by decide +kernel
theorem bNbl_d40 : decode bNbl.bs 40 = .ok (.invokevirtual 28, 3) := by decide +kernel
theorem bNbl_d43 : decode bNbl.bs 43 = .ok (.ldc 20, 2) := by decide +kernel
theorem bNbl_d45 : decode bNbl.bs 45 = .ok (.invokevirtual 32, 3) := by decide +kernel
theorem bNbl_d48 : decode bNbl.bs 48 = .ok (.invokevirtual 37, 3) := by decide +kernel
theorem bNbl_d51 : decode bNbl.bs 51 = .ok (.invokespecial 41, 3) := by decide +kernel
theorem bNbl_d54 : decode bNbl.bs 54 = .ok (.athrow, 1) := by decide +kernel
theorem bNbl_d55 : decode bNbl.bs 55 = .ok (.iload_n 0, 1) := by decide +kernel
theorem bNbl_d56 : decode bNbl.bs 56 = .ok (.iconst 1, 1) := by decide +kernel
theorem bNbl_d57 : decode bNbl.bs 57 = .ok (.ishl, 1) := by decide +kernel
theorem bNbl_d58 : decode bNbl.bs 58 = .ok (.ireturn, 1) := by decide +kernel
theorem bNbl_pd : parseMethodDescriptor "(I)I" = some ⟨[.int], (some .int)⟩ := by decide +kernel
theorem bNbl_pn : plainFor bNbl.y = true := plainFor_of_name (show plainName "java/lang/StringUTF16" = true from by first | (simp [plainName, overriddenIn]; done) | decide +kernel)
theorem cNbl (l : Launch) (Z : State) (a0 : Array Value) (hw : ∀ d ∈ tables_1, d.before a0 Z = true) (n0 : Nat) (hEW : EW Z a0 consts_1) (n : Nat) (h0 : Heap) (σ : Addr → Prop) (hn : n < 1073741823) :
    Road.Con l Z consts_1 n0 false bNbl [] σ #[(.int (Nat.toInt32 n))] h0 (fun v h2 _ => v = some (.int (Nat.toInt32 (2 * n))) ∧ h0 = h2) := by
  refine Road.Con.of bNbl_pn hEW #[.val (.int (Nat.toInt32 n))] (fun m => Road.ent (Road.laid1 rfl Road.laid0) (k := 0) rfl rfl) ?_
  intro D hD
  refine Road.iloadN 0 bNbl_d0 rfl ?_
  refine Road.if_ge 1 12 bNbl_d1 rfl (fun hc1 => ?_) (fun q => absurd q (Road.ix_of (Road.n32 (by omega))).1)
  refine Road.iloadN 12 bNbl_d12 rfl ?_
  refine Road.ldcI 13 bNbl_d13 (wI hw 84 rfl) ?_
  refine Road.icmp_lt 15 55 bNbl_d15 rfl (fun hc15 => ?_) (fun q => absurd q (by rw [Decidable.not_not, show (1073741823 : Int32) = Nat.toInt32 1073741823 from rfl, Road.lt32 (by omega) (by omega)]; omega))
  refine Road.iloadN 55 bNbl_d55 rfl ?_
  refine Road.iconst 56 (1 : Int32) bNbl_d56 rfl ?_
  refine Road.ishl 57 bNbl_d57 ?_
  exact Road.iretI 58 bNbl_d58 rfl (by decide) (by decide) (fun σ' m => ⟨by rw [Road.shl1], rfl⟩)
def bNbf : Road.Bdy := (⟨"java/lang/StringUTF16", "newBytesFor", "(I)[B"⟩, jdk_52_method_2_code, 1, (some (.array .byte)), { frames := 1, cells := 1, slots := 30, locals := 12 })
theorem bNbf_d0 : decode bNbf.bs 0 = .ok (.iload_n 0, 1) := by decide +kernel
theorem bNbf_d1 : decode bNbf.bs 1 = .ok (.invokestatic 11, 3) := by decide +kernel
theorem bNbf_d4 : decode bNbf.bs 4 = .ok (.newarray .byte, 2) := by decide +kernel
theorem bNbf_d6 : decode bNbf.bs 6 = .ok (.areturn, 1) := by decide +kernel
theorem bNbf_pd : parseMethodDescriptor "(I)[B" = some ⟨[.int], (some (.array .byte))⟩ := by decide +kernel
theorem bNbf_pn : plainFor bNbf.y = true := plainFor_of_name (show plainName "java/lang/StringUTF16" = true from by first | (simp [plainName, overriddenIn]; done) | decide +kernel)
theorem cNbf (l : Launch) (Z : State) (a0 : Array Value) (hw : ∀ d ∈ tables_1, d.before a0 Z = true) (n0 : Nat) (hEW : EW Z a0 consts_1) (n : Nat) (h0 : Heap) (σ : Addr → Prop) (hn : n ≤ 15) :
    Road.Con l Z consts_1 n0 false bNbf [] σ #[(.int (Nat.toInt32 n))] h0 (fun v h2 s2 => ∃ d, v = some (.ref d) ∧ h0.size ≤ d ∧ Keep h0 h2 [] ∧ s2 d ∧ Road.Ary Z h2 d .byte (List.replicate (2 * n) (.int 0))) := by
  refine Road.Con.of bNbf_pn hEW #[.val (.int (Nat.toInt32 n))] (fun m => Road.ent (Road.laid1 rfl Road.laid0) (k := 0) rfl rfl) ?_
  intro D hD
  refine Road.iloadN 0 bNbf_d0 rfl ?_
  refine Road.callS (B' := bNbl) 1 (argsL := [(.int (Nat.toInt32 n))]) (rest := []) 0 bNbf_d1 (wI hw 81 rfl) (wI hw 82 rfl) (wI hw 70 rfl) (wI hw 83 rfl) (by decide) (cNbl l Z a0 hw n0 hEW n h0 σ (by omega)) (lenOf bNbl_pd rfl) rfl rfl rfl (by decide) (by decide) (ce' := 0) (sl' := 0) rfl rfl (by decide) (by decide) ?_
  rintro _ h_1 σ_2 m_3 ⟨rfl, rfl⟩
  refine Road.Go.weaken (σ' := σ) m_3 (Nat.le_refl _) (Nat.le_refl _) ?_
  refine Road.newarray 4 .byte (2 * n) 30 bNbf_d4 rfl (wI hw 15 rfl) (Road.n32 (by omega)) (by omega) (by decide) (ce' := 1) (sl' := 30) rfl rfl (by decide) (by decide) ?_
  intro d h_5 σ_6 g_7 K_8 lt_9 m_10 s_11 Ad
  exact Road.aret 6 bNbf_d6 (t := (.array .byte)) rfl rfl rfl (by decide) (by decide) (fun σ' m => ⟨d, rfl, Nat.le_of_eq g_7.symm, K_8, m _ s_11, Ad⟩)
def bTob : Road.Bdy := (⟨"java/lang/StringUTF16", "toBytes", "([CII)[B"⟩, jdk_52_method_14_code, 5, (some (.array .byte)), { frames := 2, cells := 1, slots := 30, locals := 24 })
theorem bTob_d0 : decode bTob.bs 0 = .ok (.iload_n 2, 1) := by decide +kernel
theorem bTob_d1 : decode bTob.bs 1 = .ok (.invokestatic 107, 3) := by decide +kernel
theorem bTob_d4 : decode bTob.bs 4 = .ok (.astore_n 3, 1) := by decide +kernel
theorem bTob_d5 : decode bTob.bs 5 = .ok (.iconst 0, 1) := by decide +kernel
theorem bTob_d6 : decode bTob.bs 6 = .ok (.istore 4, 2) := by decide +kernel
theorem bTob_d8 : decode bTob.bs 8 = .ok (.iload 4, 2) := by decide +kernel
theorem bTob_d10 : decode bTob.bs 10 = .ok (.iload_n 2, 1) := by decide +kernel
theorem bTob_d11 : decode bTob.bs 11 = .ok (.if_icmp .ge 21, 3) := by decide +kernel
theorem bTob_d14 : decode bTob.bs 14 = .ok (.aload_n 3, 1) := by decide +kernel
theorem bTob_d15 : decode bTob.bs 15 = .ok (.iload 4, 2) := by decide +kernel
theorem bTob_d17 : decode bTob.bs 17 = .ok (.aload_n 0, 1) := by decide +kernel
theorem bTob_d18 : decode bTob.bs 18 = .ok (.iload_n 1, 1) := by decide +kernel
theorem bTob_d19 : decode bTob.bs 19 = .ok (.caload, 1) := by decide +kernel
theorem bTob_d20 : decode bTob.bs 20 = .ok (.invokestatic 111, 3) := by decide +kernel
theorem bTob_d23 : decode bTob.bs 23 = .ok (.iinc 1 1, 3) := by decide +kernel
theorem bTob_d26 : decode bTob.bs 26 = .ok (.iinc 4 1, 3) := by decide +kernel
theorem bTob_d29 : decode bTob.bs 29 = .ok (.goto (-21), 3) := by decide +kernel
theorem bTob_d32 : decode bTob.bs 32 = .ok (.aload_n 3, 1) := by decide +kernel
theorem bTob_d33 : decode bTob.bs 33 = .ok (.areturn, 1) := by decide +kernel
theorem bTob_pd : parseMethodDescriptor "([CII)[B" = some ⟨[(.array .char), .int, .int], (some (.array .byte))⟩ := by decide +kernel
theorem bTob_pn : plainFor bTob.y = true := plainFor_of_name (show plainName "java/lang/StringUTF16" = true from by first | (simp [plainName, overriddenIn]; done) | decide +kernel)
theorem cTob (l : Launch) (Z : State) (a0 : Array Value) (hw : ∀ d ∈ tables_1, d.before a0 Z = true) (n0 : Nat) (hEW : EW Z a0 consts_1) (b : Addr) (cs : List Int32) (h0 : Heap) (σ : Addr → Prop) (A : Road.Ary Z h0 b .char (cs.map .int)) (hcap : cs.length ≤ 15) (H0 : Sta Z Z.heap "java/lang/StringUTF16" "$assertionsDisabled" "Z" (.int 1)) (H1 : Sta Z Z.heap "java/lang/StringUTF16" "HI_BYTE_SHIFT" "I" (.int 0)) (H2 : Sta Z Z.heap "java/lang/StringUTF16" "LO_BYTE_SHIFT" "I" (.int 8)) :
    Road.Con l Z consts_1 n0 false bTob [] σ #[(.ref b), (.int (0 : Int32)), (.int (Nat.toInt32 cs.length))] h0 (fun v h2 s2 => ∃ d, v = some (.ref d) ∧ h0.size ≤ d ∧ Keep h0 h2 [] ∧ s2 d ∧ Road.Ary Z h2 d .byte (Road.utf cs)) := by
  refine Road.Con.of bTob_pn hEW #[.val (.ref b), .val (.int (0 : Int32)), .val (.int (Nat.toInt32 cs.length)), .unset, .unset] (fun m => Road.ent (Road.laid1 rfl (Road.laid1 rfl (Road.laid1 rfl Road.laid0))) (k := 2) rfl rfl) ?_
  intro D hD
  refine Road.iloadN 0 bTob_d0 rfl ?_
  refine Road.callS (B' := bNbf) 1 (argsL := [(.int (Nat.toInt32 cs.length))]) (rest := []) 0 bTob_d1 (wI hw 78 rfl) (wI hw 79 rfl) (wI hw 70 rfl) (wI hw 80 rfl) (by decide) (cNbf l Z a0 hw n0 hEW cs.length h0 σ hcap) (lenOf bNbf_pd rfl) rfl rfl rfl (by decide) (by decide) (ce' := 1) (sl' := 30) rfl rfl (by decide) (by decide) ?_
  rintro _ h_1 σ_2 m_3 ⟨d, rfl, gd, K_4, sd, Ad⟩
  have ne_b_d : b ≠ d := Nat.ne_of_lt (Nat.lt_of_lt_of_le A.lt gd)
  replace A := A.keep K_4 nin0
  refine Road.astoreN 4 #[.val (.ref b), .val (.int (0 : Int32)), .val (.int (Nat.toInt32 cs.length)), .val (.ref d), .unset] bTob_d4 rfl ?_
  refine Road.iconst 5 (0 : Int32) bTob_d5 rfl ?_
  refine Road.istore 6 #[.val (.ref b), .val (.int (0 : Int32)), .val (.int (Nat.toInt32 cs.length)), .val (.ref d), .val (.int (0 : Int32))] bTob_d6 rfl ?_
  have loop : ∀ r k, k + r = cs.length → ∀ (h : Heap) (τ : Addr → Prop), τ d → Keep h0 h [] → Road.Ary Z h b .char (cs.map .int) → Road.Ary Z h d .byte (Road.utf (cs.take k) ++ List.replicate (2 * r) (.int 0)) → Road.Go l Z a0 consts_1 n0 false bTob D (fun v h2 s2 => ∃ d, v = some (.ref d) ∧ h0.size ≤ d ∧ Keep h0 h2 [] ∧ s2 d ∧ Road.Ary Z h2 d .byte (Road.utf cs)) h τ 1 30 8 #[.val (.ref b), .val (.int (Nat.toInt32 k)), .val (.int (Nat.toInt32 cs.length)), .val (.ref d), .val (.int (Nat.toInt32 k))] [] := by
    intro r
    induction r with
    | zero =>
      intro k hk h τ td K A1 A2
      have hk' : k = cs.length := by omega
      subst hk'
      refine Road.iload 8 bTob_d8 rfl ?_
      refine Road.iloadN 10 bTob_d10 rfl ?_
      refine Road.icmp_ge 11 32 bTob_d11 rfl (fun hc11 => ?_) (fun q => absurd q Int32.lt_irrefl)
      refine Road.aloadN 32 bTob_d32 rfl ?_
      rw [List.take_length, Nat.mul_zero, List.replicate_zero, List.append_nil] at A2
      exact Road.aret 33 bTob_d33 (t := (.array .byte)) rfl rfl rfl (by decide) (by decide) (fun σ' m => ⟨d, rfl, gd, K, m _ td, A2⟩)
    | succ r ih =>
      intro k hk h τ td K A1 A2
      have hk' : k < cs.length := by omega
      refine Road.iload 8 bTob_d8 rfl ?_
      refine Road.iloadN 10 bTob_d10 rfl ?_
      refine Road.icmp_ge 11 32 bTob_d11 rfl (fun q => absurd q (by rw [Decidable.not_not, Road.lt32 (by omega) (by omega)]; omega)) (fun hc11 => ?_)
      refine Road.aloadN 14 bTob_d14 rfl ?_
      refine Road.iload 15 bTob_d15 rfl ?_
      refine Road.aloadN 17 bTob_d17 rfl ?_
      refine Road.iloadN 18 bTob_d18 rfl ?_
      refine Road.caload 19 k bTob_d19 A1 (Road.n32 (by omega)) (by rw [List.getElem?_map, List.getElem?_eq_getElem hk']; rfl) ?_
      refine Road.callS (B' := bPch) 20 (argsL := [(.ref d), (.int (Nat.toInt32 k)), (.int cs[k])]) (rest := []) 0 bTob_d20 (wI hw 85 rfl) (wI hw 86 rfl) (wI hw 70 rfl) (wI hw 87 rfl) (by decide) (cPch l Z a0 hw n0 hEW d _ k cs[k] h τ A2 (by rw [List.length_append, Road.utf_len, List.length_take, List.length_replicate]; omega) td H0 H1 H2) (lenOf bPch_pd rfl) rfl rfl rfl (by decide) (by decide) (ce' := 1) (sl' := 30) rfl rfl (by decide) (by decide) ?_
      rintro _ h_5 σ_6 m_7 ⟨rfl, K_8, A3⟩
      replace A1 := A1.keep K_8 (ninS ne_b_d nin0)
      replace td := m_7 _ td
      refine Road.iinc 23 (1) #[.val (.ref b), .val (.int ((Nat.toInt32 k) + 1)), .val (.int (Nat.toInt32 cs.length)), .val (.ref d), .val (.int (Nat.toInt32 k))] bTob_d23 rfl rfl rfl ?_
      refine Road.iinc 26 (1) #[.val (.ref b), .val (.int ((Nat.toInt32 k) + 1)), .val (.int (Nat.toInt32 cs.length)), .val (.ref d), .val (.int ((Nat.toInt32 k) + 1))] bTob_d26 rfl rfl rfl ?_
      refine Road.goto 29 8 bTob_d29 rfl ?_
      rw [Road.utf_put _ _ _ hk'] at A3
      have := ih (k + 1) (by omega) h_5 σ_6 td (K.trans K_8 (by intro z hz; cases List.mem_singleton.mp hz; exact Or.inr gd)) A1 A3
      rw [← Road.succ32] at this
      exact this
  exact loop cs.length 0 (by omega) h_1 σ_2 sd K_4 A (by simpa [Road.utf] using Ad)
def bCmp4 : Road.Bdy := (⟨"java/lang/StringUTF16", "compress", "([CII)[B"⟩, jdk_52_method_16_code, 6, (some (.array .byte)), { frames := 3, cells := 2, slots := 45, locals := 40 })
theorem bCmp4_d0 : decode bCmp4.bs 0 = .ok (.iload_n 2, 1) := by decide +kernel
theorem bCmp4_d1 : decode bCmp4.bs 1 = .ok (.newarray .byte, 2) := by decide +kernel
theorem bCmp4_d3 : decode bCmp4.bs 3 = .ok (.astore_n 3, 1) := by decide +kernel
theorem bCmp4_d4 : decode bCmp4.bs 4 = .ok (.aload_n 0, 1) := by decide +kernel
theorem bCmp4_d5 : decode bCmp4.bs 5 = .ok (.iload_n 1, 1) := by decide +kernel
theorem bCmp4_d6 : decode bCmp4.bs 6 = .ok (.aload_n 3, 1) := by decide +kernel
theorem bCmp4_d7 : decode bCmp4.bs 7 = .ok (.iconst 0, 1) := by decide +kernel
theorem bCmp4_d8 : decode bCmp4.bs 8 = .ok (.iload_n 2, 1) := by decide +kernel
theorem bCmp4_d9 : decode bCmp4.bs 9 = .ok (.invokestatic 115, 3) := by decide +kernel
theorem bCmp4_d12 : decode bCmp4.bs 12 = .ok (.istore 4, 2) := by decide +kernel
theorem bCmp4_d14 : decode bCmp4.bs 14 = .ok (.iload 4, 2) := by decide +kernel
theorem bCmp4_d16 : decode bCmp4.bs 16 = .ok (.iload_n 2, 1) := by decide +kernel
theorem bCmp4_d17 : decode bCmp4.bs 17 = .ok (.if_icmp .eq 40, 3) := by decide +kernel
theorem bCmp4_d20 : decode bCmp4.bs 20 = .ok (.aload_n 0, 1) := by decide +kernel
theorem bCmp4_d21 : decode bCmp4.bs 21 = .ok (.iload_n 1, 1) := by decide +kernel
theorem bCmp4_d22 : decode bCmp4.bs 22 = .ok (.iload_n 2, 1) := by decide +kernel
theorem bCmp4_d23 : decode bCmp4.bs 23 = .ok (.invokestatic 119, 3) := by decide +kernel
theorem bCmp4_d26 : decode bCmp4.bs 26 = .ok (.astore 5, 2) := by decide +kernel
theorem bCmp4_d28 : decode bCmp4.bs 28 = .ok (.aload 5, 2) := by decide +kernel
theorem bCmp4_d30 : decode bCmp4.bs 30 = .ok (.iload 4, 2) := by decide +kernel
theorem bCmp4_d32 : decode bCmp4.bs 32 = .ok (.invokestatic 71, 3) := by decide +kernel
theorem bCmp4_d35 : decode bCmp4.bs 35 = .ok (.sipush 255, 3) := by decide +kernel
theorem bCmp4_d38 : decode bCmp4.bs 38 = .ok (.if_icmp .gt 16, 3) := by decide +kernel
theorem bCmp4_d41 : decode bCmp4.bs 41 = .ok (.aload 5, 2) := by decide +kernel
theorem bCmp4_d43 : decode bCmp4.bs 43 = .ok (.iconst 0, 1) := by decide +kernel
theorem bCmp4_d44 : decode bCmp4.bs 44 = .ok (.aload_n 3, 1) := by decide +kernel
theorem bCmp4_d45 : decode bCmp4.bs 45 = .ok (.iconst 0, 1) := by decide +kernel
theorem bCmp4_d46 : decode bCmp4.bs 46 = .ok (.iload_n 2, 1) := by decide +kernel
theorem bCmp4_d47 : decode bCmp4.bs 47 = .ok (.invokestatic 123, 3) := by decide +kernel
theorem bCmp4_d50 : decode bCmp4.bs 50 = .ok (.iload_n 2, 1) := by decide +kernel
theorem bCmp4_d51 : decode bCmp4.bs 51 = .ok (.if_icmp .eq 6, 3) := by decide +kernel
theorem bCmp4_d54 : decode bCmp4.bs 54 = .ok (.aload 5, 2) := by decide +kernel
theorem bCmp4_d56 : decode bCmp4.bs 56 = .ok (.areturn, 1) := by decide +kernel
theorem bCmp4_d57 : decode bCmp4.bs 57 = .ok (.aload_n 3, 1) := by decide +kernel
theorem bCmp4_d58 : decode bCmp4.bs 58 = .ok (.areturn, 1) := by decide +kernel
theorem bCmp4_pd : parseMethodDescriptor "([CII)[B" = some ⟨[(.array .char), .int, .int], (some (.array .byte))⟩ := by decide +kernel
theorem bCmp4_pn : plainFor bCmp4.y = true := plainFor_of_name (show plainName "java/lang/StringUTF16" = true from by first | (simp [plainName, overriddenIn]; done) | decide +kernel)
theorem cCmp4 (l : Launch) (Z : State) (a0 : Array Value) (hw : ∀ d ∈ tables_1, d.before a0 Z = true) (n0 : Nat) (hEW : EW Z a0 consts_1) (b : Addr) (cs : List Int32) (h0 : Heap) (σ : Addr → Prop) (A : Road.Ary Z h0 b .char (cs.map .int)) (hcap : cs.length ≤ 15) (h16 : ∀ c ∈ cs, 0 ≤ c.toInt ∧ c.toInt < 65536) (H0 : Sta Z Z.heap "java/lang/StringUTF16" "$assertionsDisabled" "Z" (.int 1)) (H1 : Sta Z Z.heap "java/lang/StringUTF16" "HI_BYTE_SHIFT" "I" (.int 0)) (H2 : Sta Z Z.heap "java/lang/StringUTF16" "LO_BYTE_SHIFT" "I" (.int 8)) :
    Road.Con l Z consts_1 n0 false bCmp4 [] σ #[(.ref b), (.int (0 : Int32)), (.int (Nat.toInt32 cs.length))] h0 (fun v h2 s2 => ∃ d, v = some (.ref d) ∧ h0.size ≤ d ∧ Keep h0 h2 [] ∧ s2 d ∧ (((∀ c ∈ cs, 0 ≤ c.toInt ∧ c.toInt < 256) ∧ Road.Ary Z h2 d .byte (cs.map Road.byt)) ∨ ((∃ k, k < cs.length) ∧ Road.Ary Z h2 d .byte (Road.utf cs)))) := by
  refine Road.Con.of bCmp4_pn hEW #[.val (.ref b), .val (.int (0 : Int32)), .val (.int (Nat.toInt32 cs.length)), .unset, .unset, .unset] (fun m => Road.ent (Road.laid1 rfl (Road.laid1 rfl (Road.laid1 rfl Road.laid0))) (k := 3) rfl rfl) ?_
  intro D hD
  have KT := Keep.refl h0 ([] : List Addr)
  refine Road.iloadN 0 bCmp4_d0 rfl ?_
  refine Road.newarray 1 .byte cs.length 15 bCmp4_d1 rfl (wI hw 15 rfl) (Road.n32 (by omega)) hcap (by decide) (ce' := 1) (sl' := 15) rfl rfl (by decide) (by decide) ?_
  intro d h_1 σ_2 g_3 K_4 lt_5 m_6 s_7 Ad
  have gk_d := Nat.le_trans KT.1 (Nat.le_of_eq g_3.symm)
  have ne_b_d : b ≠ d := Nat.ne_of_lt (Nat.lt_of_lt_of_le A.lt (Nat.le_of_eq g_3.symm))
  replace KT := KT.trans K_4 (by simp)
  replace A := A.keep K_4 nin0
  refine Road.astoreN 3 #[.val (.ref b), .val (.int (0 : Int32)), .val (.int (Nat.toInt32 cs.length)), .val (.ref d), .unset, .unset] bCmp4_d3 rfl ?_
  refine Road.aloadN 4 bCmp4_d4 rfl ?_
  refine Road.iloadN 5 bCmp4_d5 rfl ?_
  refine Road.aloadN 6 bCmp4_d6 rfl ?_
  refine Road.iconst 7 (0 : Int32) bCmp4_d7 rfl ?_
  refine Road.iloadN 8 bCmp4_d8 rfl ?_
  refine Road.callS (B' := bCmp5) 9 (argsL := [(.ref b), (.int (0 : Int32)), (.ref d), (.int (0 : Int32)), (.int (Nat.toInt32 cs.length))]) (rest := []) 0 bCmp4_d9 (wI hw 72 rfl) (wI hw 73 rfl) (wI hw 70 rfl) (wI hw 74 rfl) (by decide) (cCmp5 l Z a0 hw n0 hEW b d cs h_1 σ_2 A Ad h16 ne_b_d s_7) (lenOf bCmp5_pd rfl) rfl rfl rfl (by decide) (by decide) (ce' := 1) (sl' := 15) rfl rfl (by decide) (by decide) ?_
  rintro _ h_8 σ_9 m_10 ⟨x, rfl, K_11, hq⟩
  replace KT := KT.trans K_11 (by intro z hz; simp only [List.mem_cons, List.not_mem_nil, or_false] at hz; rcases hz with rfl <;> first | (exact Or.inr (by assumption)) | (simp; done))
  replace A := A.keep K_11 (ninS ne_b_d nin0)
  replace s_7 := m_10 _ s_7
  rcases hq with ⟨hlat, rfl, Ad2⟩ | ⟨k, hk, rfl, hbig⟩
  · skip
    refine Road.istore 12 #[.val (.ref b), .val (.int (0 : Int32)), .val (.int (Nat.toInt32 cs.length)), .val (.ref d), .val (.int (Nat.toInt32 cs.length)), .unset] bCmp4_d12 rfl ?_
    refine Road.iload 14 bCmp4_d14 rfl ?_
    refine Road.iloadN 16 bCmp4_d16 rfl ?_
    refine Road.icmp_eq 17 57 bCmp4_d17 rfl (fun hc17 => ?_) (fun q => absurd q (by simp))
    refine Road.aloadN 57 bCmp4_d57 rfl ?_
    exact Road.aret 58 bCmp4_d58 (t := (.array .byte)) rfl rfl rfl (by decide) (by decide) (fun σ' m => ⟨d, rfl, gk_d, KT, m _ s_7, Or.inl ⟨hlat, Ad2⟩⟩)
  · skip
    refine Road.istore 12 #[.val (.ref b), .val (.int (0 : Int32)), .val (.int (Nat.toInt32 cs.length)), .val (.ref d), .val (.int (Nat.toInt32 k)), .unset] bCmp4_d12 rfl ?_
    refine Road.iload 14 bCmp4_d14 rfl ?_
    refine Road.iloadN 16 bCmp4_d16 rfl ?_
    refine Road.icmp_eq 17 57 bCmp4_d17 rfl (fun q => absurd q (by rw [Road.eq32 (by omega) (by omega)]; omega)) (fun hc17 => ?_)
    refine Road.aloadN 20 bCmp4_d20 rfl ?_
    refine Road.iloadN 21 bCmp4_d21 rfl ?_
    refine Road.iloadN 22 bCmp4_d22 rfl ?_
    refine Road.callS (B' := bTob) 23 (argsL := [(.ref b), (.int (0 : Int32)), (.int (Nat.toInt32 cs.length))]) (rest := []) 0 bCmp4_d23 (wI hw 75 rfl) (wI hw 76 rfl) (wI hw 70 rfl) (wI hw 77 rfl) (by decide) (cTob l Z a0 hw n0 hEW b cs h_8 σ_9 A hcap H0 H1 H2) (lenOf bTob_pd rfl) rfl rfl rfl (by decide) (by decide) (ce' := 2) (sl' := 45) rfl rfl (by decide) (by decide) ?_
    rintro _ h_13 σ_14 m_15 ⟨e, rfl, ge, K_16, se, Ae⟩
    have gk_e := Nat.le_trans KT.1 ge
    have ne_b_e : b ≠ e := Nat.ne_of_lt (Nat.lt_of_lt_of_le A.lt ge)
    replace KT := KT.trans K_16 (by simp)
    replace A := A.keep K_16 nin0
    replace s_7 := m_15 _ s_7
    refine Road.astore 26 #[.val (.ref b), .val (.int (0 : Int32)), .val (.int (Nat.toInt32 cs.length)), .val (.ref d), .val (.int (Nat.toInt32 k)), .val (.ref e)] bCmp4_d26 rfl ?_
    refine Road.aload 28 bCmp4_d28 rfl ?_
    refine Road.iload 30 bCmp4_d30 rfl ?_
    refine Road.callS (B' := bGch16) 32 (argsL := [(.ref e), (.int (Nat.toInt32 k))]) (rest := []) 0 bCmp4_d32 (wI hw 91 rfl) (wI hw 92 rfl) (wI hw 70 rfl) (wI hw 93 rfl) (by decide) (cGch16 l Z a0 hw n0 hEW e cs k h_13 σ_14 Ae hk h16 H0 H1 H2) (lenOf bGch16_pd rfl) rfl rfl rfl (by decide) (by decide) (ce' := 2) (sl' := 45) rfl rfl (by decide) (by decide) ?_
    rintro _ h_18 σ_19 m_20 ⟨rfl, rfl⟩
    refine Road.Go.weaken (σ' := σ_14) m_20 (Nat.le_refl _) (Nat.le_refl _) ?_
    refine Road.sipush 35 (255 : Int32) bCmp4_d35 rfl ?_
    refine Road.icmp_gt 38 54 bCmp4_d38 rfl (fun hc38 => ?_) (fun q => absurd q (by rw [Decidable.not_not, Int32.lt_iff_toInt_lt, show (255 : Int32).toInt = 255 from rfl]; exact hbig))
    refine Road.aload 54 bCmp4_d54 rfl ?_
    exact Road.aret 56 bCmp4_d56 (t := (.array .byte)) rfl rfl rfl (by decide) (by decide) (fun σ' m => ⟨e, rfl, gk_e, KT, m _ se, Or.inr ⟨⟨k, hk⟩, Ae⟩⟩)
def bCfa : Road.Bdy := (⟨"java/lang/StringUTF16", "coderFromArrayLen", "([BI)B"⟩, jdk_52_method_15_code, 2, (some .byte), { frames := 0, cells := 0, slots := 0, locals := 0 })
theorem bCfa_d0 : decode bCfa.bs 0 = .ok (.iload_n 1, 1) := by decide +kernel
theorem bCfa_d1 : decode bCfa.bs 1 = .ok (.aload_n 0, 1) := by decide +kernel
theorem bCfa_d2 : decode bCfa.bs 2 = .ok (.arraylength, 1) := by decide +kernel
theorem bCfa_d3 : decode bCfa.bs 3 = .ok (.isub, 1) := by decide +kernel
theorem bCfa_d4 : decode bCfa.bs 4 = .ok (.bipush 31, 2) := by decide +kernel
theorem bCfa_d6 : decode bCfa.bs 6 = .ok (.iushr, 1) := by decide +kernel
theorem bCfa_d7 : decode bCfa.bs 7 = .ok (.i2b, 1) := by decide +kernel
theorem bCfa_d8 : decode bCfa.bs 8 = .ok (.ireturn, 1) := by decide +kernel
theorem bCfa_pd : parseMethodDescriptor "([BI)B" = some ⟨[(.array .byte), .int], (some .byte)⟩ := by decide +kernel
theorem bCfa_pn : plainFor bCfa.y = true := plainFor_of_name (show plainName "java/lang/StringUTF16" = true from by first | (simp [plainName, overriddenIn]; done) | decide +kernel)
theorem cCfa (l : Launch) (Z : State) (a0 : Array Value) (hw : ∀ d ∈ tables_1, d.before a0 Z = true) (n0 : Nat) (hEW : EW Z a0 consts_1) (d : Addr) (vs : List Value) (n : Nat) (h0 : Heap) (σ : Addr → Prop) (A : Road.Ary Z h0 d .byte vs) (hn : vs.length = n ∨ (vs.length = 2 * n ∧ 0 < n ∧ n < 1000)) :
    Road.Con l Z consts_1 n0 false bCfa [] σ #[(.ref d), (.int (Nat.toInt32 n))] h0 (fun v h2 _ => v = some (.int (if vs.length = n then 0 else 1)) ∧ h0 = h2) := by
  refine Road.Con.of bCfa_pn hEW #[.val (.ref d), .val (.int (Nat.toInt32 n))] (fun m => Road.ent (Road.laid1 rfl (Road.laid1 rfl Road.laid0)) (k := 0) rfl rfl) ?_
  intro D hD
  refine Road.iloadN 0 bCfa_d0 rfl ?_
  refine Road.aloadN 1 bCfa_d1 rfl ?_
  refine Road.alen 2 (Nat.toInt32 vs.length) bCfa_d2 A (n := vs.length) rfl rfl ?_
  refine Road.isub 3 bCfa_d3 ?_
  refine Road.bipush 4 (31 : Int32) bCfa_d4 rfl ?_
  refine Road.iushr 6 bCfa_d6 ?_
  refine Road.i2b 7 bCfa_d7 ?_
  refine Road.iret 8 (if vs.length = n then 0 else 1) bCfa_d8 (t := .byte) rfl (by simp) ?_ (by decide) (by decide) (fun σ' m => ⟨rfl, rfl⟩)
  rcases hn with hn | ⟨hn, h0n, hn2⟩
  · rw [if_pos hn, hn, Int32.sub_self]; rfl
  · rw [if_neg (by omega), hn]; exact Road.cfa16 h0n hn2
def bStr2 : Road.Bdy := (⟨"java/lang/String", "<init>", "([CIILjava/lang/Void;)V"⟩, jdk_42_method_149_code, 6, none, { frames := 4, cells := 4, slots := 45, locals := 58 })
theorem bStr2_d0 : decode bStr2.bs 0 = .ok (.aload_n 0, 1) := by decide +kernel
theorem bStr2_d1 : decode bStr2.bs 1 = .ok (.invokespecial 1, 3) := by decide +kernel
theorem bStr2_d4 : decode bStr2.bs 4 = .ok (.iload_n 3, 1) := by decide +kernel
theorem bStr2_d5 : decode bStr2.bs 5 = .ok (.ifCond .ne 22, 3) := by decide +kernel
theorem bStr2_d8 : decode bStr2.bs 8 = .ok (.aload_n 0, 1) := by decide +kernel
theorem bStr2_d9 : decode bStr2.bs 9 = .ok (.ldc 7, 2) := by decide +kernel
theorem bStr2_d11 : decode bStr2.bs 11 = .ok (.getfield 9, 3) := by decide +kernel
theorem bStr2_d14 : decode bStr2.bs 14 = .ok (.putfield 9, 3) := by decide +kernel
theorem bStr2_d17 : decode bStr2.bs 17 = .ok (.aload_n 0, 1) := by decide +kernel
theorem bStr2_d18 : decode bStr2.bs 18 = .ok (.ldc 7, 2) := by decide +kernel
theorem bStr2_d20 : decode bStr2.bs 20 = .ok (.getfield 15, 3) := by decide +kernel
theorem bStr2_d23 : decode bStr2.bs 23 = .ok (.putfield 15, 3) := by decide +kernel
theorem bStr2_d26 : decode bStr2.bs 26 = .ok (.return_, 1) := by decide +kernel
theorem bStr2_d27 : decode bStr2.bs 27 = .ok (.getstatic 38, 3) := by decide +kernel
theorem bStr2_d30 : decode bStr2.bs 30 = .ok (.ifCond .eq 28, 3) := by decide +kernel
theorem bStr2_d33 : decode bStr2.bs 33 = .ok (.aload_n 1, 1) := by decide +kernel
theorem bStr2_d34 : decode bStr2.bs 34 = .ok (.iload_n 2, 1) := by decide +kernel
theorem bStr2_d35 : decode bStr2.bs 35 = .ok (.iload_n 3, 1) := by decide +kernel
theorem bStr2_d36 : decode bStr2.bs 36 = .ok (.invokestatic 177, 3) := by decide +kernel
theorem bStr2_d39 : decode bStr2.bs 39 = .ok (.astore 5, 2) := by decide +kernel
theorem bStr2_d41 : decode bStr2.bs 41 = .ok (.aload_n 0, 1) := by decide +kernel
theorem bStr2_d42 : decode bStr2.bs 42 = .ok (.aload 5, 2) := by decide +kernel
theorem bStr2_d44 : decode bStr2.bs 44 = .ok (.iload_n 3, 1) := by decide +kernel
theorem bStr2_d45 : decode bStr2.bs 45 = .ok (.invokestatic 47, 3) := by decide +kernel
theorem bStr2_d48 : decode bStr2.bs 48 = .ok (.putfield 15, 3) := by decide +kernel
theorem bStr2_d51 : decode bStr2.bs 51 = .ok (.aload_n 0, 1) := by decide +kernel
theorem bStr2_d52 : decode bStr2.bs 52 = .ok (.aload 5, 2) := by decide +kernel
theorem bStr2_d54 : decode bStr2.bs 54 = .ok (.putfield 9, 3) := by decide +kernel
theorem bStr2_d57 : decode bStr2.bs 57 = .ok (.return_, 1) := by decide +kernel
theorem bStr2_d58 : decode bStr2.bs 58 = .ok (.aload_n 0, 1) := by decide +kernel
theorem bStr2_d59 : decode bStr2.bs 59 = .ok (.iconst 1, 1) := by decide +kernel
theorem bStr2_d60 : decode bStr2.bs 60 = .ok (.putfield 15, 3) := by decide +kernel
theorem bStr2_d63 : decode bStr2.bs 63 = .ok (.aload_n 0, 1) := by decide +kernel
theorem bStr2_d64 : decode bStr2.bs 64 = .ok (.aload_n 1, 1) := by decide +kernel
theorem bStr2_d65 : decode bStr2.bs 65 = .ok (.iload_n 2, 1) := by decide +kernel
theorem bStr2_d66 : decode bStr2.bs 66 = .ok (.iload_n 3, 1) := by decide +kernel
theorem bStr2_d67 : decode bStr2.bs 67 = .ok (.invokestatic 180, 3) := by decide +kernel
theorem bStr2_d70 : decode bStr2.bs 70 = .ok (.putfield 9, 3) := by decide +kernel
theorem bStr2_d73 : decode bStr2.bs 73 = .ok (.return_, 1) := by decide +kernel
theorem bStr2_pd : parseMethodDescriptor "([CIILjava/lang/Void;)V" = some ⟨[(.array .char), .int, .int, (.object "java/lang/Void")], none⟩ := by decide +kernel
theorem bStr2_pn : plainFor bStr2.y = true := plainFor_of_name (show plainName "java/lang/String" = true from by first | (simp [plainName, overriddenIn]; done) | decide +kernel)
theorem cStr2 (l : Launch) (Z : State) (a0 : Array Value) (hw : ∀ d ∈ tables_1, d.before a0 Z = true) (n0 : Nat) (hEW : EW Z a0 consts_1) (a b : Addr) (cs : List Int32) (h0 : Heap) (σ : Addr → Prop) (E : Exa Z h0 a Road.SN) (Fc : Fld Z h0 a Road.SN "coder" "B" (.int 0)) (Fv : Fld Z h0 a Road.SN "value" "[B" .null) (A : Road.Ary Z h0 b .char (cs.map .int)) (hcap : cs.length ≤ 15) (h16 : ∀ c ∈ cs, 0 ≤ c.toInt ∧ c.toInt < 65536) (sa : σ a) (cp : Int32) (Hc : Sta Z Z.heap Road.SN "COMPACT_STRINGS" "Z" (.int cp)) (hcp : ¬ cp = 0) (H0 : Sta Z Z.heap "java/lang/StringUTF16" "$assertionsDisabled" "Z" (.int 1)) (H1 : Sta Z Z.heap "java/lang/StringUTF16" "HI_BYTE_SHIFT" "I" (.int 0)) (H2 : Sta Z Z.heap "java/lang/StringUTF16" "LO_BYTE_SHIFT" "I" (.int 8)) :
    Road.Con l Z consts_1 n0 false bStr2 [] σ #[(.ref a), (.ref b), (.int (0 : Int32)), (.int (Nat.toInt32 cs.length)), .null] h0 (fun v h2 s2 => v = none ∧ Keep h0 h2 [a] ∧ ∃ d, Road.StrX Z h2 a d cs) := by
  have wS : ∀ d ∈ Bundle.stringAtoms, d.before a0 Z = true := fun d hd => hw d ((by decide +kernel : ∀ d ∈ Bundle.stringAtoms, d ∈ tables_1) d hd)
  have nab : a ≠ b := by obtain ⟨c, Ar, -⟩ := A; exact ne_arr E (wI hw 2 rfl) Ar
  refine Road.Con.of bStr2_pn hEW #[.val (.ref a), .val (.ref b), .val (.int (0 : Int32)), .val (.int (Nat.toInt32 cs.length)), .val .null, .unset] (fun m => Road.ent (Road.laid1 rfl (Road.laid1 rfl (Road.laid1 rfl (Road.laid1 rfl (Road.laid1 rfl Road.laid0))))) (k := 1) rfl rfl) ?_
  intro D hD
  refine Road.aloadN 0 bStr2_d0 rfl ?_
  refine Road.initObj 1 bStr2_d1 (wI hw 11 rfl) (wI hw 12 rfl) (wI hw 13 rfl) 0 rfl rfl (by decide) (by decide) ?_
  refine Road.iloadN 4 bStr2_d4 rfl ?_
  refine Road.if_ne 5 27 bStr2_d5 rfl (fun hc5 => ?_) (fun hc5 => ?_)
  · skip
    have hpos : 0 < cs.length := Nat.pos_of_ne_zero (fun q => hc5 (by rw [q]; rfl))
    refine Road.getstatic 27 bStr2_d27 (wI hw 40 rfl) Via.refl Hc ?_
    refine Road.if_eq 30 58 bStr2_d30 rfl (fun q => absurd q hcp) (fun hc30 => ?_)
    refine Road.aloadN 33 bStr2_d33 rfl ?_
    refine Road.iloadN 34 bStr2_d34 rfl ?_
    refine Road.iloadN 35 bStr2_d35 rfl ?_
    refine Road.callS (B' := bCmp4) 36 (argsL := [(.ref b), (.int (0 : Int32)), (.int (Nat.toInt32 cs.length))]) (rest := []) 0 bStr2_d36 (wI hw 68 rfl) (wI hw 69 rfl) (wI hw 70 rfl) (wI hw 71 rfl) (by decide) (cCmp4 l Z a0 hw n0 hEW b cs h0 σ A hcap h16 H0 H1 H2) (lenOf bCmp4_pd rfl) rfl rfl rfl (by decide) (by decide) (ce' := 2) (sl' := 45) rfl rfl (by decide) (by decide) ?_
    rintro _ h_1 σ_2 m_3 ⟨d, rfl, gd, K_4, sd, hq⟩
    have ne_a_d : a ≠ d := Nat.ne_of_lt (Nat.lt_of_lt_of_le E.lt gd)
    have ne_b_d : b ≠ d := Nat.ne_of_lt (Nat.lt_of_lt_of_le A.lt gd)
    replace E := E.keep K_4
    replace Fc := Fc.keep K_4 nin0
    replace Fv := Fv.keep K_4 nin0
    replace A := A.keep K_4 nin0
    replace sa := m_3 _ sa
    refine Road.astore 39 #[.val (.ref a), .val (.ref b), .val (.int (0 : Int32)), .val (.int (Nat.toInt32 cs.length)), .val .null, .val (.ref d)] bStr2_d39 rfl ?_
    refine Road.aloadN 41 bStr2_d41 rfl ?_
    refine Road.aload 42 bStr2_d42 rfl ?_
    refine Road.iloadN 44 bStr2_d44 rfl ?_
    obtain ⟨vs, Ad, hv, hfin⟩ : ∃ vs, Road.Ary Z h_1 d .byte vs ∧ (vs.length = cs.length ∨ (vs.length = 2 * cs.length ∧ 0 < cs.length ∧ cs.length < 1000)) ∧ ((vs.length = cs.length ∧ (∀ c ∈ cs, 0 ≤ c.toInt ∧ c.toInt < 256) ∧ vs = cs.map Road.byt) ∨ (¬ vs.length = cs.length ∧ vs = Road.utf cs)) := by
      rcases hq with ⟨h1, h2⟩ | ⟨-, h2⟩
      · exact ⟨_, h2, Or.inl (List.length_map _), Or.inl ⟨List.length_map _, h1, rfl⟩⟩
      · exact ⟨_, h2, Or.inr ⟨Road.utf_len cs, hpos, by omega⟩, Or.inr ⟨by rw [Road.utf_len]; omega, rfl⟩⟩
    refine Road.callS (B' := bCfa) 45 (argsL := [(.ref d), (.int (Nat.toInt32 cs.length))]) (rest := [(.ref a)]) 1 bStr2_d45 (wI hw 94 rfl) (wI hw 95 rfl) (wI hw 70 rfl) (wI hw 96 rfl) (by decide) (cCfa l Z a0 hw n0 hEW d vs cs.length h_1 σ_2 Ad hv) (lenOf bCfa_pd rfl) rfl rfl rfl (by decide) (by decide) (ce' := 2) (sl' := 45) rfl rfl (by decide) (by decide) ?_
    rintro _ h_6 σ_7 m_8 ⟨rfl, rfl⟩
    refine Road.Go.weaken (σ' := σ_2) m_8 (Nat.le_refl _) (Nat.le_refl _) ?_
    refine Road.putfield 48 bStr2_d48 (wI hw 21 rfl) Via.refl Fc E (Or.inr ⟨(wI hw 17 rfl), rfl, rfl⟩) (wI hw 2 rfl) (ty := .byte) (by decide) (by split <;> rfl) (by split <;> rfl) sa ?_
    intro h_12 W_10 K_11
    replace Fc := Fc.same W_10
    replace Fv := Fv.other W_10 (Or.inr (slot_ne (Or.inr (wI hw 16 rfl)) (Or.inr (wI hw 17 rfl)) (by decide) (t := (.array .byte)) (by decide) (t' := .byte) (by decide)))
    replace E := E.keep K_11
    replace A := A.keep K_11 (ninS (Ne.symm nab) nin0)
    replace Ad := Ad.keep K_11 (ninS (Ne.symm ne_a_d) nin0)
    refine Road.aloadN 51 bStr2_d51 rfl ?_
    refine Road.aload 52 bStr2_d52 rfl ?_
    refine Road.putfield 54 bStr2_d54 (wI hw 20 rfl) Via.refl Fv E (Or.inr ⟨(wI hw 16 rfl), rfl, rfl⟩) (wI hw 2 rfl) (ty := (.array .byte)) (by decide) rfl rfl sa ?_
    intro h_15 W_13 K_14
    replace Fv := Fv.same W_13
    replace Fc := Fc.other W_13 (Or.inr (slot_ne (Or.inr (wI hw 17 rfl)) (Or.inr (wI hw 16 rfl)) (by decide) (t := .byte) (by decide) (t' := (.array .byte)) (by decide)))
    replace E := E.keep K_14
    replace A := A.keep K_14 (ninS (Ne.symm nab) nin0)
    replace Ad := Ad.keep K_14 (ninS (Ne.symm ne_a_d) nin0)
    exact Road.ret 57 bStr2_d57 rfl (by decide) (by decide) (fun σ' m => ⟨rfl, ((Road.keep_more (ws := [a]) K_4).trans K_11 (by simp)).trans K_14 (by simp), d, hfin.elim (fun q => Or.inl ⟨E, by have F := Fc; rw [if_pos q.1] at F; exact F, Fv, by rw [← q.2.2]; exact Ad, q.2.1⟩) (fun q => Or.inr ⟨E, by have F := Fc; rw [if_neg q.1] at F; exact F, Fv, by rw [← q.2]; exact Ad, h16, hpos⟩)⟩)
  · skip
    have hc0 : cs = [] := List.eq_nil_of_length_eq_zero (by have := (Road.eq32 (i := cs.length) (j := 0) (by omega) (by omega)).mp hc5; exact this)
    subst hc0
    refine Road.aloadN 8 bStr2_d8 rfl ?_
    refine Road.ldcS 9 "" [] 0 bStr2_d9 (wI hw 14 rfl) wS (List.mem_of_getElem? (i := 0) rfl) (by decide) (by decide +kernel) (by decide) (by decide) (by decide) (ce' := 2) (sl' := 4) rfl rfl (by decide) (by decide) ?_
    intro a1 b1 h_16 σ_17 K_18 m_19 S1 q_20
    replace E := E.keep K_18
    replace Fc := Fc.keep K_18 nin0
    replace Fv := Fv.keep K_18 nin0
    replace A := A.keep K_18 nin0
    replace sa := m_19 _ sa
    have ne_a_a1 : a ≠ a1 := (q_20 a sa).1
    have ne_a_b1 : a ≠ b1 := (q_20 a sa).2
    refine Road.getfield 11 bStr2_d11 (wI hw 20 rfl) Via.refl S1.2.2.1 ?_
    refine Road.putfield 14 bStr2_d14 (wI hw 20 rfl) Via.refl Fv E (Or.inr ⟨(wI hw 16 rfl), rfl, rfl⟩) (wI hw 2 rfl) (ty := (.array .byte)) (by decide) rfl rfl sa ?_
    intro h_24 W_22 K_23
    replace Fv := Fv.same W_22
    replace Fc := Fc.other W_22 (Or.inr (slot_ne (Or.inr (wI hw 17 rfl)) (Or.inr (wI hw 16 rfl)) (by decide) (t := .byte) (by decide) (t' := (.array .byte)) (by decide)))
    replace E := E.keep K_23
    replace A := A.keep K_23 (ninS (Ne.symm nab) nin0)
    replace S1 := S1.keep K_23 (ninS (Ne.symm ne_a_a1) nin0) (ninS (Ne.symm ne_a_b1) nin0)
    refine Road.aloadN 17 bStr2_d17 rfl ?_
    refine Road.ldcS 18 "" [] 0 bStr2_d18 (wI hw 14 rfl) wS (List.mem_of_getElem? (i := 0) rfl) (by decide) (by decide +kernel) (by decide) (by decide) (by decide) (ce' := 4) (sl' := 8) rfl rfl (by decide) (by decide) ?_
    intro a2 b2 h_25 σ_26 K_27 m_28 S2 q_29
    replace E := E.keep K_27
    replace Fc := Fc.keep K_27 nin0
    replace Fv := Fv.keep K_27 nin0
    replace A := A.keep K_27 nin0
    replace S1 := S1.keep K_27 nin0 nin0
    replace sa := m_28 _ sa
    have ne_a_a2 : a ≠ a2 := (q_29 a sa).1
    have ne_a_b2 : a ≠ b2 := (q_29 a sa).2
    refine Road.getfield 20 bStr2_d20 (wI hw 21 rfl) Via.refl S2.2.1 ?_
    refine Road.putfield 23 bStr2_d23 (wI hw 21 rfl) Via.refl Fc E (Or.inr ⟨(wI hw 17 rfl), rfl, rfl⟩) (wI hw 2 rfl) (ty := .byte) (by decide) rfl rfl sa ?_
    intro h_33 W_31 K_32
    replace Fc := Fc.same W_31
    replace Fv := Fv.other W_31 (Or.inr (slot_ne (Or.inr (wI hw 16 rfl)) (Or.inr (wI hw 17 rfl)) (by decide) (t := (.array .byte)) (by decide) (t' := .byte) (by decide)))
    replace E := E.keep K_32
    replace A := A.keep K_32 (ninS (Ne.symm nab) nin0)
    replace S1 := S1.keep K_32 (ninS (Ne.symm ne_a_a1) nin0) (ninS (Ne.symm ne_a_b1) nin0)
    replace S2 := S2.keep K_32 (ninS (Ne.symm ne_a_a2) nin0) (ninS (Ne.symm ne_a_b2) nin0)
    exact Road.ret 26 bStr2_d26 rfl (by decide) (by decide) (fun σ' m => ⟨rfl, (((Road.keep_more (ws := [a]) K_18).trans K_23 (by simp)).trans K_27 (by simp)).trans K_32 (by simp), b1, Or.inl ⟨E, Fc, Fv, S1.2.2.2.1, S1.2.2.2.2⟩⟩)
def bStr1 : Road.Bdy := (⟨"java/lang/String", "<init>", "([C)V"⟩, jdk_42_method_3_code, 2, none, { frames := 5, cells := 4, slots := 45, locals := 75 })
theorem bStr1_d0 : decode bStr1.bs 0 = .ok (.aload_n 0, 1) := by decide +kernel
theorem bStr1_d1 : decode bStr1.bs 1 = .ok (.aload_n 1, 1) := by decide +kernel
theorem bStr1_d2 : decode bStr1.bs 2 = .ok (.iconst 0, 1) := by decide +kernel
theorem bStr1_d3 : decode bStr1.bs 3 = .ok (.aload_n 1, 1) := by decide +kernel
theorem bStr1_d4 : decode bStr1.bs 4 = .ok (.arraylength, 1) := by decide +kernel
theorem bStr1_d5 : decode bStr1.bs 5 = .ok (.aconst_null, 1) := by decide +kernel
theorem bStr1_d6 : decode bStr1.bs 6 = .ok (.invokespecial 27, 3) := by decide +kernel
theorem bStr1_d9 : decode bStr1.bs 9 = .ok (.return_, 1) := by decide +kernel
theorem bStr1_pd : parseMethodDescriptor "([C)V" = some ⟨[(.array .char)], none⟩ := by decide +kernel
theorem bStr1_pn : plainFor bStr1.y = true := plainFor_of_name (show plainName "java/lang/String" = true from by first | (simp [plainName, overriddenIn]; done) | decide +kernel)
theorem cStr1 (l : Launch) (Z : State) (a0 : Array Value) (hw : ∀ d ∈ tables_1, d.before a0 Z = true) (n0 : Nat) (hEW : EW Z a0 consts_1) (a b : Addr) (cs : List Int32) (h0 : Heap) (σ : Addr → Prop) (E : Exa Z h0 a Road.SN) (Fc : Fld Z h0 a Road.SN "coder" "B" (.int 0)) (Fv : Fld Z h0 a Road.SN "value" "[B" .null) (A : Road.Ary Z h0 b .char (cs.map .int)) (hcap : cs.length ≤ 15) (h16 : ∀ c ∈ cs, 0 ≤ c.toInt ∧ c.toInt < 65536) (sa : σ a) (cp : Int32) (Hc : Sta Z Z.heap Road.SN "COMPACT_STRINGS" "Z" (.int cp)) (hcp : ¬ cp = 0) (H0 : Sta Z Z.heap "java/lang/StringUTF16" "$assertionsDisabled" "Z" (.int 1)) (H1 : Sta Z Z.heap "java/lang/StringUTF16" "HI_BYTE_SHIFT" "I" (.int 0)) (H2 : Sta Z Z.heap "java/lang/StringUTF16" "LO_BYTE_SHIFT" "I" (.int 8)) :
    Road.Con l Z consts_1 n0 false bStr1 [] σ #[(.ref a), (.ref b)] h0 (fun v h2 s2 => v = none ∧ Keep h0 h2 [a] ∧ ∃ d, Road.StrX Z h2 a d cs) := by
  refine Road.Con.of bStr1_pn hEW #[.val (.ref a), .val (.ref b)] (fun m => Road.ent (Road.laid1 rfl (Road.laid1 rfl Road.laid0)) (k := 0) rfl rfl) ?_
  intro D hD
  refine Road.aloadN 0 bStr1_d0 rfl ?_
  refine Road.aloadN 1 bStr1_d1 rfl ?_
  refine Road.iconst 2 (0 : Int32) bStr1_d2 rfl ?_
  refine Road.aloadN 3 bStr1_d3 rfl ?_
  refine Road.alen 4 (Nat.toInt32 cs.length) bStr1_d4 A (n := cs.length) (List.length_map _) rfl ?_
  refine Road.aconstNull 5 bStr1_d5 ?_
  refine Road.callI (B' := bStr2) (a := a) 6 (argsL := [(.ref b), (.int (0 : Int32)), (.int (Nat.toInt32 cs.length)), .null]) (rest := []) 0 bStr1_d6 (wI hw 7 rfl) (wI hw 8 rfl) (wI hw 3 rfl) (wI hw 10 rfl) rfl rfl (by decide) (cStr2 l Z a0 hw n0 hEW a b cs h0 σ E Fc Fv A hcap h16 sa cp Hc hcp H0 H1 H2) (lenOf bStr2_pd rfl) rfl rfl rfl (by decide) (by decide) (ce' := 4) (sl' := 45) rfl rfl (by decide) (by decide) ?_
  rintro _ h_1 σ_2 m_3 ⟨rfl, K_4, d, S⟩
  exact Road.ret 9 bStr1_d9 rfl (by decide) (by decide) (fun σ' m => ⟨rfl, K_4, d, S⟩)
def bHiS : Road.Bdy := (⟨"java/lang/Character", "isHighSurrogate", "(C)Z"⟩, jdk_89_method_14_code, 1, (some .boolean), { frames := 0, cells := 0, slots := 0, locals := 0 })
theorem bHiS_d0 : decode bHiS.bs 0 = .ok (.iload_n 0, 1) := by decide +kernel
theorem bHiS_d1 : decode bHiS.bs 1 = .ok (.ldc 75, 2) := by decide +kernel
theorem bHiS_d3 : decode bHiS.bs 3 = .ok (.if_icmp .lt 13, 3) := by decide +kernel
theorem bHiS_d6 : decode bHiS.bs 6 = .ok (.iload_n 0, 1) := by decide +kernel
theorem bHiS_d7 : decode bHiS.bs 7 = .ok (.ldc 76, 2) := by decide +kernel
theorem bHiS_d9 : decode bHiS.bs 9 = .ok (.if_icmp .ge 7, 3) := by decide +kernel
theorem bHiS_d12 : decode bHiS.bs 12 = .ok (.iconst 1, 1) := by decide +kernel
theorem bHiS_d13 : decode bHiS.bs 13 = .ok (.goto 4, 3) := by decide +kernel
theorem bHiS_d16 : decode bHiS.bs 16 = .ok (.iconst 0, 1) := by decide +kernel
theorem bHiS_d17 : decode bHiS.bs 17 = .ok (.ireturn, 1) := by decide +kernel
theorem bHiS_pd : parseMethodDescriptor "(C)Z" = some ⟨[.char], (some .boolean)⟩ := by decide +kernel
theorem bHiS_pn : plainFor bHiS.y = true := plainFor_of_name (show plainName "java/lang/Character" = true from by first | (simp [plainName, overriddenIn]; done) | decide +kernel)
theorem cHiS (l : Launch) (Z : State) (a0 : Array Value) (hw : ∀ d ∈ tables_1, d.before a0 Z = true) (n0 : Nat) (hEW : EW Z a0 consts_1) (c : Int32) (h0 : Heap) (σ : Addr → Prop)  :
    Road.Con l Z consts_1 n0 false bHiS [] σ #[(.int c)] h0 (fun v h2 _ => v = some (.int (if Road.hiS c then 1 else 0)) ∧ h0 = h2) := by
  refine Road.Con.of bHiS_pn hEW #[.val (.int c)] (fun m => Road.ent (Road.laid1 rfl Road.laid0) (k := 0) rfl rfl) ?_
  intro D hD
  refine Road.iloadN 0 bHiS_d0 rfl ?_
  refine Road.ldcI 1 bHiS_d1 (wI hw 107 rfl) ?_
  refine Road.icmp_lt 3 16 bHiS_d3 rfl (fun hc3 => ?_) (fun hc3 => ?_)
  · skip
    rw [Int32.lt_iff_toInt_lt, show (55296 : Int32).toInt = 55296 from rfl] at hc3
    refine Road.iconst 16 (0 : Int32) bHiS_d16 rfl ?_
    exact Road.iret 17 0 bHiS_d17 (t := .boolean) rfl (by simp) rfl (by decide) (by decide) (fun σ' m => ⟨by rw [if_neg (by unfold Road.hiS; omega)], rfl⟩)
  · skip
    rw [Int32.lt_iff_toInt_lt, show (55296 : Int32).toInt = 55296 from rfl] at hc3
    refine Road.iloadN 6 bHiS_d6 rfl ?_
    refine Road.ldcI 7 bHiS_d7 (wI hw 108 rfl) ?_
    refine Road.icmp_ge 9 16 bHiS_d9 rfl (fun hc9 => ?_) (fun hc9 => ?_)
    · skip
      rw [Int32.lt_iff_toInt_lt, show (56320 : Int32).toInt = 56320 from rfl] at hc9
      refine Road.iconst 16 (0 : Int32) bHiS_d16 rfl ?_
      exact Road.iret 17 0 bHiS_d17 (t := .boolean) rfl (by simp) rfl (by decide) (by decide) (fun σ' m => ⟨by rw [if_neg (by unfold Road.hiS; omega)], rfl⟩)
    · skip
      rw [Int32.lt_iff_toInt_lt, show (56320 : Int32).toInt = 56320 from rfl] at hc9
      refine Road.iconst 12 (1 : Int32) bHiS_d12 rfl ?_
      refine Road.goto 13 17 bHiS_d13 rfl ?_
      exact Road.iret 17 1 bHiS_d17 (t := .boolean) rfl (by simp) rfl (by decide) (by decide) (fun σ' m => ⟨by rw [if_pos (by unfold Road.hiS; omega)], rfl⟩)
def bLoS : Road.Bdy := (⟨"java/lang/Character", "isLowSurrogate", "(C)Z"⟩, jdk_89_method_15_code, 1, (some .boolean), { frames := 0, cells := 0, slots := 0, locals := 0 })
theorem bLoS_d0 : decode bLoS.bs 0 = .ok (.iload_n 0, 1) := by decide +kernel
theorem bLoS_d1 : decode bLoS.bs 1 = .ok (.ldc 76, 2) := by decide +kernel
theorem bLoS_d3 : decode bLoS.bs 3 = .ok (.if_icmp .lt 13, 3) := by decide +kernel
theorem bLoS_d6 : decode bLoS.bs 6 = .ok (.iload_n 0, 1) := by decide +kernel
theorem bLoS_d7 : decode bLoS.bs 7 = .ok (.ldc 77, 2) := by decide +kernel
theorem bLoS_d9 : decode bLoS.bs 9 = .ok (.if_icmp .ge 7, 3) := by decide +kernel
theorem bLoS_d12 : decode bLoS.bs 12 = .ok (.iconst 1, 1) := by decide +kernel
theorem bLoS_d13 : decode bLoS.bs 13 = .ok (.goto 4, 3) := by decide +kernel
theorem bLoS_d16 : decode bLoS.bs 16 = .ok (.iconst 0, 1) := by decide +kernel
theorem bLoS_d17 : decode bLoS.bs 17 = .ok (.ireturn, 1) := by decide +kernel
theorem bLoS_pd : parseMethodDescriptor "(C)Z" = some ⟨[.char], (some .boolean)⟩ := by decide +kernel
theorem bLoS_pn : plainFor bLoS.y = true := plainFor_of_name (show plainName "java/lang/Character" = true from by first | (simp [plainName, overriddenIn]; done) | decide +kernel)
theorem cLoS (l : Launch) (Z : State) (a0 : Array Value) (hw : ∀ d ∈ tables_1, d.before a0 Z = true) (n0 : Nat) (hEW : EW Z a0 consts_1) (c : Int32) (h0 : Heap) (σ : Addr → Prop)  :
    Road.Con l Z consts_1 n0 false bLoS [] σ #[(.int c)] h0 (fun v h2 _ => v = some (.int (if Road.loS c then 1 else 0)) ∧ h0 = h2) := by
  refine Road.Con.of bLoS_pn hEW #[.val (.int c)] (fun m => Road.ent (Road.laid1 rfl Road.laid0) (k := 0) rfl rfl) ?_
  intro D hD
  refine Road.iloadN 0 bLoS_d0 rfl ?_
  refine Road.ldcI 1 bLoS_d1 (wI hw 108 rfl) ?_
  refine Road.icmp_lt 3 16 bLoS_d3 rfl (fun hc3 => ?_) (fun hc3 => ?_)
  · skip
    rw [Int32.lt_iff_toInt_lt, show (56320 : Int32).toInt = 56320 from rfl] at hc3
    refine Road.iconst 16 (0 : Int32) bLoS_d16 rfl ?_
    exact Road.iret 17 0 bLoS_d17 (t := .boolean) rfl (by simp) rfl (by decide) (by decide) (fun σ' m => ⟨by rw [if_neg (by unfold Road.loS; omega)], rfl⟩)
  · skip
    rw [Int32.lt_iff_toInt_lt, show (56320 : Int32).toInt = 56320 from rfl] at hc3
    refine Road.iloadN 6 bLoS_d6 rfl ?_
    refine Road.ldcI 7 bLoS_d7 (wI hw 113 rfl) ?_
    refine Road.icmp_ge 9 16 bLoS_d9 rfl (fun hc9 => ?_) (fun hc9 => ?_)
    · skip
      rw [Int32.lt_iff_toInt_lt, show (57344 : Int32).toInt = 57344 from rfl] at hc9
      refine Road.iconst 16 (0 : Int32) bLoS_d16 rfl ?_
      exact Road.iret 17 0 bLoS_d17 (t := .boolean) rfl (by simp) rfl (by decide) (by decide) (fun σ' m => ⟨by rw [if_neg (by unfold Road.loS; omega)], rfl⟩)
    · skip
      rw [Int32.lt_iff_toInt_lt, show (57344 : Int32).toInt = 57344 from rfl] at hc9
      refine Road.iconst 12 (1 : Int32) bLoS_d12 rfl ?_
      refine Road.goto 13 17 bLoS_d13 rfl ?_
      exact Road.iret 17 1 bLoS_d17 (t := .boolean) rfl (by simp) rfl (by decide) (by decide) (fun σ' m => ⟨by rw [if_pos (by unfold Road.loS; omega)], rfl⟩)
def bCpz : Road.Bdy := (⟨"java/lang/StringUTF16", "codePointCount", "([BIIZ)I"⟩, jdk_52_method_11_code, 6, (some .int), { frames := 1, cells := 0, slots := 0, locals := 13 })
theorem bCpz_d0 : decode bCpz.bs 0 = .ok (.getstatic 44, 3) := by decide +kernel
theorem bCpz_d3 : decode bCpz.bs 3 = .ok (.ifCond .ne 16, 3) := by decide +kernel
theorem bCpz_d6 : decode bCpz.bs 6 = .ok (.iload_n 1, 1) := by decide +kernel
theorem bCpz_d7 : decode bCpz.bs 7 = .ok (.iload_n 2, 1) := by decide +kernel
theorem bCpz_d8 : decode bCpz.bs 8 = .ok (.if_icmp .le 11, 3) := by decide +kernel
theorem bCpz_d11 : decode bCpz.bs 11 = .ok (.new 52, 3) := by decide +kernel
theorem bCpz_d14 : decode bCpz.bs 14 = .ok (.dup, 1) := by decide +kernel
theorem bCpz_d15 : decode bCpz.bs 15 = .ok (.invokespecial 66, 3) := by decide +kernel
theorem bCpz_d18 : decode bCpz.bs 18 = .ok (.athrow, 1) := by decide +kernel
theorem bCpz_d19 : decode bCpz.bs 19 = .ok (.iload_n 2, 1) := by decide +kernel
theorem bCpz_d20 : decode bCpz.bs 20 = .ok (.iload_n 1, 1) := by decide +kernel
theorem bCpz_d21 : decode bCpz.bs 21 = .ok (.isub, 1) := by decide +kernel
theorem bCpz_d22 : decode bCpz.bs 22 = .ok (.istore 4, 2) := by decide +kernel
theorem bCpz_d24 : decode bCpz.bs 24 = .ok (.iload_n 1, 1) := by decide +kernel
theorem bCpz_d25 : decode bCpz.bs 25 = .ok (.istore 5, 2) := by decide +kernel
theorem bCpz_d27 : decode bCpz.bs 27 = .ok (.iload_n 3, 1) := by decide +kernel
theorem bCpz_d28 : decode bCpz.bs 28 = .ok (.ifCond .eq 16, 3) := by decide +kernel
theorem bCpz_d31 : decode bCpz.bs 31 = .ok (.iload 5, 2) := by decide +kernel
theorem bCpz_d33 : decode bCpz.bs 33 = .ok (.iload_n 2, 1) := by decide +kernel
theorem bCpz_d34 : decode bCpz.bs 34 = .ok (.if_icmp .ge 10, 3) := by decide +kernel
theorem bCpz_d37 : decode bCpz.bs 37 = .ok (.iload 5, 2) := by decide +kernel
theorem bCpz_d39 : decode bCpz.bs 39 = .ok (.iload_n 2, 1) := by decide +kernel
theorem bCpz_d40 : decode bCpz.bs 40 = .ok (.aload_n 0, 1) := by decide +kernel
theorem bCpz_d41 : decode bCpz.bs 41 = .ok (.invokestatic 96, 3) := by decide +kernel
theorem bCpz_d44 : decode bCpz.bs 44 = .ok (.iload 5, 2) := by decide +kernel
theorem bCpz_d46 : decode bCpz.bs 46 = .ok (.iload_n 2, 1) := by decide +kernel
theorem bCpz_d47 : decode bCpz.bs 47 = .ok (.iconst 1, 1) := by decide +kernel
theorem bCpz_d48 : decode bCpz.bs 48 = .ok (.isub, 1) := by decide +kernel
theorem bCpz_d49 : decode bCpz.bs 49 = .ok (.if_icmp .ge 39, 3) := by decide +kernel
theorem bCpz_d52 : decode bCpz.bs 52 = .ok (.aload_n 0, 1) := by decide +kernel
theorem bCpz_d53 : decode bCpz.bs 53 = .ok (.iload 5, 2) := by decide +kernel
theorem bCpz_d55 : decode bCpz.bs 55 = .ok (.iinc 5 1, 3) := by decide +kernel
theorem bCpz_d58 : decode bCpz.bs 58 = .ok (.invokestatic 71, 3) := by decide +kernel
theorem bCpz_d61 : decode bCpz.bs 61 = .ok (.invokestatic 75, 3) := by decide +kernel
theorem bCpz_d64 : decode bCpz.bs 64 = .ok (.ifCond .eq (-20), 3) := by decide +kernel
theorem bCpz_d67 : decode bCpz.bs 67 = .ok (.aload_n 0, 1) := by decide +kernel
theorem bCpz_d68 : decode bCpz.bs 68 = .ok (.iload 5, 2) := by decide +kernel
theorem bCpz_d70 : decode bCpz.bs 70 = .ok (.invokestatic 71, 3) := by decide +kernel
theorem bCpz_d73 : decode bCpz.bs 73 = .ok (.invokestatic 81, 3) := by decide +kernel
theorem bCpz_d76 : decode bCpz.bs 76 = .ok (.ifCond .eq (-32), 3) := by decide +kernel
theorem bCpz_d79 : decode bCpz.bs 79 = .ok (.iinc 4 (-1), 3) := by decide +kernel
theorem bCpz_d82 : decode bCpz.bs 82 = .ok (.iinc 5 1, 3) := by decide +kernel
theorem bCpz_d85 : decode bCpz.bs 85 = .ok (.goto (-41), 3) := by decide +kernel
theorem bCpz_d88 : decode bCpz.bs 88 = .ok (.iload 4, 2) := by decide +kernel
theorem bCpz_d90 : decode bCpz.bs 90 = .ok (.ireturn, 1) := by decide +kernel
theorem bCpz_pd : parseMethodDescriptor "([BIIZ)I" = some ⟨[(.array .byte), .int, .int, .boolean], (some .int)⟩ := by decide +kernel
theorem bCpz_pn : plainFor bCpz.y = true := plainFor_of_name (show plainName "java/lang/StringUTF16" = true from by first | (simp [plainName, overriddenIn]; done) | decide +kernel)
theorem cCpz (l : Launch) (Z : State) (a0 : Array Value) (hw : ∀ d ∈ tables_1, d.before a0 Z = true) (n0 : Nat) (hEW : EW Z a0 consts_1) (b : Addr) (cs : List Int32) (h0 : Heap) (σ : Addr → Prop) (A : Road.Ary Z h0 b .byte (Road.utf cs)) (hn : cs.length < 1000) (hp0 : 0 < cs.length) (h16 : ∀ c ∈ cs, 0 ≤ c.toInt ∧ c.toInt < 65536) (H0 : Sta Z Z.heap "java/lang/StringUTF16" "$assertionsDisabled" "Z" (.int 1)) (H1 : Sta Z Z.heap "java/lang/StringUTF16" "HI_BYTE_SHIFT" "I" (.int 0)) (H2 : Sta Z Z.heap "java/lang/StringUTF16" "LO_BYTE_SHIFT" "I" (.int 8)) :
    Road.Con l Z consts_1 n0 false bCpz [] σ #[(.ref b), (.int (0 : Int32)), (.int (Nat.toInt32 cs.length)), (.int (0 : Int32))] h0 (fun v h2 _ => v = some (.int (Nat.toInt32 (cs.length - Road.psum cs cs.length))) ∧ h0 = h2) := by
  refine Road.Con.of bCpz_pn hEW #[.val (.ref b), .val (.int (0 : Int32)), .val (.int (Nat.toInt32 cs.length)), .val (.int (0 : Int32)), .unset, .unset] (fun m => Road.ent (Road.laid1 rfl (Road.laid1 rfl (Road.laid1 rfl (Road.laid1 rfl Road.laid0)))) (k := 2) rfl rfl) ?_
  intro D hD
  refine Road.getstatic 0 bCpz_d0 (wI hw 88 rfl) Via.refl H0 ?_
  refine Road.if_ne 3 19 bCpz_d3 rfl (fun hc3 => ?_) (fun q => absurd q (by decide))
  refine Road.iloadN 19 bCpz_d19 rfl ?_
  refine Road.iloadN 20 bCpz_d20 rfl ?_
  refine Road.isub 21 bCpz_d21 ?_
  refine Road.nameI ?_
  intro z_1 hz_1
  obtain rfl : z_1 = (Nat.toInt32 (cs.length - Road.psum cs 0)) := by rw [hz_1]; exact Int32.sub_zero _
  refine Road.istore 22 #[.val (.ref b), .val (.int (0 : Int32)), .val (.int (Nat.toInt32 cs.length)), .val (.int (0 : Int32)), .val (.int (Nat.toInt32 (cs.length - Road.psum cs 0))), .unset] bCpz_d22 rfl ?_
  refine Road.iloadN 24 bCpz_d24 rfl ?_
  refine Road.istore 25 #[.val (.ref b), .val (.int (0 : Int32)), .val (.int (Nat.toInt32 cs.length)), .val (.int (0 : Int32)), .val (.int (Nat.toInt32 (cs.length - Road.psum cs 0))), .val (.int (0 : Int32))] bCpz_d25 rfl ?_
  refine Road.iloadN 27 bCpz_d27 rfl ?_
  refine Road.if_eq 28 44 bCpz_d28 rfl (fun hc28 => ?_) (fun q => absurd q (by decide))
  have loop : ∀ r i, i + r = cs.length + 1 → Road.Go l Z a0 consts_1 n0 false bCpz D (fun v h2 _ => v = some (.int (Nat.toInt32 (cs.length - Road.psum cs cs.length))) ∧ h0 = h2) h0 σ 0 0 44 #[.val (.ref b), .val (.int (0 : Int32)), .val (.int (Nat.toInt32 cs.length)), .val (.int (0 : Int32)), .val (.int (Nat.toInt32 (cs.length - Road.psum cs i))), .val (.int (Nat.toInt32 i))] [] := by
    intro r
    induction r using Nat.strongRecOn with
    | _ r ih =>
      intro i hi
      have hps := Road.psum_le cs i
      refine Road.iload 44 bCpz_d44 rfl ?_
      refine Road.iloadN 46 bCpz_d46 rfl ?_
      refine Road.iconst 47 (1 : Int32) bCpz_d47 rfl ?_
      refine Road.isub 48 bCpz_d48 ?_
      refine Road.nameI ?_
      intro z_2 hz_2
      obtain rfl : z_2 = (Nat.toInt32 (cs.length - 1)) := by rw [hz_2]; exact Road.sub32n (j := 1) (by omega)
      refine Road.icmp_ge 49 88 bCpz_d49 rfl (fun e49 => ?_) (fun e49 => ?_)
      · skip
        rw [Road.lt32 (by omega) (by omega)] at e49
        refine Road.iload 88 bCpz_d88 rfl ?_
        exact Road.iretI 90 bCpz_d90 rfl (by decide) (by decide) (fun σ' m => ⟨by rw [Nat.le_antisymm (Nat.le_of_eq (Road.psum_end (cs := cs) (m := min i cs.length) (k := cs.length) (by omega) (by omega))) (Nat.le_of_eq (Road.psum_end (cs := cs) (m := min i cs.length) (k := cs.length) (by omega) (by omega)).symm), ← Road.psum_end (cs := cs) (m := min i cs.length) (k := i) (by omega) (by omega)], rfl⟩)
      · skip
        rw [Road.lt32 (by omega) (by omega)] at e49
        have hi1 : i < cs.length := by omega
        have hi2 : i + 1 < cs.length := by omega
        have hpr : Road.pr cs i = if Road.hiS cs[i] ∧ Road.loS cs[i + 1] then 1 else 0 := by unfold Road.pr; rw [dif_pos hi2]
        refine Road.aloadN 52 bCpz_d52 rfl ?_
        refine Road.iload 53 bCpz_d53 rfl ?_
        refine Road.iinc 55 (1) #[.val (.ref b), .val (.int (0 : Int32)), .val (.int (Nat.toInt32 cs.length)), .val (.int (0 : Int32)), .val (.int (Nat.toInt32 (cs.length - Road.psum cs i))), .val (.int ((Nat.toInt32 i) + 1))] bCpz_d55 rfl rfl rfl ?_
        rw [Road.succ32]
        refine Road.callS (B' := bGch16) 58 (argsL := [(.ref b), (.int (Nat.toInt32 i))]) (rest := []) 0 bCpz_d58 (wI hw 91 rfl) (wI hw 92 rfl) (wI hw 70 rfl) (wI hw 93 rfl) (by decide) (cGch16 l Z a0 hw n0 hEW b cs i h0 σ A hi1 h16 H0 H1 H2) (lenOf bGch16_pd rfl) rfl rfl rfl (by decide) (by decide) (ce' := 0) (sl' := 0) rfl rfl (by decide) (by decide) ?_
        rintro _ h_3 σ_4 m_5 ⟨rfl, rfl⟩
        refine Road.Go.weaken (σ' := σ) m_5 (Nat.le_refl _) (Nat.le_refl _) ?_
        refine Road.callS (B' := bHiS) 61 (argsL := [(.int cs[i])]) (rest := []) 0 bCpz_d61 (wI hw 103 rfl) (wI hw 104 rfl) (wI hw 105 rfl) (wI hw 106 rfl) (by decide) (cHiS l Z a0 hw n0 hEW cs[i] h0 σ) (lenOf bHiS_pd rfl) rfl rfl rfl (by decide) (by decide) (ce' := 0) (sl' := 0) rfl rfl (by decide) (by decide) ?_
        rintro _ h_7 σ_8 m_9 ⟨rfl, rfl⟩
        refine Road.Go.weaken (σ' := σ) m_9 (Nat.le_refl _) (Nat.le_refl _) ?_
        by_cases hh : Road.hiS cs[i]
        · skip
          rw [if_pos hh]
          refine Road.if_eq 64 44 bCpz_d64 rfl (fun q => absurd q (by decide)) (fun hc64 => ?_)
          refine Road.aloadN 67 bCpz_d67 rfl ?_
          refine Road.iload 68 bCpz_d68 rfl ?_
          refine Road.callS (B' := bGch16) 70 (argsL := [(.ref b), (.int (Nat.toInt32 (i + 1)))]) (rest := []) 0 bCpz_d70 (wI hw 91 rfl) (wI hw 92 rfl) (wI hw 70 rfl) (wI hw 93 rfl) (by decide) (cGch16 l Z a0 hw n0 hEW b cs (i + 1) h0 σ A hi2 h16 H0 H1 H2) (lenOf bGch16_pd rfl) rfl rfl rfl (by decide) (by decide) (ce' := 0) (sl' := 0) rfl rfl (by decide) (by decide) ?_
          rintro _ h_11 σ_12 m_13 ⟨rfl, rfl⟩
          refine Road.Go.weaken (σ' := σ) m_13 (Nat.le_refl _) (Nat.le_refl _) ?_
          refine Road.callS (B' := bLoS) 73 (argsL := [(.int cs[i + 1])]) (rest := []) 0 bCpz_d73 (wI hw 110 rfl) (wI hw 111 rfl) (wI hw 105 rfl) (wI hw 112 rfl) (by decide) (cLoS l Z a0 hw n0 hEW cs[i + 1] h0 σ) (lenOf bLoS_pd rfl) rfl rfl rfl (by decide) (by decide) (ce' := 0) (sl' := 0) rfl rfl (by decide) (by decide) ?_
          rintro _ h_15 σ_16 m_17 ⟨rfl, rfl⟩
          refine Road.Go.weaken (σ' := σ) m_17 (Nat.le_refl _) (Nat.le_refl _) ?_
          by_cases hl : Road.loS cs[i + 1]
          · skip
            rw [if_pos hl]
            refine Road.if_eq 76 44 bCpz_d76 rfl (fun q => absurd q (by decide)) (fun hc76 => ?_)
            have hp1 : Road.pr cs i = 1 := by rw [hpr, if_pos ⟨hh, hl⟩]
            have hp2 : Road.pr cs (i + 1) = 0 := Road.pr_lo hi2 hl
            have hp3 : Road.psum cs (i + 2) = Road.psum cs i + 1 := by simp only [Road.psum, hp1, hp2]
            refine Road.iinc 79 (-1) #[.val (.ref b), .val (.int (0 : Int32)), .val (.int (Nat.toInt32 cs.length)), .val (.int (0 : Int32)), .val (.int ((Nat.toInt32 (cs.length - Road.psum cs i)) + (-1))), .val (.int (Nat.toInt32 (i + 1)))] bCpz_d79 rfl rfl rfl ?_
            rw [show Nat.toInt32 (cs.length - Road.psum cs i) + (-1) = Nat.toInt32 (cs.length - Road.psum cs (i + 2)) from by rw [hp3, show cs.length - Road.psum cs i = cs.length - (Road.psum cs i + 1) + 1 from by omega]; exact Road.pred32 _]
            refine Road.iinc 82 (1) #[.val (.ref b), .val (.int (0 : Int32)), .val (.int (Nat.toInt32 cs.length)), .val (.int (0 : Int32)), .val (.int (Nat.toInt32 (cs.length - Road.psum cs (i + 2)))), .val (.int ((Nat.toInt32 (i + 1)) + 1))] bCpz_d82 rfl rfl rfl ?_
            rw [Road.succ32]
            refine Road.goto 85 44 bCpz_d85 rfl ?_
            exact ih (r - 2) (by omega) (i + 2) (by omega)
          · skip
            rw [if_neg hl]
            refine Road.if_eq 76 44 bCpz_d76 rfl (fun hc76 => ?_) (fun q => absurd q (by decide))
            have hp1 : Road.psum cs (i + 1) = Road.psum cs i := by simp only [Road.psum, hpr]; rw [if_neg (fun q => hl q.2), Nat.add_zero]
            rw [← hp1]
            exact ih (r - 1) (by omega) (i + 1) (by omega)
        · skip
          rw [if_neg hh]
          refine Road.if_eq 64 44 bCpz_d64 rfl (fun hc64 => ?_) (fun q => absurd q (by decide))
          have hp1 : Road.psum cs (i + 1) = Road.psum cs i := by simp only [Road.psum, hpr]; rw [if_neg (fun q => hh q.1), Nat.add_zero]
          rw [← hp1]
          exact ih (r - 1) (by omega) (i + 1) (by omega)
  exact loop (cs.length + 1) 0 (by omega)
def bCod : Road.Bdy := (⟨"java/lang/String", "coder", "()B"⟩, jdk_42_method_152_code, 1, (some .byte), { frames := 0, cells := 0, slots := 0, locals := 0 })
theorem bCod_d0 : decode bCod.bs 0 = .ok (.getstatic 38, 3) := by decide +kernel
theorem bCod_d3 : decode bCod.bs 3 = .ok (.ifCond .eq 10, 3) := by decide +kernel
theorem bCod_d6 : decode bCod.bs 6 = .ok (.aload_n 0, 1) := by decide +kernel
theorem bCod_d7 : decode bCod.bs 7 = .ok (.getfield 15, 3) := by decide +kernel
theorem bCod_d10 : decode bCod.bs 10 = .ok (.goto 4, 3) := by decide +kernel
theorem bCod_d13 : decode bCod.bs 13 = .ok (.iconst 1, 1) := by decide +kernel
theorem bCod_d14 : decode bCod.bs 14 = .ok (.ireturn, 1) := by decide +kernel
theorem bCod_pd : parseMethodDescriptor "()B" = some ⟨[], (some .byte)⟩ := by decide +kernel
theorem bCod_pn : plainFor bCod.y = true := plainFor_of_name (show plainName "java/lang/String" = true from by first | (simp [plainName, overriddenIn]; done) | decide +kernel)
theorem cCod (l : Launch) (Z : State) (a0 : Array Value) (hw : ∀ d ∈ tables_1, d.before a0 Z = true) (n0 : Nat) (hEW : EW Z a0 consts_1) (a : Addr) (h0 : Heap) (σ : Addr → Prop) (Fc : Fld Z h0 a Road.SN "coder" "B" (.int 0)) (cp : Int32) (Hc : Sta Z Z.heap Road.SN "COMPACT_STRINGS" "Z" (.int cp)) (hcp : ¬ cp = 0) :
    Road.Con l Z consts_1 n0 false bCod [] σ #[(.ref a)] h0 (fun v h2 _ => v = some (.int 0) ∧ h0 = h2) := by
  refine Road.Con.of bCod_pn hEW #[.val (.ref a)] (fun m => Road.ent (Road.laid1 rfl Road.laid0) (k := 0) rfl rfl) ?_
  intro D hD
  refine Road.getstatic 0 bCod_d0 (wI hw 40 rfl) Via.refl Hc ?_
  refine Road.if_eq 3 13 bCod_d3 rfl (fun q => absurd q hcp) (fun hc3 => ?_)
  refine Road.aloadN 6 bCod_d6 rfl ?_
  refine Road.getfield 7 bCod_d7 (wI hw 21 rfl) Via.refl Fc ?_
  refine Road.goto 10 14 bCod_d10 rfl ?_
  exact Road.iret 14 0 bCod_d14 (t := .byte) rfl (by simp) rfl (by decide) (by decide) (fun σ' m => ⟨rfl, rfl⟩)
theorem cCod1 (l : Launch) (Z : State) (a0 : Array Value) (hw : ∀ d ∈ tables_1, d.before a0 Z = true) (n0 : Nat) (hEW : EW Z a0 consts_1) (a : Addr) (h0 : Heap) (σ : Addr → Prop) (Fc : Fld Z h0 a Road.SN "coder" "B" (.int 1)) (cp : Int32) (Hc : Sta Z Z.heap Road.SN "COMPACT_STRINGS" "Z" (.int cp)) (hcp : ¬ cp = 0) :
    Road.Con l Z consts_1 n0 false bCod [] σ #[(.ref a)] h0 (fun v h2 _ => v = some (.int 1) ∧ h0 = h2) := by
  refine Road.Con.of bCod_pn hEW #[.val (.ref a)] (fun m => Road.ent (Road.laid1 rfl Road.laid0) (k := 0) rfl rfl) ?_
  intro D hD
  refine Road.getstatic 0 bCod_d0 (wI hw 40 rfl) Via.refl Hc ?_
  refine Road.if_eq 3 13 bCod_d3 rfl (fun q => absurd q hcp) (fun hc3 => ?_)
  refine Road.aloadN 6 bCod_d6 rfl ?_
  refine Road.getfield 7 bCod_d7 (wI hw 21 rfl) Via.refl Fc ?_
  refine Road.goto 10 14 bCod_d10 rfl ?_
  exact Road.iret 14 1 bCod_d14 (t := .byte) rfl (by simp) rfl (by decide) (by decide) (fun σ' m => ⟨rfl, rfl⟩)
def bLen : Road.Bdy := (⟨"java/lang/String", "length", "()I"⟩, jdk_42_method_54_code, 1, (some .int), { frames := 1, cells := 0, slots := 0, locals := 13 })
theorem bLen_d0 : decode bLen.bs 0 = .ok (.aload_n 0, 1) := by decide +kernel
theorem bLen_d1 : decode bLen.bs 1 = .ok (.getfield 9, 3) := by decide +kernel
theorem bLen_d4 : decode bLen.bs 4 = .ok (.arraylength, 1) := by decide +kernel
theorem bLen_d5 : decode bLen.bs 5 = .ok (.aload_n 0, 1) := by decide +kernel
theorem bLen_d6 : decode bLen.bs 6 = .ok (.invokevirtual 335, 3) := by decide +kernel
theorem bLen_d9 : decode bLen.bs 9 = .ok (.ishr, 1) := by decide +kernel
theorem bLen_d10 : decode bLen.bs 10 = .ok (.ireturn, 1) := by decide +kernel
theorem bLen_pd : parseMethodDescriptor "()I" = some ⟨[], (some .int)⟩ := by decide +kernel
theorem bLen_pn : plainFor bLen.y = true := plainFor_of_name (show plainName "java/lang/String" = true from by first | (simp [plainName, overriddenIn]; done) | decide +kernel)
theorem cLen (l : Launch) (Z : State) (a0 : Array Value) (hw : ∀ d ∈ tables_1, d.before a0 Z = true) (n0 : Nat) (hEW : EW Z a0 consts_1) (a b : Addr) (cs : List Int32) (h0 : Heap) (σ : Addr → Prop) (S : Road.Str Z h0 a b cs) (cp : Int32) (Hc : Sta Z Z.heap Road.SN "COMPACT_STRINGS" "Z" (.int cp)) (hcp : ¬ cp = 0) :
    Road.Con l Z consts_1 n0 false bLen [] σ #[(.ref a)] h0 (fun v h2 _ => v = some (.int (Nat.toInt32 cs.length)) ∧ h0 = h2) := by
  refine Road.Con.of bLen_pn hEW #[.val (.ref a)] (fun m => Road.ent (Road.laid1 rfl Road.laid0) (k := 0) rfl rfl) ?_
  intro D hD
  refine Road.aloadN 0 bLen_d0 rfl ?_
  refine Road.getfield 1 bLen_d1 (wI hw 20 rfl) Via.refl S.2.2.1 ?_
  refine Road.alen 4 (Nat.toInt32 cs.length) bLen_d4 S.2.2.2.1 (n := cs.length) (List.length_map _) rfl ?_
  refine Road.aloadN 5 bLen_d5 rfl ?_
  refine Road.callV (B' := bCod) (a := a) 6 (argsL := []) (rest := [(.int (Nat.toInt32 cs.length))]) "java/lang/String" 1 bLen_d6 (wI hw 35 rfl) (wI hw 36 rfl) (fun vm hz => Road.notFace_sib (args := #[]) (mv (s := D.s.setVm vm) hz (wI hw 33 rfl)) rfl) (wI hw 38 rfl) (wI hw 37 rfl) (wI hw 3 rfl) (wI hw 39 rfl) (by decide) S.1 (cCod l Z a0 hw n0 hEW a h0 σ S.2.1 cp Hc hcp) (lenOf bCod_pd rfl) rfl rfl rfl (by decide) (by decide) (ce' := 0) (sl' := 0) rfl rfl (by decide) (by decide) ?_
  rintro _ h_1 σ_2 m_3 ⟨rfl, rfl⟩
  refine Road.Go.weaken (σ' := σ) m_3 (Nat.le_refl _) (Nat.le_refl _) ?_
  refine Road.ishr 9 bLen_d9 ?_
  exact Road.iretI 10 bLen_d10 rfl (by decide) (by decide) (fun σ' m => ⟨by rw [Road.shr0], rfl⟩)
theorem cLenX (l : Launch) (Z : State) (a0 : Array Value) (hw : ∀ d ∈ tables_1, d.before a0 Z = true) (n0 : Nat) (hEW : EW Z a0 consts_1) (a b : Addr) (cs : List Int32) (h0 : Heap) (σ : Addr → Prop) (S : Road.StrX Z h0 a b cs) (cp : Int32) (Hc : Sta Z Z.heap Road.SN "COMPACT_STRINGS" "Z" (.int cp)) (hcp : ¬ cp = 0) :
    Road.Con l Z consts_1 n0 false bLen [] σ #[(.ref a)] h0 (fun v h2 _ => v = some (.int (Nat.toInt32 cs.length)) ∧ h0 = h2) := by
  rcases S with S | S
  · exact cLen l Z a0 hw n0 hEW a b cs h0 σ S cp Hc hcp
  · skip
    refine Road.Con.of bLen_pn hEW #[.val (.ref a)] (fun m => Road.ent (Road.laid1 rfl Road.laid0) (k := 0) rfl rfl) ?_
    intro D hD
    have hsm := S.2.2.2.1.small
    rw [Road.utf_len] at hsm
    refine Road.aloadN 0 bLen_d0 rfl ?_
    refine Road.getfield 1 bLen_d1 (wI hw 20 rfl) Via.refl S.2.2.1 ?_
    refine Road.alen 4 (Nat.toInt32 (2 * cs.length)) bLen_d4 S.2.2.2.1 (n := (2 * cs.length)) (Road.utf_len cs) rfl ?_
    refine Road.aloadN 5 bLen_d5 rfl ?_
    refine Road.callV (B' := bCod) (a := a) 6 (argsL := []) (rest := [(.int (Nat.toInt32 (2 * cs.length)))]) "java/lang/String" 1 bLen_d6 (wI hw 35 rfl) (wI hw 36 rfl) (fun vm hz => Road.notFace_sib (args := #[]) (mv (s := D.s.setVm vm) hz (wI hw 33 rfl)) rfl) (wI hw 38 rfl) (wI hw 37 rfl) (wI hw 3 rfl) (wI hw 39 rfl) (by decide) S.1 (cCod1 l Z a0 hw n0 hEW a h0 σ S.2.1 cp Hc hcp) (lenOf bCod_pd rfl) rfl rfl rfl (by decide) (by decide) (ce' := 0) (sl' := 0) rfl rfl (by decide) (by decide) ?_
    rintro _ h_1 σ_2 m_3 ⟨rfl, rfl⟩
    refine Road.Go.weaken (σ' := σ) m_3 (Nat.le_refl _) (Nat.le_refl _) ?_
    refine Road.ishr 9 bLen_d9 ?_
    exact Road.iretI 10 bLen_d10 rfl (by decide) (by decide) (fun σ' m => ⟨by rw [Road.shr1 hsm], rfl⟩)
def bIsL : Road.Bdy := (⟨"java/lang/String", "isLatin1", "()Z"⟩, jdk_42_method_154_code, 1, (some .boolean), { frames := 0, cells := 0, slots := 0, locals := 0 })
theorem bIsL_d0 : decode bIsL.bs 0 = .ok (.getstatic 38, 3) := by decide +kernel
theorem bIsL_d3 : decode bIsL.bs 3 = .ok (.ifCond .eq 14, 3) := by decide +kernel
theorem bIsL_d6 : decode bIsL.bs 6 = .ok (.aload_n 0, 1) := by decide +kernel
theorem bIsL_d7 : decode bIsL.bs 7 = .ok (.getfield 15, 3) := by decide +kernel
theorem bIsL_d10 : decode bIsL.bs 10 = .ok (.ifCond .ne 7, 3) := by decide +kernel
theorem bIsL_d13 : decode bIsL.bs 13 = .ok (.iconst 1, 1) := by decide +kernel
theorem bIsL_d14 : decode bIsL.bs 14 = .ok (.goto 4, 3) := by decide +kernel
theorem bIsL_d17 : decode bIsL.bs 17 = .ok (.iconst 0, 1) := by decide +kernel
theorem bIsL_d18 : decode bIsL.bs 18 = .ok (.ireturn, 1) := by decide +kernel
theorem bIsL_pd : parseMethodDescriptor "()Z" = some ⟨[], (some .boolean)⟩ := by decide +kernel
theorem bIsL_pn : plainFor bIsL.y = true := plainFor_of_name (show plainName "java/lang/String" = true from by first | (simp [plainName, overriddenIn]; done) | decide +kernel)
theorem cIsL (l : Launch) (Z : State) (a0 : Array Value) (hw : ∀ d ∈ tables_1, d.before a0 Z = true) (n0 : Nat) (hEW : EW Z a0 consts_1) (a : Addr) (h0 : Heap) (σ : Addr → Prop) (Fc : Fld Z h0 a Road.SN "coder" "B" (.int 0)) (cp : Int32) (Hc : Sta Z Z.heap Road.SN "COMPACT_STRINGS" "Z" (.int cp)) (hcp : ¬ cp = 0) :
    Road.Con l Z consts_1 n0 false bIsL [] σ #[(.ref a)] h0 (fun v h2 _ => v = some (.int 1) ∧ h0 = h2) := by
  refine Road.Con.of bIsL_pn hEW #[.val (.ref a)] (fun m => Road.ent (Road.laid1 rfl Road.laid0) (k := 0) rfl rfl) ?_
  intro D hD
  refine Road.getstatic 0 bIsL_d0 (wI hw 40 rfl) Via.refl Hc ?_
  refine Road.if_eq 3 17 bIsL_d3 rfl (fun q => absurd q hcp) (fun hc3 => ?_)
  refine Road.aloadN 6 bIsL_d6 rfl ?_
  refine Road.getfield 7 bIsL_d7 (wI hw 21 rfl) Via.refl Fc ?_
  refine Road.if_ne 10 17 bIsL_d10 rfl (fun q => absurd q (by decide)) (fun hc10 => ?_)
  refine Road.iconst 13 (1 : Int32) bIsL_d13 rfl ?_
  refine Road.goto 14 18 bIsL_d14 rfl ?_
  exact Road.iret 18 1 bIsL_d18 (t := .boolean) rfl (by simp) rfl (by decide) (by decide) (fun σ' m => ⟨rfl, rfl⟩)
theorem cIsL0 (l : Launch) (Z : State) (a0 : Array Value) (hw : ∀ d ∈ tables_1, d.before a0 Z = true) (n0 : Nat) (hEW : EW Z a0 consts_1) (a : Addr) (h0 : Heap) (σ : Addr → Prop) (Fc : Fld Z h0 a Road.SN "coder" "B" (.int 1)) (cp : Int32) (Hc : Sta Z Z.heap Road.SN "COMPACT_STRINGS" "Z" (.int cp)) (hcp : ¬ cp = 0) :
    Road.Con l Z consts_1 n0 false bIsL [] σ #[(.ref a)] h0 (fun v h2 _ => v = some (.int 0) ∧ h0 = h2) := by
  refine Road.Con.of bIsL_pn hEW #[.val (.ref a)] (fun m => Road.ent (Road.laid1 rfl Road.laid0) (k := 0) rfl rfl) ?_
  intro D hD
  refine Road.getstatic 0 bIsL_d0 (wI hw 40 rfl) Via.refl Hc ?_
  refine Road.if_eq 3 17 bIsL_d3 rfl (fun q => absurd q hcp) (fun hc3 => ?_)
  refine Road.aloadN 6 bIsL_d6 rfl ?_
  refine Road.getfield 7 bIsL_d7 (wI hw 21 rfl) Via.refl Fc ?_
  refine Road.if_ne 10 17 bIsL_d10 rfl (fun hc10 => ?_) (fun q => absurd q (by decide))
  refine Road.iconst 17 (0 : Int32) bIsL_d17 rfl ?_
  exact Road.iret 18 0 bIsL_d18 (t := .boolean) rfl (by simp) rfl (by decide) (by decide) (fun σ' m => ⟨rfl, rfl⟩)
def bPft : Road.Bdy := (⟨"jdk/internal/util/Preconditions", "checkFromToIndex", "(IIILjava/util/function/BiFunction;)I"⟩, jdk_41_method_12_code, 4, (some .int), { frames := 0, cells := 0, slots := 0, locals := 0 })
theorem bPft_d0 : decode bPft.bs 0 = .ok (.iload_n 0, 1) := by decide +kernel
theorem bPft_d1 : decode bPft.bs 1 = .ok (.ifCond .lt 13, 3) := by decide +kernel
theorem bPft_d4 : decode bPft.bs 4 = .ok (.iload_n 0, 1) := by decide +kernel
theorem bPft_d5 : decode bPft.bs 5 = .ok (.iload_n 1, 1) := by decide +kernel
theorem bPft_d6 : decode bPft.bs 6 = .ok (.if_icmp .gt 8, 3) := by decide +kernel
theorem bPft_d9 : decode bPft.bs 9 = .ok (.iload_n 1, 1) := by decide +kernel
theorem bPft_d10 : decode bPft.bs 10 = .ok (.iload_n 2, 1) := by decide +kernel
theorem bPft_d11 : decode bPft.bs 11 = .ok (.if_icmp .le 11, 3) := by decide +kernel
theorem bPft_d14 : decode bPft.bs 14 = .ok (.aload_n 3, 1) := by decide +kernel
theorem bPft_d15 : decode bPft.bs 15 = .ok (.iload_n 0, 1) := by decide +kernel
theorem bPft_d16 : decode bPft.bs 16 = .ok (.iload_n 1, 1) := by decide +kernel
theorem bPft_d17 : decode bPft.bs 17 = .ok (.iload_n 2, 1) := by decide +kernel
theorem bPft_d18 : decode bPft.bs 18 = .ok (.invokestatic 99, 3) := by decide +kernel
theorem bPft_d21 : decode bPft.bs 21 = .ok (.athrow, 1) := by decide +kernel
theorem bPft_d22 : decode bPft.bs 22 = .ok (.iload_n 0, 1) := by decide +kernel
theorem bPft_d23 : decode bPft.bs 23 = .ok (.ireturn, 1) := by decide +kernel
theorem bPft_pd : parseMethodDescriptor "(IIILjava/util/function/BiFunction;)I" = some ⟨[.int, .int, .int, (.object "java/util/function/BiFunction")], (some .int)⟩ := by decide +kernel
theorem bPft_pn : plainFor bPft.y = true := plainFor_of_name (show plainName "jdk/internal/util/Preconditions" = true from by first | (simp [plainName, overriddenIn]; done) | decide +kernel)
theorem cPft (l : Launch) (Z : State) (a0 : Array Value) (hw : ∀ d ∈ tables_1, d.before a0 Z = true) (n0 : Nat) (hEW : EW Z a0 consts_1) (n : Nat) (h0 : Heap) (σ : Addr → Prop) (hn : n < 2147483648) :
    Road.Con l Z consts_1 n0 false bPft [] σ #[(.int (0 : Int32)), (.int (Nat.toInt32 n)), (.int (Nat.toInt32 n)), .null] h0 (fun v h2 _ => v = some (.int 0) ∧ h0 = h2) := by
  refine Road.Con.of bPft_pn hEW #[.val (.int (0 : Int32)), .val (.int (Nat.toInt32 n)), .val (.int (Nat.toInt32 n)), .val .null] (fun m => Road.ent (Road.laid1 rfl (Road.laid1 rfl (Road.laid1 rfl (Road.laid1 rfl Road.laid0)))) (k := 0) rfl rfl) ?_
  intro D hD
  refine Road.iloadN 0 bPft_d0 rfl ?_
  refine Road.if_lt 1 14 bPft_d1 rfl (fun q => absurd q (by decide)) (fun hc1 => ?_)
  refine Road.iloadN 4 bPft_d4 rfl ?_
  refine Road.iloadN 5 bPft_d5 rfl ?_
  refine Road.icmp_gt 6 14 bPft_d6 rfl (fun q => absurd q (Road.ix_of (Road.n32 hn)).1) (fun hc6 => ?_)
  refine Road.iloadN 9 bPft_d9 rfl ?_
  refine Road.iloadN 10 bPft_d10 rfl ?_
  refine Road.icmp_le 11 22 bPft_d11 rfl (fun hc11 => ?_) (fun q => absurd q Int32.lt_irrefl)
  refine Road.iloadN 22 bPft_d22 rfl ?_
  exact Road.iretI 23 bPft_d23 rfl (by decide) (by decide) (fun σ' m => ⟨rfl, rfl⟩)
def bOft : Road.Bdy := (⟨"java/util/Objects", "checkFromToIndex", "(III)I"⟩, jdk_31_method_18_code, 3, (some .int), { frames := 1, cells := 0, slots := 0, locals := 15 })
theorem bOft_d0 : decode bOft.bs 0 = .ok (.iload_n 0, 1) := by decide +kernel
theorem bOft_d1 : decode bOft.bs 1 = .ok (.iload_n 1, 1) := by decide +kernel
theorem bOft_d2 : decode bOft.bs 2 = .ok (.iload_n 2, 1) := by decide +kernel
theorem bOft_d3 : decode bOft.bs 3 = .ok (.aconst_null, 1) := by decide +kernel
theorem bOft_d4 : decode bOft.bs 4 = .ok (.invokestatic 111, 3) := by decide +kernel
theorem bOft_d7 : decode bOft.bs 7 = .ok (.ireturn, 1) := by decide +kernel
theorem bOft_pd : parseMethodDescriptor "(III)I" = some ⟨[.int, .int, .int], (some .int)⟩ := by decide +kernel
theorem bOft_pn : plainFor bOft.y = true := plainFor_of_name (show plainName "java/util/Objects" = true from by first | (simp [plainName, overriddenIn]; done) | decide +kernel)
theorem cOft (l : Launch) (Z : State) (a0 : Array Value) (hw : ∀ d ∈ tables_1, d.before a0 Z = true) (n0 : Nat) (hEW : EW Z a0 consts_1) (n : Nat) (h0 : Heap) (σ : Addr → Prop) (hn : n < 2147483648) :
    Road.Con l Z consts_1 n0 false bOft [] σ #[(.int (0 : Int32)), (.int (Nat.toInt32 n)), (.int (Nat.toInt32 n))] h0 (fun v h2 _ => v = some (.int 0) ∧ h0 = h2) := by
  refine Road.Con.of bOft_pn hEW #[.val (.int (0 : Int32)), .val (.int (Nat.toInt32 n)), .val (.int (Nat.toInt32 n))] (fun m => Road.ent (Road.laid1 rfl (Road.laid1 rfl (Road.laid1 rfl Road.laid0))) (k := 0) rfl rfl) ?_
  intro D hD
  refine Road.iloadN 0 bOft_d0 rfl ?_
  refine Road.iloadN 1 bOft_d1 rfl ?_
  refine Road.iloadN 2 bOft_d2 rfl ?_
  refine Road.aconstNull 3 bOft_d3 ?_
  refine Road.callS (B' := bPft) 4 (argsL := [(.int (0 : Int32)), (.int (Nat.toInt32 n)), (.int (Nat.toInt32 n)), .null]) (rest := []) 0 bOft_d4 (wI hw 51 rfl) (wI hw 52 rfl) (wI hw 53 rfl) (wI hw 54 rfl) (by decide) (cPft l Z a0 hw n0 hEW n h0 σ hn) (lenOf bPft_pd rfl) rfl rfl rfl (by decide) (by decide) (ce' := 0) (sl' := 0) rfl rfl (by decide) (by decide) ?_
  rintro _ h_1 σ_2 m_3 ⟨rfl, rfl⟩
  refine Road.Go.weaken (σ' := σ) m_3 (Nat.le_refl _) (Nat.le_refl _) ?_
  exact Road.iretI 7 bOft_d7 rfl (by decide) (by decide) (fun σ' m => ⟨rfl, rfl⟩)
def bCpb : Road.Bdy := (⟨"java/lang/StringUTF16", "codePointCount", "([BII)I"⟩, jdk_52_method_12_code, 3, (some .int), { frames := 2, cells := 0, slots := 0, locals := 30 })
theorem bCpb_d0 : decode bCpb.bs 0 = .ok (.aload_n 0, 1) := by decide +kernel
theorem bCpb_d1 : decode bCpb.bs 1 = .ok (.iload_n 1, 1) := by decide +kernel
theorem bCpb_d2 : decode bCpb.bs 2 = .ok (.iload_n 2, 1) := by decide +kernel
theorem bCpb_d3 : decode bCpb.bs 3 = .ok (.iconst 0, 1) := by decide +kernel
theorem bCpb_d4 : decode bCpb.bs 4 = .ok (.invokestatic 100, 3) := by decide +kernel
theorem bCpb_d7 : decode bCpb.bs 7 = .ok (.ireturn, 1) := by decide +kernel
theorem bCpb_pd : parseMethodDescriptor "([BII)I" = some ⟨[(.array .byte), .int, .int], (some .int)⟩ := by decide +kernel
theorem bCpb_pn : plainFor bCpb.y = true := plainFor_of_name (show plainName "java/lang/StringUTF16" = true from by first | (simp [plainName, overriddenIn]; done) | decide +kernel)
theorem cCpb (l : Launch) (Z : State) (a0 : Array Value) (hw : ∀ d ∈ tables_1, d.before a0 Z = true) (n0 : Nat) (hEW : EW Z a0 consts_1) (b : Addr) (cs : List Int32) (h0 : Heap) (σ : Addr → Prop) (A : Road.Ary Z h0 b .byte (Road.utf cs)) (hn : cs.length < 1000) (hp0 : 0 < cs.length) (h16 : ∀ c ∈ cs, 0 ≤ c.toInt ∧ c.toInt < 65536) (H0 : Sta Z Z.heap "java/lang/StringUTF16" "$assertionsDisabled" "Z" (.int 1)) (H1 : Sta Z Z.heap "java/lang/StringUTF16" "HI_BYTE_SHIFT" "I" (.int 0)) (H2 : Sta Z Z.heap "java/lang/StringUTF16" "LO_BYTE_SHIFT" "I" (.int 8)) :
    Road.Con l Z consts_1 n0 false bCpb [] σ #[(.ref b), (.int (0 : Int32)), (.int (Nat.toInt32 cs.length))] h0 (fun v h2 _ => v = some (.int (Nat.toInt32 (cs.length - Road.psum cs cs.length))) ∧ h0 = h2) := by
  refine Road.Con.of bCpb_pn hEW #[.val (.ref b), .val (.int (0 : Int32)), .val (.int (Nat.toInt32 cs.length))] (fun m => Road.ent (Road.laid1 rfl (Road.laid1 rfl (Road.laid1 rfl Road.laid0))) (k := 0) rfl rfl) ?_
  intro D hD
  refine Road.aloadN 0 bCpb_d0 rfl ?_
  refine Road.iloadN 1 bCpb_d1 rfl ?_
  refine Road.iloadN 2 bCpb_d2 rfl ?_
  refine Road.iconst 3 (0 : Int32) bCpb_d3 rfl ?_
  refine Road.callS (B' := bCpz) 4 (argsL := [(.ref b), (.int (0 : Int32)), (.int (Nat.toInt32 cs.length)), (.int (0 : Int32))]) (rest := []) 0 bCpb_d4 (wI hw 100 rfl) (wI hw 101 rfl) (wI hw 70 rfl) (wI hw 102 rfl) (by decide) (cCpz l Z a0 hw n0 hEW b cs h0 σ A hn hp0 h16 H0 H1 H2) (lenOf bCpz_pd rfl) rfl rfl rfl (by decide) (by decide) (ce' := 0) (sl' := 0) rfl rfl (by decide) (by decide) ?_
  rintro _ h_1 σ_2 m_3 ⟨rfl, rfl⟩
  refine Road.Go.weaken (σ' := σ) m_3 (Nat.le_refl _) (Nat.le_refl _) ?_
  exact Road.iretI 7 bCpb_d7 rfl (by decide) (by decide) (fun σ' m => ⟨rfl, rfl⟩)
def bCpc : Road.Bdy := (⟨"java/lang/String", "codePointCount", "(II)I"⟩, jdk_42_method_59_code, 3, (some .int), { frames := 3, cells := 0, slots := 0, locals := 44 })
theorem bCpc_d0 : decode bCpc.bs 0 = .ok (.iload_n 1, 1) := by decide +kernel
theorem bCpc_d1 : decode bCpc.bs 1 = .ok (.iload_n 2, 1) := by decide +kernel
theorem bCpc_d2 : decode bCpc.bs 2 = .ok (.aload_n 0, 1) := by decide +kernel
theorem bCpc_d3 : decode bCpc.bs 3 = .ok (.invokevirtual 505, 3) := by decide +kernel
theorem bCpc_d6 : decode bCpc.bs 6 = .ok (.invokestatic 511, 3) := by decide +kernel
theorem bCpc_d9 : decode bCpc.bs 9 = .ok (.pop, 1) := by decide +kernel
theorem bCpc_d10 : decode bCpc.bs 10 = .ok (.aload_n 0, 1) := by decide +kernel
theorem bCpc_d11 : decode bCpc.bs 11 = .ok (.invokevirtual 492, 3) := by decide +kernel
theorem bCpc_d14 : decode bCpc.bs 14 = .ok (.ifCond .eq 7, 3) := by decide +kernel
theorem bCpc_d17 : decode bCpc.bs 17 = .ok (.iload_n 2, 1) := by decide +kernel
theorem bCpc_d18 : decode bCpc.bs 18 = .ok (.iload_n 1, 1) := by decide +kernel
theorem bCpc_d19 : decode bCpc.bs 19 = .ok (.isub, 1) := by decide +kernel
theorem bCpc_d20 : decode bCpc.bs 20 = .ok (.ireturn, 1) := by decide +kernel
theorem bCpc_d21 : decode bCpc.bs 21 = .ok (.aload_n 0, 1) := by decide +kernel
theorem bCpc_d22 : decode bCpc.bs 22 = .ok (.getfield 9, 3) := by decide +kernel
theorem bCpc_d25 : decode bCpc.bs 25 = .ok (.iload_n 1, 1) := by decide +kernel
theorem bCpc_d26 : decode bCpc.bs 26 = .ok (.iload_n 2, 1) := by decide +kernel
theorem bCpc_d27 : decode bCpc.bs 27 = .ok (.invokestatic 514, 3) := by decide +kernel
theorem bCpc_d30 : decode bCpc.bs 30 = .ok (.ireturn, 1) := by decide +kernel
theorem bCpc_pd : parseMethodDescriptor "(II)I" = some ⟨[.int, .int], (some .int)⟩ := by decide +kernel
theorem bCpc_pn : plainFor bCpc.y = true := plainFor_of_name (show plainName "java/lang/String" = true from by first | (simp [plainName, overriddenIn]; done) | decide +kernel)
theorem cCpc (l : Launch) (Z : State) (a0 : Array Value) (hw : ∀ d ∈ tables_1, d.before a0 Z = true) (n0 : Nat) (hEW : EW Z a0 consts_1) (a b : Addr) (cs : List Int32) (h0 : Heap) (σ : Addr → Prop) (S : Road.StrX Z h0 a b cs) (hn : cs.length < 1000) (cp : Int32) (Hc : Sta Z Z.heap Road.SN "COMPACT_STRINGS" "Z" (.int cp)) (hcp : ¬ cp = 0) (H0 : Sta Z Z.heap "java/lang/StringUTF16" "$assertionsDisabled" "Z" (.int 1)) (H1 : Sta Z Z.heap "java/lang/StringUTF16" "HI_BYTE_SHIFT" "I" (.int 0)) (H2 : Sta Z Z.heap "java/lang/StringUTF16" "LO_BYTE_SHIFT" "I" (.int 8)) :
    Road.Con l Z consts_1 n0 false bCpc [] σ #[(.ref a), (.int (0 : Int32)), (.int (Nat.toInt32 cs.length))] h0 (fun v h2 _ => v = some (.int (Nat.toInt32 (cs.length - Road.psum cs cs.length))) ∧ h0 = h2) := by
  refine Road.Con.of bCpc_pn hEW #[.val (.ref a), .val (.int (0 : Int32)), .val (.int (Nat.toInt32 cs.length))] (fun m => Road.ent (Road.laid1 rfl (Road.laid1 rfl (Road.laid1 rfl Road.laid0))) (k := 0) rfl rfl) ?_
  intro D hD
  have EX : Exa Z h0 a Road.SN := S.elim (fun q => q.1) (fun q => q.1)
  refine Road.iloadN 0 bCpc_d0 rfl ?_
  refine Road.iloadN 1 bCpc_d1 rfl ?_
  refine Road.aloadN 2 bCpc_d2 rfl ?_
  refine Road.callV (B' := bLen) (a := a) 3 (argsL := []) (rest := [(.int (Nat.toInt32 cs.length)), (.int (0 : Int32))]) "java/lang/String" 2 bCpc_d3 (wI hw 46 rfl) (wI hw 31 rfl) (fun vm hz => Road.notFace_sib (args := #[]) (mv (s := D.s.setVm vm) hz (wI hw 33 rfl)) rfl) (wI hw 33 rfl) (wI hw 32 rfl) (wI hw 3 rfl) (wI hw 34 rfl) (by decide) EX (cLenX l Z a0 hw n0 hEW a b cs h0 σ S cp Hc hcp) (lenOf bLen_pd rfl) rfl rfl rfl (by decide) (by decide) (ce' := 0) (sl' := 0) rfl rfl (by decide) (by decide) ?_
  rintro _ h_1 σ_2 m_3 ⟨rfl, rfl⟩
  refine Road.Go.weaken (σ' := σ) m_3 (Nat.le_refl _) (Nat.le_refl _) ?_
  refine Road.callS (B' := bOft) 6 (argsL := [(.int (0 : Int32)), (.int (Nat.toInt32 cs.length)), (.int (Nat.toInt32 cs.length))]) (rest := []) 0 bCpc_d6 (wI hw 47 rfl) (wI hw 48 rfl) (wI hw 49 rfl) (wI hw 50 rfl) (by decide) (cOft l Z a0 hw n0 hEW cs.length h0 σ (by omega)) (lenOf bOft_pd rfl) rfl rfl rfl (by decide) (by decide) (ce' := 0) (sl' := 0) rfl rfl (by decide) (by decide) ?_
  rintro _ h_5 σ_6 m_7 ⟨rfl, rfl⟩
  refine Road.Go.weaken (σ' := σ) m_7 (Nat.le_refl _) (Nat.le_refl _) ?_
  refine Road.pop 9 bCpc_d9 ?_
  refine Road.aloadN 10 bCpc_d10 rfl ?_
  rcases S with S | S
  · skip
    refine Road.callV (B' := bIsL) (a := a) 11 (argsL := []) (rest := []) "java/lang/String" 0 bCpc_d11 (wI hw 55 rfl) (wI hw 56 rfl) (fun vm hz => Road.notFace_sib (args := #[]) (mv (s := D.s.setVm vm) hz (wI hw 33 rfl)) rfl) (wI hw 58 rfl) (wI hw 57 rfl) (wI hw 3 rfl) (wI hw 59 rfl) (by decide) S.1 (cIsL l Z a0 hw n0 hEW a h0 σ S.2.1 cp Hc hcp) (lenOf bIsL_pd rfl) rfl rfl rfl (by decide) (by decide) (ce' := 0) (sl' := 0) rfl rfl (by decide) (by decide) ?_
    rintro _ h_9 σ_10 m_11 ⟨rfl, rfl⟩
    refine Road.Go.weaken (σ' := σ) m_11 (Nat.le_refl _) (Nat.le_refl _) ?_
    refine Road.if_eq 14 21 bCpc_d14 rfl (fun q => absurd q (by decide)) (fun hc14 => ?_)
    refine Road.iloadN 17 bCpc_d17 rfl ?_
    refine Road.iloadN 18 bCpc_d18 rfl ?_
    refine Road.isub 19 bCpc_d19 ?_
    exact Road.iretI 20 bCpc_d20 rfl (by decide) (by decide) (fun σ' m => ⟨by rw [Road.psum_lat S.2.2.2.2, Int32.sub_zero]; rfl, rfl⟩)
  · skip
    refine Road.callV (B' := bIsL) (a := a) 11 (argsL := []) (rest := []) "java/lang/String" 0 bCpc_d11 (wI hw 55 rfl) (wI hw 56 rfl) (fun vm hz => Road.notFace_sib (args := #[]) (mv (s := D.s.setVm vm) hz (wI hw 33 rfl)) rfl) (wI hw 58 rfl) (wI hw 57 rfl) (wI hw 3 rfl) (wI hw 59 rfl) (by decide) S.1 (cIsL0 l Z a0 hw n0 hEW a h0 σ S.2.1 cp Hc hcp) (lenOf bIsL_pd rfl) rfl rfl rfl (by decide) (by decide) (ce' := 0) (sl' := 0) rfl rfl (by decide) (by decide) ?_
    rintro _ h_13 σ_14 m_15 ⟨rfl, rfl⟩
    refine Road.Go.weaken (σ' := σ) m_15 (Nat.le_refl _) (Nat.le_refl _) ?_
    refine Road.if_eq 14 21 bCpc_d14 rfl (fun hc14 => ?_) (fun q => absurd q (by decide))
    refine Road.aloadN 21 bCpc_d21 rfl ?_
    refine Road.getfield 22 bCpc_d22 (wI hw 20 rfl) Via.refl S.2.2.1 ?_
    refine Road.iloadN 25 bCpc_d25 rfl ?_
    refine Road.iloadN 26 bCpc_d26 rfl ?_
    refine Road.callS (B' := bCpb) 27 (argsL := [(.ref b), (.int (0 : Int32)), (.int (Nat.toInt32 cs.length))]) (rest := []) 0 bCpc_d27 (wI hw 97 rfl) (wI hw 98 rfl) (wI hw 70 rfl) (wI hw 99 rfl) (by decide) (cCpb l Z a0 hw n0 hEW b cs h0 σ S.2.2.2.1 hn S.2.2.2.2.2 S.2.2.2.2.1 H0 H1 H2) (lenOf bCpb_pd rfl) rfl rfl rfl (by decide) (by decide) (ce' := 0) (sl' := 0) rfl rfl (by decide) (by decide) ?_
    rintro _ h_17 σ_18 m_19 ⟨rfl, rfl⟩
    refine Road.Go.weaken (σ' := σ) m_19 (Nat.le_refl _) (Nat.le_refl _) ?_
    exact Road.iretI 30 bCpc_d30 rfl (by decide) (by decide) (fun σ' m => ⟨rfl, rfl⟩)
def bLen2 : Road.Bdy := (⟨"com/example/orderly_tasks/orderlytasks/ConsoleSettings", "longEnough", "(Ljava/lang/String;)Z"⟩, prog_1_method_2_code, 1, (some .boolean), { frames := 4, cells := 0, slots := 0, locals := 58 })
theorem bLen2_d0 : decode bLen2.bs 0 = .ok (.aload_n 0, 1) := by decide +kernel
theorem bLen2_d1 : decode bLen2.bs 1 = .ok (.iconst 0, 1) := by decide +kernel
theorem bLen2_d2 : decode bLen2.bs 2 = .ok (.aload_n 0, 1) := by decide +kernel
theorem bLen2_d3 : decode bLen2.bs 3 = .ok (.invokevirtual 61, 3) := by decide +kernel
theorem bLen2_d6 : decode bLen2.bs 6 = .ok (.invokevirtual 65, 3) := by decide +kernel
theorem bLen2_d9 : decode bLen2.bs 9 = .ok (.bipush 12, 2) := by decide +kernel
theorem bLen2_d11 : decode bLen2.bs 11 = .ok (.if_icmp .lt 7, 3) := by decide +kernel
theorem bLen2_d14 : decode bLen2.bs 14 = .ok (.iconst 1, 1) := by decide +kernel
theorem bLen2_d15 : decode bLen2.bs 15 = .ok (.goto 4, 3) := by decide +kernel
theorem bLen2_d18 : decode bLen2.bs 18 = .ok (.iconst 0, 1) := by decide +kernel
theorem bLen2_d19 : decode bLen2.bs 19 = .ok (.ireturn, 1) := by decide +kernel
theorem bLen2_pd : parseMethodDescriptor "(Ljava/lang/String;)Z" = some ⟨[(.object "java/lang/String")], (some .boolean)⟩ := by decide +kernel
theorem bLen2_pn : plainFor bLen2.y = true := plainFor_of_name (show plainName "com/example/orderly_tasks/orderlytasks/ConsoleSettings" = true from by first | (simp [plainName, overriddenIn]; done) | decide +kernel)
theorem cLen2 (l : Launch) (Z : State) (a0 : Array Value) (hw : ∀ d ∈ tables_1, d.before a0 Z = true) (n0 : Nat) (hEW : EW Z a0 consts_1) (a b : Addr) (cs : List Int32) (h0 : Heap) (σ : Addr → Prop) (S : Road.StrX Z h0 a b cs) (hn : cs.length < 1000) (cp : Int32) (Hc : Sta Z Z.heap Road.SN "COMPACT_STRINGS" "Z" (.int cp)) (hcp : ¬ cp = 0) (H0 : Sta Z Z.heap "java/lang/StringUTF16" "$assertionsDisabled" "Z" (.int 1)) (H1 : Sta Z Z.heap "java/lang/StringUTF16" "HI_BYTE_SHIFT" "I" (.int 0)) (H2 : Sta Z Z.heap "java/lang/StringUTF16" "LO_BYTE_SHIFT" "I" (.int 8)) :
    Road.Con l Z consts_1 n0 false bLen2 [] σ #[(.ref a)] h0 (fun v h2 _ => v = some (.int (if 12 ≤ cs.length - Road.psum cs cs.length then 1 else 0)) ∧ h0 = h2) := by
  refine Road.Con.of bLen2_pn hEW #[.val (.ref a)] (fun m => Road.ent (Road.laid1 rfl Road.laid0) (k := 0) rfl rfl) ?_
  intro D hD
  have EX : Exa Z h0 a Road.SN := S.elim (fun q => q.1) (fun q => q.1)
  refine Road.aloadN 0 bLen2_d0 rfl ?_
  refine Road.iconst 1 (0 : Int32) bLen2_d1 rfl ?_
  refine Road.aloadN 2 bLen2_d2 rfl ?_
  refine Road.callV (B' := bLen) (a := a) 3 (argsL := []) (rest := [(.int (0 : Int32)), (.ref a)]) "java/lang/String" 2 bLen2_d3 (wI hw 30 rfl) (wI hw 31 rfl) (fun vm hz => Road.notFace_sib (args := #[]) (mv (s := D.s.setVm vm) hz (wI hw 33 rfl)) rfl) (wI hw 33 rfl) (wI hw 32 rfl) (wI hw 3 rfl) (wI hw 34 rfl) (by decide) EX (cLenX l Z a0 hw n0 hEW a b cs h0 σ S cp Hc hcp) (lenOf bLen_pd rfl) rfl rfl rfl (by decide) (by decide) (ce' := 0) (sl' := 0) rfl rfl (by decide) (by decide) ?_
  rintro _ h_1 σ_2 m_3 ⟨rfl, rfl⟩
  refine Road.Go.weaken (σ' := σ) m_3 (Nat.le_refl _) (Nat.le_refl _) ?_
  refine Road.callV (B' := bCpc) (a := a) 6 (argsL := [(.int (0 : Int32)), (.int (Nat.toInt32 cs.length))]) (rest := []) "java/lang/String" 0 bLen2_d6 (wI hw 41 rfl) (wI hw 42 rfl) (fun vm hz => Road.notFace_sib (args := #[]) (mv (s := D.s.setVm vm) hz (wI hw 33 rfl)) rfl) (wI hw 44 rfl) (wI hw 43 rfl) (wI hw 3 rfl) (wI hw 45 rfl) (by decide) EX (cCpc l Z a0 hw n0 hEW a b cs h0 σ S hn cp Hc hcp H0 H1 H2) (lenOf bCpc_pd rfl) rfl rfl rfl (by decide) (by decide) (ce' := 0) (sl' := 0) rfl rfl (by decide) (by decide) ?_
  rintro _ h_5 σ_6 m_7 ⟨rfl, rfl⟩
  refine Road.Go.weaken (σ' := σ) m_7 (Nat.le_refl _) (Nat.le_refl _) ?_
  refine Road.bipush 9 (12 : Int32) bLen2_d9 rfl ?_
  refine Road.icmp_lt 11 18 bLen2_d11 rfl (fun hc11 => ?_) (fun hc11 => ?_)
  · skip
    rw [show (12 : Int32) = Nat.toInt32 12 from rfl, Road.lt32 (by omega) (by omega)] at hc11
    refine Road.iconst 18 (0 : Int32) bLen2_d18 rfl ?_
    exact Road.iret 19 0 bLen2_d19 (t := .boolean) rfl (by simp) rfl (by decide) (by decide) (fun σ' m => ⟨by rw [if_neg (by omega)], rfl⟩)
  · skip
    rw [show (12 : Int32) = Nat.toInt32 12 from rfl, Road.lt32 (by omega) (by omega)] at hc11
    refine Road.iconst 14 (1 : Int32) bLen2_d14 rfl ?_
    refine Road.goto 15 19 bLen2_d15 rfl ?_
    exact Road.iret 19 1 bLen2_d19 (t := .boolean) rfl (by simp) rfl (by decide) (by decide) (fun σ' m => ⟨by rw [if_pos (by omega)], rfl⟩)
def bKnd : Road.Bdy := (⟨"com/example/orderly_tasks/orderlytasks/ConsoleSettingsLongEnoughPinLaw", "kind", "(II)I"⟩, method_3_code, 2, (some .int), { frames := 0, cells := 0, slots := 0, locals := 0 })
theorem bKnd_d0 : decode bKnd.bs 0 = .ok (.iload_n 0, 1) := by decide +kernel
theorem bKnd_d1 : decode bKnd.bs 1 = .ok (.iconst 2, 1) := by decide +kernel
theorem bKnd_d2 : decode bKnd.bs 2 = .ok (.iload_n 1, 1) := by decide +kernel
theorem bKnd_d3 : decode bKnd.bs 3 = .ok (.imul, 1) := by decide +kernel
theorem bKnd_d4 : decode bKnd.bs 4 = .ok (.iushr, 1) := by decide +kernel
theorem bKnd_d5 : decode bKnd.bs 5 = .ok (.iconst 3, 1) := by decide +kernel
theorem bKnd_d6 : decode bKnd.bs 6 = .ok (.iand, 1) := by decide +kernel
theorem bKnd_d7 : decode bKnd.bs 7 = .ok (.ireturn, 1) := by decide +kernel
theorem bKnd_pd : parseMethodDescriptor "(II)I" = some ⟨[.int, .int], (some .int)⟩ := by decide +kernel
theorem bKnd_pn : plainFor bKnd.y = true := plainFor_of_name (show plainName "com/example/orderly_tasks/orderlytasks/ConsoleSettingsLongEnoughPinLaw" = true from by first | (simp [plainName, overriddenIn]; done) | decide +kernel)
theorem cKnd (l : Launch) (Z : State) (a0 : Array Value) (hw : ∀ d ∈ tables_1, d.before a0 Z = true) (n0 : Nat) (hEW : EW Z a0 consts_1) (q : Int32) (i : Nat) (h0 : Heap) (σ : Addr → Prop)  :
    Road.Con l Z consts_1 n0 false bKnd [] σ #[(.int q), (.int (Nat.toInt32 i))] h0 (fun v h2 _ => v = some (.int (Road.kd q i)) ∧ h0 = h2) := by
  refine Road.Con.of bKnd_pn hEW #[.val (.int q), .val (.int (Nat.toInt32 i))] (fun m => Road.ent (Road.laid1 rfl (Road.laid1 rfl Road.laid0)) (k := 0) rfl rfl) ?_
  intro D hD
  refine Road.iloadN 0 bKnd_d0 rfl ?_
  refine Road.iconst 1 (2 : Int32) bKnd_d1 rfl ?_
  refine Road.iloadN 2 bKnd_d2 rfl ?_
  refine Road.imul 3 bKnd_d3 ?_
  refine Road.iushr 4 bKnd_d4 ?_
  refine Road.iconst 5 (3 : Int32) bKnd_d5 rfl ?_
  refine Road.iand 6 bKnd_d6 ?_
  exact Road.iretI 7 bKnd_d7 rfl (by decide) (by decide) (fun σ' m => ⟨rfl, rfl⟩)
def bPair : Road.Bdy := (⟨"com/example/orderly_tasks/orderlytasks/ConsoleSettingsLongEnoughPinLaw", "pair", "(III)I"⟩, method_5_code, 3, (some .int), { frames := 1, cells := 0, slots := 0, locals := 13 })
theorem bPair_d0 : decode bPair.bs 0 = .ok (.iload_n 1, 1) := by decide +kernel
theorem bPair_d1 : decode bPair.bs 1 = .ok (.iconst 1, 1) := by decide +kernel
theorem bPair_d2 : decode bPair.bs 2 = .ok (.iadd, 1) := by decide +kernel
theorem bPair_d3 : decode bPair.bs 3 = .ok (.iload_n 2, 1) := by decide +kernel
theorem bPair_d4 : decode bPair.bs 4 = .ok (.if_icmp .ge 27, 3) := by decide +kernel
theorem bPair_d7 : decode bPair.bs 7 = .ok (.iload_n 0, 1) := by decide +kernel
theorem bPair_d8 : decode bPair.bs 8 = .ok (.iload_n 1, 1) := by decide +kernel
theorem bPair_d9 : decode bPair.bs 9 = .ok (.invokestatic 28, 3) := by decide +kernel
theorem bPair_d12 : decode bPair.bs 12 = .ok (.iconst 2, 1) := by decide +kernel
theorem bPair_d13 : decode bPair.bs 13 = .ok (.if_icmp .ne 18, 3) := by decide +kernel
theorem bPair_d16 : decode bPair.bs 16 = .ok (.iload_n 0, 1) := by decide +kernel
theorem bPair_d17 : decode bPair.bs 17 = .ok (.iload_n 1, 1) := by decide +kernel
theorem bPair_d18 : decode bPair.bs 18 = .ok (.iconst 1, 1) := by decide +kernel
theorem bPair_d19 : decode bPair.bs 19 = .ok (.iadd, 1) := by decide +kernel
theorem bPair_d20 : decode bPair.bs 20 = .ok (.invokestatic 28, 3) := by decide +kernel
theorem bPair_d23 : decode bPair.bs 23 = .ok (.iconst 3, 1) := by decide +kernel
theorem bPair_d24 : decode bPair.bs 24 = .ok (.if_icmp .ne 7, 3) := by decide +kernel
theorem bPair_d27 : decode bPair.bs 27 = .ok (.iconst 1, 1) := by decide +kernel
theorem bPair_d28 : decode bPair.bs 28 = .ok (.goto 4, 3) := by decide +kernel
theorem bPair_d31 : decode bPair.bs 31 = .ok (.iconst 0, 1) := by decide +kernel
theorem bPair_d32 : decode bPair.bs 32 = .ok (.ireturn, 1) := by decide +kernel
theorem bPair_pd : parseMethodDescriptor "(III)I" = some ⟨[.int, .int, .int], (some .int)⟩ := by decide +kernel
theorem bPair_pn : plainFor bPair.y = true := plainFor_of_name (show plainName "com/example/orderly_tasks/orderlytasks/ConsoleSettingsLongEnoughPinLaw" = true from by first | (simp [plainName, overriddenIn]; done) | decide +kernel)
theorem cPair (l : Launch) (Z : State) (a0 : Array Value) (hw : ∀ d ∈ tables_1, d.before a0 Z = true) (n0 : Nat) (hEW : EW Z a0 consts_1) (q : Int32) (cs : List Int32) (i : Nat) (h0 : Heap) (σ : Addr → Prop) (F : Road.KF q cs) (hi : i < 100) (hn : cs.length < 100) :
    Road.Con l Z consts_1 n0 false bPair [] σ #[(.int q), (.int (Nat.toInt32 i)), (.int (Nat.toInt32 cs.length))] h0 (fun v h2 _ => v = some (.int (Nat.toInt32 (Road.pr cs i))) ∧ h0 = h2) := by
  rw [F.pr i]
  refine Road.Con.of bPair_pn hEW #[.val (.int q), .val (.int (Nat.toInt32 i)), .val (.int (Nat.toInt32 cs.length))] (fun m => Road.ent (Road.laid1 rfl (Road.laid1 rfl (Road.laid1 rfl Road.laid0))) (k := 0) rfl rfl) ?_
  intro D hD
  refine Road.iloadN 0 bPair_d0 rfl ?_
  refine Road.iconst 1 (1 : Int32) bPair_d1 rfl ?_
  refine Road.iadd 2 bPair_d2 ?_
  refine Road.nameI ?_
  intro z_1 hz_1
  obtain rfl : z_1 = (Nat.toInt32 (i + 1)) := by rw [hz_1]; exact Road.succ32 _
  refine Road.iloadN 3 bPair_d3 rfl ?_
  refine Road.icmp_ge 4 31 bPair_d4 rfl (fun e1 => ?_) (fun e1 => ?_)
  · skip
    rw [Road.lt32 (by omega) (by omega)] at e1
    refine Road.iconst 31 (0 : Int32) bPair_d31 rfl ?_
    exact Road.iretI 32 bPair_d32 rfl (by decide) (by decide) (fun σ' m => ⟨by rw [if_neg (fun q => e1 q.1)]; rfl, rfl⟩)
  · skip
    rw [Road.lt32 (by omega) (by omega)] at e1
    refine Road.iloadN 7 bPair_d7 rfl ?_
    refine Road.iloadN 8 bPair_d8 rfl ?_
    refine Road.callS (B' := bKnd) 9 (argsL := [(.int q), (.int (Nat.toInt32 i))]) (rest := []) 0 bPair_d9 (wI hw 63 rfl) (wI hw 64 rfl) (wI hw 24 rfl) (wI hw 65 rfl) (by decide) (cKnd l Z a0 hw n0 hEW q i h0 σ) (lenOf bKnd_pd rfl) rfl rfl rfl (by decide) (by decide) (ce' := 0) (sl' := 0) rfl rfl (by decide) (by decide) ?_
    rintro _ h_2 σ_3 m_4 ⟨rfl, rfl⟩
    refine Road.Go.weaken (σ' := σ) m_4 (Nat.le_refl _) (Nat.le_refl _) ?_
    refine Road.iconst 12 (2 : Int32) bPair_d12 rfl ?_
    refine Road.icmp_ne 13 31 bPair_d13 rfl (fun e2 => ?_) (fun e2 => ?_)
    · skip
      refine Road.iconst 31 (0 : Int32) bPair_d31 rfl ?_
      exact Road.iretI 32 bPair_d32 rfl (by decide) (by decide) (fun σ' m => ⟨by rw [if_neg (fun q => e2 q.2.1)]; rfl, rfl⟩)
    · skip
      refine Road.iloadN 16 bPair_d16 rfl ?_
      refine Road.iloadN 17 bPair_d17 rfl ?_
      refine Road.iconst 18 (1 : Int32) bPair_d18 rfl ?_
      refine Road.iadd 19 bPair_d19 ?_
      refine Road.nameI ?_
      intro z_6 hz_6
      obtain rfl : z_6 = (Nat.toInt32 (i + 1)) := by rw [hz_6]; exact Road.succ32 _
      refine Road.callS (B' := bKnd) 20 (argsL := [(.int q), (.int (Nat.toInt32 (i + 1)))]) (rest := []) 0 bPair_d20 (wI hw 63 rfl) (wI hw 64 rfl) (wI hw 24 rfl) (wI hw 65 rfl) (by decide) (cKnd l Z a0 hw n0 hEW q (i + 1) h0 σ) (lenOf bKnd_pd rfl) rfl rfl rfl (by decide) (by decide) (ce' := 0) (sl' := 0) rfl rfl (by decide) (by decide) ?_
      rintro _ h_7 σ_8 m_9 ⟨rfl, rfl⟩
      refine Road.Go.weaken (σ' := σ) m_9 (Nat.le_refl _) (Nat.le_refl _) ?_
      refine Road.iconst 23 (3 : Int32) bPair_d23 rfl ?_
      refine Road.icmp_ne 24 31 bPair_d24 rfl (fun e3 => ?_) (fun e3 => ?_)
      · skip
        refine Road.iconst 31 (0 : Int32) bPair_d31 rfl ?_
        exact Road.iretI 32 bPair_d32 rfl (by decide) (by decide) (fun σ' m => ⟨by rw [if_neg (fun q => e3 q.2.2)]; rfl, rfl⟩)
      · skip
        refine Road.iconst 27 (1 : Int32) bPair_d27 rfl ?_
        refine Road.goto 28 32 bPair_d28 rfl ?_
        exact Road.iretI 32 bPair_d32 rfl (by decide) (by decide) (fun σ' m => ⟨by rw [if_pos ⟨e1, e2, e3⟩]; rfl, rfl⟩)
def bCh : Road.Bdy := (⟨"com/example/orderly_tasks/orderlytasks/ConsoleSettingsLongEnoughPinLaw", "ch", "(IJJI)C"⟩, method_4_code, 10, (some .char), { frames := 1, cells := 0, slots := 0, locals := 13 })
theorem bCh_d0 : decode bCh.bs 0 = .ok (.iload_n 0, 1) := by decide +kernel
theorem bCh_d1 : decode bCh.bs 1 = .ok (.iload 5, 2) := by decide +kernel
theorem bCh_d3 : decode bCh.bs 3 = .ok (.invokestatic 28, 3) := by decide +kernel
theorem bCh_d6 : decode bCh.bs 6 = .ok (.istore 6, 2) := by decide +kernel
theorem bCh_d8 : decode bCh.bs 8 = .ok (.iload 5, 2) := by decide +kernel
theorem bCh_d10 : decode bCh.bs 10 = .ok (.bipush 8, 2) := by decide +kernel
theorem bCh_d12 : decode bCh.bs 12 = .ok (.if_icmp .ge 7, 3) := by decide +kernel
theorem bCh_d15 : decode bCh.bs 15 = .ok (.lload_n 1, 1) := by decide +kernel
theorem bCh_d16 : decode bCh.bs 16 = .ok (.goto 4, 3) := by decide +kernel
theorem bCh_d19 : decode bCh.bs 19 = .ok (.lload_n 3, 1) := by decide +kernel
theorem bCh_d20 : decode bCh.bs 20 = .ok (.lstore 7, 2) := by decide +kernel
theorem bCh_d22 : decode bCh.bs 22 = .ok (.lload 7, 2) := by decide +kernel
theorem bCh_d24 : decode bCh.bs 24 = .ok (.bipush 8, 2) := by decide +kernel
theorem bCh_d26 : decode bCh.bs 26 = .ok (.iload 5, 2) := by decide +kernel
theorem bCh_d28 : decode bCh.bs 28 = .ok (.bipush 7, 2) := by decide +kernel
theorem bCh_d30 : decode bCh.bs 30 = .ok (.iand, 1) := by decide +kernel
theorem bCh_d31 : decode bCh.bs 31 = .ok (.imul, 1) := by decide +kernel
theorem bCh_d32 : decode bCh.bs 32 = .ok (.lushr, 1) := by decide +kernel
theorem bCh_d33 : decode bCh.bs 33 = .ok (.ldc2_w 32, 3) := by decide +kernel
theorem bCh_d36 : decode bCh.bs 36 = .ok (.land, 1) := by decide +kernel
theorem bCh_d37 : decode bCh.bs 37 = .ok (.l2i, 1) := by decide +kernel
theorem bCh_d38 : decode bCh.bs 38 = .ok (.istore 9, 2) := by decide +kernel
theorem bCh_d40 : decode bCh.bs 40 = .ok (.iload 6, 2) := by decide +kernel
theorem bCh_d42 : decode bCh.bs 42 = .ok (.ifCond .ne 7, 3) := by decide +kernel
theorem bCh_d45 : decode bCh.bs 45 = .ok (.iload 9, 2) := by decide +kernel
theorem bCh_d47 : decode bCh.bs 47 = .ok (.i2c, 1) := by decide +kernel
theorem bCh_d48 : decode bCh.bs 48 = .ok (.ireturn, 1) := by decide +kernel
theorem bCh_d49 : decode bCh.bs 49 = .ok (.iload 6, 2) := by decide +kernel
theorem bCh_d51 : decode bCh.bs 51 = .ok (.iconst 1, 1) := by decide +kernel
theorem bCh_d52 : decode bCh.bs 52 = .ok (.if_icmp .ne 26, 3) := by decide +kernel
theorem bCh_d55 : decode bCh.bs 55 = .ok (.iload 9, 2) := by decide +kernel
theorem bCh_d57 : decode bCh.bs 57 = .ok (.sipush 128, 3) := by decide +kernel
theorem bCh_d60 : decode bCh.bs 60 = .ok (.if_icmp .ge 11, 3) := by decide +kernel
theorem bCh_d63 : decode bCh.bs 63 = .ok (.ldc 34, 2) := by decide +kernel
theorem bCh_d65 : decode bCh.bs 65 = .ok (.iload 9, 2) := by decide +kernel
theorem bCh_d67 : decode bCh.bs 67 = .ok (.iadd, 1) := by decide +kernel
theorem bCh_d68 : decode bCh.bs 68 = .ok (.goto 8, 3) := by decide +kernel
theorem bCh_d71 : decode bCh.bs 71 = .ok (.ldc 35, 2) := by decide +kernel
theorem bCh_d73 : decode bCh.bs 73 = .ok (.iload 9, 2) := by decide +kernel
theorem bCh_d75 : decode bCh.bs 75 = .ok (.iadd, 1) := by decide +kernel
theorem bCh_d76 : decode bCh.bs 76 = .ok (.i2c, 1) := by decide +kernel
theorem bCh_d77 : decode bCh.bs 77 = .ok (.ireturn, 1) := by decide +kernel
theorem bCh_d78 : decode bCh.bs 78 = .ok (.iload 6, 2) := by decide +kernel
theorem bCh_d80 : decode bCh.bs 80 = .ok (.iconst 2, 1) := by decide +kernel
theorem bCh_d81 : decode bCh.bs 81 = .ok (.if_icmp .ne 26, 3) := by decide +kernel
theorem bCh_d84 : decode bCh.bs 84 = .ok (.iload 9, 2) := by decide +kernel
theorem bCh_d86 : decode bCh.bs 86 = .ok (.sipush 128, 3) := by decide +kernel
theorem bCh_d89 : decode bCh.bs 89 = .ok (.if_icmp .ge 11, 3) := by decide +kernel
theorem bCh_d92 : decode bCh.bs 92 = .ok (.ldc 36, 2) := by decide +kernel
theorem bCh_d94 : decode bCh.bs 94 = .ok (.iload 9, 2) := by decide +kernel
theorem bCh_d96 : decode bCh.bs 96 = .ok (.iadd, 1) := by decide +kernel
theorem bCh_d97 : decode bCh.bs 97 = .ok (.goto 8, 3) := by decide +kernel
theorem bCh_d100 : decode bCh.bs 100 = .ok (.ldc 37, 2) := by decide +kernel
theorem bCh_d102 : decode bCh.bs 102 = .ok (.iload 9, 2) := by decide +kernel
theorem bCh_d104 : decode bCh.bs 104 = .ok (.iadd, 1) := by decide +kernel
theorem bCh_d105 : decode bCh.bs 105 = .ok (.i2c, 1) := by decide +kernel
theorem bCh_d106 : decode bCh.bs 106 = .ok (.ireturn, 1) := by decide +kernel
theorem bCh_d107 : decode bCh.bs 107 = .ok (.iload 9, 2) := by decide +kernel
theorem bCh_d109 : decode bCh.bs 109 = .ok (.sipush 128, 3) := by decide +kernel
theorem bCh_d112 : decode bCh.bs 112 = .ok (.if_icmp .ge 11, 3) := by decide +kernel
theorem bCh_d115 : decode bCh.bs 115 = .ok (.ldc 38, 2) := by decide +kernel
theorem bCh_d117 : decode bCh.bs 117 = .ok (.iload 9, 2) := by decide +kernel
theorem bCh_d119 : decode bCh.bs 119 = .ok (.iadd, 1) := by decide +kernel
theorem bCh_d120 : decode bCh.bs 120 = .ok (.goto 8, 3) := by decide +kernel
theorem bCh_d123 : decode bCh.bs 123 = .ok (.ldc 39, 2) := by decide +kernel
theorem bCh_d125 : decode bCh.bs 125 = .ok (.iload 9, 2) := by decide +kernel
theorem bCh_d127 : decode bCh.bs 127 = .ok (.iadd, 1) := by decide +kernel
theorem bCh_d128 : decode bCh.bs 128 = .ok (.i2c, 1) := by decide +kernel
theorem bCh_d129 : decode bCh.bs 129 = .ok (.ireturn, 1) := by decide +kernel
theorem bCh_pd : parseMethodDescriptor "(IJJI)C" = some ⟨[.int, .long, .long, .int], (some .char)⟩ := by decide +kernel
theorem bCh_pn : plainFor bCh.y = true := plainFor_of_name (show plainName "com/example/orderly_tasks/orderlytasks/ConsoleSettingsLongEnoughPinLaw" = true from by first | (simp [plainName, overriddenIn]; done) | decide +kernel)
theorem cCh (l : Launch) (Z : State) (a0 : Array Value) (hw : ∀ d ∈ tables_1, d.before a0 Z = true) (n0 : Nat) (hEW : EW Z a0 consts_1) (q : Int32) (x1 x2 : Int64) (i : Nat) (h0 : Heap) (σ : Addr → Prop)  :
    Road.Con l Z consts_1 n0 false bCh [] σ #[(.int q), (.long x1), (.long x2), (.int (Nat.toInt32 i))] h0 (fun v h2 _ => ∃ c : Int32, v = some (.int c) ∧ ((0 ≤ c.toInt ∧ c.toInt < 65536) ∧ (Road.hiS c ↔ Road.kd q i = 2) ∧ (Road.loS c ↔ Road.kd q i = 3)) ∧ h0 = h2) := by
  refine Road.Con.of bCh_pn hEW #[.val (.int q), .val (.long x1), .second, .val (.long x2), .second, .val (.int (Nat.toInt32 i)), .unset, .unset, .unset, .unset] (fun m => Road.ent (Road.laid1 rfl (Road.laid2 rfl (Road.laid2 rfl (Road.laid1 rfl Road.laid0)))) (k := 4) rfl rfl) ?_
  intro D hD
  refine Road.iloadN 0 bCh_d0 rfl ?_
  refine Road.iload 1 bCh_d1 rfl ?_
  refine Road.callS (B' := bKnd) 3 (argsL := [(.int q), (.int (Nat.toInt32 i))]) (rest := []) 0 bCh_d3 (wI hw 63 rfl) (wI hw 64 rfl) (wI hw 24 rfl) (wI hw 65 rfl) (by decide) (cKnd l Z a0 hw n0 hEW q i h0 σ) (lenOf bKnd_pd rfl) rfl rfl rfl (by decide) (by decide) (ce' := 0) (sl' := 0) rfl rfl (by decide) (by decide) ?_
  rintro _ h_1 σ_2 m_3 ⟨rfl, rfl⟩
  refine Road.Go.weaken (σ' := σ) m_3 (Nat.le_refl _) (Nat.le_refl _) ?_
  refine Road.nameI ?_
  intro k hk
  have hk4 : k = 0 ∨ k = 1 ∨ k = 2 ∨ k = 3 := by rw [hk]; exact Road.and3 _
  refine Road.istore 6 #[.val (.int q), .val (.long x1), .second, .val (.long x2), .second, .val (.int (Nat.toInt32 i)), .val (.int k), .unset, .unset, .unset] bCh_d6 rfl ?_
  refine Road.iload 8 bCh_d8 rfl ?_
  refine Road.bipush 10 (8 : Int32) bCh_d10 rfl ?_
  have tail : ∀ src : Int64, Road.Go l Z a0 consts_1 n0 false bCh D (fun v h2 _ => ∃ c : Int32, v = some (.int c) ∧ ((0 ≤ c.toInt ∧ c.toInt < 65536) ∧ (Road.hiS c ↔ Road.kd q i = 2) ∧ (Road.loS c ↔ Road.kd q i = 3)) ∧ h0 = h2) h0 σ 0 0 22 #[.val (.int q), .val (.long x1), .second, .val (.long x2), .second, .val (.int (Nat.toInt32 i)), .val (.int k), .val (.long src), .second, .unset] [] := by
    intro src
    refine Road.lload 22 bCh_d22 rfl ?_
    refine Road.bipush 24 (8 : Int32) bCh_d24 rfl ?_
    refine Road.iload 26 bCh_d26 rfl ?_
    refine Road.bipush 28 (7 : Int32) bCh_d28 rfl ?_
    refine Road.iand 30 bCh_d30 ?_
    refine Road.imul 31 bCh_d31 ?_
    refine Road.lushr 32 bCh_d32 ?_
    refine Road.ldc2J 33 bCh_d33 (wI hw 66 rfl) ?_
    refine Road.land 36 bCh_d36 ?_
    refine Road.l2i 37 bCh_d37 ?_
    refine Road.nameI ?_
    intro x hx
    have lx : 0 ≤ x.toInt ∧ x.toInt < 256 := by rw [hx]; exact Road.and255L _
    clear hx
    refine Road.istore 38 #[.val (.int q), .val (.long x1), .second, .val (.long x2), .second, .val (.int (Nat.toInt32 i)), .val (.int k), .val (.long src), .second, .val (.int x)] bCh_d38 rfl ?_
    rcases hk4 with rfl | rfl | rfl | rfl
    · skip
      refine Road.iload 40 bCh_d40 rfl ?_
      refine Road.if_ne 42 49 bCh_d42 rfl (fun q => absurd q (by decide)) (fun hc42 => ?_)
      refine Road.iload 45 bCh_d45 rfl ?_
      refine Road.i2c 47 bCh_d47 ?_
      exact Road.iret 48 x bCh_d48 (t := .char) rfl (by simp) (by rw [Road.nar_chr, Road.chr_id (by have := Road.u32_of lx.1; omega)]) (by decide) (by decide) (fun σ' m => ⟨x, rfl, ⟨by omega, by rw [← hk]; unfold Road.hiS; constructor <;> intro z <;> first | omega | (exfalso; revert z; decide), by rw [← hk]; unfold Road.loS; constructor <;> intro z <;> first | omega | (exfalso; revert z; decide)⟩, rfl⟩)
    · skip
      refine Road.iload 40 bCh_d40 rfl ?_
      refine Road.if_ne 42 49 bCh_d42 rfl (fun hc42 => ?_) (fun q => absurd q (by decide))
      refine Road.iload 49 bCh_d49 rfl ?_
      refine Road.iconst 51 (1 : Int32) bCh_d51 rfl ?_
      refine Road.icmp_ne 52 78 bCh_d52 rfl (fun q => absurd q (by decide)) (fun hc52 => ?_)
      refine Road.iload 55 bCh_d55 rfl ?_
      refine Road.sipush 57 (128 : Int32) bCh_d57 rfl ?_
      refine Road.icmp_ge 60 71 bCh_d60 rfl (fun e128 => ?_) (fun e128 => ?_)
      · skip
        rw [Int32.lt_iff_toInt_lt, show (128 : Int32).toInt = 128 from rfl] at e128
        refine Road.ldcI 71 bCh_d71 (wI hw 117 rfl) ?_
        refine Road.iload 73 bCh_d73 rfl ?_
        refine Road.iadd 75 bCh_d75 ?_
        refine Road.i2c 76 bCh_d76 ?_
        have hc := (Road.chr_add (a := (65280 : Int32)) (A := 65280) (x := x) rfl (by decide) lx)
        exact Road.iret 77 (Road.chr ((65280 : Int32) + x)) bCh_d77 (t := .char) rfl (by simp) hc.2 (by decide) (by decide) (fun σ' m => ⟨_, rfl, ⟨by omega, by rw [← hk]; unfold Road.hiS; constructor <;> intro z <;> first | rfl | omega | (exfalso; revert z; decide), by rw [← hk]; unfold Road.loS; constructor <;> intro z <;> first | rfl | omega | (exfalso; revert z; decide)⟩, rfl⟩)
      · skip
        rw [Int32.lt_iff_toInt_lt, show (128 : Int32).toInt = 128 from rfl] at e128
        refine Road.ldcI 63 bCh_d63 (wI hw 116 rfl) ?_
        refine Road.iload 65 bCh_d65 rfl ?_
        refine Road.iadd 67 bCh_d67 ?_
        refine Road.goto 68 76 bCh_d68 rfl ?_
        refine Road.i2c 76 bCh_d76 ?_
        have hc := (Road.chr_add (a := (55168 : Int32)) (A := 55168) (x := x) rfl (by decide) lx)
        exact Road.iret 77 (Road.chr ((55168 : Int32) + x)) bCh_d77 (t := .char) rfl (by simp) hc.2 (by decide) (by decide) (fun σ' m => ⟨_, rfl, ⟨by omega, by rw [← hk]; unfold Road.hiS; constructor <;> intro z <;> first | rfl | omega | (exfalso; revert z; decide), by rw [← hk]; unfold Road.loS; constructor <;> intro z <;> first | rfl | omega | (exfalso; revert z; decide)⟩, rfl⟩)
    · skip
      refine Road.iload 40 bCh_d40 rfl ?_
      refine Road.if_ne 42 49 bCh_d42 rfl (fun hc42 => ?_) (fun q => absurd q (by decide))
      refine Road.iload 49 bCh_d49 rfl ?_
      refine Road.iconst 51 (1 : Int32) bCh_d51 rfl ?_
      refine Road.icmp_ne 52 78 bCh_d52 rfl (fun hc52 => ?_) (fun q => absurd q (by decide))
      refine Road.iload 78 bCh_d78 rfl ?_
      refine Road.iconst 80 (2 : Int32) bCh_d80 rfl ?_
      refine Road.icmp_ne 81 107 bCh_d81 rfl (fun q => absurd q (by decide)) (fun hc81 => ?_)
      refine Road.iload 84 bCh_d84 rfl ?_
      refine Road.sipush 86 (128 : Int32) bCh_d86 rfl ?_
      refine Road.icmp_ge 89 100 bCh_d89 rfl (fun e128 => ?_) (fun e128 => ?_)
      · skip
        rw [Int32.lt_iff_toInt_lt, show (128 : Int32).toInt = 128 from rfl] at e128
        refine Road.ldcI 100 bCh_d100 (wI hw 114 rfl) ?_
        refine Road.iload 102 bCh_d102 rfl ?_
        refine Road.iadd 104 bCh_d104 ?_
        refine Road.i2c 105 bCh_d105 ?_
        have hc := (Road.chr_add (a := (56064 : Int32)) (A := 56064) (x := x) rfl (by decide) lx)
        exact Road.iret 106 (Road.chr ((56064 : Int32) + x)) bCh_d106 (t := .char) rfl (by simp) hc.2 (by decide) (by decide) (fun σ' m => ⟨_, rfl, ⟨by omega, by rw [← hk]; unfold Road.hiS; constructor <;> intro z <;> first | rfl | omega | (exfalso; revert z; decide), by rw [← hk]; unfold Road.loS; constructor <;> intro z <;> first | rfl | omega | (exfalso; revert z; decide)⟩, rfl⟩)
      · skip
        rw [Int32.lt_iff_toInt_lt, show (128 : Int32).toInt = 128 from rfl] at e128
        refine Road.ldcI 92 bCh_d92 (wI hw 109 rfl) ?_
        refine Road.iload 94 bCh_d94 rfl ?_
        refine Road.iadd 96 bCh_d96 ?_
        refine Road.goto 97 105 bCh_d97 rfl ?_
        refine Road.i2c 105 bCh_d105 ?_
        have hc := (Road.chr_add (a := (55296 : Int32)) (A := 55296) (x := x) rfl (by decide) lx)
        exact Road.iret 106 (Road.chr ((55296 : Int32) + x)) bCh_d106 (t := .char) rfl (by simp) hc.2 (by decide) (by decide) (fun σ' m => ⟨_, rfl, ⟨by omega, by rw [← hk]; unfold Road.hiS; constructor <;> intro z <;> first | rfl | omega | (exfalso; revert z; decide), by rw [← hk]; unfold Road.loS; constructor <;> intro z <;> first | rfl | omega | (exfalso; revert z; decide)⟩, rfl⟩)
    · skip
      refine Road.iload 40 bCh_d40 rfl ?_
      refine Road.if_ne 42 49 bCh_d42 rfl (fun hc42 => ?_) (fun q => absurd q (by decide))
      refine Road.iload 49 bCh_d49 rfl ?_
      refine Road.iconst 51 (1 : Int32) bCh_d51 rfl ?_
      refine Road.icmp_ne 52 78 bCh_d52 rfl (fun hc52 => ?_) (fun q => absurd q (by decide))
      refine Road.iload 78 bCh_d78 rfl ?_
      refine Road.iconst 80 (2 : Int32) bCh_d80 rfl ?_
      refine Road.icmp_ne 81 107 bCh_d81 rfl (fun hc81 => ?_) (fun q => absurd q (by decide))
      refine Road.iload 107 bCh_d107 rfl ?_
      refine Road.sipush 109 (128 : Int32) bCh_d109 rfl ?_
      refine Road.icmp_ge 112 123 bCh_d112 rfl (fun e128 => ?_) (fun e128 => ?_)
      · skip
        rw [Int32.lt_iff_toInt_lt, show (128 : Int32).toInt = 128 from rfl] at e128
        refine Road.ldcI 123 bCh_d123 (wI hw 115 rfl) ?_
        refine Road.iload 125 bCh_d125 rfl ?_
        refine Road.iadd 127 bCh_d127 ?_
        refine Road.i2c 128 bCh_d128 ?_
        have hc := (Road.chr_add (a := (57088 : Int32)) (A := 57088) (x := x) rfl (by decide) lx)
        exact Road.iret 129 (Road.chr ((57088 : Int32) + x)) bCh_d129 (t := .char) rfl (by simp) hc.2 (by decide) (by decide) (fun σ' m => ⟨_, rfl, ⟨by omega, by rw [← hk]; unfold Road.hiS; constructor <;> intro z <;> first | rfl | omega | (exfalso; revert z; decide), by rw [← hk]; unfold Road.loS; constructor <;> intro z <;> first | rfl | omega | (exfalso; revert z; decide)⟩, rfl⟩)
      · skip
        rw [Int32.lt_iff_toInt_lt, show (128 : Int32).toInt = 128 from rfl] at e128
        refine Road.ldcI 115 bCh_d115 (wI hw 67 rfl) ?_
        refine Road.iload 117 bCh_d117 rfl ?_
        refine Road.iadd 119 bCh_d119 ?_
        refine Road.goto 120 128 bCh_d120 rfl ?_
        refine Road.i2c 128 bCh_d128 ?_
        have hc := (Road.chr_add (a := (56320 : Int32)) (A := 56320) (x := x) rfl (by decide) lx)
        exact Road.iret 129 (Road.chr ((56320 : Int32) + x)) bCh_d129 (t := .char) rfl (by simp) hc.2 (by decide) (by decide) (fun σ' m => ⟨_, rfl, ⟨by omega, by rw [← hk]; unfold Road.hiS; constructor <;> intro z <;> first | rfl | omega | (exfalso; revert z; decide), by rw [← hk]; unfold Road.loS; constructor <;> intro z <;> first | rfl | omega | (exfalso; revert z; decide)⟩, rfl⟩)
  refine Road.icmp_ge 12 19 bCh_d12 rfl (fun hc12 => ?_) (fun hc12 => ?_)
  · skip
    refine Road.lloadN 19 bCh_d19 rfl ?_
    refine Road.lstore 20 #[.val (.int q), .val (.long x1), .second, .val (.long x2), .second, .val (.int (Nat.toInt32 i)), .val (.int k), .val (.long x2), .second, .unset] bCh_d20 rfl ?_
    exact tail x2
  · skip
    refine Road.lloadN 15 bCh_d15 rfl ?_
    refine Road.goto 16 20 bCh_d16 rfl ?_
    refine Road.lstore 20 #[.val (.int q), .val (.long x1), .second, .val (.long x2), .second, .val (.int (Nat.toInt32 i)), .val (.int k), .val (.long x1), .second, .unset] bCh_d20 rfl ?_
    exact tail x1
def b0 : Road.Bdy := (x, code, maxLocals, ret, room_1)
theorem b0_d0 : decode b0.bs 0 = .ok (.iload_n 0, 1) := at_0
theorem b0_d1 : decode b0.bs 1 = .ok (.bipush 15, 2) := at_1
theorem b0_d3 : decode b0.bs 3 = .ok (.iand, 1) := at_3
theorem b0_d4 : decode b0.bs 4 = .ok (.istore 6, 2) := at_4
theorem b0_d6 : decode b0.bs 6 = .ok (.iload 6, 2) := at_6
theorem b0_d8 : decode b0.bs 8 = .ok (.newarray .char, 2) := at_8
theorem b0_d10 : decode b0.bs 10 = .ok (.astore 7, 2) := at_10
theorem b0_d12 : decode b0.bs 12 = .ok (.iload 6, 2) := at_12
theorem b0_d14 : decode b0.bs 14 = .ok (.ifCond .le 15, 3) := at_14
theorem b0_d17 : decode b0.bs 17 = .ok (.aload 7, 2) := at_17
theorem b0_d19 : decode b0.bs 19 = .ok (.iconst 0, 1) := at_19
theorem b0_d20 : decode b0.bs 20 = .ok (.iload_n 1, 1) := at_20
theorem b0_d21 : decode b0.bs 21 = .ok (.lload_n 2, 1) := at_21
theorem b0_d22 : decode b0.bs 22 = .ok (.lload 4, 2) := at_22
theorem b0_d24 : decode b0.bs 24 = .ok (.iconst 0, 1) := at_24
theorem b0_d25 : decode b0.bs 25 = .ok (.invokestatic 7, 3) := at_25
theorem b0_d28 : decode b0.bs 28 = .ok (.castore, 1) := at_28
theorem b0_d29 : decode b0.bs 29 = .ok (.iload 6, 2) := at_29
theorem b0_d31 : decode b0.bs 31 = .ok (.iconst 1, 1) := at_31
theorem b0_d32 : decode b0.bs 32 = .ok (.if_icmp .le 15, 3) := at_32
theorem b0_d35 : decode b0.bs 35 = .ok (.aload 7, 2) := at_35
theorem b0_d37 : decode b0.bs 37 = .ok (.iconst 1, 1) := at_37
theorem b0_d38 : decode b0.bs 38 = .ok (.iload_n 1, 1) := at_38
theorem b0_d39 : decode b0.bs 39 = .ok (.lload_n 2, 1) := at_39
theorem b0_d40 : decode b0.bs 40 = .ok (.lload 4, 2) := at_40
theorem b0_d42 : decode b0.bs 42 = .ok (.iconst 1, 1) := at_42
theorem b0_d43 : decode b0.bs 43 = .ok (.invokestatic 7, 3) := at_43
theorem b0_d46 : decode b0.bs 46 = .ok (.castore, 1) := at_46
theorem b0_d47 : decode b0.bs 47 = .ok (.iload 6, 2) := at_47
theorem b0_d49 : decode b0.bs 49 = .ok (.iconst 2, 1) := at_49
theorem b0_d50 : decode b0.bs 50 = .ok (.if_icmp .le 15, 3) := at_50
theorem b0_d53 : decode b0.bs 53 = .ok (.aload 7, 2) := at_53
theorem b0_d55 : decode b0.bs 55 = .ok (.iconst 2, 1) := at_55
theorem b0_d56 : decode b0.bs 56 = .ok (.iload_n 1, 1) := at_56
theorem b0_d57 : decode b0.bs 57 = .ok (.lload_n 2, 1) := at_57
theorem b0_d58 : decode b0.bs 58 = .ok (.lload 4, 2) := at_58
theorem b0_d60 : decode b0.bs 60 = .ok (.iconst 2, 1) := at_60
theorem b0_d61 : decode b0.bs 61 = .ok (.invokestatic 7, 3) := at_61
theorem b0_d64 : decode b0.bs 64 = .ok (.castore, 1) := at_64
theorem b0_d65 : decode b0.bs 65 = .ok (.iload 6, 2) := at_65
theorem b0_d67 : decode b0.bs 67 = .ok (.iconst 3, 1) := at_67
theorem b0_d68 : decode b0.bs 68 = .ok (.if_icmp .le 15, 3) := at_68
theorem b0_d71 : decode b0.bs 71 = .ok (.aload 7, 2) := at_71
theorem b0_d73 : decode b0.bs 73 = .ok (.iconst 3, 1) := at_73
theorem b0_d74 : decode b0.bs 74 = .ok (.iload_n 1, 1) := at_74
theorem b0_d75 : decode b0.bs 75 = .ok (.lload_n 2, 1) := at_75
theorem b0_d76 : decode b0.bs 76 = .ok (.lload 4, 2) := at_76
theorem b0_d78 : decode b0.bs 78 = .ok (.iconst 3, 1) := at_78
theorem b0_d79 : decode b0.bs 79 = .ok (.invokestatic 7, 3) := at_79
theorem b0_d82 : decode b0.bs 82 = .ok (.castore, 1) := at_82
theorem b0_d83 : decode b0.bs 83 = .ok (.iload 6, 2) := at_83
theorem b0_d85 : decode b0.bs 85 = .ok (.iconst 4, 1) := at_85
theorem b0_d86 : decode b0.bs 86 = .ok (.if_icmp .le 15, 3) := at_86
theorem b0_d89 : decode b0.bs 89 = .ok (.aload 7, 2) := at_89
theorem b0_d91 : decode b0.bs 91 = .ok (.iconst 4, 1) := at_91
theorem b0_d92 : decode b0.bs 92 = .ok (.iload_n 1, 1) := at_92
theorem b0_d93 : decode b0.bs 93 = .ok (.lload_n 2, 1) := at_93
theorem b0_d94 : decode b0.bs 94 = .ok (.lload 4, 2) := at_94
theorem b0_d96 : decode b0.bs 96 = .ok (.iconst 4, 1) := at_96
theorem b0_d97 : decode b0.bs 97 = .ok (.invokestatic 7, 3) := at_97
theorem b0_d100 : decode b0.bs 100 = .ok (.castore, 1) := at_100
theorem b0_d101 : decode b0.bs 101 = .ok (.iload 6, 2) := at_101
theorem b0_d103 : decode b0.bs 103 = .ok (.iconst 5, 1) := at_103
theorem b0_d104 : decode b0.bs 104 = .ok (.if_icmp .le 15, 3) := at_104
theorem b0_d107 : decode b0.bs 107 = .ok (.aload 7, 2) := at_107
theorem b0_d109 : decode b0.bs 109 = .ok (.iconst 5, 1) := at_109
theorem b0_d110 : decode b0.bs 110 = .ok (.iload_n 1, 1) := at_110
theorem b0_d111 : decode b0.bs 111 = .ok (.lload_n 2, 1) := at_111
theorem b0_d112 : decode b0.bs 112 = .ok (.lload 4, 2) := at_112
theorem b0_d114 : decode b0.bs 114 = .ok (.iconst 5, 1) := at_114
theorem b0_d115 : decode b0.bs 115 = .ok (.invokestatic 7, 3) := at_115
theorem b0_d118 : decode b0.bs 118 = .ok (.castore, 1) := at_118
theorem b0_d119 : decode b0.bs 119 = .ok (.iload 6, 2) := at_119
theorem b0_d121 : decode b0.bs 121 = .ok (.bipush 6, 2) := at_121
theorem b0_d123 : decode b0.bs 123 = .ok (.if_icmp .le 17, 3) := at_123
theorem b0_d126 : decode b0.bs 126 = .ok (.aload 7, 2) := at_126
theorem b0_d128 : decode b0.bs 128 = .ok (.bipush 6, 2) := at_128
theorem b0_d130 : decode b0.bs 130 = .ok (.iload_n 1, 1) := at_130
theorem b0_d131 : decode b0.bs 131 = .ok (.lload_n 2, 1) := at_131
theorem b0_d132 : decode b0.bs 132 = .ok (.lload 4, 2) := at_132
theorem b0_d134 : decode b0.bs 134 = .ok (.bipush 6, 2) := at_134
theorem b0_d136 : decode b0.bs 136 = .ok (.invokestatic 7, 3) := at_136
theorem b0_d139 : decode b0.bs 139 = .ok (.castore, 1) := at_139
theorem b0_d140 : decode b0.bs 140 = .ok (.iload 6, 2) := at_140
theorem b0_d142 : decode b0.bs 142 = .ok (.bipush 7, 2) := at_142
theorem b0_d144 : decode b0.bs 144 = .ok (.if_icmp .le 17, 3) := at_144
theorem b0_d147 : decode b0.bs 147 = .ok (.aload 7, 2) := at_147
theorem b0_d149 : decode b0.bs 149 = .ok (.bipush 7, 2) := at_149
theorem b0_d151 : decode b0.bs 151 = .ok (.iload_n 1, 1) := at_151
theorem b0_d152 : decode b0.bs 152 = .ok (.lload_n 2, 1) := at_152
theorem b0_d153 : decode b0.bs 153 = .ok (.lload 4, 2) := at_153
theorem b0_d155 : decode b0.bs 155 = .ok (.bipush 7, 2) := at_155
theorem b0_d157 : decode b0.bs 157 = .ok (.invokestatic 7, 3) := at_157
theorem b0_d160 : decode b0.bs 160 = .ok (.castore, 1) := at_160
theorem b0_d161 : decode b0.bs 161 = .ok (.iload 6, 2) := at_161
theorem b0_d163 : decode b0.bs 163 = .ok (.bipush 8, 2) := at_163
theorem b0_d165 : decode b0.bs 165 = .ok (.if_icmp .le 17, 3) := at_165
theorem b0_d168 : decode b0.bs 168 = .ok (.aload 7, 2) := at_168
theorem b0_d170 : decode b0.bs 170 = .ok (.bipush 8, 2) := at_170
theorem b0_d172 : decode b0.bs 172 = .ok (.iload_n 1, 1) := at_172
theorem b0_d173 : decode b0.bs 173 = .ok (.lload_n 2, 1) := at_173
theorem b0_d174 : decode b0.bs 174 = .ok (.lload 4, 2) := at_174
theorem b0_d176 : decode b0.bs 176 = .ok (.bipush 8, 2) := at_176
theorem b0_d178 : decode b0.bs 178 = .ok (.invokestatic 7, 3) := at_178
theorem b0_d181 : decode b0.bs 181 = .ok (.castore, 1) := at_181
theorem b0_d182 : decode b0.bs 182 = .ok (.iload 6, 2) := at_182
theorem b0_d184 : decode b0.bs 184 = .ok (.bipush 9, 2) := at_184
theorem b0_d186 : decode b0.bs 186 = .ok (.if_icmp .le 17, 3) := at_186
theorem b0_d189 : decode b0.bs 189 = .ok (.aload 7, 2) := at_189
theorem b0_d191 : decode b0.bs 191 = .ok (.bipush 9, 2) := at_191
theorem b0_d193 : decode b0.bs 193 = .ok (.iload_n 1, 1) := at_193
theorem b0_d194 : decode b0.bs 194 = .ok (.lload_n 2, 1) := at_194
theorem b0_d195 : decode b0.bs 195 = .ok (.lload 4, 2) := at_195
theorem b0_d197 : decode b0.bs 197 = .ok (.bipush 9, 2) := at_197
theorem b0_d199 : decode b0.bs 199 = .ok (.invokestatic 7, 3) := at_199
theorem b0_d202 : decode b0.bs 202 = .ok (.castore, 1) := at_202
theorem b0_d203 : decode b0.bs 203 = .ok (.iload 6, 2) := at_203
theorem b0_d205 : decode b0.bs 205 = .ok (.bipush 10, 2) := at_205
theorem b0_d207 : decode b0.bs 207 = .ok (.if_icmp .le 17, 3) := at_207
theorem b0_d210 : decode b0.bs 210 = .ok (.aload 7, 2) := at_210
theorem b0_d212 : decode b0.bs 212 = .ok (.bipush 10, 2) := at_212
theorem b0_d214 : decode b0.bs 214 = .ok (.iload_n 1, 1) := at_214
theorem b0_d215 : decode b0.bs 215 = .ok (.lload_n 2, 1) := at_215
theorem b0_d216 : decode b0.bs 216 = .ok (.lload 4, 2) := at_216
theorem b0_d218 : decode b0.bs 218 = .ok (.bipush 10, 2) := at_218
theorem b0_d220 : decode b0.bs 220 = .ok (.invokestatic 7, 3) := at_220
theorem b0_d223 : decode b0.bs 223 = .ok (.castore, 1) := at_223
theorem b0_d224 : decode b0.bs 224 = .ok (.iload 6, 2) := at_224
theorem b0_d226 : decode b0.bs 226 = .ok (.bipush 11, 2) := at_226
theorem b0_d228 : decode b0.bs 228 = .ok (.if_icmp .le 17, 3) := at_228
theorem b0_d231 : decode b0.bs 231 = .ok (.aload 7, 2) := at_231
theorem b0_d233 : decode b0.bs 233 = .ok (.bipush 11, 2) := at_233
theorem b0_d235 : decode b0.bs 235 = .ok (.iload_n 1, 1) := at_235
theorem b0_d236 : decode b0.bs 236 = .ok (.lload_n 2, 1) := at_236
theorem b0_d237 : decode b0.bs 237 = .ok (.lload 4, 2) := at_237
theorem b0_d239 : decode b0.bs 239 = .ok (.bipush 11, 2) := at_239
theorem b0_d241 : decode b0.bs 241 = .ok (.invokestatic 7, 3) := at_241
theorem b0_d244 : decode b0.bs 244 = .ok (.castore, 1) := at_244
theorem b0_d245 : decode b0.bs 245 = .ok (.iload 6, 2) := at_245
theorem b0_d247 : decode b0.bs 247 = .ok (.bipush 12, 2) := at_247
theorem b0_d249 : decode b0.bs 249 = .ok (.if_icmp .le 17, 3) := at_249
theorem b0_d252 : decode b0.bs 252 = .ok (.aload 7, 2) := at_252
theorem b0_d254 : decode b0.bs 254 = .ok (.bipush 12, 2) := at_254
theorem b0_d256 : decode b0.bs 256 = .ok (.iload_n 1, 1) := at_256
theorem b0_d257 : decode b0.bs 257 = .ok (.lload_n 2, 1) := at_257
theorem b0_d258 : decode b0.bs 258 = .ok (.lload 4, 2) := at_258
theorem b0_d260 : decode b0.bs 260 = .ok (.bipush 12, 2) := at_260
theorem b0_d262 : decode b0.bs 262 = .ok (.invokestatic 7, 3) := at_262
theorem b0_d265 : decode b0.bs 265 = .ok (.castore, 1) := at_265
theorem b0_d266 : decode b0.bs 266 = .ok (.iload 6, 2) := at_266
theorem b0_d268 : decode b0.bs 268 = .ok (.bipush 13, 2) := at_268
theorem b0_d270 : decode b0.bs 270 = .ok (.if_icmp .le 17, 3) := at_270
theorem b0_d273 : decode b0.bs 273 = .ok (.aload 7, 2) := at_273
theorem b0_d275 : decode b0.bs 275 = .ok (.bipush 13, 2) := at_275
theorem b0_d277 : decode b0.bs 277 = .ok (.iload_n 1, 1) := at_277
theorem b0_d278 : decode b0.bs 278 = .ok (.lload_n 2, 1) := at_278
theorem b0_d279 : decode b0.bs 279 = .ok (.lload 4, 2) := at_279
theorem b0_d281 : decode b0.bs 281 = .ok (.bipush 13, 2) := at_281
theorem b0_d283 : decode b0.bs 283 = .ok (.invokestatic 7, 3) := at_283
theorem b0_d286 : decode b0.bs 286 = .ok (.castore, 1) := at_286
theorem b0_d287 : decode b0.bs 287 = .ok (.iload 6, 2) := at_287
theorem b0_d289 : decode b0.bs 289 = .ok (.bipush 14, 2) := at_289
theorem b0_d291 : decode b0.bs 291 = .ok (.if_icmp .le 17, 3) := at_291
theorem b0_d294 : decode b0.bs 294 = .ok (.aload 7, 2) := at_294
theorem b0_d296 : decode b0.bs 296 = .ok (.bipush 14, 2) := at_296
theorem b0_d298 : decode b0.bs 298 = .ok (.iload_n 1, 1) := at_298
theorem b0_d299 : decode b0.bs 299 = .ok (.lload_n 2, 1) := at_299
theorem b0_d300 : decode b0.bs 300 = .ok (.lload 4, 2) := at_300
theorem b0_d302 : decode b0.bs 302 = .ok (.bipush 14, 2) := at_302
theorem b0_d304 : decode b0.bs 304 = .ok (.invokestatic 7, 3) := at_304
theorem b0_d307 : decode b0.bs 307 = .ok (.castore, 1) := at_307
theorem b0_d308 : decode b0.bs 308 = .ok (.new 13, 3) := at_308
theorem b0_d311 : decode b0.bs 311 = .ok (.dup, 1) := at_311
theorem b0_d312 : decode b0.bs 312 = .ok (.aload 7, 2) := at_312
theorem b0_d314 : decode b0.bs 314 = .ok (.invokespecial 15, 3) := at_314
theorem b0_d317 : decode b0.bs 317 = .ok (.astore 8, 2) := at_317
theorem b0_d319 : decode b0.bs 319 = .ok (.iload_n 1, 1) := at_319
theorem b0_d320 : decode b0.bs 320 = .ok (.iconst 0, 1) := at_320
theorem b0_d321 : decode b0.bs 321 = .ok (.iload 6, 2) := at_321
theorem b0_d323 : decode b0.bs 323 = .ok (.invokestatic 18, 3) := at_323
theorem b0_d326 : decode b0.bs 326 = .ok (.iload_n 1, 1) := at_326
theorem b0_d327 : decode b0.bs 327 = .ok (.iconst 1, 1) := at_327
theorem b0_d328 : decode b0.bs 328 = .ok (.iload 6, 2) := at_328
theorem b0_d330 : decode b0.bs 330 = .ok (.invokestatic 18, 3) := at_330
theorem b0_d333 : decode b0.bs 333 = .ok (.iadd, 1) := at_333
theorem b0_d334 : decode b0.bs 334 = .ok (.iload_n 1, 1) := at_334
theorem b0_d335 : decode b0.bs 335 = .ok (.iconst 2, 1) := at_335
theorem b0_d336 : decode b0.bs 336 = .ok (.iload 6, 2) := at_336
theorem b0_d338 : decode b0.bs 338 = .ok (.invokestatic 18, 3) := at_338
theorem b0_d341 : decode b0.bs 341 = .ok (.iadd, 1) := at_341
theorem b0_d342 : decode b0.bs 342 = .ok (.iload_n 1, 1) := at_342
theorem b0_d343 : decode b0.bs 343 = .ok (.iconst 3, 1) := at_343
theorem b0_d344 : decode b0.bs 344 = .ok (.iload 6, 2) := at_344
theorem b0_d346 : decode b0.bs 346 = .ok (.invokestatic 18, 3) := at_346
theorem b0_d349 : decode b0.bs 349 = .ok (.iadd, 1) := at_349
theorem b0_d350 : decode b0.bs 350 = .ok (.iload_n 1, 1) := at_350
theorem b0_d351 : decode b0.bs 351 = .ok (.iconst 4, 1) := at_351
theorem b0_d352 : decode b0.bs 352 = .ok (.iload 6, 2) := at_352
theorem b0_d354 : decode b0.bs 354 = .ok (.invokestatic 18, 3) := at_354
theorem b0_d357 : decode b0.bs 357 = .ok (.iadd, 1) := at_357
theorem b0_d358 : decode b0.bs 358 = .ok (.iload_n 1, 1) := at_358
theorem b0_d359 : decode b0.bs 359 = .ok (.iconst 5, 1) := at_359
theorem b0_d360 : decode b0.bs 360 = .ok (.iload 6, 2) := at_360
theorem b0_d362 : decode b0.bs 362 = .ok (.invokestatic 18, 3) := at_362
theorem b0_d365 : decode b0.bs 365 = .ok (.iadd, 1) := at_365
theorem b0_d366 : decode b0.bs 366 = .ok (.iload_n 1, 1) := at_366
theorem b0_d367 : decode b0.bs 367 = .ok (.bipush 6, 2) := at_367
theorem b0_d369 : decode b0.bs 369 = .ok (.iload 6, 2) := at_369
theorem b0_d371 : decode b0.bs 371 = .ok (.invokestatic 18, 3) := at_371
theorem b0_d374 : decode b0.bs 374 = .ok (.iadd, 1) := at_374
theorem b0_d375 : decode b0.bs 375 = .ok (.iload_n 1, 1) := at_375
theorem b0_d376 : decode b0.bs 376 = .ok (.bipush 7, 2) := at_376
theorem b0_d378 : decode b0.bs 378 = .ok (.iload 6, 2) := at_378
theorem b0_d380 : decode b0.bs 380 = .ok (.invokestatic 18, 3) := at_380
theorem b0_d383 : decode b0.bs 383 = .ok (.iadd, 1) := at_383
theorem b0_d384 : decode b0.bs 384 = .ok (.iload_n 1, 1) := at_384
theorem b0_d385 : decode b0.bs 385 = .ok (.bipush 8, 2) := at_385
theorem b0_d387 : decode b0.bs 387 = .ok (.iload 6, 2) := at_387
theorem b0_d389 : decode b0.bs 389 = .ok (.invokestatic 18, 3) := at_389
theorem b0_d392 : decode b0.bs 392 = .ok (.iadd, 1) := at_392
theorem b0_d393 : decode b0.bs 393 = .ok (.iload_n 1, 1) := at_393
theorem b0_d394 : decode b0.bs 394 = .ok (.bipush 9, 2) := at_394
theorem b0_d396 : decode b0.bs 396 = .ok (.iload 6, 2) := at_396
theorem b0_d398 : decode b0.bs 398 = .ok (.invokestatic 18, 3) := at_398
theorem b0_d401 : decode b0.bs 401 = .ok (.iadd, 1) := at_401
theorem b0_d402 : decode b0.bs 402 = .ok (.iload_n 1, 1) := at_402
theorem b0_d403 : decode b0.bs 403 = .ok (.bipush 10, 2) := at_403
theorem b0_d405 : decode b0.bs 405 = .ok (.iload 6, 2) := at_405
theorem b0_d407 : decode b0.bs 407 = .ok (.invokestatic 18, 3) := at_407
theorem b0_d410 : decode b0.bs 410 = .ok (.iadd, 1) := at_410
theorem b0_d411 : decode b0.bs 411 = .ok (.iload_n 1, 1) := at_411
theorem b0_d412 : decode b0.bs 412 = .ok (.bipush 11, 2) := at_412
theorem b0_d414 : decode b0.bs 414 = .ok (.iload 6, 2) := at_414
theorem b0_d416 : decode b0.bs 416 = .ok (.invokestatic 18, 3) := at_416
theorem b0_d419 : decode b0.bs 419 = .ok (.iadd, 1) := at_419
theorem b0_d420 : decode b0.bs 420 = .ok (.iload_n 1, 1) := at_420
theorem b0_d421 : decode b0.bs 421 = .ok (.bipush 12, 2) := at_421
theorem b0_d423 : decode b0.bs 423 = .ok (.iload 6, 2) := at_423
theorem b0_d425 : decode b0.bs 425 = .ok (.invokestatic 18, 3) := at_425
theorem b0_d428 : decode b0.bs 428 = .ok (.iadd, 1) := at_428
theorem b0_d429 : decode b0.bs 429 = .ok (.iload_n 1, 1) := at_429
theorem b0_d430 : decode b0.bs 430 = .ok (.bipush 13, 2) := at_430
theorem b0_d432 : decode b0.bs 432 = .ok (.iload 6, 2) := at_432
theorem b0_d434 : decode b0.bs 434 = .ok (.invokestatic 18, 3) := at_434
theorem b0_d437 : decode b0.bs 437 = .ok (.iadd, 1) := at_437
theorem b0_d438 : decode b0.bs 438 = .ok (.istore 9, 2) := at_438
theorem b0_d440 : decode b0.bs 440 = .ok (.iload 6, 2) := at_440
theorem b0_d442 : decode b0.bs 442 = .ok (.iload 9, 2) := at_442
theorem b0_d444 : decode b0.bs 444 = .ok (.isub, 1) := at_444
theorem b0_d445 : decode b0.bs 445 = .ok (.bipush 12, 2) := at_445
theorem b0_d447 : decode b0.bs 447 = .ok (.if_icmp .lt 7, 3) := at_447
theorem b0_d450 : decode b0.bs 450 = .ok (.iconst 1, 1) := at_450
theorem b0_d451 : decode b0.bs 451 = .ok (.goto 4, 3) := at_451
theorem b0_d454 : decode b0.bs 454 = .ok (.iconst 0, 1) := at_454
theorem b0_d455 : decode b0.bs 455 = .ok (.istore 10, 2) := at_455
theorem b0_d457 : decode b0.bs 457 = .ok (.aload 8, 2) := at_457
theorem b0_d459 : decode b0.bs 459 = .ok (.invokestatic 22, 3) := at_459
theorem b0_d462 : decode b0.bs 462 = .ok (.iload 10, 2) := at_462
theorem b0_d464 : decode b0.bs 464 = .ok (.if_icmp .ne 7, 3) := at_464
theorem b0_d467 : decode b0.bs 467 = .ok (.iconst 1, 1) := at_467
theorem b0_d468 : decode b0.bs 468 = .ok (.goto 4, 3) := at_468
theorem b0_d471 : decode b0.bs 471 = .ok (.iconst 0, 1) := at_471
theorem b0_d472 : decode b0.bs 472 = .ok (.ireturn, 1) := at_472
theorem b0_pd : parseMethodDescriptor "(IIJJ)Z" = some ⟨[.int, .int, .long, .long], (some .boolean)⟩ := by decide +kernel
theorem b0_pn : plainFor b0.y = true := plainFor_of_name (show plainName "com/example/orderly_tasks/orderlytasks/ConsoleSettingsLongEnoughPinLaw" = true from by first | (simp [plainName, overriddenIn]; done) | decide +kernel)
set_option maxHeartbeats 4000000 in
theorem law (l : Launch) (Z : State) (a0 : Array Value) (hw : ∀ d ∈ tables_1, d.before a0 Z = true) (n0 : Nat) (hEW : EW Z a0 consts_1) (p0 p1 : Int32) (p2 p3 : Int64) (h0 : Heap) (σ : Addr → Prop) (cp : Int32) (Hc : Sta Z Z.heap Road.SN "COMPACT_STRINGS" "Z" (.int cp)) (hcp : ¬ cp = 0) (H0 : Sta Z Z.heap "java/lang/StringUTF16" "$assertionsDisabled" "Z" (.int 1)) (H1 : Sta Z Z.heap "java/lang/StringUTF16" "HI_BYTE_SHIFT" "I" (.int 0)) (H2 : Sta Z Z.heap "java/lang/StringUTF16" "LO_BYTE_SHIFT" "I" (.int 8)) (ws : List Jvm.Cond) :
    Road.Con l Z consts_1 n0 false b0 ws σ #[(.int p0), (.int p1), (.long p2), (.long p3)] h0 (fun v h2 _ => v = some (.int 1)) := by
  refine Road.Con.of b0_pn hEW #[.val (.int p0), .val (.int p1), .val (.long p2), .second, .val (.long p3), .second, .unset, .unset, .unset, .unset, .unset] (fun m => Road.ent (Road.laid1 rfl (Road.laid1 rfl (Road.laid2 rfl (Road.laid2 rfl Road.laid0)))) (k := 5) rfl rfl) ?_
  intro D hD
  refine Road.iloadN 0 b0_d0 rfl ?_
  refine Road.bipush 1 (15 : Int32) b0_d1 rfl ?_
  refine Road.iand 3 b0_d3 ?_
  obtain ⟨n, hn, hn15⟩ : ∃ n : Nat, p0 &&& 15 = Nat.toInt32 n ∧ n ≤ 15 := ⟨_, Road.u32_and15 p0, by omega⟩
  rw [hn]
  refine Road.istore 4 #[.val (.int p0), .val (.int p1), .val (.long p2), .second, .val (.long p3), .second, .val (.int (Nat.toInt32 n)), .unset, .unset, .unset, .unset] b0_d4 rfl ?_
  refine Road.iload 6 b0_d6 rfl ?_
  refine Road.newarray 8 .char n 15 b0_d8 rfl (wI hw 0 rfl) (Road.n32 (by omega)) hn15 (by decide) (ce' := 1) (sl' := 15) rfl rfl (by decide) (by decide) ?_
  intro ar h_1 σ_2 g_3 K_4 lt_5 m_6 s_7 Ar
  refine Road.astore 10 #[.val (.int p0), .val (.int p1), .val (.long p2), .second, .val (.long p3), .second, .val (.int (Nat.toInt32 n)), .val (.ref ar), .unset, .unset, .unset] b0_d10 rfl ?_
  have J15 : ∀ (h : Heap) (τ : Addr → Prop) (pre : List Int32), τ ar → Road.Ary Z h ar .char (pre.map .int ++ List.replicate (n - pre.length) (.int 0)) → pre.length = min 15 n → Road.KF p1 pre → Road.Go l Z a0 consts_1 n0 false b0 D (fun v h2 _ => v = some (.int 1)) h τ 1 15 308 #[.val (.int p0), .val (.int p1), .val (.long p2), .second, .val (.long p3), .second, .val (.int (Nat.toInt32 n)), .val (.ref ar), .unset, .unset, .unset] [] := by
    intro h τ pre sr A hl F
    have hpn : pre.length = n := by omega
    subst hpn
    rw [Nat.sub_self, List.replicate_zero, List.append_nil] at A
    refine Road.new 308 "java/lang/String" b0_d308 (wI hw 1 rfl) (wI hw 2 rfl) (wI hw 3 rfl) (ce' := 2) (sl' := 19) rfl rfl (by decide) (by decide) ?_
    intro s h_8 σ_9 g_10 K_11 lt_12 m_13 s_14 Es D_15 M_16
    have ne_ar_s : ar ≠ s := Nat.ne_of_lt (Nat.lt_of_lt_of_le A.lt (Nat.le_of_eq g_10.symm))
    replace A := A.keep K_11 nin0
    replace sr := m_13 _ sr
    have Cs := D_15 (Or.inr (wI hw 17 rfl)) (ty := .byte) (by decide)
    have Vs := D_15 (Or.inr (wI hw 16 rfl)) (ty := (.array .byte)) (by decide)
    refine Road.dup 311 b0_d311 ?_
    refine Road.aload 312 b0_d312 rfl ?_
    refine Road.callI (B' := bStr1) (a := s) 314 (argsL := [(.ref ar)]) (rest := [(.ref s)]) 1 b0_d314 (wI hw 4 rfl) (wI hw 5 rfl) (wI hw 3 rfl) (wI hw 6 rfl) rfl rfl (by decide) (cStr1 l Z a0 hw n0 hEW s ar pre h_8 σ_9 Es Cs Vs A hn15 F.c16 s_14 cp Hc hcp H0 H1 H2) (lenOf bStr1_pd rfl) rfl rfl rfl (by decide) (by decide) (ce' := 6) (sl' := 64) rfl rfl (by decide) (by decide) ?_
    rintro _ h_17 σ_18 m_19 ⟨rfl, K_20, d, S⟩
    replace sr := m_19 _ sr
    replace s_14 := m_19 _ s_14
    refine Road.astore 317 #[.val (.int p0), .val (.int p1), .val (.long p2), .second, .val (.long p3), .second, .val (.int (Nat.toInt32 pre.length)), .val (.ref ar), .val (.ref s), .unset, .unset] b0_d317 rfl ?_
    refine Road.iloadN 319 b0_d319 rfl ?_
    refine Road.iconst 320 (0 : Int32) b0_d320 rfl ?_
    refine Road.iload 321 b0_d321 rfl ?_
    refine Road.callS (B' := bPair) 323 (argsL := [(.int p1), (.int (Nat.toInt32 0)), (.int (Nat.toInt32 pre.length))]) (rest := []) 0 b0_d323 (wI hw 22 rfl) (wI hw 23 rfl) (wI hw 24 rfl) (wI hw 25 rfl) (by decide) (cPair l Z a0 hw n0 hEW p1 pre 0 h_17 σ_18 F (by decide) (by omega)) (lenOf bPair_pd rfl) rfl rfl rfl (by decide) (by decide) (ce' := 6) (sl' := 64) rfl rfl (by decide) (by decide) ?_
    rintro _ h_23 σ_24 m_25 ⟨rfl, rfl⟩
    refine Road.Go.weaken (σ' := σ_18) m_25 (Nat.le_refl _) (Nat.le_refl _) ?_
    refine Road.nameI ?_
    intro z_27 hz_27
    obtain rfl : z_27 = (Nat.toInt32 (Road.psum pre 1)) := by rw [hz_27]; simp [Road.psum]
    refine Road.iloadN 326 b0_d326 rfl ?_
    refine Road.iconst 327 (1 : Int32) b0_d327 rfl ?_
    refine Road.iload 328 b0_d328 rfl ?_
    refine Road.callS (B' := bPair) 330 (argsL := [(.int p1), (.int (Nat.toInt32 1)), (.int (Nat.toInt32 pre.length))]) (rest := [(.int (Nat.toInt32 (Road.psum pre 1)))]) 1 b0_d330 (wI hw 22 rfl) (wI hw 23 rfl) (wI hw 24 rfl) (wI hw 25 rfl) (by decide) (cPair l Z a0 hw n0 hEW p1 pre 1 h_17 σ_18 F (by decide) (by omega)) (lenOf bPair_pd rfl) rfl rfl rfl (by decide) (by decide) (ce' := 6) (sl' := 64) rfl rfl (by decide) (by decide) ?_
    rintro _ h_28 σ_29 m_30 ⟨rfl, rfl⟩
    refine Road.Go.weaken (σ' := σ_18) m_30 (Nat.le_refl _) (Nat.le_refl _) ?_
    refine Road.iadd 333 b0_d333 ?_
    refine Road.nameI ?_
    intro z_32 hz_32
    obtain rfl : z_32 = (Nat.toInt32 (Road.psum pre 2)) := by rw [hz_32]; exact Road.add32n _ _
    refine Road.iloadN 334 b0_d334 rfl ?_
    refine Road.iconst 335 (2 : Int32) b0_d335 rfl ?_
    refine Road.iload 336 b0_d336 rfl ?_
    refine Road.callS (B' := bPair) 338 (argsL := [(.int p1), (.int (Nat.toInt32 2)), (.int (Nat.toInt32 pre.length))]) (rest := [(.int (Nat.toInt32 (Road.psum pre 2)))]) 1 b0_d338 (wI hw 22 rfl) (wI hw 23 rfl) (wI hw 24 rfl) (wI hw 25 rfl) (by decide) (cPair l Z a0 hw n0 hEW p1 pre 2 h_17 σ_18 F (by decide) (by omega)) (lenOf bPair_pd rfl) rfl rfl rfl (by decide) (by decide) (ce' := 6) (sl' := 64) rfl rfl (by decide) (by decide) ?_
    rintro _ h_33 σ_34 m_35 ⟨rfl, rfl⟩
    refine Road.Go.weaken (σ' := σ_18) m_35 (Nat.le_refl _) (Nat.le_refl _) ?_
    refine Road.iadd 341 b0_d341 ?_
    refine Road.nameI ?_
    intro z_37 hz_37
    obtain rfl : z_37 = (Nat.toInt32 (Road.psum pre 3)) := by rw [hz_37]; exact Road.add32n _ _
    refine Road.iloadN 342 b0_d342 rfl ?_
    refine Road.iconst 343 (3 : Int32) b0_d343 rfl ?_
    refine Road.iload 344 b0_d344 rfl ?_
    refine Road.callS (B' := bPair) 346 (argsL := [(.int p1), (.int (Nat.toInt32 3)), (.int (Nat.toInt32 pre.length))]) (rest := [(.int (Nat.toInt32 (Road.psum pre 3)))]) 1 b0_d346 (wI hw 22 rfl) (wI hw 23 rfl) (wI hw 24 rfl) (wI hw 25 rfl) (by decide) (cPair l Z a0 hw n0 hEW p1 pre 3 h_17 σ_18 F (by decide) (by omega)) (lenOf bPair_pd rfl) rfl rfl rfl (by decide) (by decide) (ce' := 6) (sl' := 64) rfl rfl (by decide) (by decide) ?_
    rintro _ h_38 σ_39 m_40 ⟨rfl, rfl⟩
    refine Road.Go.weaken (σ' := σ_18) m_40 (Nat.le_refl _) (Nat.le_refl _) ?_
    refine Road.iadd 349 b0_d349 ?_
    refine Road.nameI ?_
    intro z_42 hz_42
    obtain rfl : z_42 = (Nat.toInt32 (Road.psum pre 4)) := by rw [hz_42]; exact Road.add32n _ _
    refine Road.iloadN 350 b0_d350 rfl ?_
    refine Road.iconst 351 (4 : Int32) b0_d351 rfl ?_
    refine Road.iload 352 b0_d352 rfl ?_
    refine Road.callS (B' := bPair) 354 (argsL := [(.int p1), (.int (Nat.toInt32 4)), (.int (Nat.toInt32 pre.length))]) (rest := [(.int (Nat.toInt32 (Road.psum pre 4)))]) 1 b0_d354 (wI hw 22 rfl) (wI hw 23 rfl) (wI hw 24 rfl) (wI hw 25 rfl) (by decide) (cPair l Z a0 hw n0 hEW p1 pre 4 h_17 σ_18 F (by decide) (by omega)) (lenOf bPair_pd rfl) rfl rfl rfl (by decide) (by decide) (ce' := 6) (sl' := 64) rfl rfl (by decide) (by decide) ?_
    rintro _ h_43 σ_44 m_45 ⟨rfl, rfl⟩
    refine Road.Go.weaken (σ' := σ_18) m_45 (Nat.le_refl _) (Nat.le_refl _) ?_
    refine Road.iadd 357 b0_d357 ?_
    refine Road.nameI ?_
    intro z_47 hz_47
    obtain rfl : z_47 = (Nat.toInt32 (Road.psum pre 5)) := by rw [hz_47]; exact Road.add32n _ _
    refine Road.iloadN 358 b0_d358 rfl ?_
    refine Road.iconst 359 (5 : Int32) b0_d359 rfl ?_
    refine Road.iload 360 b0_d360 rfl ?_
    refine Road.callS (B' := bPair) 362 (argsL := [(.int p1), (.int (Nat.toInt32 5)), (.int (Nat.toInt32 pre.length))]) (rest := [(.int (Nat.toInt32 (Road.psum pre 5)))]) 1 b0_d362 (wI hw 22 rfl) (wI hw 23 rfl) (wI hw 24 rfl) (wI hw 25 rfl) (by decide) (cPair l Z a0 hw n0 hEW p1 pre 5 h_17 σ_18 F (by decide) (by omega)) (lenOf bPair_pd rfl) rfl rfl rfl (by decide) (by decide) (ce' := 6) (sl' := 64) rfl rfl (by decide) (by decide) ?_
    rintro _ h_48 σ_49 m_50 ⟨rfl, rfl⟩
    refine Road.Go.weaken (σ' := σ_18) m_50 (Nat.le_refl _) (Nat.le_refl _) ?_
    refine Road.iadd 365 b0_d365 ?_
    refine Road.nameI ?_
    intro z_52 hz_52
    obtain rfl : z_52 = (Nat.toInt32 (Road.psum pre 6)) := by rw [hz_52]; exact Road.add32n _ _
    refine Road.iloadN 366 b0_d366 rfl ?_
    refine Road.bipush 367 (6 : Int32) b0_d367 rfl ?_
    refine Road.iload 369 b0_d369 rfl ?_
    refine Road.callS (B' := bPair) 371 (argsL := [(.int p1), (.int (Nat.toInt32 6)), (.int (Nat.toInt32 pre.length))]) (rest := [(.int (Nat.toInt32 (Road.psum pre 6)))]) 1 b0_d371 (wI hw 22 rfl) (wI hw 23 rfl) (wI hw 24 rfl) (wI hw 25 rfl) (by decide) (cPair l Z a0 hw n0 hEW p1 pre 6 h_17 σ_18 F (by decide) (by omega)) (lenOf bPair_pd rfl) rfl rfl rfl (by decide) (by decide) (ce' := 6) (sl' := 64) rfl rfl (by decide) (by decide) ?_
    rintro _ h_53 σ_54 m_55 ⟨rfl, rfl⟩
    refine Road.Go.weaken (σ' := σ_18) m_55 (Nat.le_refl _) (Nat.le_refl _) ?_
    refine Road.iadd 374 b0_d374 ?_
    refine Road.nameI ?_
    intro z_57 hz_57
    obtain rfl : z_57 = (Nat.toInt32 (Road.psum pre 7)) := by rw [hz_57]; exact Road.add32n _ _
    refine Road.iloadN 375 b0_d375 rfl ?_
    refine Road.bipush 376 (7 : Int32) b0_d376 rfl ?_
    refine Road.iload 378 b0_d378 rfl ?_
    refine Road.callS (B' := bPair) 380 (argsL := [(.int p1), (.int (Nat.toInt32 7)), (.int (Nat.toInt32 pre.length))]) (rest := [(.int (Nat.toInt32 (Road.psum pre 7)))]) 1 b0_d380 (wI hw 22 rfl) (wI hw 23 rfl) (wI hw 24 rfl) (wI hw 25 rfl) (by decide) (cPair l Z a0 hw n0 hEW p1 pre 7 h_17 σ_18 F (by decide) (by omega)) (lenOf bPair_pd rfl) rfl rfl rfl (by decide) (by decide) (ce' := 6) (sl' := 64) rfl rfl (by decide) (by decide) ?_
    rintro _ h_58 σ_59 m_60 ⟨rfl, rfl⟩
    refine Road.Go.weaken (σ' := σ_18) m_60 (Nat.le_refl _) (Nat.le_refl _) ?_
    refine Road.iadd 383 b0_d383 ?_
    refine Road.nameI ?_
    intro z_62 hz_62
    obtain rfl : z_62 = (Nat.toInt32 (Road.psum pre 8)) := by rw [hz_62]; exact Road.add32n _ _
    refine Road.iloadN 384 b0_d384 rfl ?_
    refine Road.bipush 385 (8 : Int32) b0_d385 rfl ?_
    refine Road.iload 387 b0_d387 rfl ?_
    refine Road.callS (B' := bPair) 389 (argsL := [(.int p1), (.int (Nat.toInt32 8)), (.int (Nat.toInt32 pre.length))]) (rest := [(.int (Nat.toInt32 (Road.psum pre 8)))]) 1 b0_d389 (wI hw 22 rfl) (wI hw 23 rfl) (wI hw 24 rfl) (wI hw 25 rfl) (by decide) (cPair l Z a0 hw n0 hEW p1 pre 8 h_17 σ_18 F (by decide) (by omega)) (lenOf bPair_pd rfl) rfl rfl rfl (by decide) (by decide) (ce' := 6) (sl' := 64) rfl rfl (by decide) (by decide) ?_
    rintro _ h_63 σ_64 m_65 ⟨rfl, rfl⟩
    refine Road.Go.weaken (σ' := σ_18) m_65 (Nat.le_refl _) (Nat.le_refl _) ?_
    refine Road.iadd 392 b0_d392 ?_
    refine Road.nameI ?_
    intro z_67 hz_67
    obtain rfl : z_67 = (Nat.toInt32 (Road.psum pre 9)) := by rw [hz_67]; exact Road.add32n _ _
    refine Road.iloadN 393 b0_d393 rfl ?_
    refine Road.bipush 394 (9 : Int32) b0_d394 rfl ?_
    refine Road.iload 396 b0_d396 rfl ?_
    refine Road.callS (B' := bPair) 398 (argsL := [(.int p1), (.int (Nat.toInt32 9)), (.int (Nat.toInt32 pre.length))]) (rest := [(.int (Nat.toInt32 (Road.psum pre 9)))]) 1 b0_d398 (wI hw 22 rfl) (wI hw 23 rfl) (wI hw 24 rfl) (wI hw 25 rfl) (by decide) (cPair l Z a0 hw n0 hEW p1 pre 9 h_17 σ_18 F (by decide) (by omega)) (lenOf bPair_pd rfl) rfl rfl rfl (by decide) (by decide) (ce' := 6) (sl' := 64) rfl rfl (by decide) (by decide) ?_
    rintro _ h_68 σ_69 m_70 ⟨rfl, rfl⟩
    refine Road.Go.weaken (σ' := σ_18) m_70 (Nat.le_refl _) (Nat.le_refl _) ?_
    refine Road.iadd 401 b0_d401 ?_
    refine Road.nameI ?_
    intro z_72 hz_72
    obtain rfl : z_72 = (Nat.toInt32 (Road.psum pre 10)) := by rw [hz_72]; exact Road.add32n _ _
    refine Road.iloadN 402 b0_d402 rfl ?_
    refine Road.bipush 403 (10 : Int32) b0_d403 rfl ?_
    refine Road.iload 405 b0_d405 rfl ?_
    refine Road.callS (B' := bPair) 407 (argsL := [(.int p1), (.int (Nat.toInt32 10)), (.int (Nat.toInt32 pre.length))]) (rest := [(.int (Nat.toInt32 (Road.psum pre 10)))]) 1 b0_d407 (wI hw 22 rfl) (wI hw 23 rfl) (wI hw 24 rfl) (wI hw 25 rfl) (by decide) (cPair l Z a0 hw n0 hEW p1 pre 10 h_17 σ_18 F (by decide) (by omega)) (lenOf bPair_pd rfl) rfl rfl rfl (by decide) (by decide) (ce' := 6) (sl' := 64) rfl rfl (by decide) (by decide) ?_
    rintro _ h_73 σ_74 m_75 ⟨rfl, rfl⟩
    refine Road.Go.weaken (σ' := σ_18) m_75 (Nat.le_refl _) (Nat.le_refl _) ?_
    refine Road.iadd 410 b0_d410 ?_
    refine Road.nameI ?_
    intro z_77 hz_77
    obtain rfl : z_77 = (Nat.toInt32 (Road.psum pre 11)) := by rw [hz_77]; exact Road.add32n _ _
    refine Road.iloadN 411 b0_d411 rfl ?_
    refine Road.bipush 412 (11 : Int32) b0_d412 rfl ?_
    refine Road.iload 414 b0_d414 rfl ?_
    refine Road.callS (B' := bPair) 416 (argsL := [(.int p1), (.int (Nat.toInt32 11)), (.int (Nat.toInt32 pre.length))]) (rest := [(.int (Nat.toInt32 (Road.psum pre 11)))]) 1 b0_d416 (wI hw 22 rfl) (wI hw 23 rfl) (wI hw 24 rfl) (wI hw 25 rfl) (by decide) (cPair l Z a0 hw n0 hEW p1 pre 11 h_17 σ_18 F (by decide) (by omega)) (lenOf bPair_pd rfl) rfl rfl rfl (by decide) (by decide) (ce' := 6) (sl' := 64) rfl rfl (by decide) (by decide) ?_
    rintro _ h_78 σ_79 m_80 ⟨rfl, rfl⟩
    refine Road.Go.weaken (σ' := σ_18) m_80 (Nat.le_refl _) (Nat.le_refl _) ?_
    refine Road.iadd 419 b0_d419 ?_
    refine Road.nameI ?_
    intro z_82 hz_82
    obtain rfl : z_82 = (Nat.toInt32 (Road.psum pre 12)) := by rw [hz_82]; exact Road.add32n _ _
    refine Road.iloadN 420 b0_d420 rfl ?_
    refine Road.bipush 421 (12 : Int32) b0_d421 rfl ?_
    refine Road.iload 423 b0_d423 rfl ?_
    refine Road.callS (B' := bPair) 425 (argsL := [(.int p1), (.int (Nat.toInt32 12)), (.int (Nat.toInt32 pre.length))]) (rest := [(.int (Nat.toInt32 (Road.psum pre 12)))]) 1 b0_d425 (wI hw 22 rfl) (wI hw 23 rfl) (wI hw 24 rfl) (wI hw 25 rfl) (by decide) (cPair l Z a0 hw n0 hEW p1 pre 12 h_17 σ_18 F (by decide) (by omega)) (lenOf bPair_pd rfl) rfl rfl rfl (by decide) (by decide) (ce' := 6) (sl' := 64) rfl rfl (by decide) (by decide) ?_
    rintro _ h_83 σ_84 m_85 ⟨rfl, rfl⟩
    refine Road.Go.weaken (σ' := σ_18) m_85 (Nat.le_refl _) (Nat.le_refl _) ?_
    refine Road.iadd 428 b0_d428 ?_
    refine Road.nameI ?_
    intro z_87 hz_87
    obtain rfl : z_87 = (Nat.toInt32 (Road.psum pre 13)) := by rw [hz_87]; exact Road.add32n _ _
    refine Road.iloadN 429 b0_d429 rfl ?_
    refine Road.bipush 430 (13 : Int32) b0_d430 rfl ?_
    refine Road.iload 432 b0_d432 rfl ?_
    refine Road.callS (B' := bPair) 434 (argsL := [(.int p1), (.int (Nat.toInt32 13)), (.int (Nat.toInt32 pre.length))]) (rest := [(.int (Nat.toInt32 (Road.psum pre 13)))]) 1 b0_d434 (wI hw 22 rfl) (wI hw 23 rfl) (wI hw 24 rfl) (wI hw 25 rfl) (by decide) (cPair l Z a0 hw n0 hEW p1 pre 13 h_17 σ_18 F (by decide) (by omega)) (lenOf bPair_pd rfl) rfl rfl rfl (by decide) (by decide) (ce' := 6) (sl' := 64) rfl rfl (by decide) (by decide) ?_
    rintro _ h_88 σ_89 m_90 ⟨rfl, rfl⟩
    refine Road.Go.weaken (σ' := σ_18) m_90 (Nat.le_refl _) (Nat.le_refl _) ?_
    refine Road.iadd 437 b0_d437 ?_
    refine Road.nameI ?_
    intro z_92 hz_92
    obtain rfl : z_92 = (Nat.toInt32 (Road.psum pre 14)) := by rw [hz_92]; exact Road.add32n _ _
    refine Road.istore 438 #[.val (.int p0), .val (.int p1), .val (.long p2), .second, .val (.long p3), .second, .val (.int (Nat.toInt32 pre.length)), .val (.ref ar), .val (.ref s), .val (.int (Nat.toInt32 (Road.psum pre 14))), .unset] b0_d438 rfl ?_
    refine Road.iload 440 b0_d440 rfl ?_
    refine Road.iload 442 b0_d442 rfl ?_
    refine Road.isub 444 b0_d444 ?_
    refine Road.bipush 445 (12 : Int32) b0_d445 rfl ?_
    have hpe : Road.psum pre 14 = Road.psum pre pre.length := (Road.psum_end (cs := pre) (m := pre.length - 1) (by omega) (by omega)).trans (Road.psum_end (cs := pre) (m := pre.length - 1) (by omega) (by omega)).symm
    have hps := Road.psum_le pre pre.length
    rw [hpe]
    rw [Road.sub32n hps]
    refine Road.icmp_lt 447 454 b0_d447 rfl (fun e12 => ?_) (fun e12 => ?_)
    · skip
      rw [show (12 : Int32) = Nat.toInt32 12 from rfl, Road.lt32 (by omega) (by omega)] at e12
      refine Road.iconst 454 (0 : Int32) b0_d454 rfl ?_
      refine Road.istore 455 #[.val (.int p0), .val (.int p1), .val (.long p2), .second, .val (.long p3), .second, .val (.int (Nat.toInt32 pre.length)), .val (.ref ar), .val (.ref s), .val (.int (Nat.toInt32 (Road.psum pre pre.length))), .val (.int (0 : Int32))] b0_d455 rfl ?_
      refine Road.aload 457 b0_d457 rfl ?_
      refine Road.callS (B' := bLen2) 459 (argsL := [(.ref s)]) (rest := []) 0 b0_d459 (wI hw 26 rfl) (wI hw 27 rfl) (wI hw 28 rfl) (wI hw 29 rfl) (by decide) (cLen2 l Z a0 hw n0 hEW s d pre h_17 σ_18 S (by omega) cp Hc hcp H0 H1 H2) (lenOf bLen2_pd rfl) rfl rfl rfl (by decide) (by decide) (ce' := 6) (sl' := 64) rfl rfl (by decide) (by decide) ?_
      rintro _ h_93 σ_94 m_95 ⟨rfl, rfl⟩
      refine Road.Go.weaken (σ' := σ_18) m_95 (Nat.le_refl _) (Nat.le_refl _) ?_
      rw [if_neg (show ¬ 12 ≤ pre.length - Road.psum pre pre.length by omega)]
      refine Road.iload 462 b0_d462 rfl ?_
      refine Road.icmp_ne 464 471 b0_d464 rfl (fun q => absurd q (by simp)) (fun hc464 => ?_)
      refine Road.iconst 467 (1 : Int32) b0_d467 rfl ?_
      refine Road.goto 468 472 b0_d468 rfl ?_
      exact Road.iret 472 1 b0_d472 (t := .boolean) rfl (by simp) rfl (by decide) (by decide) (fun σ' m => rfl)
    · skip
      rw [show (12 : Int32) = Nat.toInt32 12 from rfl, Road.lt32 (by omega) (by omega)] at e12
      refine Road.iconst 450 (1 : Int32) b0_d450 rfl ?_
      refine Road.goto 451 455 b0_d451 rfl ?_
      refine Road.istore 455 #[.val (.int p0), .val (.int p1), .val (.long p2), .second, .val (.long p3), .second, .val (.int (Nat.toInt32 pre.length)), .val (.ref ar), .val (.ref s), .val (.int (Nat.toInt32 (Road.psum pre pre.length))), .val (.int (1 : Int32))] b0_d455 rfl ?_
      refine Road.aload 457 b0_d457 rfl ?_
      refine Road.callS (B' := bLen2) 459 (argsL := [(.ref s)]) (rest := []) 0 b0_d459 (wI hw 26 rfl) (wI hw 27 rfl) (wI hw 28 rfl) (wI hw 29 rfl) (by decide) (cLen2 l Z a0 hw n0 hEW s d pre h_17 σ_18 S (by omega) cp Hc hcp H0 H1 H2) (lenOf bLen2_pd rfl) rfl rfl rfl (by decide) (by decide) (ce' := 6) (sl' := 64) rfl rfl (by decide) (by decide) ?_
      rintro _ h_97 σ_98 m_99 ⟨rfl, rfl⟩
      refine Road.Go.weaken (σ' := σ_18) m_99 (Nat.le_refl _) (Nat.le_refl _) ?_
      rw [if_pos (show 12 ≤ pre.length - Road.psum pre pre.length by omega)]
      refine Road.iload 462 b0_d462 rfl ?_
      refine Road.icmp_ne 464 471 b0_d464 rfl (fun q => absurd q (by simp)) (fun hc464 => ?_)
      refine Road.iconst 467 (1 : Int32) b0_d467 rfl ?_
      refine Road.goto 468 472 b0_d468 rfl ?_
      exact Road.iret 472 1 b0_d472 (t := .boolean) rfl (by simp) rfl (by decide) (by decide) (fun σ' m => rfl)
  have J14 : ∀ (h : Heap) (τ : Addr → Prop) (pre : List Int32), τ ar → Road.Ary Z h ar .char (pre.map .int ++ List.replicate (n - pre.length) (.int 0)) → pre.length = min 14 n → Road.KF p1 pre → Road.Go l Z a0 consts_1 n0 false b0 D (fun v h2 _ => v = some (.int 1)) h τ 1 15 287 #[.val (.int p0), .val (.int p1), .val (.long p2), .second, .val (.long p3), .second, .val (.int (Nat.toInt32 n)), .val (.ref ar), .unset, .unset, .unset] [] := by
    intro h τ pre sr A hl F
    refine Road.iload 287 b0_d287 rfl ?_
    refine Road.bipush 289 (14 : Int32) b0_d289 rfl ?_
    refine Road.icmp_le 291 308 b0_d291 rfl (fun eb => ?_) (fun eb => ?_)
    · skip
      rw [show (14 : Int32) = Nat.toInt32 14 from rfl, Road.lt32 (by omega) (by omega)] at eb
      exact J15 h τ pre sr A (by omega) F
    · skip
      rw [show (14 : Int32) = Nat.toInt32 14 from rfl, Road.lt32 (by omega) (by omega)] at eb
      have hpl : pre.length = 14 := by omega
      refine Road.aload 294 b0_d294 rfl ?_
      refine Road.bipush 296 (14 : Int32) b0_d296 rfl ?_
      refine Road.iloadN 298 b0_d298 rfl ?_
      refine Road.lloadN 299 b0_d299 rfl ?_
      refine Road.lload 300 b0_d300 rfl ?_
      refine Road.bipush 302 (14 : Int32) b0_d302 rfl ?_
      refine Road.callS (B' := bCh) 304 (argsL := [(.int p1), (.long p2), (.long p3), (.int (Nat.toInt32 14))]) (rest := [(.int (14 : Int32)), (.ref ar)]) 2 b0_d304 (wI hw 60 rfl) (wI hw 61 rfl) (wI hw 24 rfl) (wI hw 62 rfl) (by decide) (cCh l Z a0 hw n0 hEW p1 p2 p3 14 h τ) (lenOf bCh_pd rfl) rfl rfl rfl (by decide) (by decide) (ce' := 1) (sl' := 15) rfl rfl (by decide) (by decide) ?_
      rintro _ h_101 σ_102 m_103 ⟨c, rfl, hc, rfl⟩
      refine Road.Go.weaken (σ' := τ) m_103 (Nat.le_refl _) (Nat.le_refl _) ?_
      rw [show n - pre.length = n - (pre ++ [c]).length + 1 from by rw [List.length_append, List.length_singleton]; omega] at A
      refine Road.castore 307 pre.length c b0_d307 A (by rw [hpl]; rfl) (by rw [List.length_append, List.length_map, List.length_replicate]; omega) (Road.nar16 hc.1) sr ?_
      intro h_105 K_106 A_107
      replace A := A_107
      rw [Road.buf_put] at A
      exact J15 h_105 τ (pre ++ [c]) sr A (by rw [List.length_append, List.length_singleton]; omega) (F.snoc hpl hc)
  have J13 : ∀ (h : Heap) (τ : Addr → Prop) (pre : List Int32), τ ar → Road.Ary Z h ar .char (pre.map .int ++ List.replicate (n - pre.length) (.int 0)) → pre.length = min 13 n → Road.KF p1 pre → Road.Go l Z a0 consts_1 n0 false b0 D (fun v h2 _ => v = some (.int 1)) h τ 1 15 266 #[.val (.int p0), .val (.int p1), .val (.long p2), .second, .val (.long p3), .second, .val (.int (Nat.toInt32 n)), .val (.ref ar), .unset, .unset, .unset] [] := by
    intro h τ pre sr A hl F
    refine Road.iload 266 b0_d266 rfl ?_
    refine Road.bipush 268 (13 : Int32) b0_d268 rfl ?_
    refine Road.icmp_le 270 287 b0_d270 rfl (fun eb => ?_) (fun eb => ?_)
    · skip
      rw [show (13 : Int32) = Nat.toInt32 13 from rfl, Road.lt32 (by omega) (by omega)] at eb
      exact J14 h τ pre sr A (by omega) F
    · skip
      rw [show (13 : Int32) = Nat.toInt32 13 from rfl, Road.lt32 (by omega) (by omega)] at eb
      have hpl : pre.length = 13 := by omega
      refine Road.aload 273 b0_d273 rfl ?_
      refine Road.bipush 275 (13 : Int32) b0_d275 rfl ?_
      refine Road.iloadN 277 b0_d277 rfl ?_
      refine Road.lloadN 278 b0_d278 rfl ?_
      refine Road.lload 279 b0_d279 rfl ?_
      refine Road.bipush 281 (13 : Int32) b0_d281 rfl ?_
      refine Road.callS (B' := bCh) 283 (argsL := [(.int p1), (.long p2), (.long p3), (.int (Nat.toInt32 13))]) (rest := [(.int (13 : Int32)), (.ref ar)]) 2 b0_d283 (wI hw 60 rfl) (wI hw 61 rfl) (wI hw 24 rfl) (wI hw 62 rfl) (by decide) (cCh l Z a0 hw n0 hEW p1 p2 p3 13 h τ) (lenOf bCh_pd rfl) rfl rfl rfl (by decide) (by decide) (ce' := 1) (sl' := 15) rfl rfl (by decide) (by decide) ?_
      rintro _ h_108 σ_109 m_110 ⟨c, rfl, hc, rfl⟩
      refine Road.Go.weaken (σ' := τ) m_110 (Nat.le_refl _) (Nat.le_refl _) ?_
      rw [show n - pre.length = n - (pre ++ [c]).length + 1 from by rw [List.length_append, List.length_singleton]; omega] at A
      refine Road.castore 286 pre.length c b0_d286 A (by rw [hpl]; rfl) (by rw [List.length_append, List.length_map, List.length_replicate]; omega) (Road.nar16 hc.1) sr ?_
      intro h_112 K_113 A_114
      replace A := A_114
      rw [Road.buf_put] at A
      exact J14 h_112 τ (pre ++ [c]) sr A (by rw [List.length_append, List.length_singleton]; omega) (F.snoc hpl hc)
  have J12 : ∀ (h : Heap) (τ : Addr → Prop) (pre : List Int32), τ ar → Road.Ary Z h ar .char (pre.map .int ++ List.replicate (n - pre.length) (.int 0)) → pre.length = min 12 n → Road.KF p1 pre → Road.Go l Z a0 consts_1 n0 false b0 D (fun v h2 _ => v = some (.int 1)) h τ 1 15 245 #[.val (.int p0), .val (.int p1), .val (.long p2), .second, .val (.long p3), .second, .val (.int (Nat.toInt32 n)), .val (.ref ar), .unset, .unset, .unset] [] := by
    intro h τ pre sr A hl F
    refine Road.iload 245 b0_d245 rfl ?_
    refine Road.bipush 247 (12 : Int32) b0_d247 rfl ?_
    refine Road.icmp_le 249 266 b0_d249 rfl (fun eb => ?_) (fun eb => ?_)
    · skip
      rw [show (12 : Int32) = Nat.toInt32 12 from rfl, Road.lt32 (by omega) (by omega)] at eb
      exact J13 h τ pre sr A (by omega) F
    · skip
      rw [show (12 : Int32) = Nat.toInt32 12 from rfl, Road.lt32 (by omega) (by omega)] at eb
      have hpl : pre.length = 12 := by omega
      refine Road.aload 252 b0_d252 rfl ?_
      refine Road.bipush 254 (12 : Int32) b0_d254 rfl ?_
      refine Road.iloadN 256 b0_d256 rfl ?_
      refine Road.lloadN 257 b0_d257 rfl ?_
      refine Road.lload 258 b0_d258 rfl ?_
      refine Road.bipush 260 (12 : Int32) b0_d260 rfl ?_
      refine Road.callS (B' := bCh) 262 (argsL := [(.int p1), (.long p2), (.long p3), (.int (Nat.toInt32 12))]) (rest := [(.int (12 : Int32)), (.ref ar)]) 2 b0_d262 (wI hw 60 rfl) (wI hw 61 rfl) (wI hw 24 rfl) (wI hw 62 rfl) (by decide) (cCh l Z a0 hw n0 hEW p1 p2 p3 12 h τ) (lenOf bCh_pd rfl) rfl rfl rfl (by decide) (by decide) (ce' := 1) (sl' := 15) rfl rfl (by decide) (by decide) ?_
      rintro _ h_115 σ_116 m_117 ⟨c, rfl, hc, rfl⟩
      refine Road.Go.weaken (σ' := τ) m_117 (Nat.le_refl _) (Nat.le_refl _) ?_
      rw [show n - pre.length = n - (pre ++ [c]).length + 1 from by rw [List.length_append, List.length_singleton]; omega] at A
      refine Road.castore 265 pre.length c b0_d265 A (by rw [hpl]; rfl) (by rw [List.length_append, List.length_map, List.length_replicate]; omega) (Road.nar16 hc.1) sr ?_
      intro h_119 K_120 A_121
      replace A := A_121
      rw [Road.buf_put] at A
      exact J13 h_119 τ (pre ++ [c]) sr A (by rw [List.length_append, List.length_singleton]; omega) (F.snoc hpl hc)
  have J11 : ∀ (h : Heap) (τ : Addr → Prop) (pre : List Int32), τ ar → Road.Ary Z h ar .char (pre.map .int ++ List.replicate (n - pre.length) (.int 0)) → pre.length = min 11 n → Road.KF p1 pre → Road.Go l Z a0 consts_1 n0 false b0 D (fun v h2 _ => v = some (.int 1)) h τ 1 15 224 #[.val (.int p0), .val (.int p1), .val (.long p2), .second, .val (.long p3), .second, .val (.int (Nat.toInt32 n)), .val (.ref ar), .unset, .unset, .unset] [] := by
    intro h τ pre sr A hl F
    refine Road.iload 224 b0_d224 rfl ?_
    refine Road.bipush 226 (11 : Int32) b0_d226 rfl ?_
    refine Road.icmp_le 228 245 b0_d228 rfl (fun eb => ?_) (fun eb => ?_)
    · skip
      rw [show (11 : Int32) = Nat.toInt32 11 from rfl, Road.lt32 (by omega) (by omega)] at eb
      exact J12 h τ pre sr A (by omega) F
    · skip
      rw [show (11 : Int32) = Nat.toInt32 11 from rfl, Road.lt32 (by omega) (by omega)] at eb
      have hpl : pre.length = 11 := by omega
      refine Road.aload 231 b0_d231 rfl ?_
      refine Road.bipush 233 (11 : Int32) b0_d233 rfl ?_
      refine Road.iloadN 235 b0_d235 rfl ?_
      refine Road.lloadN 236 b0_d236 rfl ?_
      refine Road.lload 237 b0_d237 rfl ?_
      refine Road.bipush 239 (11 : Int32) b0_d239 rfl ?_
      refine Road.callS (B' := bCh) 241 (argsL := [(.int p1), (.long p2), (.long p3), (.int (Nat.toInt32 11))]) (rest := [(.int (11 : Int32)), (.ref ar)]) 2 b0_d241 (wI hw 60 rfl) (wI hw 61 rfl) (wI hw 24 rfl) (wI hw 62 rfl) (by decide) (cCh l Z a0 hw n0 hEW p1 p2 p3 11 h τ) (lenOf bCh_pd rfl) rfl rfl rfl (by decide) (by decide) (ce' := 1) (sl' := 15) rfl rfl (by decide) (by decide) ?_
      rintro _ h_122 σ_123 m_124 ⟨c, rfl, hc, rfl⟩
      refine Road.Go.weaken (σ' := τ) m_124 (Nat.le_refl _) (Nat.le_refl _) ?_
      rw [show n - pre.length = n - (pre ++ [c]).length + 1 from by rw [List.length_append, List.length_singleton]; omega] at A
      refine Road.castore 244 pre.length c b0_d244 A (by rw [hpl]; rfl) (by rw [List.length_append, List.length_map, List.length_replicate]; omega) (Road.nar16 hc.1) sr ?_
      intro h_126 K_127 A_128
      replace A := A_128
      rw [Road.buf_put] at A
      exact J12 h_126 τ (pre ++ [c]) sr A (by rw [List.length_append, List.length_singleton]; omega) (F.snoc hpl hc)
  have J10 : ∀ (h : Heap) (τ : Addr → Prop) (pre : List Int32), τ ar → Road.Ary Z h ar .char (pre.map .int ++ List.replicate (n - pre.length) (.int 0)) → pre.length = min 10 n → Road.KF p1 pre → Road.Go l Z a0 consts_1 n0 false b0 D (fun v h2 _ => v = some (.int 1)) h τ 1 15 203 #[.val (.int p0), .val (.int p1), .val (.long p2), .second, .val (.long p3), .second, .val (.int (Nat.toInt32 n)), .val (.ref ar), .unset, .unset, .unset] [] := by
    intro h τ pre sr A hl F
    refine Road.iload 203 b0_d203 rfl ?_
    refine Road.bipush 205 (10 : Int32) b0_d205 rfl ?_
    refine Road.icmp_le 207 224 b0_d207 rfl (fun eb => ?_) (fun eb => ?_)
    · skip
      rw [show (10 : Int32) = Nat.toInt32 10 from rfl, Road.lt32 (by omega) (by omega)] at eb
      exact J11 h τ pre sr A (by omega) F
    · skip
      rw [show (10 : Int32) = Nat.toInt32 10 from rfl, Road.lt32 (by omega) (by omega)] at eb
      have hpl : pre.length = 10 := by omega
      refine Road.aload 210 b0_d210 rfl ?_
      refine Road.bipush 212 (10 : Int32) b0_d212 rfl ?_
      refine Road.iloadN 214 b0_d214 rfl ?_
      refine Road.lloadN 215 b0_d215 rfl ?_
      refine Road.lload 216 b0_d216 rfl ?_
      refine Road.bipush 218 (10 : Int32) b0_d218 rfl ?_
      refine Road.callS (B' := bCh) 220 (argsL := [(.int p1), (.long p2), (.long p3), (.int (Nat.toInt32 10))]) (rest := [(.int (10 : Int32)), (.ref ar)]) 2 b0_d220 (wI hw 60 rfl) (wI hw 61 rfl) (wI hw 24 rfl) (wI hw 62 rfl) (by decide) (cCh l Z a0 hw n0 hEW p1 p2 p3 10 h τ) (lenOf bCh_pd rfl) rfl rfl rfl (by decide) (by decide) (ce' := 1) (sl' := 15) rfl rfl (by decide) (by decide) ?_
      rintro _ h_129 σ_130 m_131 ⟨c, rfl, hc, rfl⟩
      refine Road.Go.weaken (σ' := τ) m_131 (Nat.le_refl _) (Nat.le_refl _) ?_
      rw [show n - pre.length = n - (pre ++ [c]).length + 1 from by rw [List.length_append, List.length_singleton]; omega] at A
      refine Road.castore 223 pre.length c b0_d223 A (by rw [hpl]; rfl) (by rw [List.length_append, List.length_map, List.length_replicate]; omega) (Road.nar16 hc.1) sr ?_
      intro h_133 K_134 A_135
      replace A := A_135
      rw [Road.buf_put] at A
      exact J11 h_133 τ (pre ++ [c]) sr A (by rw [List.length_append, List.length_singleton]; omega) (F.snoc hpl hc)
  have J9 : ∀ (h : Heap) (τ : Addr → Prop) (pre : List Int32), τ ar → Road.Ary Z h ar .char (pre.map .int ++ List.replicate (n - pre.length) (.int 0)) → pre.length = min 9 n → Road.KF p1 pre → Road.Go l Z a0 consts_1 n0 false b0 D (fun v h2 _ => v = some (.int 1)) h τ 1 15 182 #[.val (.int p0), .val (.int p1), .val (.long p2), .second, .val (.long p3), .second, .val (.int (Nat.toInt32 n)), .val (.ref ar), .unset, .unset, .unset] [] := by
    intro h τ pre sr A hl F
    refine Road.iload 182 b0_d182 rfl ?_
    refine Road.bipush 184 (9 : Int32) b0_d184 rfl ?_
    refine Road.icmp_le 186 203 b0_d186 rfl (fun eb => ?_) (fun eb => ?_)
    · skip
      rw [show (9 : Int32) = Nat.toInt32 9 from rfl, Road.lt32 (by omega) (by omega)] at eb
      exact J10 h τ pre sr A (by omega) F
    · skip
      rw [show (9 : Int32) = Nat.toInt32 9 from rfl, Road.lt32 (by omega) (by omega)] at eb
      have hpl : pre.length = 9 := by omega
      refine Road.aload 189 b0_d189 rfl ?_
      refine Road.bipush 191 (9 : Int32) b0_d191 rfl ?_
      refine Road.iloadN 193 b0_d193 rfl ?_
      refine Road.lloadN 194 b0_d194 rfl ?_
      refine Road.lload 195 b0_d195 rfl ?_
      refine Road.bipush 197 (9 : Int32) b0_d197 rfl ?_
      refine Road.callS (B' := bCh) 199 (argsL := [(.int p1), (.long p2), (.long p3), (.int (Nat.toInt32 9))]) (rest := [(.int (9 : Int32)), (.ref ar)]) 2 b0_d199 (wI hw 60 rfl) (wI hw 61 rfl) (wI hw 24 rfl) (wI hw 62 rfl) (by decide) (cCh l Z a0 hw n0 hEW p1 p2 p3 9 h τ) (lenOf bCh_pd rfl) rfl rfl rfl (by decide) (by decide) (ce' := 1) (sl' := 15) rfl rfl (by decide) (by decide) ?_
      rintro _ h_136 σ_137 m_138 ⟨c, rfl, hc, rfl⟩
      refine Road.Go.weaken (σ' := τ) m_138 (Nat.le_refl _) (Nat.le_refl _) ?_
      rw [show n - pre.length = n - (pre ++ [c]).length + 1 from by rw [List.length_append, List.length_singleton]; omega] at A
      refine Road.castore 202 pre.length c b0_d202 A (by rw [hpl]; rfl) (by rw [List.length_append, List.length_map, List.length_replicate]; omega) (Road.nar16 hc.1) sr ?_
      intro h_140 K_141 A_142
      replace A := A_142
      rw [Road.buf_put] at A
      exact J10 h_140 τ (pre ++ [c]) sr A (by rw [List.length_append, List.length_singleton]; omega) (F.snoc hpl hc)
  have J8 : ∀ (h : Heap) (τ : Addr → Prop) (pre : List Int32), τ ar → Road.Ary Z h ar .char (pre.map .int ++ List.replicate (n - pre.length) (.int 0)) → pre.length = min 8 n → Road.KF p1 pre → Road.Go l Z a0 consts_1 n0 false b0 D (fun v h2 _ => v = some (.int 1)) h τ 1 15 161 #[.val (.int p0), .val (.int p1), .val (.long p2), .second, .val (.long p3), .second, .val (.int (Nat.toInt32 n)), .val (.ref ar), .unset, .unset, .unset] [] := by
    intro h τ pre sr A hl F
    refine Road.iload 161 b0_d161 rfl ?_
    refine Road.bipush 163 (8 : Int32) b0_d163 rfl ?_
    refine Road.icmp_le 165 182 b0_d165 rfl (fun eb => ?_) (fun eb => ?_)
    · skip
      rw [show (8 : Int32) = Nat.toInt32 8 from rfl, Road.lt32 (by omega) (by omega)] at eb
      exact J9 h τ pre sr A (by omega) F
    · skip
      rw [show (8 : Int32) = Nat.toInt32 8 from rfl, Road.lt32 (by omega) (by omega)] at eb
      have hpl : pre.length = 8 := by omega
      refine Road.aload 168 b0_d168 rfl ?_
      refine Road.bipush 170 (8 : Int32) b0_d170 rfl ?_
      refine Road.iloadN 172 b0_d172 rfl ?_
      refine Road.lloadN 173 b0_d173 rfl ?_
      refine Road.lload 174 b0_d174 rfl ?_
      refine Road.bipush 176 (8 : Int32) b0_d176 rfl ?_
      refine Road.callS (B' := bCh) 178 (argsL := [(.int p1), (.long p2), (.long p3), (.int (Nat.toInt32 8))]) (rest := [(.int (8 : Int32)), (.ref ar)]) 2 b0_d178 (wI hw 60 rfl) (wI hw 61 rfl) (wI hw 24 rfl) (wI hw 62 rfl) (by decide) (cCh l Z a0 hw n0 hEW p1 p2 p3 8 h τ) (lenOf bCh_pd rfl) rfl rfl rfl (by decide) (by decide) (ce' := 1) (sl' := 15) rfl rfl (by decide) (by decide) ?_
      rintro _ h_143 σ_144 m_145 ⟨c, rfl, hc, rfl⟩
      refine Road.Go.weaken (σ' := τ) m_145 (Nat.le_refl _) (Nat.le_refl _) ?_
      rw [show n - pre.length = n - (pre ++ [c]).length + 1 from by rw [List.length_append, List.length_singleton]; omega] at A
      refine Road.castore 181 pre.length c b0_d181 A (by rw [hpl]; rfl) (by rw [List.length_append, List.length_map, List.length_replicate]; omega) (Road.nar16 hc.1) sr ?_
      intro h_147 K_148 A_149
      replace A := A_149
      rw [Road.buf_put] at A
      exact J9 h_147 τ (pre ++ [c]) sr A (by rw [List.length_append, List.length_singleton]; omega) (F.snoc hpl hc)
  have J7 : ∀ (h : Heap) (τ : Addr → Prop) (pre : List Int32), τ ar → Road.Ary Z h ar .char (pre.map .int ++ List.replicate (n - pre.length) (.int 0)) → pre.length = min 7 n → Road.KF p1 pre → Road.Go l Z a0 consts_1 n0 false b0 D (fun v h2 _ => v = some (.int 1)) h τ 1 15 140 #[.val (.int p0), .val (.int p1), .val (.long p2), .second, .val (.long p3), .second, .val (.int (Nat.toInt32 n)), .val (.ref ar), .unset, .unset, .unset] [] := by
    intro h τ pre sr A hl F
    refine Road.iload 140 b0_d140 rfl ?_
    refine Road.bipush 142 (7 : Int32) b0_d142 rfl ?_
    refine Road.icmp_le 144 161 b0_d144 rfl (fun eb => ?_) (fun eb => ?_)
    · skip
      rw [show (7 : Int32) = Nat.toInt32 7 from rfl, Road.lt32 (by omega) (by omega)] at eb
      exact J8 h τ pre sr A (by omega) F
    · skip
      rw [show (7 : Int32) = Nat.toInt32 7 from rfl, Road.lt32 (by omega) (by omega)] at eb
      have hpl : pre.length = 7 := by omega
      refine Road.aload 147 b0_d147 rfl ?_
      refine Road.bipush 149 (7 : Int32) b0_d149 rfl ?_
      refine Road.iloadN 151 b0_d151 rfl ?_
      refine Road.lloadN 152 b0_d152 rfl ?_
      refine Road.lload 153 b0_d153 rfl ?_
      refine Road.bipush 155 (7 : Int32) b0_d155 rfl ?_
      refine Road.callS (B' := bCh) 157 (argsL := [(.int p1), (.long p2), (.long p3), (.int (Nat.toInt32 7))]) (rest := [(.int (7 : Int32)), (.ref ar)]) 2 b0_d157 (wI hw 60 rfl) (wI hw 61 rfl) (wI hw 24 rfl) (wI hw 62 rfl) (by decide) (cCh l Z a0 hw n0 hEW p1 p2 p3 7 h τ) (lenOf bCh_pd rfl) rfl rfl rfl (by decide) (by decide) (ce' := 1) (sl' := 15) rfl rfl (by decide) (by decide) ?_
      rintro _ h_150 σ_151 m_152 ⟨c, rfl, hc, rfl⟩
      refine Road.Go.weaken (σ' := τ) m_152 (Nat.le_refl _) (Nat.le_refl _) ?_
      rw [show n - pre.length = n - (pre ++ [c]).length + 1 from by rw [List.length_append, List.length_singleton]; omega] at A
      refine Road.castore 160 pre.length c b0_d160 A (by rw [hpl]; rfl) (by rw [List.length_append, List.length_map, List.length_replicate]; omega) (Road.nar16 hc.1) sr ?_
      intro h_154 K_155 A_156
      replace A := A_156
      rw [Road.buf_put] at A
      exact J8 h_154 τ (pre ++ [c]) sr A (by rw [List.length_append, List.length_singleton]; omega) (F.snoc hpl hc)
  have J6 : ∀ (h : Heap) (τ : Addr → Prop) (pre : List Int32), τ ar → Road.Ary Z h ar .char (pre.map .int ++ List.replicate (n - pre.length) (.int 0)) → pre.length = min 6 n → Road.KF p1 pre → Road.Go l Z a0 consts_1 n0 false b0 D (fun v h2 _ => v = some (.int 1)) h τ 1 15 119 #[.val (.int p0), .val (.int p1), .val (.long p2), .second, .val (.long p3), .second, .val (.int (Nat.toInt32 n)), .val (.ref ar), .unset, .unset, .unset] [] := by
    intro h τ pre sr A hl F
    refine Road.iload 119 b0_d119 rfl ?_
    refine Road.bipush 121 (6 : Int32) b0_d121 rfl ?_
    refine Road.icmp_le 123 140 b0_d123 rfl (fun eb => ?_) (fun eb => ?_)
    · skip
      rw [show (6 : Int32) = Nat.toInt32 6 from rfl, Road.lt32 (by omega) (by omega)] at eb
      exact J7 h τ pre sr A (by omega) F
    · skip
      rw [show (6 : Int32) = Nat.toInt32 6 from rfl, Road.lt32 (by omega) (by omega)] at eb
      have hpl : pre.length = 6 := by omega
      refine Road.aload 126 b0_d126 rfl ?_
      refine Road.bipush 128 (6 : Int32) b0_d128 rfl ?_
      refine Road.iloadN 130 b0_d130 rfl ?_
      refine Road.lloadN 131 b0_d131 rfl ?_
      refine Road.lload 132 b0_d132 rfl ?_
      refine Road.bipush 134 (6 : Int32) b0_d134 rfl ?_
      refine Road.callS (B' := bCh) 136 (argsL := [(.int p1), (.long p2), (.long p3), (.int (Nat.toInt32 6))]) (rest := [(.int (6 : Int32)), (.ref ar)]) 2 b0_d136 (wI hw 60 rfl) (wI hw 61 rfl) (wI hw 24 rfl) (wI hw 62 rfl) (by decide) (cCh l Z a0 hw n0 hEW p1 p2 p3 6 h τ) (lenOf bCh_pd rfl) rfl rfl rfl (by decide) (by decide) (ce' := 1) (sl' := 15) rfl rfl (by decide) (by decide) ?_
      rintro _ h_157 σ_158 m_159 ⟨c, rfl, hc, rfl⟩
      refine Road.Go.weaken (σ' := τ) m_159 (Nat.le_refl _) (Nat.le_refl _) ?_
      rw [show n - pre.length = n - (pre ++ [c]).length + 1 from by rw [List.length_append, List.length_singleton]; omega] at A
      refine Road.castore 139 pre.length c b0_d139 A (by rw [hpl]; rfl) (by rw [List.length_append, List.length_map, List.length_replicate]; omega) (Road.nar16 hc.1) sr ?_
      intro h_161 K_162 A_163
      replace A := A_163
      rw [Road.buf_put] at A
      exact J7 h_161 τ (pre ++ [c]) sr A (by rw [List.length_append, List.length_singleton]; omega) (F.snoc hpl hc)
  have J5 : ∀ (h : Heap) (τ : Addr → Prop) (pre : List Int32), τ ar → Road.Ary Z h ar .char (pre.map .int ++ List.replicate (n - pre.length) (.int 0)) → pre.length = min 5 n → Road.KF p1 pre → Road.Go l Z a0 consts_1 n0 false b0 D (fun v h2 _ => v = some (.int 1)) h τ 1 15 101 #[.val (.int p0), .val (.int p1), .val (.long p2), .second, .val (.long p3), .second, .val (.int (Nat.toInt32 n)), .val (.ref ar), .unset, .unset, .unset] [] := by
    intro h τ pre sr A hl F
    refine Road.iload 101 b0_d101 rfl ?_
    refine Road.iconst 103 (5 : Int32) b0_d103 rfl ?_
    refine Road.icmp_le 104 119 b0_d104 rfl (fun eb => ?_) (fun eb => ?_)
    · skip
      rw [show (5 : Int32) = Nat.toInt32 5 from rfl, Road.lt32 (by omega) (by omega)] at eb
      exact J6 h τ pre sr A (by omega) F
    · skip
      rw [show (5 : Int32) = Nat.toInt32 5 from rfl, Road.lt32 (by omega) (by omega)] at eb
      have hpl : pre.length = 5 := by omega
      refine Road.aload 107 b0_d107 rfl ?_
      refine Road.iconst 109 (5 : Int32) b0_d109 rfl ?_
      refine Road.iloadN 110 b0_d110 rfl ?_
      refine Road.lloadN 111 b0_d111 rfl ?_
      refine Road.lload 112 b0_d112 rfl ?_
      refine Road.iconst 114 (5 : Int32) b0_d114 rfl ?_
      refine Road.callS (B' := bCh) 115 (argsL := [(.int p1), (.long p2), (.long p3), (.int (Nat.toInt32 5))]) (rest := [(.int (5 : Int32)), (.ref ar)]) 2 b0_d115 (wI hw 60 rfl) (wI hw 61 rfl) (wI hw 24 rfl) (wI hw 62 rfl) (by decide) (cCh l Z a0 hw n0 hEW p1 p2 p3 5 h τ) (lenOf bCh_pd rfl) rfl rfl rfl (by decide) (by decide) (ce' := 1) (sl' := 15) rfl rfl (by decide) (by decide) ?_
      rintro _ h_164 σ_165 m_166 ⟨c, rfl, hc, rfl⟩
      refine Road.Go.weaken (σ' := τ) m_166 (Nat.le_refl _) (Nat.le_refl _) ?_
      rw [show n - pre.length = n - (pre ++ [c]).length + 1 from by rw [List.length_append, List.length_singleton]; omega] at A
      refine Road.castore 118 pre.length c b0_d118 A (by rw [hpl]; rfl) (by rw [List.length_append, List.length_map, List.length_replicate]; omega) (Road.nar16 hc.1) sr ?_
      intro h_168 K_169 A_170
      replace A := A_170
      rw [Road.buf_put] at A
      exact J6 h_168 τ (pre ++ [c]) sr A (by rw [List.length_append, List.length_singleton]; omega) (F.snoc hpl hc)
  have J4 : ∀ (h : Heap) (τ : Addr → Prop) (pre : List Int32), τ ar → Road.Ary Z h ar .char (pre.map .int ++ List.replicate (n - pre.length) (.int 0)) → pre.length = min 4 n → Road.KF p1 pre → Road.Go l Z a0 consts_1 n0 false b0 D (fun v h2 _ => v = some (.int 1)) h τ 1 15 83 #[.val (.int p0), .val (.int p1), .val (.long p2), .second, .val (.long p3), .second, .val (.int (Nat.toInt32 n)), .val (.ref ar), .unset, .unset, .unset] [] := by
    intro h τ pre sr A hl F
    refine Road.iload 83 b0_d83 rfl ?_
    refine Road.iconst 85 (4 : Int32) b0_d85 rfl ?_
    refine Road.icmp_le 86 101 b0_d86 rfl (fun eb => ?_) (fun eb => ?_)
    · skip
      rw [show (4 : Int32) = Nat.toInt32 4 from rfl, Road.lt32 (by omega) (by omega)] at eb
      exact J5 h τ pre sr A (by omega) F
    · skip
      rw [show (4 : Int32) = Nat.toInt32 4 from rfl, Road.lt32 (by omega) (by omega)] at eb
      have hpl : pre.length = 4 := by omega
      refine Road.aload 89 b0_d89 rfl ?_
      refine Road.iconst 91 (4 : Int32) b0_d91 rfl ?_
      refine Road.iloadN 92 b0_d92 rfl ?_
      refine Road.lloadN 93 b0_d93 rfl ?_
      refine Road.lload 94 b0_d94 rfl ?_
      refine Road.iconst 96 (4 : Int32) b0_d96 rfl ?_
      refine Road.callS (B' := bCh) 97 (argsL := [(.int p1), (.long p2), (.long p3), (.int (Nat.toInt32 4))]) (rest := [(.int (4 : Int32)), (.ref ar)]) 2 b0_d97 (wI hw 60 rfl) (wI hw 61 rfl) (wI hw 24 rfl) (wI hw 62 rfl) (by decide) (cCh l Z a0 hw n0 hEW p1 p2 p3 4 h τ) (lenOf bCh_pd rfl) rfl rfl rfl (by decide) (by decide) (ce' := 1) (sl' := 15) rfl rfl (by decide) (by decide) ?_
      rintro _ h_171 σ_172 m_173 ⟨c, rfl, hc, rfl⟩
      refine Road.Go.weaken (σ' := τ) m_173 (Nat.le_refl _) (Nat.le_refl _) ?_
      rw [show n - pre.length = n - (pre ++ [c]).length + 1 from by rw [List.length_append, List.length_singleton]; omega] at A
      refine Road.castore 100 pre.length c b0_d100 A (by rw [hpl]; rfl) (by rw [List.length_append, List.length_map, List.length_replicate]; omega) (Road.nar16 hc.1) sr ?_
      intro h_175 K_176 A_177
      replace A := A_177
      rw [Road.buf_put] at A
      exact J5 h_175 τ (pre ++ [c]) sr A (by rw [List.length_append, List.length_singleton]; omega) (F.snoc hpl hc)
  have J3 : ∀ (h : Heap) (τ : Addr → Prop) (pre : List Int32), τ ar → Road.Ary Z h ar .char (pre.map .int ++ List.replicate (n - pre.length) (.int 0)) → pre.length = min 3 n → Road.KF p1 pre → Road.Go l Z a0 consts_1 n0 false b0 D (fun v h2 _ => v = some (.int 1)) h τ 1 15 65 #[.val (.int p0), .val (.int p1), .val (.long p2), .second, .val (.long p3), .second, .val (.int (Nat.toInt32 n)), .val (.ref ar), .unset, .unset, .unset] [] := by
    intro h τ pre sr A hl F
    refine Road.iload 65 b0_d65 rfl ?_
    refine Road.iconst 67 (3 : Int32) b0_d67 rfl ?_
    refine Road.icmp_le 68 83 b0_d68 rfl (fun eb => ?_) (fun eb => ?_)
    · skip
      rw [show (3 : Int32) = Nat.toInt32 3 from rfl, Road.lt32 (by omega) (by omega)] at eb
      exact J4 h τ pre sr A (by omega) F
    · skip
      rw [show (3 : Int32) = Nat.toInt32 3 from rfl, Road.lt32 (by omega) (by omega)] at eb
      have hpl : pre.length = 3 := by omega
      refine Road.aload 71 b0_d71 rfl ?_
      refine Road.iconst 73 (3 : Int32) b0_d73 rfl ?_
      refine Road.iloadN 74 b0_d74 rfl ?_
      refine Road.lloadN 75 b0_d75 rfl ?_
      refine Road.lload 76 b0_d76 rfl ?_
      refine Road.iconst 78 (3 : Int32) b0_d78 rfl ?_
      refine Road.callS (B' := bCh) 79 (argsL := [(.int p1), (.long p2), (.long p3), (.int (Nat.toInt32 3))]) (rest := [(.int (3 : Int32)), (.ref ar)]) 2 b0_d79 (wI hw 60 rfl) (wI hw 61 rfl) (wI hw 24 rfl) (wI hw 62 rfl) (by decide) (cCh l Z a0 hw n0 hEW p1 p2 p3 3 h τ) (lenOf bCh_pd rfl) rfl rfl rfl (by decide) (by decide) (ce' := 1) (sl' := 15) rfl rfl (by decide) (by decide) ?_
      rintro _ h_178 σ_179 m_180 ⟨c, rfl, hc, rfl⟩
      refine Road.Go.weaken (σ' := τ) m_180 (Nat.le_refl _) (Nat.le_refl _) ?_
      rw [show n - pre.length = n - (pre ++ [c]).length + 1 from by rw [List.length_append, List.length_singleton]; omega] at A
      refine Road.castore 82 pre.length c b0_d82 A (by rw [hpl]; rfl) (by rw [List.length_append, List.length_map, List.length_replicate]; omega) (Road.nar16 hc.1) sr ?_
      intro h_182 K_183 A_184
      replace A := A_184
      rw [Road.buf_put] at A
      exact J4 h_182 τ (pre ++ [c]) sr A (by rw [List.length_append, List.length_singleton]; omega) (F.snoc hpl hc)
  have J2 : ∀ (h : Heap) (τ : Addr → Prop) (pre : List Int32), τ ar → Road.Ary Z h ar .char (pre.map .int ++ List.replicate (n - pre.length) (.int 0)) → pre.length = min 2 n → Road.KF p1 pre → Road.Go l Z a0 consts_1 n0 false b0 D (fun v h2 _ => v = some (.int 1)) h τ 1 15 47 #[.val (.int p0), .val (.int p1), .val (.long p2), .second, .val (.long p3), .second, .val (.int (Nat.toInt32 n)), .val (.ref ar), .unset, .unset, .unset] [] := by
    intro h τ pre sr A hl F
    refine Road.iload 47 b0_d47 rfl ?_
    refine Road.iconst 49 (2 : Int32) b0_d49 rfl ?_
    refine Road.icmp_le 50 65 b0_d50 rfl (fun eb => ?_) (fun eb => ?_)
    · skip
      rw [show (2 : Int32) = Nat.toInt32 2 from rfl, Road.lt32 (by omega) (by omega)] at eb
      exact J3 h τ pre sr A (by omega) F
    · skip
      rw [show (2 : Int32) = Nat.toInt32 2 from rfl, Road.lt32 (by omega) (by omega)] at eb
      have hpl : pre.length = 2 := by omega
      refine Road.aload 53 b0_d53 rfl ?_
      refine Road.iconst 55 (2 : Int32) b0_d55 rfl ?_
      refine Road.iloadN 56 b0_d56 rfl ?_
      refine Road.lloadN 57 b0_d57 rfl ?_
      refine Road.lload 58 b0_d58 rfl ?_
      refine Road.iconst 60 (2 : Int32) b0_d60 rfl ?_
      refine Road.callS (B' := bCh) 61 (argsL := [(.int p1), (.long p2), (.long p3), (.int (Nat.toInt32 2))]) (rest := [(.int (2 : Int32)), (.ref ar)]) 2 b0_d61 (wI hw 60 rfl) (wI hw 61 rfl) (wI hw 24 rfl) (wI hw 62 rfl) (by decide) (cCh l Z a0 hw n0 hEW p1 p2 p3 2 h τ) (lenOf bCh_pd rfl) rfl rfl rfl (by decide) (by decide) (ce' := 1) (sl' := 15) rfl rfl (by decide) (by decide) ?_
      rintro _ h_185 σ_186 m_187 ⟨c, rfl, hc, rfl⟩
      refine Road.Go.weaken (σ' := τ) m_187 (Nat.le_refl _) (Nat.le_refl _) ?_
      rw [show n - pre.length = n - (pre ++ [c]).length + 1 from by rw [List.length_append, List.length_singleton]; omega] at A
      refine Road.castore 64 pre.length c b0_d64 A (by rw [hpl]; rfl) (by rw [List.length_append, List.length_map, List.length_replicate]; omega) (Road.nar16 hc.1) sr ?_
      intro h_189 K_190 A_191
      replace A := A_191
      rw [Road.buf_put] at A
      exact J3 h_189 τ (pre ++ [c]) sr A (by rw [List.length_append, List.length_singleton]; omega) (F.snoc hpl hc)
  have J1 : ∀ (h : Heap) (τ : Addr → Prop) (pre : List Int32), τ ar → Road.Ary Z h ar .char (pre.map .int ++ List.replicate (n - pre.length) (.int 0)) → pre.length = min 1 n → Road.KF p1 pre → Road.Go l Z a0 consts_1 n0 false b0 D (fun v h2 _ => v = some (.int 1)) h τ 1 15 29 #[.val (.int p0), .val (.int p1), .val (.long p2), .second, .val (.long p3), .second, .val (.int (Nat.toInt32 n)), .val (.ref ar), .unset, .unset, .unset] [] := by
    intro h τ pre sr A hl F
    refine Road.iload 29 b0_d29 rfl ?_
    refine Road.iconst 31 (1 : Int32) b0_d31 rfl ?_
    refine Road.icmp_le 32 47 b0_d32 rfl (fun eb => ?_) (fun eb => ?_)
    · skip
      rw [show (1 : Int32) = Nat.toInt32 1 from rfl, Road.lt32 (by omega) (by omega)] at eb
      exact J2 h τ pre sr A (by omega) F
    · skip
      rw [show (1 : Int32) = Nat.toInt32 1 from rfl, Road.lt32 (by omega) (by omega)] at eb
      have hpl : pre.length = 1 := by omega
      refine Road.aload 35 b0_d35 rfl ?_
      refine Road.iconst 37 (1 : Int32) b0_d37 rfl ?_
      refine Road.iloadN 38 b0_d38 rfl ?_
      refine Road.lloadN 39 b0_d39 rfl ?_
      refine Road.lload 40 b0_d40 rfl ?_
      refine Road.iconst 42 (1 : Int32) b0_d42 rfl ?_
      refine Road.callS (B' := bCh) 43 (argsL := [(.int p1), (.long p2), (.long p3), (.int (Nat.toInt32 1))]) (rest := [(.int (1 : Int32)), (.ref ar)]) 2 b0_d43 (wI hw 60 rfl) (wI hw 61 rfl) (wI hw 24 rfl) (wI hw 62 rfl) (by decide) (cCh l Z a0 hw n0 hEW p1 p2 p3 1 h τ) (lenOf bCh_pd rfl) rfl rfl rfl (by decide) (by decide) (ce' := 1) (sl' := 15) rfl rfl (by decide) (by decide) ?_
      rintro _ h_192 σ_193 m_194 ⟨c, rfl, hc, rfl⟩
      refine Road.Go.weaken (σ' := τ) m_194 (Nat.le_refl _) (Nat.le_refl _) ?_
      rw [show n - pre.length = n - (pre ++ [c]).length + 1 from by rw [List.length_append, List.length_singleton]; omega] at A
      refine Road.castore 46 pre.length c b0_d46 A (by rw [hpl]; rfl) (by rw [List.length_append, List.length_map, List.length_replicate]; omega) (Road.nar16 hc.1) sr ?_
      intro h_196 K_197 A_198
      replace A := A_198
      rw [Road.buf_put] at A
      exact J2 h_196 τ (pre ++ [c]) sr A (by rw [List.length_append, List.length_singleton]; omega) (F.snoc hpl hc)
  have J0 : ∀ (h : Heap) (τ : Addr → Prop) (pre : List Int32), τ ar → Road.Ary Z h ar .char (pre.map .int ++ List.replicate (n - pre.length) (.int 0)) → pre.length = min 0 n → Road.KF p1 pre → Road.Go l Z a0 consts_1 n0 false b0 D (fun v h2 _ => v = some (.int 1)) h τ 1 15 12 #[.val (.int p0), .val (.int p1), .val (.long p2), .second, .val (.long p3), .second, .val (.int (Nat.toInt32 n)), .val (.ref ar), .unset, .unset, .unset] [] := by
    intro h τ pre sr A hl F
    refine Road.iload 12 b0_d12 rfl ?_
    refine Road.if_le 14 29 b0_d14 rfl (fun eb => ?_) (fun eb => ?_)
    · skip
      rw [show (0 : Int32) = Nat.toInt32 0 from rfl, Road.lt32 (by omega) (by omega)] at eb
      exact J1 h τ pre sr A (by omega) F
    · skip
      rw [show (0 : Int32) = Nat.toInt32 0 from rfl, Road.lt32 (by omega) (by omega)] at eb
      have hpl : pre.length = 0 := by omega
      refine Road.aload 17 b0_d17 rfl ?_
      refine Road.iconst 19 (0 : Int32) b0_d19 rfl ?_
      refine Road.iloadN 20 b0_d20 rfl ?_
      refine Road.lloadN 21 b0_d21 rfl ?_
      refine Road.lload 22 b0_d22 rfl ?_
      refine Road.iconst 24 (0 : Int32) b0_d24 rfl ?_
      refine Road.callS (B' := bCh) 25 (argsL := [(.int p1), (.long p2), (.long p3), (.int (Nat.toInt32 0))]) (rest := [(.int (0 : Int32)), (.ref ar)]) 2 b0_d25 (wI hw 60 rfl) (wI hw 61 rfl) (wI hw 24 rfl) (wI hw 62 rfl) (by decide) (cCh l Z a0 hw n0 hEW p1 p2 p3 0 h τ) (lenOf bCh_pd rfl) rfl rfl rfl (by decide) (by decide) (ce' := 1) (sl' := 15) rfl rfl (by decide) (by decide) ?_
      rintro _ h_199 σ_200 m_201 ⟨c, rfl, hc, rfl⟩
      refine Road.Go.weaken (σ' := τ) m_201 (Nat.le_refl _) (Nat.le_refl _) ?_
      rw [show n - pre.length = n - (pre ++ [c]).length + 1 from by rw [List.length_append, List.length_singleton]; omega] at A
      refine Road.castore 28 pre.length c b0_d28 A (by rw [hpl]; rfl) (by rw [List.length_append, List.length_map, List.length_replicate]; omega) (Road.nar16 hc.1) sr ?_
      intro h_203 K_204 A_205
      replace A := A_205
      rw [Road.buf_put] at A
      exact J1 h_203 τ (pre ++ [c]) sr A (by rw [List.length_append, List.length_singleton]; omega) (F.snoc hpl hc)
  exact J0 h_1 σ_2 [] s_7 (by simpa [defaultValue] using Ar) (by simp) (fun j hj => absurd hj (Nat.not_lt_zero _))
set_option maxHeartbeats 40000000 in
theorem comes_1 {Post : Tables → Env → Array Value → State → Outcome → State → Prop} (hpost : ∀ tb e args s v u, (limb_1_1.after args s (.returned v) u = true ∧ limb_1_2.after args s (.returned v) u = true ∧ True) → ReturnedEndW s (.returned v) u (Jvm.fieldLocs frame_1_writes args s ++ Jvm.arrayLocs frame_1_arrays args s ++ Jvm.staticLocs frame_1_statics s) 24 1280 → Post tb e args s (.returned v) u) :
    ArmFor flags0 classFile x code maxLocals ret World_1 tables_1 room_1 Calls_1 rest_1 Pre_1 Post := by
  intro l hfl _ _ p e ha hc hk s m args below hf hA hF happ hP
  obtain ⟨hcalls, hrest, hpre⟩ := hP
  obtain ⟨-, -, -, hnamed, -, -, -, hat⟩ := (Spec.applies_iff hf).mp happ
  obtain ⟨hg, hn⟩ := and_e (Cond.before_iff.mp (show (Jvm.Cond.and given_1 narrow_1).before args s = true from hpre))
  obtain ⟨h1, hr1⟩ := and_e hg
  obtain ⟨g0, hr2⟩ := and_e hr1
  obtain ⟨g1, hr3⟩ := and_e hr2
  obtain ⟨g2, hr4⟩ := and_e hr3
  have g3 := hr4
  obtain ⟨w0, w1, w2, w3, rfl⟩ : ∃ w0 w1 w2 w3 : Value, args = #[w0, w1, w2, w3] := by
    have hs : args.size = 4 := by simpa [Cond.value, given_1] using h1
    obtain ⟨L⟩ := args
    match L, hs with
    | [w0, w1, w2, w3], _ => exact ⟨w0, w1, w2, w3, rfl⟩
  obtain ⟨p0, ev0⟩ := is_v g0
  obtain rfl : w0 = (.int p0) := Option.some.inj ev0
  obtain ⟨p1, ev1⟩ := is_v g1
  obtain rfl : w1 = (.int p1) := Option.some.inj ev1
  obtain ⟨p2, ev2⟩ := isL_v g2
  obtain rfl : w2 = (.long p2) := Option.some.inj ev2
  obtain ⟨p3, ev3⟩ := isL_v g3
  obtain rfl : w3 = (.long p3) := Option.some.inj ev3
  have hw := fun d (hd : d ∈ tables_1) => atoms_spec (ws := Jvm.Cond.code x code maxLocals ret :: tables_1) hat d (List.mem_cons_of_mem _ hd)
  obtain ⟨hsets, hown0⟩ := atoms_of _ (rest_1_c_eq ▸ (show rest_1_c.before _ s = true from hrest))
  have hfit : Fit s := fun {y c} hc i hi => by
    obtain ⟨ha, rfl⟩ := Array.getElem?_eq_some_iff.mp hc
    have q := List.all_eq_true.mp ((Array.all_eq_true_iff_forall_mem.mp hF) _ (Array.getElem_mem ha)) i (List.mem_range.mpr hi)
    simpa [Array.getElem?_eq_getElem hi] using q
  have hcw := hsets _ (List.mem_of_getElem? (i := 2) rfl)
  have n5 := not_v (Cond.before_iff.mp hcw)
  obtain ⟨cp, e10⟩ := is_v (Cond.before_iff.mp (hsets _ (List.mem_of_getElem? (i := 1) rfl)))
  have Hc : Sta s s.heap "java/lang/String" "COMPACT_STRINGS" "Z" (.int cp) := Sta.start e10 (Or.inl (hsets _ (List.mem_of_getElem? (i := 0) rfl)))
  have hcp : ¬ (cp = (0 : Int32)) := gotF (Cond.eq_ints e10 (Term.int_eval (0))) n5
  have hEW : EW s _ consts_1 := (EW.cons (wI hw 14 rfl) (by decide) EW.nil)
  have hCH : CHv s consts_1 s.vm s.heap := CHv.start hEW (fun q hq => hcalls.1 q hq) hcw (wI hw 15 rfl) (wI hw 2 rfl)
  have H0 := Sta.start (Road.eq_int_of (Cond.before_iff.mp (hsets _ (List.mem_of_getElem? (i := 12) rfl)))) (Or.inl (hsets _ (List.mem_of_getElem? (i := 11) rfl)))
  have H1 := Sta.start (Road.eq_int_of (Cond.before_iff.mp (hsets _ (List.mem_of_getElem? (i := 15) rfl)))) (Or.inl (hsets _ (List.mem_of_getElem? (i := 14) rfl)))
  have H2 := Sta.start (Road.eq_int_of (Cond.before_iff.mp (hsets _ (List.mem_of_getElem? (i := 18) rfl)))) (Or.inl (hsets _ (List.mem_of_getElem? (i := 17) rfl)))
  obtain ⟨n, o, z1, z2, z3, v, L, rfl, hQ, N, -, -, hE⟩ := law l s _ hw s.heap.size hEW p0 p1 p2 p3 s.heap (fun _ => False) cp Hc hcp H0 H1 H2 tables_1 p e ha hc hk s m _ below hf ((Spec.applies_iff_loose hf).mp happ).1 ⟨rfl, State.Warmed39.refl s, rfl, hCH, Old.start s, fun _ q => q.elim⟩ (fun q => nomatch q)
  have hQ : v = some (.int 1) := hQ
  subst hQ
  refine ⟨n, _, z1, z2, z3, hpost _ _ _ _ _ _ ⟨Cond.after_iff.mpr rfl, Cond.after_iff.mpr (eq_i res_at (Term.int_eval (1)) rfl), trivial⟩ ⟨hE.1, hE.2.1, hE.2.2.1, (hE.2.2.2.sift fun y hy => Or.inr (N y hy)).mono (by decide) (by decide)⟩⟩
theorem main_1_1 : Claimed_1_1 := comes_1 fun _ _ _ _ _ _ h hF => ⟨h.1, hF⟩
theorem main_1_2 : Claimed_1_2 := comes_1 fun _ _ _ _ _ _ h hF => ⟨h.2.1, hF⟩
end Jvm.Pilot.@@N@@
namespace Jvm.Pilot.@@N@@
open Jvm Jvm.ClassFile Sem Op Lib Jvm.Free Jvm.Stand Jvm.Pilot.@@N@@.Jvm.D
/-! MADE BY PROGRAM (witnessworld.py) out of the Statement's table words and the real class files: 23 classes; the members and pool entries that the words name. The judged class is class 1, her method 1. -/
namespace start1
open Jvm.ClassFile
def u (s : String) : CpInfo := .utf8 (stringToUtf16 s)
/-- a pool by its gaps: so many unusable entries, then the entry; so many at the end -/
def gap : Nat → List CpInfo → List CpInfo
  | 0, r => r
  | n + 1, r => .unusable :: gap n r
def poolList (es : List (Nat × CpInfo)) (last : Nat) : List CpInfo := es.foldr (fun e r => gap e.1 (e.2 :: r)) (gap last [])
def pool (es : List (Nat × CpInfo)) (last : Nat) : Array CpInfo := ⟨poolList es last⟩
def fileOf (pool : Array CpInfo) (this : Nat) (attrs : Array Attribute := #[]) (ms : Array MethodInfo := #[]) (fl : Nat := 33) (sup : Nat := 0) (ifs : Array Nat := #[]) (fds : Array FieldInfo := #[]) : ClassFile where
  minorVersion := 0
  majorVersion := 65
  constantPool := pool
  accessFlags := fl
  thisClass := this
  superClass := sup
  interfaces := ifs
  fields := fds
  methods := ms
  attributes := attrs
def plain (name : String) (sup : Option ClassId) : Class where
  name := name
  kind := .ordinary
  loader := none
  accessFlags := 33
  super := sup
  interfaces := #[]
  cf := none
  fields := #[]
  methods := #[]
  instanceTypes := #[]
  staticTypes := #[]
  resolved := #[]
  callSites := []
  init := .initialized
  statics := none
  mirror := none

def pool0 : Array CpInfo := pool [(5, u "<init>"), (0, u "()V"), (1, .class_ 10), (1, u "java/lang/Object")] 113

def k0c0 : Code := { maxStack := 0, maxLocals := 1, code := object_method_1_code, exceptionTable := #[], attributes := #[] }
def k0m0 : Method := { name := "<init>", desc := "()V", sig := { parameters := [], returnType := none }, accessFlags := 1, code := some k0c0 }
/-- java/lang/Object -/
def k0 : Class := { plain "java/lang/Object" none with
  accessFlags := 33
  interfaces := #[]
  cf := some (fileOf pool0 8 #[] #[{ accessFlags := 1, nameIndex := 5, descriptorIndex := 6, attributes := #[] }] 33 0 #[] #[])
  fields := #[]
  methods := #[k0m0]
  instanceTypes := #[]
  staticTypes := #[]
  resolved := Array.replicate 124 none
  statics := none }

def pool1 : Array CpInfo := pool [(2, .class_ 4), (1, u "java/lang/Object"), (0, u "<init>"), (0, u "()V"), (0, .methodref 8 9), (0, .class_ 10), (0, .nameAndType 11 12), (0, u "com/example/orderly_tasks/orderlytasks/ConsoleSettingsLongEnoughPinLaw"), (0, u "ch"), (0, u "(IJJI)C"), (0, .class_ 14), (0, u "java/lang/String"), (0, .methodref 13 16), (0, .nameAndType 5 17), (0, u "([C)V"), (0, .methodref 8 19), (0, .nameAndType 20 21), (0, u "pair"), (0, u "(III)I"), (0, .methodref 23 24), (0, .class_ 25), (0, .nameAndType 26 27), (0, u "com/example/orderly_tasks/orderlytasks/ConsoleSettings"), (0, u "longEnough"), (0, u "(Ljava/lang/String;)Z"), (0, .methodref 8 29), (0, .nameAndType 30 31), (0, u "kind"), (0, u "(II)I"), (0, .long 255), (1, .integer 55168), (0, .integer 65280), (0, .integer 55296), (0, .integer 56064), (0, .integer 56320), (0, .integer 57088), (2, u "law"), (0, u "(IIJJ)Z")] 5

def k1m0 : Method := { name := "<init>", desc := "()V", sig := { parameters := [], returnType := none }, accessFlags := 2, code := none }
def k1c1 : Code := { maxStack := 8, maxLocals := 11, code := code, exceptionTable := #[], attributes := #[] }
def k1m1 : Method := { name := "law", desc := "(IIJJ)Z", sig := { parameters := [.int, .int, .long, .long], returnType := some .boolean }, accessFlags := 9, code := some k1c1 }
def k1c2 : Code := { maxStack := 3, maxLocals := 2, code := method_3_code, exceptionTable := #[], attributes := #[] }
def k1m2 : Method := { name := "kind", desc := "(II)I", sig := { parameters := [.int, .int], returnType := some .int }, accessFlags := 10, code := some k1c2 }
def k1c3 : Code := { maxStack := 5, maxLocals := 10, code := method_4_code, exceptionTable := #[], attributes := #[] }
def k1m3 : Method := { name := "ch", desc := "(IJJI)C", sig := { parameters := [.int, .long, .long, .int], returnType := some .char }, accessFlags := 10, code := some k1c3 }
def k1c4 : Code := { maxStack := 3, maxLocals := 3, code := method_5_code, exceptionTable := #[], attributes := #[] }
def k1m4 : Method := { name := "pair", desc := "(III)I", sig := { parameters := [.int, .int, .int], returnType := some .int }, accessFlags := 10, code := some k1c4 }
/-- com/example/orderly_tasks/orderlytasks/ConsoleSettingsLongEnoughPinLaw -/
def k1 : Class := { plain "com/example/orderly_tasks/orderlytasks/ConsoleSettingsLongEnoughPinLaw" (some 0) with
  accessFlags := 49
  interfaces := #[]
  cf := some (fileOf pool1 8 #[] #[{ accessFlags := 2, nameIndex := 5, descriptorIndex := 6, attributes := #[] }, { accessFlags := 9, nameIndex := 42, descriptorIndex := 43, attributes := #[] }, { accessFlags := 10, nameIndex := 30, descriptorIndex := 31, attributes := #[] }, { accessFlags := 10, nameIndex := 11, descriptorIndex := 12, attributes := #[] }, { accessFlags := 10, nameIndex := 20, descriptorIndex := 21, attributes := #[] }] 49 2 #[] #[])
  fields := #[]
  methods := #[k1m0, k1m1, k1m2, k1m3, k1m4]
  instanceTypes := #[]
  staticTypes := #[]
  resolved := Array.replicate 49 none
  statics := none }

def pool2 : Array CpInfo := pool [(1, .class_ 2), (0, u "java/io/Serializable"), (0, .class_ 4), (0, u "java/lang/Object")] 2

/-- java/io/Serializable -/
def k2 : Class := { plain "java/io/Serializable" (some 0) with
  accessFlags := 1537
  interfaces := #[]
  cf := some (fileOf pool2 1 #[] #[] 1537 3 #[] #[])
  fields := #[]
  methods := #[]
  instanceTypes := #[]
  staticTypes := #[]
  resolved := Array.replicate 7 none
  statics := none }

def pool3 : Array CpInfo := pool [(1, .class_ 2), (0, u "java/lang/Comparable"), (0, .class_ 4), (0, u "java/lang/Object")] 7

/-- java/lang/Comparable -/
def k3 : Class := { plain "java/lang/Comparable" (some 0) with
  accessFlags := 1537
  interfaces := #[]
  cf := some (fileOf pool3 1 #[] #[] 1537 3 #[] #[])
  fields := #[]
  methods := #[]
  instanceTypes := #[]
  staticTypes := #[]
  resolved := Array.replicate 12 none
  statics := none }

def pool4 : Array CpInfo := pool [(2, .class_ 4), (1, u "java/lang/CharSequence"), (42, .class_ 48), (0, u "java/lang/CharSequence$1CodePointIterator"), (10, .class_ 60), (0, u "java/lang/CharSequence$1CharIterator"), (5, .class_ 67), (0, u "java/lang/Object")] 63

/-- java/lang/CharSequence -/
def k4 : Class := { plain "java/lang/CharSequence" (some 0) with
  accessFlags := 1537
  interfaces := #[]
  cf := some (fileOf pool4 2 #[.nestMembers #[47, 59]] #[] 1537 66 #[] #[])
  fields := #[]
  methods := #[]
  instanceTypes := #[]
  staticTypes := #[]
  resolved := Array.replicate 131 none
  statics := none }

def pool5 : Array CpInfo := pool [(1, .class_ 2), (0, u "java/lang/constant/Constable"), (0, .class_ 4), (0, u "java/lang/Object")] 6

/-- java/lang/constant/Constable -/
def k5 : Class := { plain "java/lang/constant/Constable" (some 0) with
  accessFlags := 1537
  interfaces := #[]
  cf := some (fileOf pool5 1 #[] #[] 1537 3 #[] #[])
  fields := #[]
  methods := #[]
  instanceTypes := #[]
  staticTypes := #[]
  resolved := Array.replicate 11 none
  statics := none }

def pool6 : Array CpInfo := pool [(1, .class_ 2), (0, u "java/lang/constant/ConstantDesc"), (0, .class_ 4), (0, u "java/lang/Object")] 32

/-- java/lang/constant/ConstantDesc -/
def k6 : Class := { plain "java/lang/constant/ConstantDesc" (some 0) with
  accessFlags := 1537
  interfaces := #[]
  cf := some (fileOf pool6 1 #[] #[] 1537 3 #[] #[])
  fields := #[]
  methods := #[]
  instanceTypes := #[]
  staticTypes := #[]
  resolved := Array.replicate 37 none
  statics := none }

def pool7 : Array CpInfo := pool [(1, .methodref 2 3), (0, .class_ 4), (0, .nameAndType 5 6), (0, u "java/lang/Object"), (0, u "<init>"), (0, u "()V"), (0, .string 8), (0, u ""), (0, .fieldref 10 11), (0, .class_ 12), (0, .nameAndType 13 14), (0, u "java/lang/String"), (0, u "value"), (0, u "[B"), (0, .fieldref 10 16), (0, .nameAndType 17 18), (0, u "coder"), (0, u "B"), (2, u "hash"), (0, u "I"), (2, u "hashIsZero"), (0, u "Z"), (0, .methodref 10 28), (0, .nameAndType 5 29), (0, u "([CIILjava/lang/Void;)V"), (7, u "(III)I"), (0, .fieldref 10 39), (0, .nameAndType 40 26), (0, u "COMPACT_STRINGS"), (1, .class_ 44), (1, u "java/lang/StringUTF16"), (0, u "compress"), (1, .methodref 42 48), (0, .nameAndType 49 50), (0, u "coderFromArrayLen"), (0, u "([BI)B"), (28, .class_ 81), (1, u "java/util/Objects"), (15, u "([BII)I"), (44, u "()Z"), (34, .methodref 42 178), (0, .nameAndType 45 179), (0, u "([CII)[B"), (154, u "()I"), (0, .methodref 10 336), (0, .nameAndType 17 337), (0, u "()B"), (154, .methodref 10 493), (0, .nameAndType 494 142), (0, u "isLatin1"), (10, .methodref 10 506), (0, .nameAndType 507 334), (0, u "length"), (3, .methodref 79 512), (0, .nameAndType 513 37), (0, u "checkFromToIndex"), (0, .methodref 42 515), (0, .nameAndType 516 97), (0, u "codePointCount"), (58, .class_ 576), (0, u "java/lang/CharSequence"), (22, u "CASE_INSENSITIVE_ORDER"), (0, u "Ljava/util/Comparator;"), (35, u "(II)I"), (373, u "([C)V"), (90, u "serialPersistentFields"), (0, u "[Ljava/io/ObjectStreamField;"), (0, .class_ 1104), (0, u "java/lang/String$CaseInsensitiveComparator"), (1, .class_ 1107), (0, u "java/io/Serializable"), (0, .class_ 1109), (0, u "java/lang/Comparable"), (0, .class_ 1111), (0, u "java/lang/constant/Constable"), (0, .class_ 1113), (0, u "java/lang/constant/ConstantDesc"), (2, u "serialVersionUID"), (0, u "J"), (3, u "REPL"), (0, u "C"), (2, u "LATIN1"), (1, u "UTF16")] 323

def k7m0 : Method := { name := "<init>", desc := "()V", sig := { parameters := [], returnType := none }, accessFlags := 1, code := none }
def k7c1 : Code := { maxStack := 5, maxLocals := 2, code := jdk_42_method_3_code, exceptionTable := #[], attributes := #[] }
def k7m1 : Method := { name := "<init>", desc := "([C)V", sig := { parameters := [(.array .char)], returnType := none }, accessFlags := 1, code := some k7c1 }
def k7c2 : Code := { maxStack := 2, maxLocals := 1, code := jdk_42_method_54_code, exceptionTable := #[], attributes := #[] }
def k7m2 : Method := { name := "length", desc := "()I", sig := { parameters := [], returnType := some .int }, accessFlags := 1, code := some k7c2 }
def k7c3 : Code := { maxStack := 3, maxLocals := 3, code := jdk_42_method_59_code, exceptionTable := #[], attributes := #[] }
def k7m3 : Method := { name := "codePointCount", desc := "(II)I", sig := { parameters := [.int, .int], returnType := some .int }, accessFlags := 1, code := some k7c3 }
def k7c4 : Code := { maxStack := 4, maxLocals := 6, code := jdk_42_method_149_code, exceptionTable := #[], attributes := #[] }
def k7m4 : Method := { name := "<init>", desc := "([CIILjava/lang/Void;)V", sig := { parameters := [(.array .char), .int, .int, (.object "java/lang/Void")], returnType := none }, accessFlags := 2, code := some k7c4 }
def k7c5 : Code := { maxStack := 1, maxLocals := 1, code := jdk_42_method_152_code, exceptionTable := #[], attributes := #[] }
def k7m5 : Method := { name := "coder", desc := "()B", sig := { parameters := [], returnType := some .byte }, accessFlags := 0, code := some k7c5 }
def k7c6 : Code := { maxStack := 1, maxLocals := 1, code := jdk_42_method_154_code, exceptionTable := #[], attributes := #[] }
def k7m6 : Method := { name := "isLatin1", desc := "()Z", sig := { parameters := [], returnType := some .boolean }, accessFlags := 0, code := some k7c6 }
/-- java/lang/String -/
def k7 : Class := { plain "java/lang/String" (some 0) with
  accessFlags := 49
  interfaces := #[2, 3, 4, 5, 6]
  cf := some (fileOf pool7 10 #[.nestMembers #[1103]] #[{ accessFlags := 1, nameIndex := 5, descriptorIndex := 6, attributes := #[] }, { accessFlags := 1, nameIndex := 5, descriptorIndex := 1010, attributes := #[] }, { accessFlags := 1, nameIndex := 507, descriptorIndex := 334, attributes := #[] }, { accessFlags := 1, nameIndex := 516, descriptorIndex := 636, attributes := #[] }, { accessFlags := 2, nameIndex := 5, descriptorIndex := 29, attributes := #[] }, { accessFlags := 0, nameIndex := 17, descriptorIndex := 337, attributes := #[] }, { accessFlags := 0, nameIndex := 494, descriptorIndex := 142, attributes := #[] }] 49 2 #[1106, 1108, 575, 1110, 1112] #[{ accessFlags := 18, nameIndex := 13, descriptorIndex := 14, attributes := #[] }, { accessFlags := 18, nameIndex := 17, descriptorIndex := 18, attributes := #[] }, { accessFlags := 2, nameIndex := 21, descriptorIndex := 22, attributes := #[] }, { accessFlags := 2, nameIndex := 25, descriptorIndex := 26, attributes := #[] }, { accessFlags := 26, nameIndex := 1116, descriptorIndex := 1117, attributes := #[] }, { accessFlags := 24, nameIndex := 40, descriptorIndex := 26, attributes := #[] }, { accessFlags := 26, nameIndex := 1101, descriptorIndex := 1102, attributes := #[] }, { accessFlags := 26, nameIndex := 1121, descriptorIndex := 1122, attributes := #[] }, { accessFlags := 25, nameIndex := 599, descriptorIndex := 600, attributes := #[] }, { accessFlags := 24, nameIndex := 1125, descriptorIndex := 18, attributes := #[] }, { accessFlags := 24, nameIndex := 1127, descriptorIndex := 18, attributes := #[] }])
  fields := #[{ name := "value", type := (.array .byte), accessFlags := 18, slot := 0, constantValue := 0 }, { name := "coder", type := .byte, accessFlags := 18, slot := 1, constantValue := 0 }, { name := "hash", type := .int, accessFlags := 2, slot := 2, constantValue := 0 }, { name := "hashIsZero", type := .boolean, accessFlags := 2, slot := 3, constantValue := 0 }, { name := "serialVersionUID", type := .long, accessFlags := 26, slot := 0, constantValue := 0 }, { name := "COMPACT_STRINGS", type := .boolean, accessFlags := 24, slot := 1, constantValue := 0 }, { name := "serialPersistentFields", type := (.array (.object "java/io/ObjectStreamField")), accessFlags := 26, slot := 2, constantValue := 0 }, { name := "REPL", type := .char, accessFlags := 26, slot := 3, constantValue := 0 }, { name := "CASE_INSENSITIVE_ORDER", type := (.object "java/util/Comparator"), accessFlags := 25, slot := 4, constantValue := 0 }, { name := "LATIN1", type := .byte, accessFlags := 24, slot := 5, constantValue := 0 }, { name := "UTF16", type := .byte, accessFlags := 24, slot := 6, constantValue := 0 }]
  methods := #[k7m0, k7m1, k7m2, k7m3, k7m4, k7m5, k7m6]
  instanceTypes := #[(.array .byte), .byte, .int, .boolean]
  staticTypes := #[.long, .boolean, (.array (.object "java/io/ObjectStreamField")), .char, (.object "java/util/Comparator"), .byte, .byte]
  resolved := Array.replicate 1451 none
  statics := some 0 }

def pool8 : Array CpInfo := pool [(2, .class_ 4), (1, u "java/lang/Object"), (0, u "<init>"), (0, u "()V"), (0, .class_ 8), (0, u "java/lang/Record")] 13

def k8m0 : Method := { name := "<init>", desc := "()V", sig := { parameters := [], returnType := none }, accessFlags := 4, code := none }
/-- java/lang/Record -/
def k8 : Class := { plain "java/lang/Record" (some 0) with
  accessFlags := 1057
  interfaces := #[]
  cf := some (fileOf pool8 7 #[] #[{ accessFlags := 4, nameIndex := 5, descriptorIndex := 6, attributes := #[] }] 1057 2 #[] #[])
  fields := #[]
  methods := #[k8m0]
  instanceTypes := #[]
  staticTypes := #[]
  resolved := Array.replicate 22 none
  statics := none }

def pool9 : Array CpInfo := pool [(2, .class_ 4), (1, u "java/lang/Record"), (3, u "bind"), (7, u "user"), (1, u "password"), (1, .class_ 22), (1, u "java/lang/String"), (20, .class_ 45), (1, u "com/example/orderly_tasks/orderlytasks/ConsoleSettings"), (0, u "longEnough"), (0, u "(Ljava/lang/String;)Z"), (4, u "Ljava/lang/String;"), (2, u "port"), (0, u "I"), (4, .methodref 20 62), (0, .nameAndType 63 64), (0, u "length"), (0, u "()I"), (0, .methodref 20 66), (0, .nameAndType 67 68), (0, u "codePointCount"), (0, u "(II)I"), (11, u "DEFAULT_BIND"), (3, u "MIN_PASSWORD_LENGTH")] 42

def k9c0 : Code := { maxStack := 3, maxLocals := 1, code := prog_1_method_2_code, exceptionTable := #[], attributes := #[] }
def k9m0 : Method := { name := "longEnough", desc := "(Ljava/lang/String;)Z", sig := { parameters := [(.object "java/lang/String")], returnType := some .boolean }, accessFlags := 9, code := some k9c0 }
/-- com/example/orderly_tasks/orderlytasks/ConsoleSettings -/
def k9 : Class := { plain "com/example/orderly_tasks/orderlytasks/ConsoleSettings" (some 8) with
  accessFlags := 49
  interfaces := #[]
  cf := some (fileOf pool9 43 #[] #[{ accessFlags := 9, nameIndex := 46, descriptorIndex := 47, attributes := #[] }] 49 2 #[] #[{ accessFlags := 18, nameIndex := 8, descriptorIndex := 52, attributes := #[] }, { accessFlags := 18, nameIndex := 55, descriptorIndex := 56, attributes := #[] }, { accessFlags := 18, nameIndex := 16, descriptorIndex := 52, attributes := #[] }, { accessFlags := 18, nameIndex := 18, descriptorIndex := 52, attributes := #[] }, { accessFlags := 25, nameIndex := 80, descriptorIndex := 52, attributes := #[] }, { accessFlags := 25, nameIndex := 84, descriptorIndex := 56, attributes := #[] }])
  fields := #[{ name := "bind", type := (.object "java/lang/String"), accessFlags := 18, slot := 0, constantValue := 0 }, { name := "port", type := .int, accessFlags := 18, slot := 1, constantValue := 0 }, { name := "user", type := (.object "java/lang/String"), accessFlags := 18, slot := 2, constantValue := 0 }, { name := "password", type := (.object "java/lang/String"), accessFlags := 18, slot := 3, constantValue := 0 }, { name := "DEFAULT_BIND", type := (.object "java/lang/String"), accessFlags := 25, slot := 0, constantValue := 0 }, { name := "MIN_PASSWORD_LENGTH", type := .int, accessFlags := 25, slot := 1, constantValue := 0 }]
  methods := #[k9m0]
  instanceTypes := #[(.object "java/lang/String"), .int, (.object "java/lang/String"), (.object "java/lang/String")]
  staticTypes := #[(.object "java/lang/String"), .int]
  resolved := Array.replicate 127 none
  statics := none }

def pool10 : Array CpInfo := pool [(2, .class_ 4), (1, u "java/lang/Object"), (0, u "<init>"), (0, u "()V"), (35, .class_ 44), (1, u "java/util/Objects"), (61, .class_ 108), (1, u "jdk/internal/util/Preconditions"), (2, .methodref 106 112), (0, .nameAndType 113 114), (0, u "checkFromToIndex"), (0, u "(IIILjava/util/function/BiFunction;)I"), (60, u "(III)I")] 8

def k10m0 : Method := { name := "<init>", desc := "()V", sig := { parameters := [], returnType := none }, accessFlags := 2, code := none }
def k10c1 : Code := { maxStack := 4, maxLocals := 3, code := jdk_31_method_18_code, exceptionTable := #[], attributes := #[] }
def k10m1 : Method := { name := "checkFromToIndex", desc := "(III)I", sig := { parameters := [.int, .int, .int], returnType := some .int }, accessFlags := 9, code := some k10c1 }
/-- java/util/Objects -/
def k10 : Class := { plain "java/util/Objects" (some 0) with
  accessFlags := 49
  interfaces := #[]
  cf := some (fileOf pool10 42 #[] #[{ accessFlags := 2, nameIndex := 5, descriptorIndex := 6, attributes := #[] }, { accessFlags := 9, nameIndex := 113, descriptorIndex := 175, attributes := #[] }] 49 2 #[] #[])
  fields := #[]
  methods := #[k10m0, k10m1]
  instanceTypes := #[]
  staticTypes := #[]
  resolved := Array.replicate 184 none
  statics := none }

def pool11 : Array CpInfo := pool [(2, .class_ 4), (1, u "java/lang/Object"), (0, u "<init>"), (0, u "()V"), (17, .class_ 26), (1, u "jdk/internal/util/Preconditions"), (20, u "checkFromToIndex"), (7, .class_ 56), (0, u "jdk/internal/util/Preconditions$4"), (57, .class_ 115), (0, u "jdk/internal/util/Preconditions$1"), (7, u "SIOOBE_FORMATTER"), (0, u "Ljava/util/function/BiFunction;"), (0, .class_ 126), (0, u "jdk/internal/util/Preconditions$2"), (3, u "AIOOBE_FORMATTER"), (0, .class_ 132), (0, u "jdk/internal/util/Preconditions$3"), (3, u "IOOBE_FORMATTER"), (46, u "(IIILjava/util/function/BiFunction;)I")] 10

def k11m0 : Method := { name := "<init>", desc := "()V", sig := { parameters := [], returnType := none }, accessFlags := 1, code := none }
def k11c1 : Code := { maxStack := 4, maxLocals := 4, code := jdk_41_method_12_code, exceptionTable := #[], attributes := #[] }
def k11m1 : Method := { name := "checkFromToIndex", desc := "(IIILjava/util/function/BiFunction;)I", sig := { parameters := [.int, .int, .int, (.object "java/util/function/BiFunction")], returnType := some .int }, accessFlags := 9, code := some k11c1 }
/-- jdk/internal/util/Preconditions -/
def k11 : Class := { plain "jdk/internal/util/Preconditions" (some 0) with
  accessFlags := 33
  interfaces := #[]
  cf := some (fileOf pool11 24 #[.nestMembers #[55, 131, 125, 114]] #[{ accessFlags := 1, nameIndex := 5, descriptorIndex := 6, attributes := #[] }, { accessFlags := 9, nameIndex := 47, descriptorIndex := 183, attributes := #[] }] 33 2 #[] #[{ accessFlags := 25, nameIndex := 123, descriptorIndex := 124, attributes := #[] }, { accessFlags := 25, nameIndex := 130, descriptorIndex := 124, attributes := #[] }, { accessFlags := 25, nameIndex := 136, descriptorIndex := 124, attributes := #[] }])
  fields := #[{ name := "SIOOBE_FORMATTER", type := (.object "java/util/function/BiFunction"), accessFlags := 25, slot := 0, constantValue := 0 }, { name := "AIOOBE_FORMATTER", type := (.object "java/util/function/BiFunction"), accessFlags := 25, slot := 1, constantValue := 0 }, { name := "IOOBE_FORMATTER", type := (.object "java/util/function/BiFunction"), accessFlags := 25, slot := 2, constantValue := 0 }]
  methods := #[k11m0, k11m1]
  instanceTypes := #[]
  staticTypes := #[(.object "java/util/function/BiFunction"), (.object "java/util/function/BiFunction"), (.object "java/util/function/BiFunction")]
  resolved := Array.replicate 194 none
  statics := some 1 }

def pool12 : Array CpInfo := pool [(6, .class_ 8), (1, u "java/lang/Object"), (0, u "<init>"), (0, u "()V"), (0, .methodref 12 13), (0, .class_ 14), (0, .nameAndType 15 16), (0, u "java/lang/StringUTF16"), (0, u "newBytesLength"), (0, u "(I)I"), (3, .integer 1073741823), (23, .fieldref 12 45), (0, .nameAndType 46 47), (0, u "$assertionsDisabled"), (0, u "Z"), (11, .fieldref 12 60), (0, .nameAndType 61 62), (0, u "HI_BYTE_SHIFT"), (0, u "I"), (0, .fieldref 12 64), (0, .nameAndType 65 62), (0, u "LO_BYTE_SHIFT"), (5, .methodref 12 72), (0, .nameAndType 73 74), (0, u "getChar"), (0, u "([BI)C"), (0, .methodref 76 77), (0, .class_ 78), (0, .nameAndType 79 80), (0, u "java/lang/Character"), (0, u "isHighSurrogate"), (0, u "(C)Z"), (0, .methodref 76 82), (0, .nameAndType 83 80), (0, u "isLowSurrogate"), (7, u "([BIIZ)I"), (8, .methodref 12 101), (0, .nameAndType 102 91), (0, u "codePointCount"), (4, .methodref 12 108), (0, .nameAndType 109 110), (0, u "newBytesFor"), (0, u "(I)[B"), (0, .methodref 12 112), (0, .nameAndType 113 114), (0, u "putChar"), (0, u "([BII)V"), (0, .methodref 12 116), (0, .nameAndType 117 118), (0, u "compress"), (0, u "([CI[BII)I"), (0, .methodref 12 120), (0, .nameAndType 121 122), (0, u "toBytes"), (0, u "([CII)[B"), (127, u "([BII)I"), (10, u "coderFromArrayLen"), (0, u "([BI)B"), (106, .class_ 371), (1, u "java/lang/StringUTF16$LinesSpliterator"), (58, u "MAX_LENGTH"), (196, .class_ 628), (0, u "java/lang/StringUTF16$CodePointsSpliterator"), (0, .class_ 630), (0, u "java/lang/StringUTF16$CharsSpliterator")] 4

def k12m0 : Method := { name := "<init>", desc := "()V", sig := { parameters := [], returnType := none }, accessFlags := 0, code := none }
def k12c1 : Code := { maxStack := 1, maxLocals := 1, code := jdk_52_method_2_code, exceptionTable := #[], attributes := #[] }
def k12m1 : Method := { name := "newBytesFor", desc := "(I)[B", sig := { parameters := [.int], returnType := some (.array .byte) }, accessFlags := 9, code := some k12c1 }
def k12c2 : Code := { maxStack := 4, maxLocals := 1, code := jdk_52_method_3_code, exceptionTable := #[], attributes := #[] }
def k12m2 : Method := { name := "newBytesLength", desc := "(I)I", sig := { parameters := [.int], returnType := some .int }, accessFlags := 9, code := some k12c2 }
def k12c3 : Code := { maxStack := 4, maxLocals := 3, code := jdk_52_method_4_code, exceptionTable := #[], attributes := #[] }
def k12m3 : Method := { name := "putChar", desc := "([BII)V", sig := { parameters := [(.array .byte), .int, .int], returnType := none }, accessFlags := 8, code := some k12c3 }
def k12c4 : Code := { maxStack := 3, maxLocals := 2, code := jdk_52_method_5_code, exceptionTable := #[], attributes := #[] }
def k12m4 : Method := { name := "getChar", desc := "([BI)C", sig := { parameters := [(.array .byte), .int], returnType := some .char }, accessFlags := 8, code := some k12c4 }
def k12c5 : Code := { maxStack := 3, maxLocals := 6, code := jdk_52_method_11_code, exceptionTable := #[], attributes := #[] }
def k12m5 : Method := { name := "codePointCount", desc := "([BIIZ)I", sig := { parameters := [(.array .byte), .int, .int, .boolean], returnType := some .int }, accessFlags := 10, code := some k12c5 }
def k12c6 : Code := { maxStack := 4, maxLocals := 3, code := jdk_52_method_12_code, exceptionTable := #[], attributes := #[] }
def k12m6 : Method := { name := "codePointCount", desc := "([BII)I", sig := { parameters := [(.array .byte), .int, .int], returnType := some .int }, accessFlags := 9, code := some k12c6 }
def k12c7 : Code := { maxStack := 4, maxLocals := 5, code := jdk_52_method_14_code, exceptionTable := #[], attributes := #[] }
def k12m7 : Method := { name := "toBytes", desc := "([CII)[B", sig := { parameters := [(.array .char), .int, .int], returnType := some (.array .byte) }, accessFlags := 9, code := some k12c7 }
def k12c8 : Code := { maxStack := 2, maxLocals := 2, code := jdk_52_method_15_code, exceptionTable := #[], attributes := #[] }
def k12m8 : Method := { name := "coderFromArrayLen", desc := "([BI)B", sig := { parameters := [(.array .byte), .int], returnType := some .byte }, accessFlags := 8, code := some k12c8 }
def k12c9 : Code := { maxStack := 5, maxLocals := 6, code := jdk_52_method_16_code, exceptionTable := #[], attributes := #[] }
def k12m9 : Method := { name := "compress", desc := "([CII)[B", sig := { parameters := [(.array .char), .int, .int], returnType := some (.array .byte) }, accessFlags := 9, code := some k12c9 }
def k12c10 : Code := { maxStack := 3, maxLocals := 7, code := jdk_52_method_21_code, exceptionTable := #[], attributes := #[] }
def k12m10 : Method := { name := "compress", desc := "([CI[BII)I", sig := { parameters := [(.array .char), .int, (.array .byte), .int, .int], returnType := some .int }, accessFlags := 9, code := some k12c10 }
/-- java/lang/StringUTF16 -/
def k12 : Class := { plain "java/lang/StringUTF16" (some 0) with
  accessFlags := 48
  interfaces := #[]
  cf := some (fileOf pool12 12 #[.nestMembers #[627, 629, 369]] #[{ accessFlags := 0, nameIndex := 9, descriptorIndex := 10, attributes := #[] }, { accessFlags := 9, nameIndex := 109, descriptorIndex := 110, attributes := #[] }, { accessFlags := 9, nameIndex := 15, descriptorIndex := 16, attributes := #[] }, { accessFlags := 8, nameIndex := 113, descriptorIndex := 114, attributes := #[] }, { accessFlags := 8, nameIndex := 73, descriptorIndex := 74, attributes := #[] }, { accessFlags := 10, nameIndex := 102, descriptorIndex := 91, attributes := #[] }, { accessFlags := 9, nameIndex := 102, descriptorIndex := 250, attributes := #[] }, { accessFlags := 9, nameIndex := 121, descriptorIndex := 122, attributes := #[] }, { accessFlags := 8, nameIndex := 261, descriptorIndex := 262, attributes := #[] }, { accessFlags := 9, nameIndex := 117, descriptorIndex := 122, attributes := #[] }, { accessFlags := 9, nameIndex := 117, descriptorIndex := 118, attributes := #[] }] 48 6 #[] #[{ accessFlags := 26, nameIndex := 61, descriptorIndex := 62, attributes := #[] }, { accessFlags := 26, nameIndex := 65, descriptorIndex := 62, attributes := #[] }, { accessFlags := 24, nameIndex := 430, descriptorIndex := 62, attributes := #[] }, { accessFlags := 4120, nameIndex := 46, descriptorIndex := 47, attributes := #[] }])
  fields := #[{ name := "HI_BYTE_SHIFT", type := .int, accessFlags := 26, slot := 0, constantValue := 0 }, { name := "LO_BYTE_SHIFT", type := .int, accessFlags := 26, slot := 1, constantValue := 0 }, { name := "MAX_LENGTH", type := .int, accessFlags := 24, slot := 2, constantValue := 0 }, { name := "$assertionsDisabled", type := .boolean, accessFlags := 4120, slot := 3, constantValue := 0 }]
  methods := #[k12m0, k12m1, k12m2, k12m3, k12m4, k12m5, k12m6, k12m7, k12m8, k12m9, k12m10]
  instanceTypes := #[]
  staticTypes := #[.int, .int, .int, .boolean]
  resolved := Array.replicate 635 none
  statics := some 2 }

def pool13 : Array CpInfo := pool [(1, .class_ 2), (0, u "java/lang/Character"), (18, u "value"), (0, u "C"), (19, .class_ 44), (1, u "java/lang/Object"), (3, .class_ 50), (1, u "java/lang/Character$CharacterCache"), (24, .integer 55296), (0, .integer 56320), (0, .integer 57344), (2, u "isHighSurrogate"), (0, u "(C)Z"), (2, u "isLowSurrogate"), (199, u "$assertionsDisabled"), (0, u "Z"), (21, .class_ 309), (1, u "java/lang/Character$UnicodeBlock"), (73, u "TYPE"), (0, u "Ljava/lang/Class;"), (0, .class_ 386), (0, u "java/io/Serializable"), (0, .class_ 388), (0, u "java/lang/Comparable"), (0, .class_ 390), (0, u "java/lang/constant/Constable"), (0, u "MIN_RADIX"), (0, u "I"), (2, u "MAX_RADIX"), (1, u "MIN_VALUE"), (1, u "MAX_VALUE"), (3, u "UNASSIGNED"), (0, u "B"), (0, u "UPPERCASE_LETTER"), (1, u "LOWERCASE_LETTER"), (0, u "TITLECASE_LETTER"), (1, u "MODIFIER_LETTER"), (1, u "OTHER_LETTER"), (1, u "NON_SPACING_MARK"), (1, u "ENCLOSING_MARK"), (1, u "COMBINING_SPACING_MARK"), (1, u "DECIMAL_DIGIT_NUMBER"), (1, u "LETTER_NUMBER"), (1, u "OTHER_NUMBER"), (1, u "SPACE_SEPARATOR"), (1, u "LINE_SEPARATOR"), (1, u "PARAGRAPH_SEPARATOR"), (1, u "CONTROL"), (1, u "FORMAT"), (1, u "PRIVATE_USE"), (1, u "SURROGATE"), (1, u "DASH_PUNCTUATION"), (1, u "START_PUNCTUATION"), (1, u "END_PUNCTUATION"), (1, u "CONNECTOR_PUNCTUATION"), (1, u "OTHER_PUNCTUATION"), (1, u "MATH_SYMBOL"), (1, u "CURRENCY_SYMBOL"), (1, u "MODIFIER_SYMBOL"), (1, u "OTHER_SYMBOL"), (1, u "INITIAL_QUOTE_PUNCTUATION"), (1, u "FINAL_QUOTE_PUNCTUATION"), (1, u "ERROR"), (1, u "DIRECTIONALITY_UNDEFINED"), (0, u "DIRECTIONALITY_LEFT_TO_RIGHT"), (0, u "DIRECTIONALITY_RIGHT_TO_LEFT"), (0, u "DIRECTIONALITY_RIGHT_TO_LEFT_ARABIC"), (0, u "DIRECTIONALITY_EUROPEAN_NUMBER"), (0, u "DIRECTIONALITY_EUROPEAN_NUMBER_SEPARATOR"), (0, u "DIRECTIONALITY_EUROPEAN_NUMBER_TERMINATOR"), (0, u "DIRECTIONALITY_ARABIC_NUMBER"), (0, u "DIRECTIONALITY_COMMON_NUMBER_SEPARATOR"), (0, u "DIRECTIONALITY_NONSPACING_MARK"), (0, u "DIRECTIONALITY_BOUNDARY_NEUTRAL"), (0, u "DIRECTIONALITY_PARAGRAPH_SEPARATOR"), (0, u "DIRECTIONALITY_SEGMENT_SEPARATOR"), (0, u "DIRECTIONALITY_WHITESPACE"), (0, u "DIRECTIONALITY_OTHER_NEUTRALS"), (0, u "DIRECTIONALITY_LEFT_TO_RIGHT_EMBEDDING"), (0, u "DIRECTIONALITY_LEFT_TO_RIGHT_OVERRIDE"), (0, u "DIRECTIONALITY_RIGHT_TO_LEFT_EMBEDDING"), (0, u "DIRECTIONALITY_RIGHT_TO_LEFT_OVERRIDE"), (1, u "DIRECTIONALITY_POP_DIRECTIONAL_FORMAT"), (0, u "DIRECTIONALITY_LEFT_TO_RIGHT_ISOLATE"), (0, u "DIRECTIONALITY_RIGHT_TO_LEFT_ISOLATE"), (0, u "DIRECTIONALITY_FIRST_STRONG_ISOLATE"), (0, u "DIRECTIONALITY_POP_DIRECTIONAL_ISOLATE"), (0, u "MIN_HIGH_SURROGATE"), (0, u "MAX_HIGH_SURROGATE"), (1, u "MIN_LOW_SURROGATE"), (0, u "MAX_LOW_SURROGATE"), (1, u "MIN_SURROGATE"), (0, u "MAX_SURROGATE"), (0, u "MIN_SUPPLEMENTARY_CODE_POINT"), (0, u "MIN_CODE_POINT"), (0, u "MAX_CODE_POINT"), (1, u "serialVersionUID"), (0, u "J"), (2, u "SIZE"), (0, u "BYTES"), (88, .class_ 596), (0, u "java/lang/Character$UnicodeScript"), (0, .class_ 598), (0, u "java/lang/Character$Subset")] 5

def k13c0 : Code := { maxStack := 2, maxLocals := 1, code := jdk_89_method_14_code, exceptionTable := #[], attributes := #[] }
def k13m0 : Method := { name := "isHighSurrogate", desc := "(C)Z", sig := { parameters := [.char], returnType := some .boolean }, accessFlags := 9, code := some k13c0 }
def k13c1 : Code := { maxStack := 2, maxLocals := 1, code := jdk_89_method_15_code, exceptionTable := #[], attributes := #[] }
def k13m1 : Method := { name := "isLowSurrogate", desc := "(C)Z", sig := { parameters := [.char], returnType := some .boolean }, accessFlags := 9, code := some k13c1 }
/-- java/lang/Character -/
def k13 : Class := { plain "java/lang/Character" (some 0) with
  accessFlags := 49
  interfaces := #[2, 3, 5]
  cf := some (fileOf pool13 1 #[.nestMembers #[48, 595, 307, 597]] #[{ accessFlags := 9, nameIndex := 80, descriptorIndex := 81, attributes := #[] }, { accessFlags := 9, nameIndex := 84, descriptorIndex := 81, attributes := #[] }] 49 42 #[385, 387, 389] #[{ accessFlags := 25, nameIndex := 391, descriptorIndex := 392, attributes := #[] }, { accessFlags := 25, nameIndex := 395, descriptorIndex := 392, attributes := #[] }, { accessFlags := 25, nameIndex := 397, descriptorIndex := 22, attributes := #[] }, { accessFlags := 25, nameIndex := 399, descriptorIndex := 22, attributes := #[] }, { accessFlags := 25, nameIndex := 383, descriptorIndex := 384, attributes := #[] }, { accessFlags := 25, nameIndex := 403, descriptorIndex := 404, attributes := #[] }, { accessFlags := 25, nameIndex := 405, descriptorIndex := 404, attributes := #[] }, { accessFlags := 25, nameIndex := 407, descriptorIndex := 404, attributes := #[] }, { accessFlags := 25, nameIndex := 408, descriptorIndex := 404, attributes := #[] }, { accessFlags := 25, nameIndex := 410, descriptorIndex := 404, attributes := #[] }, { accessFlags := 25, nameIndex := 412, descriptorIndex := 404, attributes := #[] }, { accessFlags := 25, nameIndex := 414, descriptorIndex := 404, attributes := #[] }, { accessFlags := 25, nameIndex := 416, descriptorIndex := 404, attributes := #[] }, { accessFlags := 25, nameIndex := 418, descriptorIndex := 404, attributes := #[] }, { accessFlags := 25, nameIndex := 420, descriptorIndex := 404, attributes := #[] }, { accessFlags := 25, nameIndex := 422, descriptorIndex := 404, attributes := #[] }, { accessFlags := 25, nameIndex := 424, descriptorIndex := 404, attributes := #[] }, { accessFlags := 25, nameIndex := 426, descriptorIndex := 404, attributes := #[] }, { accessFlags := 25, nameIndex := 428, descriptorIndex := 404, attributes := #[] }, { accessFlags := 25, nameIndex := 430, descriptorIndex := 404, attributes := #[] }, { accessFlags := 25, nameIndex := 432, descriptorIndex := 404, attributes := #[] }, { accessFlags := 25, nameIndex := 434, descriptorIndex := 404, attributes := #[] }, { accessFlags := 25, nameIndex := 436, descriptorIndex := 404, attributes := #[] }, { accessFlags := 25, nameIndex := 438, descriptorIndex := 404, attributes := #[] }, { accessFlags := 25, nameIndex := 440, descriptorIndex := 404, attributes := #[] }, { accessFlags := 25, nameIndex := 442, descriptorIndex := 404, attributes := #[] }, { accessFlags := 25, nameIndex := 444, descriptorIndex := 404, attributes := #[] }, { accessFlags := 25, nameIndex := 446, descriptorIndex := 404, attributes := #[] }, { accessFlags := 25, nameIndex := 448, descriptorIndex := 404, attributes := #[] }, { accessFlags := 25, nameIndex := 450, descriptorIndex := 404, attributes := #[] }, { accessFlags := 25, nameIndex := 452, descriptorIndex := 404, attributes := #[] }, { accessFlags := 25, nameIndex := 454, descriptorIndex := 404, attributes := #[] }, { accessFlags := 25, nameIndex := 456, descriptorIndex := 404, attributes := #[] }, { accessFlags := 25, nameIndex := 458, descriptorIndex := 404, attributes := #[] }, { accessFlags := 25, nameIndex := 460, descriptorIndex := 404, attributes := #[] }, { accessFlags := 24, nameIndex := 462, descriptorIndex := 392, attributes := #[] }, { accessFlags := 25, nameIndex := 464, descriptorIndex := 404, attributes := #[] }, { accessFlags := 25, nameIndex := 465, descriptorIndex := 404, attributes := #[] }, { accessFlags := 25, nameIndex := 466, descriptorIndex := 404, attributes := #[] }, { accessFlags := 25, nameIndex := 467, descriptorIndex := 404, attributes := #[] }, { accessFlags := 25, nameIndex := 468, descriptorIndex := 404, attributes := #[] }, { accessFlags := 25, nameIndex := 469, descriptorIndex := 404, attributes := #[] }, { accessFlags := 25, nameIndex := 470, descriptorIndex := 404, attributes := #[] }, { accessFlags := 25, nameIndex := 471, descriptorIndex := 404, attributes := #[] }, { accessFlags := 25, nameIndex := 472, descriptorIndex := 404, attributes := #[] }, { accessFlags := 25, nameIndex := 473, descriptorIndex := 404, attributes := #[] }, { accessFlags := 25, nameIndex := 474, descriptorIndex := 404, attributes := #[] }, { accessFlags := 25, nameIndex := 475, descriptorIndex := 404, attributes := #[] }, { accessFlags := 25, nameIndex := 476, descriptorIndex := 404, attributes := #[] }, { accessFlags := 25, nameIndex := 477, descriptorIndex := 404, attributes := #[] }, { accessFlags := 25, nameIndex := 478, descriptorIndex := 404, attributes := #[] }, { accessFlags := 25, nameIndex := 479, descriptorIndex := 404, attributes := #[] }, { accessFlags := 25, nameIndex := 480, descriptorIndex := 404, attributes := #[] }, { accessFlags := 25, nameIndex := 481, descriptorIndex := 404, attributes := #[] }, { accessFlags := 25, nameIndex := 482, descriptorIndex := 404, attributes := #[] }, { accessFlags := 25, nameIndex := 484, descriptorIndex := 404, attributes := #[] }, { accessFlags := 25, nameIndex := 485, descriptorIndex := 404, attributes := #[] }, { accessFlags := 25, nameIndex := 486, descriptorIndex := 404, attributes := #[] }, { accessFlags := 25, nameIndex := 487, descriptorIndex := 404, attributes := #[] }, { accessFlags := 25, nameIndex := 488, descriptorIndex := 404, attributes := #[] }, { accessFlags := 25, nameIndex := 489, descriptorIndex := 22, attributes := #[] }, { accessFlags := 25, nameIndex := 490, descriptorIndex := 22, attributes := #[] }, { accessFlags := 25, nameIndex := 492, descriptorIndex := 22, attributes := #[] }, { accessFlags := 25, nameIndex := 493, descriptorIndex := 22, attributes := #[] }, { accessFlags := 25, nameIndex := 495, descriptorIndex := 22, attributes := #[] }, { accessFlags := 25, nameIndex := 496, descriptorIndex := 22, attributes := #[] }, { accessFlags := 25, nameIndex := 497, descriptorIndex := 392, attributes := #[] }, { accessFlags := 25, nameIndex := 498, descriptorIndex := 392, attributes := #[] }, { accessFlags := 25, nameIndex := 499, descriptorIndex := 392, attributes := #[] }, { accessFlags := 18, nameIndex := 21, descriptorIndex := 22, attributes := #[] }, { accessFlags := 26, nameIndex := 501, descriptorIndex := 502, attributes := #[] }, { accessFlags := 25, nameIndex := 505, descriptorIndex := 392, attributes := #[] }, { accessFlags := 25, nameIndex := 506, descriptorIndex := 392, attributes := #[] }, { accessFlags := 4120, nameIndex := 284, descriptorIndex := 285, attributes := #[] }])
  fields := #[{ name := "MIN_RADIX", type := .int, accessFlags := 25, slot := 0, constantValue := 0 }, { name := "MAX_RADIX", type := .int, accessFlags := 25, slot := 1, constantValue := 0 }, { name := "MIN_VALUE", type := .char, accessFlags := 25, slot := 2, constantValue := 0 }, { name := "MAX_VALUE", type := .char, accessFlags := 25, slot := 3, constantValue := 0 }, { name := "TYPE", type := (.object "java/lang/Class"), accessFlags := 25, slot := 4, constantValue := 0 }, { name := "UNASSIGNED", type := .byte, accessFlags := 25, slot := 5, constantValue := 0 }, { name := "UPPERCASE_LETTER", type := .byte, accessFlags := 25, slot := 6, constantValue := 0 }, { name := "LOWERCASE_LETTER", type := .byte, accessFlags := 25, slot := 7, constantValue := 0 }, { name := "TITLECASE_LETTER", type := .byte, accessFlags := 25, slot := 8, constantValue := 0 }, { name := "MODIFIER_LETTER", type := .byte, accessFlags := 25, slot := 9, constantValue := 0 }, { name := "OTHER_LETTER", type := .byte, accessFlags := 25, slot := 10, constantValue := 0 }, { name := "NON_SPACING_MARK", type := .byte, accessFlags := 25, slot := 11, constantValue := 0 }, { name := "ENCLOSING_MARK", type := .byte, accessFlags := 25, slot := 12, constantValue := 0 }, { name := "COMBINING_SPACING_MARK", type := .byte, accessFlags := 25, slot := 13, constantValue := 0 }, { name := "DECIMAL_DIGIT_NUMBER", type := .byte, accessFlags := 25, slot := 14, constantValue := 0 }, { name := "LETTER_NUMBER", type := .byte, accessFlags := 25, slot := 15, constantValue := 0 }, { name := "OTHER_NUMBER", type := .byte, accessFlags := 25, slot := 16, constantValue := 0 }, { name := "SPACE_SEPARATOR", type := .byte, accessFlags := 25, slot := 17, constantValue := 0 }, { name := "LINE_SEPARATOR", type := .byte, accessFlags := 25, slot := 18, constantValue := 0 }, { name := "PARAGRAPH_SEPARATOR", type := .byte, accessFlags := 25, slot := 19, constantValue := 0 }, { name := "CONTROL", type := .byte, accessFlags := 25, slot := 20, constantValue := 0 }, { name := "FORMAT", type := .byte, accessFlags := 25, slot := 21, constantValue := 0 }, { name := "PRIVATE_USE", type := .byte, accessFlags := 25, slot := 22, constantValue := 0 }, { name := "SURROGATE", type := .byte, accessFlags := 25, slot := 23, constantValue := 0 }, { name := "DASH_PUNCTUATION", type := .byte, accessFlags := 25, slot := 24, constantValue := 0 }, { name := "START_PUNCTUATION", type := .byte, accessFlags := 25, slot := 25, constantValue := 0 }, { name := "END_PUNCTUATION", type := .byte, accessFlags := 25, slot := 26, constantValue := 0 }, { name := "CONNECTOR_PUNCTUATION", type := .byte, accessFlags := 25, slot := 27, constantValue := 0 }, { name := "OTHER_PUNCTUATION", type := .byte, accessFlags := 25, slot := 28, constantValue := 0 }, { name := "MATH_SYMBOL", type := .byte, accessFlags := 25, slot := 29, constantValue := 0 }, { name := "CURRENCY_SYMBOL", type := .byte, accessFlags := 25, slot := 30, constantValue := 0 }, { name := "MODIFIER_SYMBOL", type := .byte, accessFlags := 25, slot := 31, constantValue := 0 }, { name := "OTHER_SYMBOL", type := .byte, accessFlags := 25, slot := 32, constantValue := 0 }, { name := "INITIAL_QUOTE_PUNCTUATION", type := .byte, accessFlags := 25, slot := 33, constantValue := 0 }, { name := "FINAL_QUOTE_PUNCTUATION", type := .byte, accessFlags := 25, slot := 34, constantValue := 0 }, { name := "ERROR", type := .int, accessFlags := 24, slot := 35, constantValue := 0 }, { name := "DIRECTIONALITY_UNDEFINED", type := .byte, accessFlags := 25, slot := 36, constantValue := 0 }, { name := "DIRECTIONALITY_LEFT_TO_RIGHT", type := .byte, accessFlags := 25, slot := 37, constantValue := 0 }, { name := "DIRECTIONALITY_RIGHT_TO_LEFT", type := .byte, accessFlags := 25, slot := 38, constantValue := 0 }, { name := "DIRECTIONALITY_RIGHT_TO_LEFT_ARABIC", type := .byte, accessFlags := 25, slot := 39, constantValue := 0 }, { name := "DIRECTIONALITY_EUROPEAN_NUMBER", type := .byte, accessFlags := 25, slot := 40, constantValue := 0 }, { name := "DIRECTIONALITY_EUROPEAN_NUMBER_SEPARATOR", type := .byte, accessFlags := 25, slot := 41, constantValue := 0 }, { name := "DIRECTIONALITY_EUROPEAN_NUMBER_TERMINATOR", type := .byte, accessFlags := 25, slot := 42, constantValue := 0 }, { name := "DIRECTIONALITY_ARABIC_NUMBER", type := .byte, accessFlags := 25, slot := 43, constantValue := 0 }, { name := "DIRECTIONALITY_COMMON_NUMBER_SEPARATOR", type := .byte, accessFlags := 25, slot := 44, constantValue := 0 }, { name := "DIRECTIONALITY_NONSPACING_MARK", type := .byte, accessFlags := 25, slot := 45, constantValue := 0 }, { name := "DIRECTIONALITY_BOUNDARY_NEUTRAL", type := .byte, accessFlags := 25, slot := 46, constantValue := 0 }, { name := "DIRECTIONALITY_PARAGRAPH_SEPARATOR", type := .byte, accessFlags := 25, slot := 47, constantValue := 0 }, { name := "DIRECTIONALITY_SEGMENT_SEPARATOR", type := .byte, accessFlags := 25, slot := 48, constantValue := 0 }, { name := "DIRECTIONALITY_WHITESPACE", type := .byte, accessFlags := 25, slot := 49, constantValue := 0 }, { name := "DIRECTIONALITY_OTHER_NEUTRALS", type := .byte, accessFlags := 25, slot := 50, constantValue := 0 }, { name := "DIRECTIONALITY_LEFT_TO_RIGHT_EMBEDDING", type := .byte, accessFlags := 25, slot := 51, constantValue := 0 }, { name := "DIRECTIONALITY_LEFT_TO_RIGHT_OVERRIDE", type := .byte, accessFlags := 25, slot := 52, constantValue := 0 }, { name := "DIRECTIONALITY_RIGHT_TO_LEFT_EMBEDDING", type := .byte, accessFlags := 25, slot := 53, constantValue := 0 }, { name := "DIRECTIONALITY_RIGHT_TO_LEFT_OVERRIDE", type := .byte, accessFlags := 25, slot := 54, constantValue := 0 }, { name := "DIRECTIONALITY_POP_DIRECTIONAL_FORMAT", type := .byte, accessFlags := 25, slot := 55, constantValue := 0 }, { name := "DIRECTIONALITY_LEFT_TO_RIGHT_ISOLATE", type := .byte, accessFlags := 25, slot := 56, constantValue := 0 }, { name := "DIRECTIONALITY_RIGHT_TO_LEFT_ISOLATE", type := .byte, accessFlags := 25, slot := 57, constantValue := 0 }, { name := "DIRECTIONALITY_FIRST_STRONG_ISOLATE", type := .byte, accessFlags := 25, slot := 58, constantValue := 0 }, { name := "DIRECTIONALITY_POP_DIRECTIONAL_ISOLATE", type := .byte, accessFlags := 25, slot := 59, constantValue := 0 }, { name := "MIN_HIGH_SURROGATE", type := .char, accessFlags := 25, slot := 60, constantValue := 0 }, { name := "MAX_HIGH_SURROGATE", type := .char, accessFlags := 25, slot := 61, constantValue := 0 }, { name := "MIN_LOW_SURROGATE", type := .char, accessFlags := 25, slot := 62, constantValue := 0 }, { name := "MAX_LOW_SURROGATE", type := .char, accessFlags := 25, slot := 63, constantValue := 0 }, { name := "MIN_SURROGATE", type := .char, accessFlags := 25, slot := 64, constantValue := 0 }, { name := "MAX_SURROGATE", type := .char, accessFlags := 25, slot := 65, constantValue := 0 }, { name := "MIN_SUPPLEMENTARY_CODE_POINT", type := .int, accessFlags := 25, slot := 66, constantValue := 0 }, { name := "MIN_CODE_POINT", type := .int, accessFlags := 25, slot := 67, constantValue := 0 }, { name := "MAX_CODE_POINT", type := .int, accessFlags := 25, slot := 68, constantValue := 0 }, { name := "value", type := .char, accessFlags := 18, slot := 0, constantValue := 0 }, { name := "serialVersionUID", type := .long, accessFlags := 26, slot := 69, constantValue := 0 }, { name := "SIZE", type := .int, accessFlags := 25, slot := 70, constantValue := 0 }, { name := "BYTES", type := .int, accessFlags := 25, slot := 71, constantValue := 0 }, { name := "$assertionsDisabled", type := .boolean, accessFlags := 4120, slot := 72, constantValue := 0 }]
  methods := #[k13m0, k13m1]
  instanceTypes := #[.char]
  staticTypes := #[.int, .int, .char, .char, (.object "java/lang/Class"), .byte, .byte, .byte, .byte, .byte, .byte, .byte, .byte, .byte, .byte, .byte, .byte, .byte, .byte, .byte, .byte, .byte, .byte, .byte, .byte, .byte, .byte, .byte, .byte, .byte, .byte, .byte, .byte, .byte, .byte, .int, .byte, .byte, .byte, .byte, .byte, .byte, .byte, .byte, .byte, .byte, .byte, .byte, .byte, .byte, .byte, .byte, .byte, .byte, .byte, .byte, .byte, .byte, .byte, .byte, .char, .char, .char, .char, .char, .char, .int, .int, .int, .long, .int, .int, .boolean]
  resolved := Array.replicate 604 none
  statics := none }

def pool14 : Array CpInfo := pool [(4, .class_ 6), (1, u "java/lang/Object"), (0, u "<init>"), (0, u "()V"), (5, .class_ 16), (1, u "java/lang/StringLatin1"), (104, u "$assertionsDisabled"), (0, u "Z"), (98, .class_ 223), (1, u "java/lang/StringLatin1$LinesSpliterator"), (166, .class_ 391), (0, u "java/lang/StringLatin1$CharsSpliterator")] 3

def k14m0 : Method := { name := "<init>", desc := "()V", sig := { parameters := [], returnType := none }, accessFlags := 0, code := none }
/-- java/lang/StringLatin1 -/
def k14 : Class := { plain "java/lang/StringLatin1" (some 0) with
  accessFlags := 48
  interfaces := #[]
  cf := some (fileOf pool14 14 #[.nestMembers #[390, 221]] #[{ accessFlags := 0, nameIndex := 7, descriptorIndex := 8, attributes := #[] }] 48 4 #[] #[{ accessFlags := 4120, nameIndex := 121, descriptorIndex := 122, attributes := #[] }])
  fields := #[{ name := "$assertionsDisabled", type := .boolean, accessFlags := 4120, slot := 0, constantValue := 0 }]
  methods := #[k14m0]
  instanceTypes := #[]
  staticTypes := #[.boolean]
  resolved := Array.replicate 395 none
  statics := none }

def pool15 : Array CpInfo := pool [(9, u "<init>"), (6, .class_ 18), (1, u "java/lang/Object"), (0, u "()V"), (1, .class_ 23), (1, u "jdk/internal/util/ArraysSupport"), (0, u "LOG2_ARRAY_LONG_INDEX_SCALE"), (0, u "I"), (2, u "U"), (0, u "Ljdk/internal/misc/Unsafe;"), (8, u "BIG_ENDIAN"), (0, u "Z"), (8, u "LOG2_BYTE_BIT_SIZE"), (4, u "LOG2_ARRAY_INT_INDEX_SCALE"), (54, u "JLA"), (0, u "Ljdk/internal/access/JavaLangAccess;"), (11, u "LOG2_ARRAY_BOOLEAN_INDEX_SCALE"), (9, u "LOG2_ARRAY_BYTE_INDEX_SCALE"), (5, u "LOG2_ARRAY_CHAR_INDEX_SCALE"), (5, u "LOG2_ARRAY_SHORT_INDEX_SCALE"), (18, u "LOG2_ARRAY_FLOAT_INDEX_SCALE"), (24, u "LOG2_ARRAY_DOUBLE_INDEX_SCALE"), (89, u "T_BOOLEAN"), (2, u "T_CHAR"), (1, u "T_FLOAT"), (1, u "T_DOUBLE"), (1, u "T_BYTE"), (1, u "T_SHORT"), (1, u "T_INT"), (1, u "T_LONG"), (1, u "SOFT_MAX_ARRAY_LENGTH")] 83

def k15m0 : Method := { name := "<init>", desc := "()V", sig := { parameters := [], returnType := none }, accessFlags := 2, code := none }
/-- jdk/internal/util/ArraysSupport -/
def k15 : Class := { plain "jdk/internal/util/ArraysSupport" (some 0) with
  accessFlags := 33
  interfaces := #[]
  cf := some (fileOf pool15 21 #[] #[{ accessFlags := 2, nameIndex := 9, descriptorIndex := 19, attributes := #[] }] 33 16 #[] #[{ accessFlags := 24, nameIndex := 28, descriptorIndex := 29, attributes := #[] }, { accessFlags := 26, nameIndex := 38, descriptorIndex := 39, attributes := #[] }, { accessFlags := 25, nameIndex := 121, descriptorIndex := 25, attributes := #[] }, { accessFlags := 25, nameIndex := 131, descriptorIndex := 25, attributes := #[] }, { accessFlags := 25, nameIndex := 137, descriptorIndex := 25, attributes := #[] }, { accessFlags := 25, nameIndex := 143, descriptorIndex := 25, attributes := #[] }, { accessFlags := 25, nameIndex := 53, descriptorIndex := 25, attributes := #[] }, { accessFlags := 25, nameIndex := 24, descriptorIndex := 25, attributes := #[] }, { accessFlags := 25, nameIndex := 162, descriptorIndex := 25, attributes := #[] }, { accessFlags := 25, nameIndex := 187, descriptorIndex := 25, attributes := #[] }, { accessFlags := 26, nameIndex := 48, descriptorIndex := 25, attributes := #[] }, { accessFlags := 25, nameIndex := 277, descriptorIndex := 25, attributes := #[] }, { accessFlags := 25, nameIndex := 280, descriptorIndex := 25, attributes := #[] }, { accessFlags := 25, nameIndex := 282, descriptorIndex := 25, attributes := #[] }, { accessFlags := 25, nameIndex := 284, descriptorIndex := 25, attributes := #[] }, { accessFlags := 25, nameIndex := 286, descriptorIndex := 25, attributes := #[] }, { accessFlags := 25, nameIndex := 288, descriptorIndex := 25, attributes := #[] }, { accessFlags := 25, nameIndex := 290, descriptorIndex := 25, attributes := #[] }, { accessFlags := 25, nameIndex := 292, descriptorIndex := 25, attributes := #[] }, { accessFlags := 26, nameIndex := 108, descriptorIndex := 109, attributes := #[] }, { accessFlags := 25, nameIndex := 294, descriptorIndex := 25, attributes := #[] }])
  fields := #[{ name := "U", type := (.object "jdk/internal/misc/Unsafe"), accessFlags := 24, slot := 0, constantValue := 0 }, { name := "BIG_ENDIAN", type := .boolean, accessFlags := 26, slot := 1, constantValue := 0 }, { name := "LOG2_ARRAY_BOOLEAN_INDEX_SCALE", type := .int, accessFlags := 25, slot := 2, constantValue := 0 }, { name := "LOG2_ARRAY_BYTE_INDEX_SCALE", type := .int, accessFlags := 25, slot := 3, constantValue := 0 }, { name := "LOG2_ARRAY_CHAR_INDEX_SCALE", type := .int, accessFlags := 25, slot := 4, constantValue := 0 }, { name := "LOG2_ARRAY_SHORT_INDEX_SCALE", type := .int, accessFlags := 25, slot := 5, constantValue := 0 }, { name := "LOG2_ARRAY_INT_INDEX_SCALE", type := .int, accessFlags := 25, slot := 6, constantValue := 0 }, { name := "LOG2_ARRAY_LONG_INDEX_SCALE", type := .int, accessFlags := 25, slot := 7, constantValue := 0 }, { name := "LOG2_ARRAY_FLOAT_INDEX_SCALE", type := .int, accessFlags := 25, slot := 8, constantValue := 0 }, { name := "LOG2_ARRAY_DOUBLE_INDEX_SCALE", type := .int, accessFlags := 25, slot := 9, constantValue := 0 }, { name := "LOG2_BYTE_BIT_SIZE", type := .int, accessFlags := 26, slot := 10, constantValue := 0 }, { name := "T_BOOLEAN", type := .int, accessFlags := 25, slot := 11, constantValue := 0 }, { name := "T_CHAR", type := .int, accessFlags := 25, slot := 12, constantValue := 0 }, { name := "T_FLOAT", type := .int, accessFlags := 25, slot := 13, constantValue := 0 }, { name := "T_DOUBLE", type := .int, accessFlags := 25, slot := 14, constantValue := 0 }, { name := "T_BYTE", type := .int, accessFlags := 25, slot := 15, constantValue := 0 }, { name := "T_SHORT", type := .int, accessFlags := 25, slot := 16, constantValue := 0 }, { name := "T_INT", type := .int, accessFlags := 25, slot := 17, constantValue := 0 }, { name := "T_LONG", type := .int, accessFlags := 25, slot := 18, constantValue := 0 }, { name := "JLA", type := (.object "jdk/internal/access/JavaLangAccess"), accessFlags := 26, slot := 19, constantValue := 0 }, { name := "SOFT_MAX_ARRAY_LENGTH", type := .int, accessFlags := 25, slot := 20, constantValue := 0 }]
  methods := #[k15m0]
  instanceTypes := #[]
  staticTypes := #[(.object "jdk/internal/misc/Unsafe"), .boolean, .int, .int, .int, .int, .int, .int, .int, .int, .int, .int, .int, .int, .int, .int, .int, .int, .int, (.object "jdk/internal/access/JavaLangAccess"), .int]
  resolved := Array.replicate 378 none
  statics := none }

def pool16 : Array CpInfo := pool [(1, u "java/lang/Cloneable"), (0, .class_ 1), (0, u "java/lang/Object"), (0, .class_ 3)] 3

/-- java/lang/Cloneable -/
def k16 : Class := { plain "java/lang/Cloneable" (some 0) with
  accessFlags := 1537
  interfaces := #[]
  cf := some (fileOf pool16 2 #[] #[] 1537 4 #[] #[])
  fields := #[]
  methods := #[]
  instanceTypes := #[]
  staticTypes := #[]
  resolved := Array.replicate 8 none
  statics := none }

/-- the primitive byte -/
def k17 : Class := { plain "byte" none with kind := .primitive 'B', accessFlags := 0x411 }
/-- [B -/
def k18 : Class := { plain "[B" (some 0) with kind := .array 17 .byte, interfaces := #[16, 2], accessFlags := 1041 }

/-- the primitive char -/
def k19 : Class := { plain "char" none with kind := .primitive 'C', accessFlags := 0x411 }
/-- [C -/
def k20 : Class := { plain "[C" (some 0) with kind := .array 19 .char, interfaces := #[16, 2], accessFlags := 1041 }

/-- the primitive int -/
def k21 : Class := { plain "int" none with kind := .primitive 'I', accessFlags := 0x411 }
/-- [I -/
def k22 : Class := { plain "[I" (some 0) with kind := .array 21 .int, interfaces := #[16, 2], accessFlags := 1041 }

def heap : Heap := #[{ cls := 7, slots := #[.long 0, .int 1, .null, .int 0, .null, .int 0, .int 0], vm := .statics 7 },
  { cls := 11, slots := #[.null, .null, .null], vm := .statics 11 },
  { cls := 12, slots := #[.int 0, .int 8, .int 0, .int 1], vm := .statics 12 }]
def classes : Array Class := #[k0, k1, k2, k3, k4, k5, k6, k7, k8, k9, k10, k11, k12, k13, k14, k15, k16, k17, k18, k19, k20, k21, k22]
def interned : List (Array UInt16 × Addr) := []
def slotsUsed : Nat := 14
def theMethod : MethodId := ⟨1, 1⟩
def args0 : Array Value := #[.int 5, .int 6, .long 7, .long 8]
def aboutOver (below : List Frame) : State where
  vm := { classes := classes, interned := interned.toArray }
  heap := heap
  slotsUsed := slotsUsed
  threads := #[{ frames := .invoking theMethod args0 :: below }]
def below0 : List Frame := [.native { method := ⟨0, 0⟩, args := #[] }]
def about1 : State := aboutOver below0
def p0 : Program := .bare "" "" ""
def e0 : Env := launch0.env 0 0 0
theorem w_frames : about1.frames = Frame.invoking theMethod args0 :: below0 := rfl
set_option maxRecDepth 65536 in
theorem w_args : argsFit about1.vm theMethod args0 = true := by decide +kernel
set_option maxRecDepth 65536 in
theorem w_heap : heapFits about1 = true := by decide +kernel
set_option maxRecDepth 65536 in
theorem w_runnable : about1.curStatus? = some .runnable := by decide +kernel
set_option maxRecDepth 65536 in
theorem w_alone : about1.alone = true := by decide +kernel
set_option maxRecDepth 65536 in
theorem w_named : about1.methodNamed? x = some theMethod := by decide +kernel
set_option maxRecDepth 65536 in
theorem w_hears : about1.hears theMethod below0 = true := by decide +kernel
set_option maxRecDepth 65536 in
theorem w_ripe : about1.ripe theMethod args0 below0 = true := by decide +kernel
theorem w_running : about1.status = .running := rfl
set_option maxRecDepth 65536 in
theorem w_room : about1.hasRoom e0.platform room_1 = true :=
  launch0.hasRoom_least _ room_1 (by decide +kernel) (by decide +kernel) (by decide +kernel) (by decide +kernel) (by decide +kernel) (by decide +kernel)
theorem allAtoms_all (ts : List Jvm.Cond) (a : Array Jvm.Value) (st : Jvm.State) : (allAtoms ts).before a st = ts.all (fun c => c.before a st) := by
  induction ts with
  | nil => rfl
  | cons c t ih =>
    show (Jvm.Cond.and c (allAtoms t)).before a st = _
    rw [Jvm.Cond.before_and, ih, List.all_cons]
def words1 : List Jvm.Cond := Jvm.Cond.code x code maxLocals ret :: tables_1
/-- a 'code' word, met by the world's own term for the bytes: nothing is compared byte by byte -/
theorem code_word {y : MethodName} {bytes : ByteArray} {mx : Nat} {rt : Option FieldType} {a : Array Value} {s : State} {m : MethodId} {meth : Method} {c : Code} (h1 : s.methodNamed? y = some m) (h2 : s.vm.method? m = some meth) (h3 : meth.code = some c) (h4 : c.code = bytes)
    (h5 : (c.maxLocals == mx && c.exceptionTable.isEmpty && decide (c.maxStack ≤ mostOperands) && decide (meth.sig.returnType = rt) && !meth.locks && decide (parseMethodDescriptor y.desc = some meth.sig)) = true) : (Jvm.Cond.code y bytes mx rt).before a s = true := by
  simp only [Bool.and_eq_true, beq_iff_eq, Bool.not_eq_true', decide_eq_true_eq] at h5
  obtain ⟨⟨⟨⟨⟨g1, g2⟩, g3⟩, g4⟩, g5⟩, g6⟩ := h5
  simp [Cond.before, Cond.holds, Cond.value, h1, h2, h3, h4, g1, g2, g3, g4, g5, g6]
def isCode : Jvm.Cond → Bool
  | .code _ _ _ _ => true
  | _ => false
theorem all_split {L : List Jvm.Cond} {P : Jvm.Cond → Bool} (h1 : L.all (fun c => isCode c || P c) = true) (h2 : ∀ c ∈ L.filter isCode, P c = true) : L.all P = true := by
  refine List.all_eq_true.mpr fun c hc => ?_
  have h := List.all_eq_true.mp h1 c hc
  rcases Bool.eq_false_or_eq_true (isCode c) with hi | hi
  · exact h2 c (List.mem_filter.mpr ⟨hc, hi⟩)
  · simpa [hi] using h
set_option maxRecDepth 65536 in
theorem w_c0 : (Jvm.Cond.code x code maxLocals ret).before args0 about1 = true := code_word (m := ⟨1, 1⟩) (meth := k1m1) (c := k1c1) (by decide +kernel) rfl rfl rfl (by decide +kernel)
set_option maxRecDepth 65536 in
theorem w_c1 : (Jvm.Cond.code ({ cls := "java/lang/String", name := "<init>", desc := "([C)V" } : Jvm.MethodName) jdk_42_method_3_code (2 : Nat) (Option.none : Option Jvm.ClassFile.FieldType)).before args0 about1 = true := code_word (m := ⟨7, 1⟩) (meth := k7m1) (c := k7c1) (by decide +kernel) rfl rfl rfl (by decide +kernel)
set_option maxRecDepth 65536 in
theorem w_c2 : (Jvm.Cond.code ({ cls := "java/lang/String", name := "<init>", desc := "([CIILjava/lang/Void;)V" } : Jvm.MethodName) jdk_42_method_149_code (6 : Nat) (Option.none : Option Jvm.ClassFile.FieldType)).before args0 about1 = true := code_word (m := ⟨7, 4⟩) (meth := k7m4) (c := k7c4) (by decide +kernel) rfl rfl rfl (by decide +kernel)
set_option maxRecDepth 65536 in
theorem w_c3 : (Jvm.Cond.code ({ cls := "java/lang/Object", name := "<init>", desc := "()V" } : Jvm.MethodName) object_method_1_code (1 : Nat) (Option.none : Option Jvm.ClassFile.FieldType)).before args0 about1 = true := code_word (m := ⟨0, 0⟩) (meth := k0m0) (c := k0c0) (by decide +kernel) rfl rfl rfl (by decide +kernel)
set_option maxRecDepth 65536 in
theorem w_c4 : (Jvm.Cond.code ({ cls := "com/example/orderly_tasks/orderlytasks/ConsoleSettingsLongEnoughPinLaw", name := "pair", desc := "(III)I" } : Jvm.MethodName) method_5_code (3 : Nat) (Option.some Jvm.ClassFile.FieldType.int)).before args0 about1 = true := code_word (m := ⟨1, 4⟩) (meth := k1m4) (c := k1c4) (by decide +kernel) rfl rfl rfl (by decide +kernel)
set_option maxRecDepth 65536 in
theorem w_c5 : (Jvm.Cond.code ({ cls := "com/example/orderly_tasks/orderlytasks/ConsoleSettings", name := "longEnough", desc := "(Ljava/lang/String;)Z" } : Jvm.MethodName) prog_1_method_2_code (1 : Nat) (Option.some Jvm.ClassFile.FieldType.boolean)).before args0 about1 = true := code_word (m := ⟨9, 0⟩) (meth := k9m0) (c := k9c0) (by decide +kernel) rfl rfl rfl (by decide +kernel)
set_option maxRecDepth 65536 in
theorem w_c6 : (Jvm.Cond.code ({ cls := "java/lang/String", name := "length", desc := "()I" } : Jvm.MethodName) jdk_42_method_54_code (1 : Nat) (Option.some Jvm.ClassFile.FieldType.int)).before args0 about1 = true := code_word (m := ⟨7, 2⟩) (meth := k7m2) (c := k7c2) (by decide +kernel) rfl rfl rfl (by decide +kernel)
set_option maxRecDepth 65536 in
theorem w_c7 : (Jvm.Cond.code ({ cls := "java/lang/String", name := "coder", desc := "()B" } : Jvm.MethodName) jdk_42_method_152_code (1 : Nat) (Option.some Jvm.ClassFile.FieldType.byte)).before args0 about1 = true := code_word (m := ⟨7, 5⟩) (meth := k7m5) (c := k7c5) (by decide +kernel) rfl rfl rfl (by decide +kernel)
set_option maxRecDepth 65536 in
theorem w_c8 : (Jvm.Cond.code ({ cls := "java/lang/String", name := "codePointCount", desc := "(II)I" } : Jvm.MethodName) jdk_42_method_59_code (3 : Nat) (Option.some Jvm.ClassFile.FieldType.int)).before args0 about1 = true := code_word (m := ⟨7, 3⟩) (meth := k7m3) (c := k7c3) (by decide +kernel) rfl rfl rfl (by decide +kernel)
set_option maxRecDepth 65536 in
theorem w_c9 : (Jvm.Cond.code ({ cls := "java/util/Objects", name := "checkFromToIndex", desc := "(III)I" } : Jvm.MethodName) jdk_31_method_18_code (3 : Nat) (Option.some Jvm.ClassFile.FieldType.int)).before args0 about1 = true := code_word (m := ⟨10, 1⟩) (meth := k10m1) (c := k10c1) (by decide +kernel) rfl rfl rfl (by decide +kernel)
set_option maxRecDepth 65536 in
theorem w_c10 : (Jvm.Cond.code ({ cls := "jdk/internal/util/Preconditions", name := "checkFromToIndex", desc := "(IIILjava/util/function/BiFunction;)I" } : Jvm.MethodName) jdk_41_method_12_code (4 : Nat) (Option.some Jvm.ClassFile.FieldType.int)).before args0 about1 = true := code_word (m := ⟨11, 1⟩) (meth := k11m1) (c := k11c1) (by decide +kernel) rfl rfl rfl (by decide +kernel)
set_option maxRecDepth 65536 in
theorem w_c11 : (Jvm.Cond.code ({ cls := "java/lang/String", name := "isLatin1", desc := "()Z" } : Jvm.MethodName) jdk_42_method_154_code (1 : Nat) (Option.some Jvm.ClassFile.FieldType.boolean)).before args0 about1 = true := code_word (m := ⟨7, 6⟩) (meth := k7m6) (c := k7c6) (by decide +kernel) rfl rfl rfl (by decide +kernel)
set_option maxRecDepth 65536 in
theorem w_c12 : (Jvm.Cond.code ({ cls := "com/example/orderly_tasks/orderlytasks/ConsoleSettingsLongEnoughPinLaw", name := "ch", desc := "(IJJI)C" } : Jvm.MethodName) method_4_code (10 : Nat) (Option.some Jvm.ClassFile.FieldType.char)).before args0 about1 = true := code_word (m := ⟨1, 3⟩) (meth := k1m3) (c := k1c3) (by decide +kernel) rfl rfl rfl (by decide +kernel)
set_option maxRecDepth 65536 in
theorem w_c13 : (Jvm.Cond.code ({ cls := "com/example/orderly_tasks/orderlytasks/ConsoleSettingsLongEnoughPinLaw", name := "kind", desc := "(II)I" } : Jvm.MethodName) method_3_code (2 : Nat) (Option.some Jvm.ClassFile.FieldType.int)).before args0 about1 = true := code_word (m := ⟨1, 2⟩) (meth := k1m2) (c := k1c2) (by decide +kernel) rfl rfl rfl (by decide +kernel)
set_option maxRecDepth 65536 in
theorem w_c14 : (Jvm.Cond.code ({ cls := "java/lang/StringUTF16", name := "compress", desc := "([CII)[B" } : Jvm.MethodName) jdk_52_method_16_code (6 : Nat) (Option.some (Jvm.ClassFile.FieldType.array Jvm.ClassFile.FieldType.byte))).before args0 about1 = true := code_word (m := ⟨12, 9⟩) (meth := k12m9) (c := k12c9) (by decide +kernel) rfl rfl rfl (by decide +kernel)
set_option maxRecDepth 65536 in
theorem w_c15 : (Jvm.Cond.code ({ cls := "java/lang/StringUTF16", name := "compress", desc := "([CI[BII)I" } : Jvm.MethodName) jdk_52_method_21_code (7 : Nat) (Option.some Jvm.ClassFile.FieldType.int)).before args0 about1 = true := code_word (m := ⟨12, 10⟩) (meth := k12m10) (c := k12c10) (by decide +kernel) rfl rfl rfl (by decide +kernel)
set_option maxRecDepth 65536 in
theorem w_c16 : (Jvm.Cond.code ({ cls := "java/lang/StringUTF16", name := "toBytes", desc := "([CII)[B" } : Jvm.MethodName) jdk_52_method_14_code (5 : Nat) (Option.some (Jvm.ClassFile.FieldType.array Jvm.ClassFile.FieldType.byte))).before args0 about1 = true := code_word (m := ⟨12, 7⟩) (meth := k12m7) (c := k12c7) (by decide +kernel) rfl rfl rfl (by decide +kernel)
set_option maxRecDepth 65536 in
theorem w_c17 : (Jvm.Cond.code ({ cls := "java/lang/StringUTF16", name := "newBytesFor", desc := "(I)[B" } : Jvm.MethodName) jdk_52_method_2_code (1 : Nat) (Option.some (Jvm.ClassFile.FieldType.array Jvm.ClassFile.FieldType.byte))).before args0 about1 = true := code_word (m := ⟨12, 1⟩) (meth := k12m1) (c := k12c1) (by decide +kernel) rfl rfl rfl (by decide +kernel)
set_option maxRecDepth 65536 in
theorem w_c18 : (Jvm.Cond.code ({ cls := "java/lang/StringUTF16", name := "newBytesLength", desc := "(I)I" } : Jvm.MethodName) jdk_52_method_3_code (1 : Nat) (Option.some Jvm.ClassFile.FieldType.int)).before args0 about1 = true := code_word (m := ⟨12, 2⟩) (meth := k12m2) (c := k12c2) (by decide +kernel) rfl rfl rfl (by decide +kernel)
set_option maxRecDepth 65536 in
theorem w_c19 : (Jvm.Cond.code ({ cls := "java/lang/StringUTF16", name := "putChar", desc := "([BII)V" } : Jvm.MethodName) jdk_52_method_4_code (3 : Nat) (Option.none : Option Jvm.ClassFile.FieldType)).before args0 about1 = true := code_word (m := ⟨12, 3⟩) (meth := k12m3) (c := k12c3) (by decide +kernel) rfl rfl rfl (by decide +kernel)
set_option maxRecDepth 65536 in
theorem w_c20 : (Jvm.Cond.code ({ cls := "java/lang/StringUTF16", name := "getChar", desc := "([BI)C" } : Jvm.MethodName) jdk_52_method_5_code (2 : Nat) (Option.some Jvm.ClassFile.FieldType.char)).before args0 about1 = true := code_word (m := ⟨12, 4⟩) (meth := k12m4) (c := k12c4) (by decide +kernel) rfl rfl rfl (by decide +kernel)
set_option maxRecDepth 65536 in
theorem w_c21 : (Jvm.Cond.code ({ cls := "java/lang/StringUTF16", name := "coderFromArrayLen", desc := "([BI)B" } : Jvm.MethodName) jdk_52_method_15_code (2 : Nat) (Option.some Jvm.ClassFile.FieldType.byte)).before args0 about1 = true := code_word (m := ⟨12, 8⟩) (meth := k12m8) (c := k12c8) (by decide +kernel) rfl rfl rfl (by decide +kernel)
set_option maxRecDepth 65536 in
theorem w_c22 : (Jvm.Cond.code ({ cls := "java/lang/StringUTF16", name := "codePointCount", desc := "([BII)I" } : Jvm.MethodName) jdk_52_method_12_code (3 : Nat) (Option.some Jvm.ClassFile.FieldType.int)).before args0 about1 = true := code_word (m := ⟨12, 6⟩) (meth := k12m6) (c := k12c6) (by decide +kernel) rfl rfl rfl (by decide +kernel)
set_option maxRecDepth 65536 in
theorem w_c23 : (Jvm.Cond.code ({ cls := "java/lang/StringUTF16", name := "codePointCount", desc := "([BIIZ)I" } : Jvm.MethodName) jdk_52_method_11_code (6 : Nat) (Option.some Jvm.ClassFile.FieldType.int)).before args0 about1 = true := code_word (m := ⟨12, 5⟩) (meth := k12m5) (c := k12c5) (by decide +kernel) rfl rfl rfl (by decide +kernel)
set_option maxRecDepth 65536 in
theorem w_c24 : (Jvm.Cond.code ({ cls := "java/lang/Character", name := "isHighSurrogate", desc := "(C)Z" } : Jvm.MethodName) jdk_89_method_14_code (1 : Nat) (Option.some Jvm.ClassFile.FieldType.boolean)).before args0 about1 = true := code_word (m := ⟨13, 0⟩) (meth := k13m0) (c := k13c0) (by decide +kernel) rfl rfl rfl (by decide +kernel)
set_option maxRecDepth 65536 in
theorem w_c25 : (Jvm.Cond.code ({ cls := "java/lang/Character", name := "isLowSurrogate", desc := "(C)Z" } : Jvm.MethodName) jdk_89_method_15_code (1 : Nat) (Option.some Jvm.ClassFile.FieldType.boolean)).before args0 about1 = true := code_word (m := ⟨13, 1⟩) (meth := k13m1) (c := k13c1) (by decide +kernel) rfl rfl rfl (by decide +kernel)
def codes1 : List Jvm.Cond := [Jvm.Cond.code x code maxLocals ret, Jvm.Cond.code ({ cls := "java/lang/String", name := "<init>", desc := "([C)V" } : Jvm.MethodName) jdk_42_method_3_code (2 : Nat) (Option.none : Option Jvm.ClassFile.FieldType), Jvm.Cond.code ({ cls := "java/lang/String", name := "<init>", desc := "([CIILjava/lang/Void;)V" } : Jvm.MethodName) jdk_42_method_149_code (6 : Nat) (Option.none : Option Jvm.ClassFile.FieldType), Jvm.Cond.code ({ cls := "java/lang/Object", name := "<init>", desc := "()V" } : Jvm.MethodName) object_method_1_code (1 : Nat) (Option.none : Option Jvm.ClassFile.FieldType), Jvm.Cond.code ({ cls := "com/example/orderly_tasks/orderlytasks/ConsoleSettingsLongEnoughPinLaw", name := "pair", desc := "(III)I" } : Jvm.MethodName) method_5_code (3 : Nat) (Option.some Jvm.ClassFile.FieldType.int), Jvm.Cond.code ({ cls := "com/example/orderly_tasks/orderlytasks/ConsoleSettings", name := "longEnough", desc := "(Ljava/lang/String;)Z" } : Jvm.MethodName) prog_1_method_2_code (1 : Nat) (Option.some Jvm.ClassFile.FieldType.boolean), Jvm.Cond.code ({ cls := "java/lang/String", name := "length", desc := "()I" } : Jvm.MethodName) jdk_42_method_54_code (1 : Nat) (Option.some Jvm.ClassFile.FieldType.int), Jvm.Cond.code ({ cls := "java/lang/String", name := "coder", desc := "()B" } : Jvm.MethodName) jdk_42_method_152_code (1 : Nat) (Option.some Jvm.ClassFile.FieldType.byte), Jvm.Cond.code ({ cls := "java/lang/String", name := "codePointCount", desc := "(II)I" } : Jvm.MethodName) jdk_42_method_59_code (3 : Nat) (Option.some Jvm.ClassFile.FieldType.int), Jvm.Cond.code ({ cls := "java/util/Objects", name := "checkFromToIndex", desc := "(III)I" } : Jvm.MethodName) jdk_31_method_18_code (3 : Nat) (Option.some Jvm.ClassFile.FieldType.int), Jvm.Cond.code ({ cls := "jdk/internal/util/Preconditions", name := "checkFromToIndex", desc := "(IIILjava/util/function/BiFunction;)I" } : Jvm.MethodName) jdk_41_method_12_code (4 : Nat) (Option.some Jvm.ClassFile.FieldType.int), Jvm.Cond.code ({ cls := "java/lang/String", name := "isLatin1", desc := "()Z" } : Jvm.MethodName) jdk_42_method_154_code (1 : Nat) (Option.some Jvm.ClassFile.FieldType.boolean), Jvm.Cond.code ({ cls := "com/example/orderly_tasks/orderlytasks/ConsoleSettingsLongEnoughPinLaw", name := "ch", desc := "(IJJI)C" } : Jvm.MethodName) method_4_code (10 : Nat) (Option.some Jvm.ClassFile.FieldType.char), Jvm.Cond.code ({ cls := "com/example/orderly_tasks/orderlytasks/ConsoleSettingsLongEnoughPinLaw", name := "kind", desc := "(II)I" } : Jvm.MethodName) method_3_code (2 : Nat) (Option.some Jvm.ClassFile.FieldType.int), Jvm.Cond.code ({ cls := "java/lang/StringUTF16", name := "compress", desc := "([CII)[B" } : Jvm.MethodName) jdk_52_method_16_code (6 : Nat) (Option.some (Jvm.ClassFile.FieldType.array Jvm.ClassFile.FieldType.byte)), Jvm.Cond.code ({ cls := "java/lang/StringUTF16", name := "compress", desc := "([CI[BII)I" } : Jvm.MethodName) jdk_52_method_21_code (7 : Nat) (Option.some Jvm.ClassFile.FieldType.int), Jvm.Cond.code ({ cls := "java/lang/StringUTF16", name := "toBytes", desc := "([CII)[B" } : Jvm.MethodName) jdk_52_method_14_code (5 : Nat) (Option.some (Jvm.ClassFile.FieldType.array Jvm.ClassFile.FieldType.byte)), Jvm.Cond.code ({ cls := "java/lang/StringUTF16", name := "newBytesFor", desc := "(I)[B" } : Jvm.MethodName) jdk_52_method_2_code (1 : Nat) (Option.some (Jvm.ClassFile.FieldType.array Jvm.ClassFile.FieldType.byte)), Jvm.Cond.code ({ cls := "java/lang/StringUTF16", name := "newBytesLength", desc := "(I)I" } : Jvm.MethodName) jdk_52_method_3_code (1 : Nat) (Option.some Jvm.ClassFile.FieldType.int), Jvm.Cond.code ({ cls := "java/lang/StringUTF16", name := "putChar", desc := "([BII)V" } : Jvm.MethodName) jdk_52_method_4_code (3 : Nat) (Option.none : Option Jvm.ClassFile.FieldType), Jvm.Cond.code ({ cls := "java/lang/StringUTF16", name := "getChar", desc := "([BI)C" } : Jvm.MethodName) jdk_52_method_5_code (2 : Nat) (Option.some Jvm.ClassFile.FieldType.char), Jvm.Cond.code ({ cls := "java/lang/StringUTF16", name := "coderFromArrayLen", desc := "([BI)B" } : Jvm.MethodName) jdk_52_method_15_code (2 : Nat) (Option.some Jvm.ClassFile.FieldType.byte), Jvm.Cond.code ({ cls := "java/lang/StringUTF16", name := "codePointCount", desc := "([BII)I" } : Jvm.MethodName) jdk_52_method_12_code (3 : Nat) (Option.some Jvm.ClassFile.FieldType.int), Jvm.Cond.code ({ cls := "java/lang/StringUTF16", name := "codePointCount", desc := "([BIIZ)I" } : Jvm.MethodName) jdk_52_method_11_code (6 : Nat) (Option.some Jvm.ClassFile.FieldType.int), Jvm.Cond.code ({ cls := "java/lang/Character", name := "isHighSurrogate", desc := "(C)Z" } : Jvm.MethodName) jdk_89_method_14_code (1 : Nat) (Option.some Jvm.ClassFile.FieldType.boolean), Jvm.Cond.code ({ cls := "java/lang/Character", name := "isLowSurrogate", desc := "(C)Z" } : Jvm.MethodName) jdk_89_method_15_code (1 : Nat) (Option.some Jvm.ClassFile.FieldType.boolean)]
set_option maxRecDepth 65536 in
theorem codes_eq : words1.filter isCode = codes1 := rfl
theorem w_codes : ∀ c ∈ words1.filter isCode, c.before args0 about1 = true := by
  rw [codes_eq]
  intro c hc
  simp only [codes1, List.mem_cons, List.not_mem_nil, or_false] at hc
  rcases hc with rfl | rfl | rfl | rfl | rfl | rfl | rfl | rfl | rfl | rfl | rfl | rfl | rfl | rfl | rfl | rfl | rfl | rfl | rfl | rfl | rfl | rfl | rfl | rfl | rfl | rfl
  · exact w_c0
  · exact w_c1
  · exact w_c2
  · exact w_c3
  · exact w_c4
  · exact w_c5
  · exact w_c6
  · exact w_c7
  · exact w_c8
  · exact w_c9
  · exact w_c10
  · exact w_c11
  · exact w_c12
  · exact w_c13
  · exact w_c14
  · exact w_c15
  · exact w_c16
  · exact w_c17
  · exact w_c18
  · exact w_c19
  · exact w_c20
  · exact w_c21
  · exact w_c22
  · exact w_c23
  · exact w_c24
  · exact w_c25
set_option maxRecDepth 65536 in
theorem w_t1 : (words1.take 24).all (fun c => isCode c || c.before args0 about1) = true := by decide +kernel
set_option maxRecDepth 65536 in
theorem w_t2 : ((words1.drop 24).take 24).all (fun c => isCode c || c.before args0 about1) = true := by decide +kernel
set_option maxRecDepth 65536 in
theorem w_t3 : (((words1.drop 24).drop 24).take 24).all (fun c => isCode c || c.before args0 about1) = true := by decide +kernel
set_option maxRecDepth 65536 in
theorem w_t4 : ((((words1.drop 24).drop 24).drop 24).take 24).all (fun c => isCode c || c.before args0 about1) = true := by decide +kernel
set_option maxRecDepth 65536 in
theorem w_t5 : ((((words1.drop 24).drop 24).drop 24).drop 24).all (fun c => isCode c || c.before args0 about1) = true := by decide +kernel
theorem w_tables : (allAtoms (Jvm.Cond.code x code maxLocals ret :: tables_1)).before args0 about1 = true := by
  rw [allAtoms_all]
  show words1.all (fun c => c.before args0 about1) = true
  refine all_split ?_ w_codes
  rw [← List.take_append_drop 24 words1, List.all_append, w_t1, ← List.take_append_drop 24 (words1.drop 24), List.all_append, w_t2, ← List.take_append_drop 24 ((words1.drop 24).drop 24), List.all_append, w_t3, ← List.take_append_drop 24 (((words1.drop 24).drop 24).drop 24), List.all_append, w_t4, w_t5]
  rfl
set_option maxRecDepth 65536 in
theorem w_rest : rest_1_c.before args0 about1 = true := by decide +kernel
set_option maxRecDepth 65536 in
theorem w_case : (Jvm.Cond.and given_1 narrow_1).before args0 about1 = true := by decide +kernel
set_option maxRecDepth 65536 in
theorem w_consts : constsHeld consts_1 about1 := Jvm.Lit.constsHeldB_iff.mp (by decide +kernel)
theorem w_applies : (headSpec (Jvm.Cond.code x code maxLocals ret :: tables_1) room_1).applies x e0.platform about1 = true :=
  (Spec.applies_iff w_frames).mpr ⟨w_running, w_runnable, w_alone, w_named, w_hears, w_ripe, w_room, w_tables⟩
theorem atStart : AtStart classFile x code maxLocals ret World_1 tables_1 room_1 Calls_1 rest_1 Pre_1 launch0 p0 e0 about1 theMethod args0 below0 :=
  ⟨lists_1, trivial, launch0.admits_env _ _ _, launch0.least_env, fairChoices_fair.cas, fairChoices_fair.clock, w_frames, w_args, w_heap, w_applies, ⟨w_consts, trivial⟩, w_rest, w_case⟩
end start1
theorem witness_1 : WitnessClaimed_1 := ⟨start1.p0, start1.e0, start1.about1, start1.theMethod, start1.args0, start1.below0, start1.atStart⟩
end Jvm.Pilot.@@N@@
