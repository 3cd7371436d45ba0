import JvmDerived
import JvmDerived.Pilot.@@N@@Statement
import JvmDerived.Pilot.@@N@@Code
set_option linter.unusedVariables false
set_option linter.unusedSimpArgs false
namespace Jvm.Road
open Jvm Jvm.ClassFile Sem Op Lib Jvm.Free Jvm.Stand Jvm.LawKit Jvm.RoadKit Bundle
/-! THE ROAD LAYER: one goal 'Go' for a walk, every step a law 'Go next -> Go here'; a callee's summary 'Con'. -/
abbrev Bdy : Type := MethodName × ByteArray × Nat × Option FieldType × Room
abbrev Bdy.y (B : Bdy) : MethodName := B.1
abbrev Bdy.bs (B : Bdy) : ByteArray := B.2.1
abbrev Bdy.ml (B : Bdy) : Nat := B.2.2.1
abbrev Bdy.rt (B : Bdy) : Option FieldType := B.2.2.2.1
abbrev Bdy.rm (B : Bdy) : Room := B.2.2.2.2
abbrev Dyn : Type := Program × Env × State × MethodId × Array Value × List Frame × Method × Code
abbrev Dyn.p (D : Dyn) : Program := D.1
abbrev Dyn.e (D : Dyn) : Env := D.2.1
abbrev Dyn.s (D : Dyn) : State := D.2.2.1
abbrev Dyn.m (D : Dyn) : MethodId := D.2.2.2.1
abbrev Dyn.args (D : Dyn) : Array Value := D.2.2.2.2.1
abbrev Dyn.bl (D : Dyn) : List Frame := D.2.2.2.2.2.1
abbrev Dyn.meth (D : Dyn) : Method := D.2.2.2.2.2.2.1
abbrev Dyn.c (D : Dyn) : Code := D.2.2.2.2.2.2.2
/-- a cell that this law's run has made and that no constant of EL stands for: it may be written -/
def Own (Z : State) (EL : List (String × Nat)) (n0 : Nat) (vm : Vm) (h : Heap) (x : Addr) : Prop := Safe Z EL vm h x ∧ n0 ≤ x ∧ x < h.size
def Ok (B : Bdy) (D : Dyn) : Prop := D.p.tables.exec = Jvm.exec ∧ D.c.code = B.bs ∧ D.c.maxLocals = B.ml ∧ D.meth.sig.returnType = B.rt ∧ D.meth.locks = false ∧ D.meth.name = B.y.name
def Inv (l : Launch) (Z : State) (EL : List (String × Nat)) (n0 : Nat) (kn : Bool) (B : Bdy) (D : Dyn) (h : Heap) (σ : Addr → Prop) (ce sl : Nat) (T : State) (vm0 : Vm) : Prop :=
  ∃ (k0 : Nat) (locs : List Loc), Stand D.p l D.e B.rm (D.s.setVm vm0) D.m D.args D.bl D.meth D.c T locs ce sl ∧ T.heap = h ∧ D.s.Since vm0 k0 ∧ k0 ≤ h.size ∧ Z.Warmed39 vm0 ∧ vm0.findClass B.y.cls = some D.m.cls ∧
    CHr Z EL D.s.vm D.s.heap vm0 h ∧ Fr n0 locs ∧ Old Z n0 h ∧ (∀ x, σ x → Own Z EL n0 vm0 h x) ∧ (kn = true → vm0.MethodsKnown ∧ vm0.FramesKnown D.bl)
abbrev Post : Type := Option Value → Heap → (Addr → Prop) → Prop
def Ends (Z : State) (EL : List (String × Nat)) (n0 : Nat) (B : Bdy) (D : Dyn) (Q : Post) (t0 : State) : Prop :=
  ∃ s₂ o, Steps D.p.tables D.e D.bl t0 s₂ ∧ s₂.status = .running ∧ Ended s₂ D.bl o ∧
    ∃ v L, o = .returned v ∧ Q v s₂.heap (Own Z EL n0 s₂.vm s₂.heap) ∧ Fr n0 L ∧ CHr Z EL D.s.vm D.s.heap s₂.vm s₂.heap ∧ Old Z n0 s₂.heap ∧ ReturnedEndW D.s o s₂ L B.rm.cells B.rm.slots
def Go (l : Launch) (Z : State) (a0 : Array Value) (EL : List (String × Nat)) (n0 : Nat) (kn : Bool) (B : Bdy) (D : Dyn) (Q : Post) (h : Heap) (σ : Addr → Prop) (ce sl : Nat) (pc : Nat) (Ls : Array Slot) (st : List Value) : Prop :=
  Ok B D → EW Z a0 EL → ∀ (T : State) (vm0 : Vm), Inv l Z EL n0 kn B D h σ ce sl T vm0 → Ends Z EL n0 B D Q (T.setTop (mkF D.m pc Ls st))
/-- what is asked of a callee -/
def Con (l : Launch) (Z : State) (EL : List (String × Nat)) (n0 : Nat) (kn : Bool) (B : Bdy) (ws : List Jvm.Cond) (σ : Addr → Prop) (as : Array Value) (h : Heap) (Q : Post) : Prop :=
  MetFree l B.y (head1 (Jvm.Cond.code B.y B.bs B.ml B.rt :: ws) B.rm)
    (fun a U => a = as ∧ Z.Warmed39 U.vm ∧ U.heap = h ∧ CHv Z EL U.vm h ∧ Old Z n0 h ∧ ∀ x, σ x → Own Z EL n0 U.vm h x)
    (fun _ _ bl s _ => kn = true → s.vm.MethodsKnown ∧ s.vm.FramesKnown bl)
    (fun _ U o U' => ∃ v L, o = .returned v ∧ Q v U'.heap (Own Z EL n0 U'.vm U'.heap) ∧ Fr n0 L ∧ CHr Z EL U.vm U.heap U'.vm U'.heap ∧ Old Z n0 U'.heap ∧ ReturnedEndW U o U' L B.rm.cells B.rm.slots)
def push : Option Value → List Value → List Value
  | some v, r => v :: r
  | none, r => r
theorem push_eq (v : Option Value) (r : List Value) : v.toList ++ r = push v r := by cases v <;> rfl
section Laws
variable {l : Launch} {Z : State} {a0 : Array Value} {EL : List (String × Nat)} {n0 : Nat} {kn : Bool} {B : Bdy} {D : Dyn} {Q : Post} {h h' : Heap} {σ : Addr → Prop} {ce sl : Nat} {Ls : Array Slot} {st : List Value}
theorem Con.of {ws : List Jvm.Cond} (hpn : plainFor B.y = true) (hEW : EW Z a0 EL) {as : Array Value} (Ls0 : Array Slot) (hef : ∀ m, entryFrame m as B.ml = mkF m 0 Ls0 [])
    (body : ∀ D : Dyn, D.s.heap = h → Go l Z a0 EL n0 kn B D Q h σ 0 0 0 Ls0 []) : Con l Z EL n0 kn B ws σ as h Q := by
  refine MetFree.of_bodySF hpn hisR ?_
  intro p e s m args below meth c s₁ Bd hml hP hK
  obtain ⟨rfl, hZ, hh, hC, hO, hσ⟩ := hP
  have hnm := (name_of_methodNamed Bd.named Bd.method).1
  have hown := findClass_of_methodNamed Bd.named
  have X0 : Stand p l e B.rm s m args below meth c s₁ [] 0 0 := Stand.of_body Bd
  have e0 : s₁.heap = h := by rw [← hh, Bd.state]; rfl
  obtain ⟨s2, o, st, hr, he, r⟩ := body (p, e, s, m, args, below, meth, c) hh ⟨Bd.exec, Bd.bytes, hml, Bd.returns, Bd.notSynchronized, hnm⟩ hEW s₁ s.vm
    ⟨0, [], X0, e0, (State.WarmedH.refl s).since 0, Nat.zero_le _, hZ, hown, by subst hh; exact CHr.refl hC, Fr.nil n0, hO, hσ, hK⟩
  exact ⟨s2, o, castTop (hef m) st, hr, he, r⟩
/-- one plain step -/
theorem Go.step {pc pc' : Nat} {Ls' : Array Slot} {st' : List Value} (k : ∀ T, At T D.m D.c D.bl → D.p.tables.exec = Jvm.exec → D.c.code = B.bs → ∀ t, Steps D.p.tables D.e D.bl (T.setTop (mkF D.m pc' Ls' st')) t → Steps D.p.tables D.e D.bl (T.setTop (mkF D.m pc Ls st)) t)
    (r : Go l Z a0 EL n0 kn B D Q h σ ce sl pc' Ls' st') : Go l Z a0 EL n0 kn B D Q h σ ce sl pc Ls st := by
  intro ok ew T vm0 I
  obtain ⟨s2, o, q, rest⟩ := r ok ew T vm0 I
  obtain ⟨k0, locs, X, -⟩ := I
  exact ⟨s2, o, k T X.here ok.1 ok.2.1 _ q, rest⟩
/-- fewer permissions, more room taken: what was shown serves -/
theorem Go.weaken {pc : Nat} {σ' : Addr → Prop} {ce' sl' : Nat} (hσ : ∀ x, σ' x → σ x) (hc : ce ≤ ce') (hs : sl ≤ sl') (r : Go l Z a0 EL n0 kn B D Q h σ' ce' sl' pc Ls st) : Go l Z a0 EL n0 kn B D Q h σ ce sl pc Ls st := by
  intro ok ew T vm0 I
  obtain ⟨k0, locs, X, h1, h2, h3, h4, h5, h6, h7, h8, h9, h10⟩ := I
  exact r ok ew T vm0 ⟨k0, locs, X.mono hc hs, h1, h2, h3, h4, h5, h6, h7, h8, fun x q => h9 x (hσ x q), h10⟩
/-- facts that the walk bears -/
theorem Go.old {pc : Nat} (r : Old Z n0 h → Go l Z a0 EL n0 kn B D Q h σ ce sl pc Ls st) : Go l Z a0 EL n0 kn B D Q h σ ce sl pc Ls st := by
  intro ok ew T vm0 I
  refine r ?_ ok ew T vm0 I
  obtain ⟨k0, locs, X, h1, h2, h3, h4, h5, h6, h7, h8, h9, h10⟩ := I
  exact h8
end Laws
end Jvm.Road
namespace Jvm.Road
open Jvm Jvm.ClassFile Sem Op Lib Jvm.Free Jvm.Stand Jvm.LawKit Jvm.RoadKit Bundle
theorem Go.ownAll {l : Launch} {Z : State} {a0 : Array Value} {EL : List (String × Nat)} {n0 : Nat} {kn : Bool} {B : Bdy} {D : Dyn} {Q : Post} {h : Heap} {σ : Addr → Prop} {ce sl : Nat} {Ls : Array Slot} {st : List Value} {pc : Nat}
    (r : (∀ x, σ x → n0 ≤ x ∧ x < h.size) → Go l Z a0 EL n0 kn B D Q h σ ce sl pc Ls st) : Go l Z a0 EL n0 kn B D Q h σ ce sl pc Ls st := by
  intro ok ew T vm0 I
  refine r ?_ ok ew T vm0 I
  obtain ⟨k0, locs, X, h1, h2, h3, h4, h5, h6, h7, h8, h9, h10⟩ := I
  exact fun x hx => (h9 x hx).2
theorem keep_more {h h' : Heap} {ws : List Addr} (K : Keep h h' []) : Keep h h' ws := ⟨K.1, fun x c q _ => K.2.1 x c q nin0, K.2.2⟩
end Jvm.Road
namespace Jvm.Road
open Jvm Jvm.ClassFile Sem Op Lib Jvm.Free Jvm.Stand Jvm.LawKit Jvm.RoadKit Bundle
theorem laid0 : Jvm.Sym.laidSlots [] = [] := rfl
theorem laid1 {v : Value} {vs : List Value} {L : List Slot} (hc : v.category = 1) (h : Jvm.Sym.laidSlots vs = L) : Jvm.Sym.laidSlots (v :: vs) = .val v :: L := by
  rw [Jvm.Sym.laidSlots, hc, h]; rfl
theorem laid2 {v : Value} {vs : List Value} {L : List Slot} (hc : v.category = 2) (h : Jvm.Sym.laidSlots vs = L) : Jvm.Sym.laidSlots (v :: vs) = .val v :: .second :: L := by
  rw [Jvm.Sym.laidSlots, hc, h]; rfl
theorem ent {m : MethodId} {args : Array Value} {n k : Nat} {Ls : Array Slot} {L : List Slot} (h : Jvm.Sym.laidSlots args.toList = L) (hk : n - L.length = k) (hL : L ++ List.replicate k .unset = Ls.toList) : entryFrame m args n = mkF m 0 Ls [] := by
  have : argsToLocals args n = Ls := Array.toList_inj.mp (by rw [Jvm.Sym.argsToLocals_toList, h, hk]; exact hL)
  unfold entryFrame
  rw [this]
end Jvm.Road
namespace Jvm.Road
open Jvm Jvm.ClassFile Sem Op Lib Jvm.Free Jvm.Stand Jvm.LawKit Jvm.RoadKit Bundle
/-- what i2c leaves -/
abbrev chr (x : Int32) : Int32 := x.toUInt32.toUInt16.toUInt32.toInt32
section Plain
variable {l : Launch} {Z : State} {a0 : Array Value} {EL : List (String × Nat)} {n0 : Nat} {kn : Bool} {B : Bdy} {D : Dyn} {Q : Post} {h : Heap} {σ : Addr → Prop} {ce sl : Nat} {Ls : Array Slot} {st : List Value}
theorem aload (pc : Nat) {k : Nat} {v : Value} (hd : decode B.bs pc = .ok (.aload k, 2)) (hl : Ls[k]? = some (.val v))  (r : Go l Z a0 EL n0 kn B D Q h σ ce sl (pc + 2) Ls (v :: st)) (hv : v.isRef = true := by rfl) : Go l Z a0 EL n0 kn B D Q h σ ce sl pc Ls st :=
  Go.step (fun T hA hx hb t q => XS.aload hA hx rfl (Jvm.hb hb hd) hl hv q) r
theorem aloadN (pc : Nat) {k : Fin 4} {v : Value} (hd : decode B.bs pc = .ok (.aload_n k, 1)) (hl : Ls[k.val]? = some (.val v))  (r : Go l Z a0 EL n0 kn B D Q h σ ce sl (pc + 1) Ls (v :: st)) (hv : v.isRef = true := by rfl) : Go l Z a0 EL n0 kn B D Q h σ ce sl pc Ls st :=
  Go.step (fun T hA hx hb t q => XS.aloadN hA hx rfl (Jvm.hb hb hd) hl hv q) r
theorem iload (pc : Nat) {k : Nat} {v : Int32} (hd : decode B.bs pc = .ok (.iload k, 2)) (hl : Ls[k]? = some (.val (.int v))) (r : Go l Z a0 EL n0 kn B D Q h σ ce sl (pc + 2) Ls (.int v :: st))  : Go l Z a0 EL n0 kn B D Q h σ ce sl pc Ls st :=
  Go.step (fun T hA hx hb t q => XS.iload hA hx rfl (Jvm.hb hb hd) hl q) r
theorem iloadN (pc : Nat) {k : Fin 4} {v : Int32} (hd : decode B.bs pc = .ok (.iload_n k, 1)) (hl : Ls[k.val]? = some (.val (.int v))) (r : Go l Z a0 EL n0 kn B D Q h σ ce sl (pc + 1) Ls (.int v :: st))  : Go l Z a0 EL n0 kn B D Q h σ ce sl pc Ls st :=
  Go.step (fun T hA hx hb t q => XS.iloadN hA hx rfl (Jvm.hb hb hd) hl q) r
theorem lload (pc : Nat) {k : Nat} {v : Int64} (hd : decode B.bs pc = .ok (.lload k, 2)) (hl : Ls[k]? = some (.val (.long v))) (r : Go l Z a0 EL n0 kn B D Q h σ ce sl (pc + 2) Ls (.long v :: st))  : Go l Z a0 EL n0 kn B D Q h σ ce sl pc Ls st :=
  Go.step (fun T hA hx hb t q => XT.lload hA hx rfl (Jvm.hb hb hd) hl q) r
theorem lloadN (pc : Nat) {k : Fin 4} {v : Int64} (hd : decode B.bs pc = .ok (.lload_n k, 1)) (hl : Ls[k.val]? = some (.val (.long v))) (r : Go l Z a0 EL n0 kn B D Q h σ ce sl (pc + 1) Ls (.long v :: st))  : Go l Z a0 EL n0 kn B D Q h σ ce sl pc Ls st :=
  Go.step (fun T hA hx hb t q => XT.lloadN hA hx rfl (Jvm.hb hb hd) hl q) r
theorem iconst (pc : Nat) {i : Int} (v : Int32) (hd : decode B.bs pc = .ok (.iconst i, 1)) (hv : Int32.ofInt i = v) (r : Go l Z a0 EL n0 kn B D Q h σ ce sl (pc + 1) Ls (.int v :: st))  : Go l Z a0 EL n0 kn B D Q h σ ce sl pc Ls st :=
  Go.step (fun T hA hx hb t q => XT.iconstV hA hx rfl v (Jvm.hb hb hd) hv q) r
theorem bipush (pc : Nat) {i : Int} (v : Int32) (hd : decode B.bs pc = .ok (.bipush i, 2)) (hv : (Int8.ofInt i).toInt32 = v) (r : Go l Z a0 EL n0 kn B D Q h σ ce sl (pc + 2) Ls (.int v :: st))  : Go l Z a0 EL n0 kn B D Q h σ ce sl pc Ls st :=
  Go.step (fun T hA hx hb t q => XT.bipushV hA hx rfl v (Jvm.hb hb hd) hv q) r
theorem sipush (pc : Nat) {i : Int} (v : Int32) (hd : decode B.bs pc = .ok (.sipush i, 3)) (hv : (Int16.ofInt i).toInt32 = v) (r : Go l Z a0 EL n0 kn B D Q h σ ce sl (pc + 3) Ls (.int v :: st))  : Go l Z a0 EL n0 kn B D Q h σ ce sl pc Ls st :=
  Go.step (fun T hA hx hb t q => XT.sipushV hA hx rfl v (Jvm.hb hb hd) hv q) r
theorem lconst (pc : Nat) {k : Fin 2} (v : Int64) (hd : decode B.bs pc = .ok (.lconst k, 1)) (hv : Int64.ofNat k = v) (r : Go l Z a0 EL n0 kn B D Q h σ ce sl (pc + 1) Ls (.long v :: st))  : Go l Z a0 EL n0 kn B D Q h σ ce sl pc Ls st :=
  Go.step (fun T hA hx hb t q => XT.lconstV hA hx rfl v (Jvm.hb hb hd) hv q) r
theorem aconstNull (pc : Nat)  (hd : decode B.bs pc = .ok (.aconst_null, 1))  (r : Go l Z a0 EL n0 kn B D Q h σ ce sl (pc + 1) Ls (.null :: st))  : Go l Z a0 EL n0 kn B D Q h σ ce sl pc Ls st :=
  Go.step (fun T hA hx hb t q => XS.aconstNull hA hx rfl (Jvm.hb hb hd) q) r
theorem iadd (pc : Nat) {x y : Int32} (hd : decode B.bs pc = .ok (.iadd, 1))  (r : Go l Z a0 EL n0 kn B D Q h σ ce sl (pc + 1) Ls (.int (x + y) :: st))  : Go l Z a0 EL n0 kn B D Q h σ ce sl pc Ls (.int y :: .int x :: st) :=
  Go.step (fun T hA hx hb t q => XS.iadd hA hx rfl (Jvm.hb hb hd) rfl q) r
theorem isub (pc : Nat) {x y : Int32} (hd : decode B.bs pc = .ok (.isub, 1))  (r : Go l Z a0 EL n0 kn B D Q h σ ce sl (pc + 1) Ls (.int (x - y) :: st))  : Go l Z a0 EL n0 kn B D Q h σ ce sl pc Ls (.int y :: .int x :: st) :=
  Go.step (fun T hA hx hb t q => XS.isub hA hx rfl (Jvm.hb hb hd) rfl q) r
theorem iand (pc : Nat) {x y : Int32} (hd : decode B.bs pc = .ok (.iand, 1))  (r : Go l Z a0 EL n0 kn B D Q h σ ce sl (pc + 1) Ls (.int (x &&& y) :: st))  : Go l Z a0 EL n0 kn B D Q h σ ce sl pc Ls (.int y :: .int x :: st) :=
  Go.step (fun T hA hx hb t q => XS.iand hA hx rfl (Jvm.hb hb hd) rfl q) r
theorem imul (pc : Nat) {x y : Int32} (hd : decode B.bs pc = .ok (.imul, 1))  (r : Go l Z a0 EL n0 kn B D Q h σ ce sl (pc + 1) Ls (.int (x * y) :: st))  : Go l Z a0 EL n0 kn B D Q h σ ce sl pc Ls (.int y :: .int x :: st) :=
  Go.step (fun T hA hx hb t q => XS.imul hA hx rfl (Jvm.hb hb hd) rfl q) r
theorem ixor (pc : Nat) {x y : Int32} (hd : decode B.bs pc = .ok (.ixor, 1))  (r : Go l Z a0 EL n0 kn B D Q h σ ce sl (pc + 1) Ls (.int (x ^^^ y) :: st))  : Go l Z a0 EL n0 kn B D Q h σ ce sl pc Ls (.int y :: .int x :: st) :=
  Go.step (fun T hA hx hb t q => XT.ixor hA hx rfl (Jvm.hb hb hd) rfl q) r
theorem ior (pc : Nat) {x y : Int32} (hd : decode B.bs pc = .ok (.ior, 1))  (r : Go l Z a0 EL n0 kn B D Q h σ ce sl (pc + 1) Ls (.int (x ||| y) :: st))  : Go l Z a0 EL n0 kn B D Q h σ ce sl pc Ls (.int y :: .int x :: st) :=
  Go.step (fun T hA hx hb t q => XT.ior hA hx rfl (Jvm.hb hb hd) rfl q) r
theorem ishl (pc : Nat) {x y : Int32} (hd : decode B.bs pc = .ok (.ishl, 1))  (r : Go l Z a0 EL n0 kn B D Q h σ ce sl (pc + 1) Ls (.int (x <<< (y &&& 31)) :: st))  : Go l Z a0 EL n0 kn B D Q h σ ce sl pc Ls (.int y :: .int x :: st) :=
  Go.step (fun T hA hx hb t q => XT.ishl hA hx rfl (Jvm.hb hb hd) rfl q) r
theorem ishr (pc : Nat) {x y : Int32} (hd : decode B.bs pc = .ok (.ishr, 1))  (r : Go l Z a0 EL n0 kn B D Q h σ ce sl (pc + 1) Ls (.int (x >>> (y &&& 31)) :: st))  : Go l Z a0 EL n0 kn B D Q h σ ce sl pc Ls (.int y :: .int x :: st) :=
  Go.step (fun T hA hx hb t q => XT.ishr hA hx rfl (Jvm.hb hb hd) rfl q) r
theorem iushr (pc : Nat) {x y : Int32} (hd : decode B.bs pc = .ok (.iushr, 1))  (r : Go l Z a0 EL n0 kn B D Q h σ ce sl (pc + 1) Ls (.int (XT.ushr x y) :: st))  : Go l Z a0 EL n0 kn B D Q h σ ce sl pc Ls (.int y :: .int x :: st) :=
  Go.step (fun T hA hx hb t q => XT.iushr hA hx rfl (Jvm.hb hb hd) rfl q) r
theorem idiv (pc : Nat) {x y : Int32} (hd : decode B.bs pc = .ok (.idiv, 1)) (hy : y ≠ 0) (r : Go l Z a0 EL n0 kn B D Q h σ ce sl (pc + 1) Ls (.int (x / y) :: st))  : Go l Z a0 EL n0 kn B D Q h σ ce sl pc Ls (.int y :: .int x :: st) :=
  Go.step (fun T hA hx hb t q => XS.idiv hA hx rfl (Jvm.hb hb hd) rfl hy q) r
theorem irem (pc : Nat) {x y : Int32} (hd : decode B.bs pc = .ok (.irem, 1)) (hy : y ≠ 0) (r : Go l Z a0 EL n0 kn B D Q h σ ce sl (pc + 1) Ls (.int (x % y) :: st))  : Go l Z a0 EL n0 kn B D Q h σ ce sl pc Ls (.int y :: .int x :: st) :=
  Go.step (fun T hA hx hb t q => XS.irem hA hx rfl (Jvm.hb hb hd) rfl hy (by rw [irem_eq_mod]; exact q)) r
theorem ineg (pc : Nat) {x : Int32} (hd : decode B.bs pc = .ok (.ineg, 1))  (r : Go l Z a0 EL n0 kn B D Q h σ ce sl (pc + 1) Ls (.int (-x) :: st))  : Go l Z a0 EL n0 kn B D Q h σ ce sl pc Ls (.int x :: st) :=
  Go.step (fun T hA hx hb t q => XS.ineg hA hx rfl (Jvm.hb hb hd) rfl q) r
theorem ladd (pc : Nat) {x y : Int64} (hd : decode B.bs pc = .ok (.ladd, 1))  (r : Go l Z a0 EL n0 kn B D Q h σ ce sl (pc + 1) Ls (.long (x + y) :: st))  : Go l Z a0 EL n0 kn B D Q h σ ce sl pc Ls (.long y :: .long x :: st) :=
  Go.step (fun T hA hx hb t q => XT.ladd hA hx rfl (Jvm.hb hb hd) rfl q) r
theorem lsub (pc : Nat) {x y : Int64} (hd : decode B.bs pc = .ok (.lsub, 1))  (r : Go l Z a0 EL n0 kn B D Q h σ ce sl (pc + 1) Ls (.long (x - y) :: st))  : Go l Z a0 EL n0 kn B D Q h σ ce sl pc Ls (.long y :: .long x :: st) :=
  Go.step (fun T hA hx hb t q => XT.lsub hA hx rfl (Jvm.hb hb hd) rfl q) r
theorem land (pc : Nat) {x y : Int64} (hd : decode B.bs pc = .ok (.land, 1))  (r : Go l Z a0 EL n0 kn B D Q h σ ce sl (pc + 1) Ls (.long (x &&& y) :: st))  : Go l Z a0 EL n0 kn B D Q h σ ce sl pc Ls (.long y :: .long x :: st) :=
  Go.step (fun T hA hx hb t q => XT.land hA hx rfl (Jvm.hb hb hd) rfl q) r
theorem lmul (pc : Nat) {x y : Int64} (hd : decode B.bs pc = .ok (.lmul, 1))  (r : Go l Z a0 EL n0 kn B D Q h σ ce sl (pc + 1) Ls (.long (x * y) :: st))  : Go l Z a0 EL n0 kn B D Q h σ ce sl pc Ls (.long y :: .long x :: st) :=
  Go.step (fun T hA hx hb t q => XT.lmul hA hx rfl (Jvm.hb hb hd) rfl q) r
theorem lxor (pc : Nat) {x y : Int64} (hd : decode B.bs pc = .ok (.lxor, 1))  (r : Go l Z a0 EL n0 kn B D Q h σ ce sl (pc + 1) Ls (.long (x ^^^ y) :: st))  : Go l Z a0 EL n0 kn B D Q h σ ce sl pc Ls (.long y :: .long x :: st) :=
  Go.step (fun T hA hx hb t q => XT.lxor hA hx rfl (Jvm.hb hb hd) rfl q) r
theorem lor (pc : Nat) {x y : Int64} (hd : decode B.bs pc = .ok (.lor, 1))  (r : Go l Z a0 EL n0 kn B D Q h σ ce sl (pc + 1) Ls (.long (x ||| y) :: st))  : Go l Z a0 EL n0 kn B D Q h σ ce sl pc Ls (.long y :: .long x :: st) :=
  Go.step (fun T hA hx hb t q => XT.lor hA hx rfl (Jvm.hb hb hd) rfl q) r
theorem lushr (pc : Nat) {x : Int64} {y : Int32} (hd : decode B.bs pc = .ok (.lushr, 1))  (r : Go l Z a0 EL n0 kn B D Q h σ ce sl (pc + 1) Ls (.long (XT.ushrL x y) :: st))  : Go l Z a0 EL n0 kn B D Q h σ ce sl pc Ls (.int y :: .long x :: st) :=
  Go.step (fun T hA hx hb t q => XT.lushr hA hx rfl (Jvm.hb hb hd) rfl q) r
theorem ldiv (pc : Nat) {x y : Int64} (hd : decode B.bs pc = .ok (.ldiv, 1)) (hy : y ≠ 0) (r : Go l Z a0 EL n0 kn B D Q h σ ce sl (pc + 1) Ls (.long (x / y) :: st))  : Go l Z a0 EL n0 kn B D Q h σ ce sl pc Ls (.long y :: .long x :: st) :=
  Go.step (fun T hA hx hb t q => XT.ldiv hA hx rfl (Jvm.hb hb hd) rfl hy q) r
theorem lrem (pc : Nat) {x y : Int64} (hd : decode B.bs pc = .ok (.lrem, 1)) (hy : y ≠ 0) (r : Go l Z a0 EL n0 kn B D Q h σ ce sl (pc + 1) Ls (.long (x - (x / y) * y) :: st))  : Go l Z a0 EL n0 kn B D Q h σ ce sl pc Ls (.long y :: .long x :: st) :=
  Go.step (fun T hA hx hb t q => XT.lrem hA hx rfl (Jvm.hb hb hd) rfl hy q) r
theorem lneg (pc : Nat) {x : Int64} (hd : decode B.bs pc = .ok (.lneg, 1))  (r : Go l Z a0 EL n0 kn B D Q h σ ce sl (pc + 1) Ls (.long (-x) :: st))  : Go l Z a0 EL n0 kn B D Q h σ ce sl pc Ls (.long x :: st) :=
  Go.step (fun T hA hx hb t q => XT.lneg hA hx rfl (Jvm.hb hb hd) rfl q) r
theorem i2l (pc : Nat) {x : Int32} (hd : decode B.bs pc = .ok (.i2l, 1))  (r : Go l Z a0 EL n0 kn B D Q h σ ce sl (pc + 1) Ls (.long x.toInt64 :: st))  : Go l Z a0 EL n0 kn B D Q h σ ce sl pc Ls (.int x :: st) :=
  Go.step (fun T hA hx hb t q => XT.i2l hA hx rfl (Jvm.hb hb hd) rfl q) r
theorem l2i (pc : Nat) {x : Int64} (hd : decode B.bs pc = .ok (.l2i, 1))  (r : Go l Z a0 EL n0 kn B D Q h σ ce sl (pc + 1) Ls (.int x.toInt32 :: st))  : Go l Z a0 EL n0 kn B D Q h σ ce sl pc Ls (.long x :: st) :=
  Go.step (fun T hA hx hb t q => XT.l2i hA hx rfl (Jvm.hb hb hd) rfl q) r
theorem i2b (pc : Nat) {x : Int32} (hd : decode B.bs pc = .ok (.i2b, 1))  (r : Go l Z a0 EL n0 kn B D Q h σ ce sl (pc + 1) Ls (.int x.toInt8.toInt32 :: st))  : Go l Z a0 EL n0 kn B D Q h σ ce sl pc Ls (.int x :: st) :=
  Go.step (fun T hA hx hb t q => XT.i2b hA hx rfl (Jvm.hb hb hd) rfl q) r
theorem i2c (pc : Nat) {x : Int32} (hd : decode B.bs pc = .ok (.i2c, 1))  (r : Go l Z a0 EL n0 kn B D Q h σ ce sl (pc + 1) Ls (.int (chr x) :: st))  : Go l Z a0 EL n0 kn B D Q h σ ce sl pc Ls (.int x :: st) :=
  Go.step (fun T hA hx hb t q => XT.i2c hA hx rfl (Jvm.hb hb hd) rfl q) r
theorem lcmp (pc : Nat) {x y : Int64} (hd : decode B.bs pc = .ok (.lcmp, 1))  (r : Go l Z a0 EL n0 kn B D Q h σ ce sl (pc + 1) Ls (.int (XT.cmpL x y) :: st))  : Go l Z a0 EL n0 kn B D Q h σ ce sl pc Ls (.long y :: .long x :: st) :=
  Go.step (fun T hA hx hb t q => XT.lcmp hA hx rfl (Jvm.hb hb hd) rfl q) r
theorem dup (pc : Nat) {v : Value} (hd : decode B.bs pc = .ok (.dup, 1))  (r : Go l Z a0 EL n0 kn B D Q h σ ce sl (pc + 1) Ls (v :: v :: st)) (hc : v.category = 1 := by rfl) : Go l Z a0 EL n0 kn B D Q h σ ce sl pc Ls (v :: st) :=
  Go.step (fun T hA hx hb t q => XS.dup hA hx rfl (Jvm.hb hb hd) rfl hc q) r
theorem dupX1 (pc : Nat) {v w : Value} (hd : decode B.bs pc = .ok (.dup_x1, 1))   (r : Go l Z a0 EL n0 kn B D Q h σ ce sl (pc + 1) Ls (v :: w :: v :: st)) (hc : v.category = 1 := by rfl) (hw : w.category = 1 := by rfl) : Go l Z a0 EL n0 kn B D Q h σ ce sl pc Ls (v :: w :: st) :=
  Go.step (fun T hA hx hb t q => XT.dupX1 hA hx rfl (Jvm.hb hb hd) rfl hc hw q) r
theorem pop (pc : Nat) {v : Value} (hd : decode B.bs pc = .ok (.pop, 1))  (r : Go l Z a0 EL n0 kn B D Q h σ ce sl (pc + 1) Ls st) (hc : v.category = 1 := by rfl) : Go l Z a0 EL n0 kn B D Q h σ ce sl pc Ls (v :: st) :=
  Go.step (fun T hA hx hb t q => XT.pop hA hx rfl (Jvm.hb hb hd) rfl hc q) r
theorem istore (pc : Nat) {k : Nat} {x : Int32} (l' : Array Slot) (hd : decode B.bs pc = .ok (.istore k, 2)) (hl : storeLocals Ls k (.int x) = some l') (r : Go l Z a0 EL n0 kn B D Q h σ ce sl (pc + 2) l' st)  : Go l Z a0 EL n0 kn B D Q h σ ce sl pc Ls (.int x :: st) :=
  Go.step (fun T hA hx hb t q => XS.istore hA hx rfl (Jvm.hb hb hd) rfl hl q) r
theorem istoreN (pc : Nat) {k : Fin 4} {x : Int32} (l' : Array Slot) (hd : decode B.bs pc = .ok (.istore_n k, 1)) (hl : storeLocals Ls k.val (.int x) = some l') (r : Go l Z a0 EL n0 kn B D Q h σ ce sl (pc + 1) l' st)  : Go l Z a0 EL n0 kn B D Q h σ ce sl pc Ls (.int x :: st) :=
  Go.step (fun T hA hx hb t q => XS.istoreN hA hx rfl (Jvm.hb hb hd) rfl hl q) r
theorem lstore (pc : Nat) {k : Nat} {x : Int64} (l' : Array Slot) (hd : decode B.bs pc = .ok (.lstore k, 2)) (hl : storeLocals Ls k (.long x) = some l') (r : Go l Z a0 EL n0 kn B D Q h σ ce sl (pc + 2) l' st)  : Go l Z a0 EL n0 kn B D Q h σ ce sl pc Ls (.long x :: st) :=
  Go.step (fun T hA hx hb t q => XT.lstore hA hx rfl (Jvm.hb hb hd) rfl hl q) r
theorem lstoreN (pc : Nat) {k : Fin 4} {x : Int64} (l' : Array Slot) (hd : decode B.bs pc = .ok (.lstore_n k, 1)) (hl : storeLocals Ls k.val (.long x) = some l') (r : Go l Z a0 EL n0 kn B D Q h σ ce sl (pc + 1) l' st)  : Go l Z a0 EL n0 kn B D Q h σ ce sl pc Ls (.long x :: st) :=
  Go.step (fun T hA hx hb t q => XT.lstoreN hA hx rfl (Jvm.hb hb hd) rfl hl q) r
theorem astore (pc : Nat) {k : Nat} {v : Value} (l' : Array Slot) (hd : decode B.bs pc = .ok (.astore k, 2)) (hl : storeLocals Ls k v = some l')  (r : Go l Z a0 EL n0 kn B D Q h σ ce sl (pc + 2) l' st) (hv : v.isRef = true := by rfl) : Go l Z a0 EL n0 kn B D Q h σ ce sl pc Ls (v :: st) :=
  Go.step (fun T hA hx hb t q => XS.astore hA hx rfl (Jvm.hb hb hd) rfl hv hl q) r
theorem astoreN (pc : Nat) {k : Fin 4} {v : Value} (l' : Array Slot) (hd : decode B.bs pc = .ok (.astore_n k, 1)) (hl : storeLocals Ls k.val v = some l')  (r : Go l Z a0 EL n0 kn B D Q h σ ce sl (pc + 1) l' st) (hv : v.isRef = true := by rfl) : Go l Z a0 EL n0 kn B D Q h σ ce sl pc Ls (v :: st) :=
  Go.step (fun T hA hx hb t q => XS.astoreN hA hx rfl (Jvm.hb hb hd) rfl hv hl q) r
theorem iinc (pc : Nat) {k : Nat} {c : Int} {x : Int32} (v : Int32) (l' : Array Slot) (hd : decode B.bs pc = .ok (.iinc k c, 3)) (hv : Int32.ofInt c = v) (hl : Ls[k]? = some (.val (.int x))) (hl' : storeLocals Ls k (.int (x + v)) = some l') (r : Go l Z a0 EL n0 kn B D Q h σ ce sl (pc + 3) l' st)  : Go l Z a0 EL n0 kn B D Q h σ ce sl pc Ls st :=
  Go.step (fun T hA hx hb t q => XT.iincV hA hx rfl v (Jvm.hb hb hd) hv hl hl' q) r
theorem goto (pc : Nat) (tgt : Nat) {o : Int} (hd : decode B.bs pc = .ok (.goto o, 3)) (ht : (pc : Int) + o = (tgt : Int)) (r : Go l Z a0 EL n0 kn B D Q h σ ce sl tgt Ls st) : Go l Z a0 EL n0 kn B D Q h σ ce sl pc Ls st :=
  Go.step (fun T hA hx hb t q => XS.goto hA hx rfl (pc0 := pc) (pc' := tgt) rfl (Jvm.hb hb hd) (by rw [ht]; exact Int.natCast_nonneg _) (by rw [ht]; rfl) q) r
theorem icmp_eq (pc : Nat) (tgt : Nat) {o : Int} {x y : Int32} (hd : decode B.bs pc = .ok (.if_icmp .eq o, 3)) (ht : (pc : Int) + o = (tgt : Int)) (yes : x = y → Go l Z a0 EL n0 kn B D Q h σ ce sl tgt Ls st) (no : ¬ (x = y) → Go l Z a0 EL n0 kn B D Q h σ ce sl (pc + 3) Ls st) : Go l Z a0 EL n0 kn B D Q h σ ce sl pc Ls (.int y :: .int x :: st) := by
  by_cases c : x = y
  · exact Go.step (fun T hA hx hb t q => XS.icmpYes hA hx rfl (pc0 := pc) (pc' := tgt) rfl (Jvm.hb hb hd) rfl (XT.ii_eq_t c) (by rw [ht]; exact Int.natCast_nonneg _) (by rw [ht]; rfl) q) (yes c)
  · exact Go.step (fun T hA hx hb t q => XS.icmpNo hA hx rfl (Jvm.hb hb hd) rfl (XT.ii_eq_f c) q) (no c)
theorem icmp_ne (pc : Nat) (tgt : Nat) {o : Int} {x y : Int32} (hd : decode B.bs pc = .ok (.if_icmp .ne o, 3)) (ht : (pc : Int) + o = (tgt : Int)) (yes : ¬ (x = y) → Go l Z a0 EL n0 kn B D Q h σ ce sl tgt Ls st) (no : x = y → Go l Z a0 EL n0 kn B D Q h σ ce sl (pc + 3) Ls st) : Go l Z a0 EL n0 kn B D Q h σ ce sl pc Ls (.int y :: .int x :: st) := by
  by_cases c : x = y
  · exact Go.step (fun T hA hx hb t q => XS.icmpNo hA hx rfl (Jvm.hb hb hd) rfl (XT.ii_ne_f c) q) (no c)
  · exact Go.step (fun T hA hx hb t q => XS.icmpYes hA hx rfl (pc0 := pc) (pc' := tgt) rfl (Jvm.hb hb hd) rfl (XT.ii_ne_t c) (by rw [ht]; exact Int.natCast_nonneg _) (by rw [ht]; rfl) q) (yes c)
theorem icmp_lt (pc : Nat) (tgt : Nat) {o : Int} {x y : Int32} (hd : decode B.bs pc = .ok (.if_icmp .lt o, 3)) (ht : (pc : Int) + o = (tgt : Int)) (yes : x < y → Go l Z a0 EL n0 kn B D Q h σ ce sl tgt Ls st) (no : ¬ (x < y) → Go l Z a0 EL n0 kn B D Q h σ ce sl (pc + 3) Ls st) : Go l Z a0 EL n0 kn B D Q h σ ce sl pc Ls (.int y :: .int x :: st) := by
  by_cases c : x < y
  · exact Go.step (fun T hA hx hb t q => XS.icmpYes hA hx rfl (pc0 := pc) (pc' := tgt) rfl (Jvm.hb hb hd) rfl (XT.ii_lt_t c) (by rw [ht]; exact Int.natCast_nonneg _) (by rw [ht]; rfl) q) (yes c)
  · exact Go.step (fun T hA hx hb t q => XS.icmpNo hA hx rfl (Jvm.hb hb hd) rfl (XT.ii_lt_f c) q) (no c)
theorem icmp_ge (pc : Nat) (tgt : Nat) {o : Int} {x y : Int32} (hd : decode B.bs pc = .ok (.if_icmp .ge o, 3)) (ht : (pc : Int) + o = (tgt : Int)) (yes : ¬ (x < y) → Go l Z a0 EL n0 kn B D Q h σ ce sl tgt Ls st) (no : x < y → Go l Z a0 EL n0 kn B D Q h σ ce sl (pc + 3) Ls st) : Go l Z a0 EL n0 kn B D Q h σ ce sl pc Ls (.int y :: .int x :: st) := by
  by_cases c : x < y
  · exact Go.step (fun T hA hx hb t q => XS.icmpNo hA hx rfl (Jvm.hb hb hd) rfl (XT.ii_ge_f c) q) (no c)
  · exact Go.step (fun T hA hx hb t q => XS.icmpYes hA hx rfl (pc0 := pc) (pc' := tgt) rfl (Jvm.hb hb hd) rfl (XT.ii_ge_t c) (by rw [ht]; exact Int.natCast_nonneg _) (by rw [ht]; rfl) q) (yes c)
theorem icmp_gt (pc : Nat) (tgt : Nat) {o : Int} {x y : Int32} (hd : decode B.bs pc = .ok (.if_icmp .gt o, 3)) (ht : (pc : Int) + o = (tgt : Int)) (yes : y < x → Go l Z a0 EL n0 kn B D Q h σ ce sl tgt Ls st) (no : ¬ (y < x) → Go l Z a0 EL n0 kn B D Q h σ ce sl (pc + 3) Ls st) : Go l Z a0 EL n0 kn B D Q h σ ce sl pc Ls (.int y :: .int x :: st) := by
  by_cases c : y < x
  · exact Go.step (fun T hA hx hb t q => XS.icmpYes hA hx rfl (pc0 := pc) (pc' := tgt) rfl (Jvm.hb hb hd) rfl (XT.ii_gt_t c) (by rw [ht]; exact Int.natCast_nonneg _) (by rw [ht]; rfl) q) (yes c)
  · exact Go.step (fun T hA hx hb t q => XS.icmpNo hA hx rfl (Jvm.hb hb hd) rfl (XT.ii_gt_f c) q) (no c)
theorem icmp_le (pc : Nat) (tgt : Nat) {o : Int} {x y : Int32} (hd : decode B.bs pc = .ok (.if_icmp .le o, 3)) (ht : (pc : Int) + o = (tgt : Int)) (yes : ¬ (y < x) → Go l Z a0 EL n0 kn B D Q h σ ce sl tgt Ls st) (no : y < x → Go l Z a0 EL n0 kn B D Q h σ ce sl (pc + 3) Ls st) : Go l Z a0 EL n0 kn B D Q h σ ce sl pc Ls (.int y :: .int x :: st) := by
  by_cases c : y < x
  · exact Go.step (fun T hA hx hb t q => XS.icmpNo hA hx rfl (Jvm.hb hb hd) rfl (XT.ii_le_f c) q) (no c)
  · exact Go.step (fun T hA hx hb t q => XS.icmpYes hA hx rfl (pc0 := pc) (pc' := tgt) rfl (Jvm.hb hb hd) rfl (XT.ii_le_t c) (by rw [ht]; exact Int.natCast_nonneg _) (by rw [ht]; rfl) q) (yes c)
theorem if_eq (pc : Nat) (tgt : Nat) {o : Int} {x : Int32} (hd : decode B.bs pc = .ok (.ifCond .eq o, 3)) (ht : (pc : Int) + o = (tgt : Int)) (yes : x = 0 → Go l Z a0 EL n0 kn B D Q h σ ce sl tgt Ls st) (no : ¬ (x = 0) → Go l Z a0 EL n0 kn B D Q h σ ce sl (pc + 3) Ls st) : Go l Z a0 EL n0 kn B D Q h σ ce sl pc Ls (.int x :: st) := by
  by_cases c : x = 0
  · exact Go.step (fun T hA hx hb t q => XS.ifYes hA hx rfl (pc0 := pc) (pc' := tgt) rfl (Jvm.hb hb hd) rfl (XT.i0_eq_t c) (by rw [ht]; exact Int.natCast_nonneg _) (by rw [ht]; rfl) q) (yes c)
  · exact Go.step (fun T hA hx hb t q => XS.ifNo hA hx rfl (Jvm.hb hb hd) rfl (XT.i0_eq_f c) q) (no c)
theorem if_ne (pc : Nat) (tgt : Nat) {o : Int} {x : Int32} (hd : decode B.bs pc = .ok (.ifCond .ne o, 3)) (ht : (pc : Int) + o = (tgt : Int)) (yes : ¬ (x = 0) → Go l Z a0 EL n0 kn B D Q h σ ce sl tgt Ls st) (no : x = 0 → Go l Z a0 EL n0 kn B D Q h σ ce sl (pc + 3) Ls st) : Go l Z a0 EL n0 kn B D Q h σ ce sl pc Ls (.int x :: st) := by
  by_cases c : x = 0
  · exact Go.step (fun T hA hx hb t q => XS.ifNo hA hx rfl (Jvm.hb hb hd) rfl (XT.i0_ne_f c) q) (no c)
  · exact Go.step (fun T hA hx hb t q => XS.ifYes hA hx rfl (pc0 := pc) (pc' := tgt) rfl (Jvm.hb hb hd) rfl (XT.i0_ne_t c) (by rw [ht]; exact Int.natCast_nonneg _) (by rw [ht]; rfl) q) (yes c)
theorem if_lt (pc : Nat) (tgt : Nat) {o : Int} {x : Int32} (hd : decode B.bs pc = .ok (.ifCond .lt o, 3)) (ht : (pc : Int) + o = (tgt : Int)) (yes : x < 0 → Go l Z a0 EL n0 kn B D Q h σ ce sl tgt Ls st) (no : ¬ (x < 0) → Go l Z a0 EL n0 kn B D Q h σ ce sl (pc + 3) Ls st) : Go l Z a0 EL n0 kn B D Q h σ ce sl pc Ls (.int x :: st) := by
  by_cases c : x < 0
  · exact Go.step (fun T hA hx hb t q => XS.ifYes hA hx rfl (pc0 := pc) (pc' := tgt) rfl (Jvm.hb hb hd) rfl (XT.i0_lt_t c) (by rw [ht]; exact Int.natCast_nonneg _) (by rw [ht]; rfl) q) (yes c)
  · exact Go.step (fun T hA hx hb t q => XS.ifNo hA hx rfl (Jvm.hb hb hd) rfl (XT.i0_lt_f c) q) (no c)
theorem if_ge (pc : Nat) (tgt : Nat) {o : Int} {x : Int32} (hd : decode B.bs pc = .ok (.ifCond .ge o, 3)) (ht : (pc : Int) + o = (tgt : Int)) (yes : ¬ (x < 0) → Go l Z a0 EL n0 kn B D Q h σ ce sl tgt Ls st) (no : x < 0 → Go l Z a0 EL n0 kn B D Q h σ ce sl (pc + 3) Ls st) : Go l Z a0 EL n0 kn B D Q h σ ce sl pc Ls (.int x :: st) := by
  by_cases c : x < 0
  · exact Go.step (fun T hA hx hb t q => XS.ifNo hA hx rfl (Jvm.hb hb hd) rfl (XT.i0_ge_f c) q) (no c)
  · exact Go.step (fun T hA hx hb t q => XS.ifYes hA hx rfl (pc0 := pc) (pc' := tgt) rfl (Jvm.hb hb hd) rfl (XT.i0_ge_t c) (by rw [ht]; exact Int.natCast_nonneg _) (by rw [ht]; rfl) q) (yes c)
theorem if_gt (pc : Nat) (tgt : Nat) {o : Int} {x : Int32} (hd : decode B.bs pc = .ok (.ifCond .gt o, 3)) (ht : (pc : Int) + o = (tgt : Int)) (yes : 0 < x → Go l Z a0 EL n0 kn B D Q h σ ce sl tgt Ls st) (no : ¬ (0 < x) → Go l Z a0 EL n0 kn B D Q h σ ce sl (pc + 3) Ls st) : Go l Z a0 EL n0 kn B D Q h σ ce sl pc Ls (.int x :: st) := by
  by_cases c : 0 < x
  · exact Go.step (fun T hA hx hb t q => XS.ifYes hA hx rfl (pc0 := pc) (pc' := tgt) rfl (Jvm.hb hb hd) rfl (XT.i0_gt_t c) (by rw [ht]; exact Int.natCast_nonneg _) (by rw [ht]; rfl) q) (yes c)
  · exact Go.step (fun T hA hx hb t q => XS.ifNo hA hx rfl (Jvm.hb hb hd) rfl (XT.i0_gt_f c) q) (no c)
theorem if_le (pc : Nat) (tgt : Nat) {o : Int} {x : Int32} (hd : decode B.bs pc = .ok (.ifCond .le o, 3)) (ht : (pc : Int) + o = (tgt : Int)) (yes : ¬ (0 < x) → Go l Z a0 EL n0 kn B D Q h σ ce sl tgt Ls st) (no : 0 < x → Go l Z a0 EL n0 kn B D Q h σ ce sl (pc + 3) Ls st) : Go l Z a0 EL n0 kn B D Q h σ ce sl pc Ls (.int x :: st) := by
  by_cases c : 0 < x
  · exact Go.step (fun T hA hx hb t q => XS.ifNo hA hx rfl (Jvm.hb hb hd) rfl (XT.i0_le_f c) q) (no c)
  · exact Go.step (fun T hA hx hb t q => XS.ifYes hA hx rfl (pc0 := pc) (pc' := tgt) rfl (Jvm.hb hb hd) rfl (XT.i0_le_t c) (by rw [ht]; exact Int.natCast_nonneg _) (by rw [ht]; rfl) q) (yes c)
theorem ifl_eq (pc : Nat) (tgt : Nat) {o : Int} {x y : Int64} (hd : decode B.bs pc = .ok (.ifCond .eq o, 3)) (ht : (pc : Int) + o = (tgt : Int)) (yes : x = y → Go l Z a0 EL n0 kn B D Q h σ ce sl tgt Ls st) (no : ¬ (x = y) → Go l Z a0 EL n0 kn B D Q h σ ce sl (pc + 3) Ls st) : Go l Z a0 EL n0 kn B D Q h σ ce sl pc Ls (.int (XT.cmpL x y) :: st) := by
  by_cases c : x = y
  · exact Go.step (fun T hA hx hb t q => XS.ifYes hA hx rfl (pc0 := pc) (pc' := tgt) rfl (Jvm.hb hb hd) rfl (XT.ll_eq_t c) (by rw [ht]; exact Int.natCast_nonneg _) (by rw [ht]; rfl) q) (yes c)
  · exact Go.step (fun T hA hx hb t q => XS.ifNo hA hx rfl (Jvm.hb hb hd) rfl (XT.ll_eq_f c) q) (no c)
theorem ifl_ne (pc : Nat) (tgt : Nat) {o : Int} {x y : Int64} (hd : decode B.bs pc = .ok (.ifCond .ne o, 3)) (ht : (pc : Int) + o = (tgt : Int)) (yes : ¬ (x = y) → Go l Z a0 EL n0 kn B D Q h σ ce sl tgt Ls st) (no : x = y → Go l Z a0 EL n0 kn B D Q h σ ce sl (pc + 3) Ls st) : Go l Z a0 EL n0 kn B D Q h σ ce sl pc Ls (.int (XT.cmpL x y) :: st) := by
  by_cases c : x = y
  · exact Go.step (fun T hA hx hb t q => XS.ifNo hA hx rfl (Jvm.hb hb hd) rfl (XT.ll_ne_f c) q) (no c)
  · exact Go.step (fun T hA hx hb t q => XS.ifYes hA hx rfl (pc0 := pc) (pc' := tgt) rfl (Jvm.hb hb hd) rfl (XT.ll_ne_t c) (by rw [ht]; exact Int.natCast_nonneg _) (by rw [ht]; rfl) q) (yes c)
theorem ifl_lt (pc : Nat) (tgt : Nat) {o : Int} {x y : Int64} (hd : decode B.bs pc = .ok (.ifCond .lt o, 3)) (ht : (pc : Int) + o = (tgt : Int)) (yes : x < y → Go l Z a0 EL n0 kn B D Q h σ ce sl tgt Ls st) (no : ¬ (x < y) → Go l Z a0 EL n0 kn B D Q h σ ce sl (pc + 3) Ls st) : Go l Z a0 EL n0 kn B D Q h σ ce sl pc Ls (.int (XT.cmpL x y) :: st) := by
  by_cases c : x < y
  · exact Go.step (fun T hA hx hb t q => XS.ifYes hA hx rfl (pc0 := pc) (pc' := tgt) rfl (Jvm.hb hb hd) rfl (XT.ll_lt_t c) (by rw [ht]; exact Int.natCast_nonneg _) (by rw [ht]; rfl) q) (yes c)
  · exact Go.step (fun T hA hx hb t q => XS.ifNo hA hx rfl (Jvm.hb hb hd) rfl (XT.ll_lt_f c) q) (no c)
theorem ifl_ge (pc : Nat) (tgt : Nat) {o : Int} {x y : Int64} (hd : decode B.bs pc = .ok (.ifCond .ge o, 3)) (ht : (pc : Int) + o = (tgt : Int)) (yes : ¬ (x < y) → Go l Z a0 EL n0 kn B D Q h σ ce sl tgt Ls st) (no : x < y → Go l Z a0 EL n0 kn B D Q h σ ce sl (pc + 3) Ls st) : Go l Z a0 EL n0 kn B D Q h σ ce sl pc Ls (.int (XT.cmpL x y) :: st) := by
  by_cases c : x < y
  · exact Go.step (fun T hA hx hb t q => XS.ifNo hA hx rfl (Jvm.hb hb hd) rfl (XT.ll_ge_f c) q) (no c)
  · exact Go.step (fun T hA hx hb t q => XS.ifYes hA hx rfl (pc0 := pc) (pc' := tgt) rfl (Jvm.hb hb hd) rfl (XT.ll_ge_t c) (by rw [ht]; exact Int.natCast_nonneg _) (by rw [ht]; rfl) q) (yes c)
theorem ifl_gt (pc : Nat) (tgt : Nat) {o : Int} {x y : Int64} (hd : decode B.bs pc = .ok (.ifCond .gt o, 3)) (ht : (pc : Int) + o = (tgt : Int)) (yes : y < x → Go l Z a0 EL n0 kn B D Q h σ ce sl tgt Ls st) (no : ¬ (y < x) → Go l Z a0 EL n0 kn B D Q h σ ce sl (pc + 3) Ls st) : Go l Z a0 EL n0 kn B D Q h σ ce sl pc Ls (.int (XT.cmpL x y) :: st) := by
  by_cases c : y < x
  · exact Go.step (fun T hA hx hb t q => XS.ifYes hA hx rfl (pc0 := pc) (pc' := tgt) rfl (Jvm.hb hb hd) rfl (XT.ll_gt_t c) (by rw [ht]; exact Int.natCast_nonneg _) (by rw [ht]; rfl) q) (yes c)
  · exact Go.step (fun T hA hx hb t q => XS.ifNo hA hx rfl (Jvm.hb hb hd) rfl (XT.ll_gt_f c) q) (no c)
theorem ifl_le (pc : Nat) (tgt : Nat) {o : Int} {x y : Int64} (hd : decode B.bs pc = .ok (.ifCond .le o, 3)) (ht : (pc : Int) + o = (tgt : Int)) (yes : ¬ (y < x) → Go l Z a0 EL n0 kn B D Q h σ ce sl tgt Ls st) (no : y < x → Go l Z a0 EL n0 kn B D Q h σ ce sl (pc + 3) Ls st) : Go l Z a0 EL n0 kn B D Q h σ ce sl pc Ls (.int (XT.cmpL x y) :: st) := by
  by_cases c : y < x
  · exact Go.step (fun T hA hx hb t q => XS.ifNo hA hx rfl (Jvm.hb hb hd) rfl (XT.ll_le_f c) q) (no c)
  · exact Go.step (fun T hA hx hb t q => XS.ifYes hA hx rfl (pc0 := pc) (pc' := tgt) rfl (Jvm.hb hb hd) rfl (XT.ll_le_t c) (by rw [ht]; exact Int.natCast_nonneg _) (by rw [ht]; rfl) q) (yes c)
theorem ifnull (pc : Nat) (tgt : Nat) {o : Int} {v : Value} (hr : v.isRef = true) (hd : decode B.bs pc = .ok (.ifnull o, 3)) (ht : (pc : Int) + o = (tgt : Int)) (yes : v = .null → Go l Z a0 EL n0 kn B D Q h σ ce sl tgt Ls st) (no : ¬ (v = .null) → Go l Z a0 EL n0 kn B D Q h σ ce sl (pc + 3) Ls st) : Go l Z a0 EL n0 kn B D Q h σ ce sl pc Ls (v :: st) := by
  by_cases c : v = .null
  · exact Go.step (fun T hA hx hb t q => XT.nullYes hA hx rfl (pc0 := pc) (pc' := tgt) rfl (Jvm.hb hb hd) rfl c (by rw [ht]; exact Int.natCast_nonneg _) (by rw [ht]; rfl) q) (yes c)
  · exact Go.step (fun T hA hx hb t q => XT.nullNo hA hx rfl (Jvm.hb hb hd) rfl hr c q) (no c)
theorem ifnonnull (pc : Nat) (tgt : Nat) {o : Int} {v : Value} (hr : v.isRef = true) (hd : decode B.bs pc = .ok (.ifnonnull o, 3)) (ht : (pc : Int) + o = (tgt : Int)) (yes : ¬ (v = .null) → Go l Z a0 EL n0 kn B D Q h σ ce sl tgt Ls st) (no : v = .null → Go l Z a0 EL n0 kn B D Q h σ ce sl (pc + 3) Ls st) : Go l Z a0 EL n0 kn B D Q h σ ce sl pc Ls (v :: st) := by
  by_cases c : v = .null
  · exact Go.step (fun T hA hx hb t q => XT.nonnullNo hA hx rfl (Jvm.hb hb hd) rfl c q) (no c)
  · exact Go.step (fun T hA hx hb t q => XT.nonnullYes hA hx rfl (pc0 := pc) (pc' := tgt) rfl (Jvm.hb hb hd) rfl hr c (by rw [ht]; exact Int.natCast_nonneg _) (by rw [ht]; rfl) q) (yes c)
theorem acmp_eq (pc : Nat) (tgt : Nat) {o : Int} {v w : Value} (hv : v.isRef = true) (hw : w.isRef = true) (hd : decode B.bs pc = .ok (.if_acmp .eq o, 3)) (ht : (pc : Int) + o = (tgt : Int)) (yes : v = w → Go l Z a0 EL n0 kn B D Q h σ ce sl tgt Ls st) (no : ¬ (v = w) → Go l Z a0 EL n0 kn B D Q h σ ce sl (pc + 3) Ls st) : Go l Z a0 EL n0 kn B D Q h σ ce sl pc Ls (w :: v :: st) := by
  by_cases c : v = w
  · exact Go.step (fun T hA hx hb t q => XT.acmpYes hA hx rfl (pc0 := pc) (pc' := tgt) rfl (Jvm.hb hb hd) rfl hv hw (XT.aa_eq_t c) (by rw [ht]; exact Int.natCast_nonneg _) (by rw [ht]; rfl) q) (yes c)
  · exact Go.step (fun T hA hx hb t q => XT.acmpNo hA hx rfl (Jvm.hb hb hd) rfl hv hw (XT.aa_eq_f c) q) (no c)
theorem acmp_ne (pc : Nat) (tgt : Nat) {o : Int} {v w : Value} (hv : v.isRef = true) (hw : w.isRef = true) (hd : decode B.bs pc = .ok (.if_acmp .ne o, 3)) (ht : (pc : Int) + o = (tgt : Int)) (yes : ¬ (v = w) → Go l Z a0 EL n0 kn B D Q h σ ce sl tgt Ls st) (no : v = w → Go l Z a0 EL n0 kn B D Q h σ ce sl (pc + 3) Ls st) : Go l Z a0 EL n0 kn B D Q h σ ce sl pc Ls (w :: v :: st) := by
  by_cases c : v = w
  · exact Go.step (fun T hA hx hb t q => XT.acmpNo hA hx rfl (Jvm.hb hb hd) rfl hv hw (XT.aa_ne_f c) q) (no c)
  · exact Go.step (fun T hA hx hb t q => XT.acmpYes hA hx rfl (pc0 := pc) (pc' := tgt) rfl (Jvm.hb hb hd) rfl hv hw (XT.aa_ne_t c) (by rw [ht]; exact Int.natCast_nonneg _) (by rw [ht]; rfl) q) (yes c)
end Plain
end Jvm.Road
namespace Jvm.Road
open Jvm Jvm.ClassFile Sem Op Lib Jvm.Free Jvm.Stand Jvm.LawKit Jvm.RoadKit Bundle
section Facts
variable {Z : State} {h h' : Heap} {a b : Addr} {ty : FieldType} {vs : List Value} {ws : List Addr}
/-- the array at a holds just these values -/
def Ary (Z : State) (h : Heap) (a : Addr) (ty : FieldType) (vs : List Value) : Prop := ∃ c : Cell, Arr Z h a c ty ∧ c.slots.toList = vs ∧ vs.length < 2147483648 ∧ ∀ v ∈ vs, fits ty v = true
theorem Ary.keep (F : Ary Z h a ty vs) (K : Keep h h' ws) (q : a ∉ ws) : Ary Z h' a ty vs := by
  obtain ⟨c, A, r⟩ := F; exact ⟨c, ⟨K.2.1 a c A.1 q, A.2⟩, r⟩
theorem Ary.lt (F : Ary Z h a ty vs) : a < h.size := by obtain ⟨c, A, -⟩ := F; exact A.lt
theorem Ary.small (F : Ary Z h a ty vs) : vs.length < 2147483648 := by obtain ⟨c, A, -, q, -⟩ := F; exact q
theorem Ary.fit (F : Ary Z h a ty vs) : ∀ v ∈ vs, fits ty v = true := by obtain ⟨c, A, -, -, q⟩ := F; exact q
theorem Ary.wr {i : Nat} {v : Value} (F : Ary Z h a ty vs) (W : Wr h h' a i v) (hv : fits ty v = true) : Ary Z h' a ty (vs.set i v) := by
  obtain ⟨c, A, e, q, f⟩ := F
  refine ⟨_, Arr.same W A, ?_, by rw [List.length_set]; exact q, fun u hu => ?_⟩
  · show (c.slots.setIfInBounds i v).toList = _
    rw [Array.toList_setIfInBounds, e]
  · rcases List.mem_or_eq_of_mem_set hu with r | r
    · exact f u r
    · exact r ▸ hv
theorem ix_of {j : Int32} {i : Nat} (hj : j.toInt = (i : Int)) : ¬ j < 0 ∧ j.toNatClampNeg = i := by
  refine ⟨?_, ?_⟩
  · simp only [Int32.lt_iff_toInt_lt, hj, Int32.reduceToInt]; omega
  · simp only [Int32.toNatClampNeg, hj]; omega
theorem Ary.inb {c : Cell} {j : Int32} {i : Nat} (e : c.slots.toList = vs) (hj : j.toInt = (i : Int)) (hi : i < vs.length) : ¬ (j < 0 ∨ c.slots.size ≤ j.toNatClampNeg) := by
  obtain ⟨q1, q2⟩ := ix_of hj
  rw [q2, ← Array.length_toList, e]
  intro q; rcases q with q | q
  · exact q1 q
  · omega
theorem Ary.of_arv {k : ClassId} {z : Int32} {d : Value} (F : Arv Z h a k ty z vs d) (hz : z.toNatClampNeg = vs.length) : Ary Z h a ty vs := by
  obtain ⟨c, A, -, S, hn, H, G⟩ := F
  have hsz : c.slots.size = vs.length := S.trans hz
  have e : c.slots.toList = vs := by
    apply List.ext_getElem?
    intro i
    by_cases hi : i < vs.length
    · have := H i (by rw [hsz]; exact hi)
      rw [Array.getElem?_toList, this, List.getD_eq_getElem?_getD, List.getElem?_eq_getElem hi]; rfl
    · rw [List.getElem?_eq_none (Nat.le_of_not_lt hi), List.getElem?_eq_none (by rw [Array.length_toList, hsz]; exact Nat.le_of_not_lt hi)]
  refine ⟨c, A, e, by have := Int32.toInt_lt z; simp only [Int32.toNatClampNeg] at hz; omega, fun v hv => ?_⟩
  obtain ⟨i, hi, rfl⟩ := List.getElem_of_mem hv
  have := G i (by rw [hsz]; exact hi)
  rwa [List.getD_eq_getElem?_getD, List.getElem?_eq_getElem hi] at this
def byt (c : Int32) : Value := .int c.toInt8.toInt32
abbrev SN : String := "java/lang/String"
/-- the object at a is a compact String of these chars, its bytes at b -/
def Str (Z : State) (h : Heap) (a b : Addr) (cs : List Int32) : Prop := Exa Z h a SN ∧ Fld Z h a SN "coder" "B" (.int 0) ∧ Fld Z h a SN "value" "[B" (.ref b) ∧ Ary Z h b .byte (cs.map byt) ∧ ∀ c ∈ cs, 0 ≤ c.toInt ∧ c.toInt < 256
theorem Str.keep {cs : List Int32} (F : Str Z h a b cs) (K : Keep h h' ws) (q : a ∉ ws) (q' : b ∉ ws) : Str Z h' a b cs := ⟨F.1.keep K, F.2.1.keep K q, F.2.2.1.keep K q, F.2.2.2.1.keep K q', F.2.2.2.2⟩
theorem Str.lt {cs : List Int32} (F : Str Z h a b cs) : a < h.size := F.1.lt
theorem Str.ltb {cs : List Int32} (F : Str Z h a b cs) : b < h.size := F.2.2.2.1.lt
theorem keep_ext (E : Ext h h') : Keep h h' [] := (Keep.refl h []).ext E
end Facts
section Heap
variable {l : Launch} {Z : State} {a0 : Array Value} {EL : List (String × Nat)} {n0 : Nat} {kn : Bool} {B : Bdy} {D : Dyn} {Q : Post} {h : Heap} {σ : Addr → Prop} {ce sl : Nat} {Ls : Array Slot} {st : List Value} {a : Addr}
theorem getfield (pc : Nat) {ix : Nat} {R0 O n d : String} {v : Value} (hd : decode B.bs pc = .ok (.getfield ix, 3)) (w : (Jvm.Cond.fieldLink B.y.cls ix R0 n d).before a0 Z = true) (via : Via Z R0 O n d) (F : Fld Z h a O n d v)
    (r : Go l Z a0 EL n0 kn B D Q h σ ce sl (pc + 3) Ls (v :: st)) : Go l Z a0 EL n0 kn B D Q h σ ce sl pc Ls (.ref a :: st) := by
  intro ok ew T vm0 I
  obtain ⟨k0, locs, X, h1, h2, h3, h4, h5, h6, h7, h8, h9, h10⟩ := I
  obtain ⟨T', X', e', s'⟩ := getF X ok.1 (s := D.s.setVm vm0) h4 h5 (host := "") (Or.inl w) via h1 F (g := mkF D.m pc Ls (.ref a :: st)) rfl rfl (Jvm.hb ok.2.1 hd)
  obtain ⟨s2, o, q, rest⟩ := r ok ew T' vm0 ⟨k0, locs, X', e', h2, h3, h4, h5, h6, h7, h8, h9, h10⟩
  exact ⟨s2, o, s' _ q, rest⟩
theorem own_wr {vm0 : Vm} {h' : Heap} {i : Nat} {v : Value} (W : Wr h h' a i v) (hC : CHv Z EL vm0 h) (ha : Own Z EL n0 vm0 h a) {x : Addr} (hx : Own Z EL n0 vm0 h x) : Own Z EL n0 vm0 h' x :=
  ⟨Safe.wr W ha.1 hC hx.1, hx.2.1, by rw [W.size]; exact hx.2.2⟩
/-- behind a write of one place -/
theorem wrote {pc pc' : Nat} {Ls' : Array Slot} {st' : List Value} {i : Nat} {v : Value} (hσ : σ a)
    (s : ∀ T vm0 locs, Stand D.p l D.e B.rm (D.s.setVm vm0) D.m D.args D.bl D.meth D.c T locs ce sl → T.heap = h → Z.Warmed39 vm0 → vm0.findClass B.y.cls = some D.m.cls → Ok B D →
      ∃ T' h', Stand D.p l D.e B.rm (D.s.setVm vm0) D.m D.args D.bl D.meth D.c T' (locs ++ [⟨a, i⟩]) ce sl ∧ T'.heap = h' ∧ Wr h h' a i v ∧ ∀ target, Steps D.p.tables D.e D.bl (T'.setTop (mkF D.m pc' Ls' st')) target → Steps D.p.tables D.e D.bl (T.setTop (mkF D.m pc Ls st)) target)
    (r : ∀ h', Wr h h' a i v → Keep h h' [a] → Go l Z a0 EL n0 kn B D Q h' σ ce sl pc' Ls' st') : Go l Z a0 EL n0 kn B D Q h σ ce sl pc Ls st := by
  intro ok ew T vm0 I
  obtain ⟨k0, locs, X, h1, h2, h3, h4, h5, h6, h7, h8, h9, h10⟩ := I
  obtain ⟨T', h', X', e', W, s'⟩ := s T vm0 locs X h1 h4 h5 ok
  have ha := h9 a hσ
  obtain ⟨s2, o, q, rest⟩ := r h' W (Keep.of_wr W) ok ew T' vm0 ⟨k0, _, X', e', h2, by rw [W.size]; exact h3, h4, h5, h6.trans (CHr.wr W ha.1 h6.1), h7.app fun y hy => by cases List.mem_singleton.mp hy; exact ha.2.1, h8.wr W ha.2.1, fun x hx => own_wr W h6.1 ha (h9 x hx), h10⟩
  exact ⟨s2, o, s' _ q, rest⟩
theorem putfield (pc : Nat) {ix : Nat} {R0 O n d C : String} {kk : Nat} {ty : FieldType} {v old : Value} (hd : decode B.bs pc = .ok (.putfield ix, 3)) (w : (Jvm.Cond.fieldLink B.y.cls ix R0 n d).before a0 Z = true) (via : Via Z R0 O n d) (F : Fld Z h a O n d old) (E : Exa Z h a C)
    (L : (Jvm.Cond.lays C O n d).before a0 Z = true ∨ ((Jvm.Cond.laysFinal C O n d).before a0 Z = true ∧ B.y.cls = O ∧ B.y.name = "<init>")) (wi : (Jvm.Cond.instantiable C kk).before a0 Z = true) (hty : parseFieldDescriptor d = some ty) (hn : narrow ty v = v) (hf : fits ty v = true) (hσ : σ a)
    (r : ∀ h', Wr h h' a (RoadKit.slotOf Z O n d) v → Keep h h' [a] → Go l Z a0 EL n0 kn B D Q h' σ ce sl (pc + 3) Ls st) : Go l Z a0 EL n0 kn B D Q h σ ce sl pc Ls (v :: .ref a :: st) :=
  wrote hσ (fun T vm0 locs X h1 h4 h5 ok => putF X ok.1 (s := D.s.setVm vm0) h4 h5 (host := "") (Or.inl w) via h1 F E (L.imp id fun q => ⟨q.1, q.2.1, ok.2.2.2.2.2.trans q.2.2⟩) wi hty hn hf (g := mkF D.m pc Ls (v :: .ref a :: st)) rfl rfl (Jvm.hb ok.2.1 hd)) r
theorem getstatic (pc : Nat) {ix : Nat} {R0 O n d : String} {v : Value} (hd : decode B.bs pc = .ok (.getstatic ix, 3)) (w : (Jvm.Cond.fieldLink B.y.cls ix R0 n d).before a0 Z = true) (via : Via Z R0 O n d) (F : Sta Z Z.heap O n d v)
    (r : Go l Z a0 EL n0 kn B D Q h σ ce sl (pc + 3) Ls (v :: st)) : Go l Z a0 EL n0 kn B D Q h σ ce sl pc Ls st := by
  intro ok ew T vm0 I
  obtain ⟨k0, locs, X, h1, h2, h3, h4, h5, h6, h7, h8, h9, h10⟩ := I
  obtain ⟨T', X', e', s'⟩ := getS X ok.1 (s := D.s.setVm vm0) h4 h5 (host := "") w via h1 (F.ext h8.2) (g := mkF D.m pc Ls st) rfl (Jvm.hb ok.2.1 hd)
  obtain ⟨s2, o, q, rest⟩ := r ok ew T' vm0 ⟨k0, locs, X', e', h2, h3, h4, h5, h6, h7, h8, h9, h10⟩
  exact ⟨s2, o, s' _ q, rest⟩
theorem own_new {vm0 : Vm} {h' : Heap} (E : Ext h h') (hC : CHv Z EL vm0 h) (hO : Old Z n0 h) (hlt : h.size < h'.size) : Own Z EL n0 vm0 h' h.size :=
  ⟨(Safe.new (Nat.le_refl _)).ext E hC, hO.1 ▸ hO.2.1, hlt⟩
/-- behind the making of one cell -/
theorem made {pc pc' ce' sl' : Nat} {Ls' : Array Slot} {st' : List Value} {P : Heap → Prop}
    (s : ∀ T vm0 locs, Stand D.p l D.e B.rm (D.s.setVm vm0) D.m D.args D.bl D.meth D.c T locs ce sl → T.heap = h → Z.Warmed39 vm0 → vm0.findClass B.y.cls = some D.m.cls → Ok B D →
      ∃ T' h', Stand D.p l D.e B.rm (D.s.setVm vm0) D.m D.args D.bl D.meth D.c T' locs ce' sl' ∧ T'.heap = h' ∧ Ext h h' ∧ h.size < h'.size ∧ P h' ∧ ∀ target, Steps D.p.tables D.e D.bl (T'.setTop (mkF D.m pc' Ls' st')) target → Steps D.p.tables D.e D.bl (T.setTop (mkF D.m pc Ls st)) target)
    (r : ∀ h' σ', Keep h h' [] → h.size < h'.size → (∀ x, σ x → σ' x) → σ' h.size → P h' → Go l Z a0 EL n0 kn B D Q h' σ' ce' sl' pc' Ls' st') : Go l Z a0 EL n0 kn B D Q h σ ce sl pc Ls st := by
  intro ok ew T vm0 I
  obtain ⟨k0, locs, X, h1, h2, h3, h4, h5, h6, h7, h8, h9, h10⟩ := I
  obtain ⟨T', h', X', e', E, hlt, hP, s'⟩ := s T vm0 locs X h1 h4 h5 ok
  obtain ⟨s2, o, q, rest⟩ := r h' (Own Z EL n0 vm0 h') (keep_ext E) hlt (fun x hx => ⟨(h9 x hx).1.ext E h6.1, (h9 x hx).2.1, Nat.lt_of_lt_of_le (h9 x hx).2.2 E.1⟩) (own_new E h6.1 h8 hlt) hP ok ew T' vm0
    ⟨k0, locs, X', e', h2, Nat.le_trans h3 E.1, h4, h5, h6.trans (CHr.ext E h6.1), h7, h8.ext E, fun x hx => hx, h10⟩
  exact ⟨s2, o, s' _ q, rest⟩
theorem new (pc : Nat) {ix : Nat} (C : String) {n : Nat} (hd : decode B.bs pc = .ok (.new ix, 3)) (w : (Jvm.Cond.classLink B.y.cls ix C).before a0 Z = true) (wi : (Jvm.Cond.instantiable C n).before a0 Z = true) (wz : (Jvm.Cond.initialized C).before a0 Z = true) {ce' sl' : Nat} (hce : ce + 1 = ce') (hsl : sl + n = sl') (hc : ce' ≤ B.rm.cells) (hs : sl' ≤ B.rm.slots)
    (r : ∀ a h' σ', a = h.size → Keep h h' [] → a < h'.size → (∀ x, σ x → σ' x) → σ' a → Exa Z h' a C → (∀ {O nm d : String} {ty : FieldType}, Laid Z a0 C O nm d → parseFieldDescriptor d = some ty → Fld Z h' a O nm d (defaultValue ty)) → (∃ cell : Cell, h'[a]? = some cell ∧ cell.vm = .none ∧ cell.monitor = {}) →
      Go l Z a0 EL n0 kn B D Q h' σ' ce' sl' (pc + 3) Ls (.ref a :: st)) : Go l Z a0 EL n0 kn B D Q h σ ce sl pc Ls st := by
  subst hce hsl
  exact made (P := fun h' => Exa Z h' h.size C ∧ (∀ {O nm d : String} {ty : FieldType}, Laid Z a0 C O nm d → parseFieldDescriptor d = some ty → Fld Z h' h.size O nm d (defaultValue ty)) ∧ (∃ cell : Cell, h'[h.size]? = some cell ∧ cell.vm = .none ∧ cell.monitor = {}))
    (fun T vm0 locs X h1 h4 h5 ok => by
      obtain ⟨T', h', X', e', E, A, Dd, M, s'⟩ := newO X ok.1 (s := D.s.setVm vm0) h4 h5 w wi wz h1 (g := mkF D.m pc Ls st) rfl (Jvm.hb ok.2.1 hd) hc hs
      exact ⟨T', h', X', e', E, A.lt, ⟨A, Dd, M⟩, s'⟩)
    (fun h' σ' K hlt m1 m2 P => r h.size h' σ' rfl K hlt m1 m2 P.1 P.2.1 P.2.2)
theorem newarray (pc : Nat) {aty : ArrayType} (ty : FieldType) (n cap : Nat) {z : Int32} (hd : decode B.bs pc = .ok (.newarray aty, 2)) (hty : newarray.typeOf aty = ty) (w : (Jvm.Cond.arrayClass ty).before a0 Z = true) (hz : z.toInt = (n : Int)) (hcap : n ≤ cap) (hb : cap * 8 ≤ 536870912) {ce' sl' : Nat} (hce : ce + 1 = ce') (hsl : sl + cap = sl') (hc : ce' ≤ B.rm.cells) (hs : sl' ≤ B.rm.slots)
    (r : ∀ a h' σ', a = h.size → Keep h h' [] → a < h'.size → (∀ x, σ x → σ' x) → σ' a → Ary Z h' a ty (List.replicate n (defaultValue ty)) → Go l Z a0 EL n0 kn B D Q h' σ' ce' sl' (pc + 2) Ls (.ref a :: st)) : Go l Z a0 EL n0 kn B D Q h σ ce sl pc Ls (.int z :: st) := by
  subst hce hsl
  exact made (P := fun h' => Ary Z h' h.size ty (List.replicate n (defaultValue ty)))
    (fun T vm0 locs X h1 h4 h5 ok => by
      subst hty
      obtain ⟨q1, q2⟩ := ix_of hz
      obtain ⟨T', h', cA, X', e', E, A, s'⟩ := newP X ok.1 (s := D.s.setVm vm0) h4 w h1 (g := mkF D.m pc Ls (.int z :: st)) rfl (Jvm.hb ok.2.1 hd) rfl q1 (cap := cap) (by rw [q2]; exact hcap) hb hc hs
      refine ⟨T', h', X', e', E, A.lt, ⟨_, A, ?_, ?_, ?_⟩, s'⟩
      · show (Array.replicate z.toNatClampNeg (defaultValue (newarray.typeOf aty))).toList = _
        rw [q2, Array.toList_replicate]
      · rw [List.length_replicate]; omega
      · intro v hv
        rw [(List.mem_replicate.mp hv).2]
        cases aty <;> rfl)
    (fun h' σ' K hlt m1 m2 P => r h.size h' σ' rfl K hlt m1 m2 P)
theorem plainX {pc pc' : Nat} {Ls' : Array Slot} {st' : List Value}
    (k : ∀ T vm0 locs, Stand D.p l D.e B.rm (D.s.setVm vm0) D.m D.args D.bl D.meth D.c T locs ce sl → T.heap = h → Z.Warmed39 vm0 → vm0.findClass B.y.cls = some D.m.cls → Ok B D → ∀ t, Steps D.p.tables D.e D.bl (T.setTop (mkF D.m pc' Ls' st')) t → Steps D.p.tables D.e D.bl (T.setTop (mkF D.m pc Ls st)) t)
    (r : Go l Z a0 EL n0 kn B D Q h σ ce sl pc' Ls' st') : Go l Z a0 EL n0 kn B D Q h σ ce sl pc Ls st := by
  intro ok ew T vm0 I
  obtain ⟨s2, o, q, rest⟩ := r ok ew T vm0 I
  obtain ⟨k0, locs, X, h1, h2, h3, h4, h5, -⟩ := I
  exact ⟨s2, o, k T vm0 locs X h1 h4 h5 ok _ q, rest⟩
theorem alen (pc : Nat) {ty : FieldType} {vs : List Value} {n : Nat} (z : Int32) (hd : decode B.bs pc = .ok (.arraylength, 1)) (A : Ary Z h a ty vs) (hn : vs.length = n) (hz : n.toInt32 = z) (r : Go l Z a0 EL n0 kn B D Q h σ ce sl (pc + 1) Ls (.int z :: st)) : Go l Z a0 EL n0 kn B D Q h σ ce sl pc Ls (.ref a :: st) :=
  plainX (fun T vm0 locs X h1 h4 h5 ok t q => by
    obtain ⟨c, A, e, -⟩ := A
    refine X.arraylength ok.1 (by rw [h1]; exact A.1) (State.isArrayOf_alike (T := D.s.setVm vm0) h4.alike A.2.1) (g := mkF D.m pc Ls (.ref a :: st)) rfl rfl (Jvm.hb ok.2.1 hd) t ?_
    rw [← Array.length_toList, e, hn, hz]; exact q) r
theorem caload (pc : Nat) {vs : List Value} {j : Int32} (i : Nat) {v : Value} (hd : decode B.bs pc = .ok (.caload, 1)) (A : Ary Z h a .char vs) (hj : j.toInt = (i : Int)) (hv : vs[i]? = some v) (r : Go l Z a0 EL n0 kn B D Q h σ ce sl (pc + 1) Ls (v :: st)) : Go l Z a0 EL n0 kn B D Q h σ ce sl pc Ls (.int j :: .ref a :: st) :=
  plainX (fun T vm0 locs X h1 h4 h5 ok t q => by
    obtain ⟨c, A, e, -⟩ := A
    have hi : i < vs.length := (List.getElem?_eq_some_iff.mp hv).1
    exact X.caload ok.1 (by rw [h1]; exact A.1) (State.isArrayOf_alike (T := D.s.setVm vm0) h4.alike A.2.1) A.2.2 (Ary.inb e hj hi) (by rw [(ix_of hj).2, ← Array.getElem?_toList, e]; exact hv) (g := mkF D.m pc Ls (.int j :: .ref a :: st)) rfl rfl (Jvm.hb ok.2.1 hd) t q) r
theorem baload (pc : Nat) {vs : List Value} {j : Int32} (i : Nat) {v : Value} (hd : decode B.bs pc = .ok (.baload, 1)) (A : Ary Z h a .byte vs) (hj : j.toInt = (i : Int)) (hv : vs[i]? = some v) (r : Go l Z a0 EL n0 kn B D Q h σ ce sl (pc + 1) Ls (v :: st)) : Go l Z a0 EL n0 kn B D Q h σ ce sl pc Ls (.int j :: .ref a :: st) :=
  plainX (fun T vm0 locs X h1 h4 h5 ok t q => by
    obtain ⟨c, A, e, -⟩ := A
    have hi : i < vs.length := (List.getElem?_eq_some_iff.mp hv).1
    exact X.baloadBytes ok.1 (by rw [h1]; exact A.1) (State.isArrayOf_alike (T := D.s.setVm vm0) h4.alike A.2.1) A.2.2 (Ary.inb e hj hi) (by rw [(ix_of hj).2, ← Array.getElem?_toList, e]; exact hv) (g := mkF D.m pc Ls (.int j :: .ref a :: st)) rfl rfl (Jvm.hb ok.2.1 hd) t q) r
theorem laload (pc : Nat) {vs : List Value} {j : Int32} (i : Nat) {v : Value} (hd : decode B.bs pc = .ok (.laload, 1)) (A : Ary Z h a .long vs) (hj : j.toInt = (i : Int)) (hv : vs[i]? = some v) (r : Go l Z a0 EL n0 kn B D Q h σ ce sl (pc + 1) Ls (v :: st)) : Go l Z a0 EL n0 kn B D Q h σ ce sl pc Ls (.int j :: .ref a :: st) :=
  plainX (fun T vm0 locs X h1 h4 h5 ok t q => by
    obtain ⟨c, A, e, -⟩ := A
    have hi : i < vs.length := (List.getElem?_eq_some_iff.mp hv).1
    exact X.laload ok.1 (by rw [h1]; exact A.1) (State.isArrayOf_alike (T := D.s.setVm vm0) h4.alike A.2.1) A.2.2 (Ary.inb e hj hi) (by rw [(ix_of hj).2, ← Array.getElem?_toList, e]; exact hv) (g := mkF D.m pc Ls (.int j :: .ref a :: st)) rfl rfl (Jvm.hb ok.2.1 hd) t q) r
theorem castore (pc : Nat) {vs : List Value} {j x : Int32} (i : Nat) (w : Int32) (hd : decode B.bs pc = .ok (.castore, 1)) (A : Ary Z h a .char vs) (hj : j.toInt = (i : Int)) (hi : i < vs.length) (hw : nar .char x = w) (hσ : σ a)
    (r : ∀ h', Keep h h' [a] → Ary Z h' a .char (vs.set i (.int w)) → Go l Z a0 EL n0 kn B D Q h' σ ce sl (pc + 1) Ls st) : Go l Z a0 EL n0 kn B D Q h σ ce sl pc Ls (.int x :: .int j :: .ref a :: st) :=
  wrote hσ (i := i) (v := .int w) (fun T vm0 locs X h1 h4 h5 ok => by
    subst hw
    obtain ⟨c, Ar, e, -⟩ := A
    have := stC X ok.1 (s := D.s.setVm vm0) h4 h1 Ar (Ary.inb e hj hi) (g := mkF D.m pc Ls (.int x :: .int j :: .ref a :: st)) rfl rfl (Jvm.hb ok.2.1 hd)
    rw [(ix_of hj).2] at this; exact this)
    (fun h' W K => r h' K (A.wr W (hw ▸ fits_nar_char x)))
theorem bastore (pc : Nat) {vs : List Value} {j x : Int32} (i : Nat) (w : Int32) (hd : decode B.bs pc = .ok (.bastore, 1)) (A : Ary Z h a .byte vs) (hj : j.toInt = (i : Int)) (hi : i < vs.length) (hw : nar .byte x = w) (hσ : σ a)
    (r : ∀ h', Keep h h' [a] → Ary Z h' a .byte (vs.set i (.int w)) → Go l Z a0 EL n0 kn B D Q h' σ ce sl (pc + 1) Ls st) : Go l Z a0 EL n0 kn B D Q h σ ce sl pc Ls (.int x :: .int j :: .ref a :: st) :=
  wrote hσ (i := i) (v := .int w) (fun T vm0 locs X h1 h4 h5 ok => by
    subst hw
    obtain ⟨c, Ar, e, -⟩ := A
    have := stB X ok.1 (s := D.s.setVm vm0) h4 h1 Ar (Ary.inb e hj hi) (g := mkF D.m pc Ls (.int x :: .int j :: .ref a :: st)) rfl rfl (Jvm.hb ok.2.1 hd)
    rw [(ix_of hj).2] at this; exact this)
    (fun h' W K => r h' K (A.wr W (hw ▸ fits_nar_byte x)))
theorem lastore (pc : Nat) {vs : List Value} {j : Int32} {x : Int64} (i : Nat) (hd : decode B.bs pc = .ok (.lastore, 1)) (A : Ary Z h a .long vs) (hj : j.toInt = (i : Int)) (hi : i < vs.length) (hσ : σ a)
    (r : ∀ h', Keep h h' [a] → Ary Z h' a .long (vs.set i (.long x)) → Go l Z a0 EL n0 kn B D Q h' σ ce sl (pc + 1) Ls st) : Go l Z a0 EL n0 kn B D Q h σ ce sl pc Ls (.long x :: .int j :: .ref a :: st) :=
  wrote hσ (i := i) (v := .long x) (fun T vm0 locs X h1 h4 h5 ok => by
    obtain ⟨c, Ar, e, -⟩ := A
    have := stJ X ok.1 (s := D.s.setVm vm0) h4 h1 Ar (Ary.inb e hj hi) (g := mkF D.m pc Ls (.long x :: .int j :: .ref a :: st)) rfl rfl (Jvm.hb ok.2.1 hd)
    rw [(ix_of hj).2] at this; exact this)
    (fun h' W K => r h' K (A.wr W rfl))
theorem ldcI (pc : Nat) {ix : Nat} {v : Int32} (hd : decode B.bs pc = .ok (.ldc ix, 2)) (w : (Jvm.Cond.constant B.y.cls ix v).before a0 Z = true) (r : Go l Z a0 EL n0 kn B D Q h σ ce sl (pc + 2) Ls (.int v :: st)) : Go l Z a0 EL n0 kn B D Q h σ ce sl pc Ls st :=
  plainX (fun T vm0 locs X h1 h4 h5 ok t q => X.ldcI ok.1 (own := B.y.cls) h5 (mv (s := D.s.setVm vm0) h4 w) (g := mkF D.m pc Ls st) rfl (Jvm.hb ok.2.1 hd) q) r
theorem ldc2J (pc : Nat) {ix : Nat} {v : Int64} (hd : decode B.bs pc = .ok (.ldc2_w ix, 3)) (w : (Jvm.Cond.constantLong B.y.cls ix v).before a0 Z = true) (r : Go l Z a0 EL n0 kn B D Q h σ ce sl (pc + 3) Ls (.long v :: st)) : Go l Z a0 EL n0 kn B D Q h σ ce sl pc Ls st :=
  plainX (fun T vm0 locs X h1 h4 h5 ok t q => X.ldc2J ok.1 (own := B.y.cls) h5 (mv (s := D.s.setVm vm0) h4 w) (g := mkF D.m pc Ls st) rfl (Jvm.hb ok.2.1 hd) q) r
end Heap
end Jvm.Road
namespace Jvm.Road
open Jvm Jvm.ClassFile Sem Op Lib Jvm.Free Jvm.Stand Jvm.LawKit Jvm.RoadKit Bundle
section Cast
variable {l : Launch} {Z : State} {a0 : Array Value} {EL : List (String × Nat)} {n0 : Nat} {kn : Bool} {B : Bdy} {D : Dyn} {Q : Post} {h : Heap} {σ : Addr → Prop} {ce sl : Nat} {Ls : Array Slot} {st : List Value} {a : Addr}
theorem instYes (pc : Nat) {ix : Nat} {K : String} (hd : decode B.bs pc = .ok (.instanceof ix, 3)) (w : (Jvm.Cond.classLink B.y.cls ix K).before a0 Z = true) (F : Ins Z h a K true) (r : Go l Z a0 EL n0 kn B D Q h σ ce sl (pc + 3) Ls (.int 1 :: st)) : Go l Z a0 EL n0 kn B D Q h σ ce sl pc Ls (.ref a :: st) := by
  intro ok ew T vm0 I
  obtain ⟨k0, locs, X, h1, h2, h3, h4, h5, h6, h7, h8, h9, h10⟩ := I
  obtain ⟨T', X', e', s'⟩ := instY X ok.1 (s := D.s.setVm vm0) h4 h5 w h1 F (g := mkF D.m pc Ls (.ref a :: st)) rfl rfl (Jvm.hb ok.2.1 hd)
  obtain ⟨s2, o, q, rest⟩ := r ok ew T' vm0 ⟨k0, locs, X', e', h2, h3, h4, h5, h6, h7, h8, h9, h10⟩
  exact ⟨s2, o, s' _ q, rest⟩
theorem castYes (pc : Nat) {ix : Nat} {K : String} (hd : decode B.bs pc = .ok (.checkcast ix, 3)) (w : (Jvm.Cond.classLink B.y.cls ix K).before a0 Z = true) (F : Ins Z h a K true) (r : Go l Z a0 EL n0 kn B D Q h σ ce sl (pc + 3) Ls (.ref a :: st)) : Go l Z a0 EL n0 kn B D Q h σ ce sl pc Ls (.ref a :: st) := by
  intro ok ew T vm0 I
  obtain ⟨k0, locs, X, h1, h2, h3, h4, h5, h6, h7, h8, h9, h10⟩ := I
  obtain ⟨T', X', e', s'⟩ := castY X ok.1 (s := D.s.setVm vm0) h4 h5 w h1 F (g := mkF D.m pc Ls (.ref a :: st)) rfl rfl (Jvm.hb ok.2.1 hd)
  obtain ⟨s2, o, q, rest⟩ := r ok ew T' vm0 ⟨k0, locs, X', e', h2, h3, h4, h5, h6, h7, h8, h9, h10⟩
  exact ⟨s2, o, s' _ q, rest⟩
end Cast
theorem Fld.uniq {Z : State} {h : Heap} {a : Addr} {C n d : String} {v w : Value} (F : Fld Z h a C n d v) (G : Fld Z h a C n d w) : v = w := by
  obtain ⟨c1, _, _, _, f1, a1, a2, -, -, -, -, a7⟩ := F
  obtain ⟨c2, _, _, _, f2, b1, b2, -, -, -, -, b7⟩ := G
  cases a1.symm.trans b1
  have q := a2.symm.trans b2
  simp only [Option.some.injEq, Prod.mk.injEq] at q
  obtain ⟨-, -, -, rfl⟩ := q
  exact Option.some.inj (a7.symm.trans b7)
theorem Ary.uniq {Z : State} {h : Heap} {a : Addr} {ty ty' : FieldType} {vs ws : List Value} (F : Ary Z h a ty vs) (G : Ary Z h a ty' ws) : vs = ws := by
  obtain ⟨c1, A1, e1, -⟩ := F
  obtain ⟨c2, A2, e2, -⟩ := G
  cases A1.1.symm.trans A2.1
  exact e1.symm.trans e2
end Jvm.Road
namespace Jvm.Road
open Jvm Jvm.ClassFile Sem Op Lib Jvm.Free Jvm.Stand Jvm.LawKit Jvm.RoadKit Bundle
section Clone
variable {l : Launch} {Z : State} {a0 : Array Value} {EL : List (String × Nat)} {n0 : Nat} {kn : Bool} {B : Bdy} {D : Dyn} {Q : Post} {h : Heap} {σ : Addr → Prop} {ce sl : Nat} {Ls : Array Slot} {st : List Value} {a : Addr}
theorem cloneArr (pc : Nat) {ix : Nat} {ad : String} {ty : FieldType} {vs : List Value} (W cap : Nat) (hd : decode B.bs pc = .ok (.invokevirtual ix, 3))
    (w1 : (Jvm.Cond.methodLink B.y.cls ix ⟨ad, "clone", "()Ljava/lang/Object;"⟩).before a0 Z = true) (w2 : (Jvm.Cond.sameMethod ad "java/lang/Object" "clone" "()Ljava/lang/Object;").before a0 Z = true) (w3 : (Jvm.Cond.native ⟨"java/lang/Object", "clone", "()Ljava/lang/Object;"⟩).before a0 Z = true)
    (w4 : (Jvm.Cond.instanceMethod ⟨"java/lang/Object", "clone", "()Ljava/lang/Object;"⟩).before a0 Z = true) (w5 : (Jvm.Cond.selects ad ⟨ad, "clone", "()Ljava/lang/Object;"⟩ ⟨"java/lang/Object", "clone", "()Ljava/lang/Object;"⟩).before a0 Z = true) (w6 : (Jvm.Cond.castable ad "java/lang/Cloneable").before a0 Z = true)
    (A : Ary Z h a ty vs) (E : Exa Z h a ad) (hW : (st.map fun v => v.category).sum = W) (hsz : Ls.size = B.ml) (hf : 1 ≤ B.rm.frames) (hl : W + 14 ≤ B.rm.locals) (hcap : vs.length ≤ cap) {ce' sl' : Nat} (hce : ce + 1 = ce') (hsl : sl + cap = sl') (hc : ce' ≤ B.rm.cells) (hs : sl' ≤ B.rm.slots)
    (r : ∀ b h' σ', b = h.size → Keep h h' [] → b < h'.size → (∀ x, σ x → σ' x) → σ' b → Ary Z h' b ty vs → Exa Z h' b ad → Go l Z a0 EL n0 kn B D Q h' σ' ce' sl' (pc + 3) Ls (.ref b :: st)) : Go l Z a0 EL n0 kn B D Q h σ ce sl pc Ls (.ref a :: st) := by
  subst hce hsl
  exact made (P := fun h' => Ary Z h' h.size ty vs ∧ Exa Z h' h.size ad)
    (fun T vm0 locs X h1 h4 h5 ok => by
      obtain ⟨cl, Ar, e, q, f⟩ := A
      obtain ⟨T', h', X', e', ex, A', E', s'⟩ := cloneA X ok.1 (s := D.s.setVm vm0) h4 h5 w1 w2 w3 w4 w5 w6 h1 Ar E (fitC_of Ar fun i hi v hv => f v (by rw [← e]; exact List.mem_of_getElem? (by rw [Array.getElem?_toList]; exact hv))) (g := mkF D.m pc Ls (.ref a :: st)) rfl (hsz.trans ok.2.2.1.symm) rfl (Jvm.hb ok.2.1 hd) hf (W := W) (cap := cap) (by show 2 * 0 + _ ≤ _; rw [hW]; omega) hl (by rw [← Array.length_toList, e]; exact hcap) hc hs
      exact ⟨T', h', X', e', ex, E'.lt, ⟨⟨_, A', e, q, f⟩, E'⟩, s'⟩)
    (fun h' σ' K hlt m1 m2 P => r h.size h' σ' rfl K hlt m1 m2 P.1 P.2)
theorem aaload (pc : Nat) {ty : FieldType} {vs : List Value} {j : Int32} (i : Nat) {v : Value} (hd : decode B.bs pc = .ok (.aaload, 1)) (A : Ary Z h a ty vs) (hty : ty.isReference = true) (hj : j.toInt = (i : Int)) (hv : vs[i]? = some v) (r : Go l Z a0 EL n0 kn B D Q h σ ce sl (pc + 1) Ls (v :: st)) : Go l Z a0 EL n0 kn B D Q h σ ce sl pc Ls (.int j :: .ref a :: st) :=
  plainX (fun T vm0 locs X h1 h4 h5 ok t q => by
    obtain ⟨c, A, e, -⟩ := A
    have hi : i < vs.length := (List.getElem?_eq_some_iff.mp hv).1
    exact X.aaload ok.1 (by rw [h1]; exact A.1) (State.isArrayOf_alike (T := D.s.setVm vm0) h4.alike A.2.1) hty A.2.2 (Ary.inb e hj hi) (by rw [(ix_of hj).2, ← Array.getElem?_toList, e]; exact hv) (g := mkF D.m pc Ls (.int j :: .ref a :: st)) rfl rfl (Jvm.hb ok.2.1 hd) t q) r
theorem instNull (pc : Nat) {ix : Nat} (hd : decode B.bs pc = .ok (.instanceof ix, 3)) (r : Go l Z a0 EL n0 kn B D Q h σ ce sl (pc + 3) Ls (.int 0 :: st)) : Go l Z a0 EL n0 kn B D Q h σ ce sl pc Ls (.null :: st) :=
  plainX (fun T vm0 locs X h1 h4 h5 ok t q => X.instanceofNull ok.1 (g := mkF D.m pc Ls (.null :: st)) rfl rfl (Jvm.hb ok.2.1 hd) t q) r
end Clone
end Jvm.Road
namespace Jvm.Road
open Jvm Jvm.ClassFile Sem Op Lib Jvm.Free Jvm.Stand Jvm.LawKit Jvm.RoadKit Bundle
section Ends
variable {l : Launch} {Z : State} {a0 : Array Value} {EL : List (String × Nat)} {n0 : Nat} {kn : Bool} {B : Bdy} {D : Dyn} {Q : Post} {h : Heap} {σ : Addr → Prop} {ce sl : Nat} {Ls : Array Slot} {st : List Value} {a : Addr}
theorem own_at {vm0 : Vm} {T : State} {locs : List Loc} (X : Stand D.p l D.e B.rm (D.s.setVm vm0) D.m D.args D.bl D.meth D.c T locs ce sl) (hZ : Z.Warmed39 vm0) (ew : EW Z a0 EL) (hC : CHv Z EL vm0 h) {x : Addr} (hx : Own Z EL n0 vm0 h x) : Own Z EL n0 T.vm h x :=
  ⟨(CHv.at X hZ ew hC).safe hx.2.2 hx.1, hx.2.1, hx.2.2⟩
/-- the end of a walk -/
theorem ended {pc : Nat} {v : Option Value} (hv : B.rt = none → v = none) (hc : ce ≤ B.rm.cells) (hs : sl ≤ B.rm.slots) (hq : ∀ σ', (∀ x, σ x → σ' x) → Q v h σ')
    (k : ∀ T vm0 locs fs, Stand D.p l D.e B.rm (D.s.setVm vm0) D.m D.args D.bl D.meth D.c T locs ce sl → Ok B D → (∀ (f : JFrame) (acts : List Action), f.method = D.m → f.locked = none → f.entered = [] → (doReturn D.e (T.setTop f) acts v).1 = T.setFrames fs) → Steps D.p.tables D.e D.bl (T.setTop (mkF D.m pc Ls st)) (T.setFrames fs)) :
    Go l Z a0 EL n0 kn B D Q h σ ce sl pc Ls st := by
  intro ok ew T vm0 I
  obtain ⟨k0, locs, X, h1, h2, h3, h4, h5, h6, h7, h8, h9, h10⟩ := I
  obtain ⟨fs, hr, hrun, hended, hE⟩ := X.leaveW h2 (by rw [h1]; exact h3) (v := v) (fun q => hv (ok.2.2.2.1.symm.trans q)) ok.2.2.2.2.1
  have hh : (T.setFrames fs).heap = h := h1
  refine ⟨T.setFrames fs, .returned v, k T vm0 locs fs X ok hr, hrun, hended, v, locs, rfl, ?_, h7, ?_, ?_, ⟨hE.1, hE.2.1, hE.2.2.1, hE.2.2.2.mono hc hs⟩⟩
  · rw [hh]; exact hq _ fun x hx => own_at X h4 ew h6.1 (h9 x hx)
  · rw [hh]; exact h6.trans (show CHr Z EL vm0 h T.vm h from CHv.at X h4 ew h6.1)
  · rw [hh]; exact h8
theorem ret (pc : Nat) (hd : decode B.bs pc = .ok (.return_, 1)) (hrt : B.rt = none) (hc : ce ≤ B.rm.cells) (hs : sl ≤ B.rm.slots) (hq : ∀ σ', (∀ x, σ x → σ' x) → Q none h σ') : Go l Z a0 EL n0 kn B D Q h σ ce sl pc Ls [] :=
  ended (fun _ => rfl) hc hs hq (fun T vm0 locs fs X ok hr => X.returnOut ok.1 (ok.2.2.2.1.trans hrt) (Jvm.hb ok.2.1 hd) hr)
theorem iret (pc : Nat) {x : Int32} {t : FieldType} (w : Int32) (hd : decode B.bs pc = .ok (.ireturn, 1)) (hrt : B.rt = some t) (ht : t = .boolean ∨ t = .byte ∨ t = .char ∨ t = .short) (hw : nar t x = w) (hc : ce ≤ B.rm.cells) (hs : sl ≤ B.rm.slots) (hq : ∀ σ', (∀ x, σ x → σ' x) → Q (some (.int w)) h σ') : Go l Z a0 EL n0 kn B D Q h σ ce sl pc Ls (.int x :: st) :=
  ended (fun q => by rw [hrt] at q; cases q) hc hs hq (fun T vm0 locs fs X ok hr => retN X ok.1 (t := t) (ok.2.2.2.1.trans hrt) ht (Jvm.hb ok.2.1 hd) (by rw [hw]; exact hr))
theorem iretI (pc : Nat) {x : Int32} (hd : decode B.bs pc = .ok (.ireturn, 1)) (hrt : B.rt = some .int) (hc : ce ≤ B.rm.cells) (hs : sl ≤ B.rm.slots) (hq : ∀ σ', (∀ x, σ x → σ' x) → Q (some (.int x)) h σ') : Go l Z a0 EL n0 kn B D Q h σ ce sl pc Ls (.int x :: st) :=
  ended (fun q => by rw [hrt] at q; cases q) hc hs hq (fun T vm0 locs fs X ok hr => retOut X ok.1 (t := .int) (ok.2.2.2.1.trans hrt) rfl (Or.inl ⟨rfl, Or.inl rfl, x, rfl⟩) (Jvm.hb ok.2.1 hd) hr)
theorem aret (pc : Nat) {v : Value} {t : FieldType} (hd : decode B.bs pc = .ok (.areturn, 1)) (hrt : B.rt = some t) (ht : t.isReference = true) (hv : v.isRef = true) (hc : ce ≤ B.rm.cells) (hs : sl ≤ B.rm.slots) (hq : ∀ σ', (∀ x, σ x → σ' x) → Q (some v) h σ') : Go l Z a0 EL n0 kn B D Q h σ ce sl pc Ls (v :: st) :=
  ended (fun q => by rw [hrt] at q; cases q) hc hs hq (fun T vm0 locs fs X ok hr => retOut X ok.1 (t := t) (ok.2.2.2.1.trans hrt) (by rcases ref_cases hv with rfl | ⟨_, rfl⟩ <;> cases t <;> first | rfl | (cases ht; done)) (Or.inr (Or.inr (Or.inr (Or.inr ⟨rfl, ht, hv⟩)))) (Jvm.hb ok.2.1 hd) hr)
/-- ldc of a String constant that is read -/
theorem ldcS (pc : Nat) {ix : Nat} (text : String) (cs : List Int32) (n : Nat) (hd : decode B.bs pc = .ok (.ldc ix, 2)) (w : (Jvm.Cond.stringLink B.y.cls ix text).before a0 Z = true) (wS : ∀ a ∈ Bundle.stringAtoms, a.before a0 Z = true) (hmem : (B.y.cls, ix) ∈ EL)
    (ht : ∀ c ∈ text.toList, c.toNat < 256) (hvs : text.toList.map (fun c => Value.int (Jvm.Lit.byteI c.toNat.toUInt16)) = cs.map byt) (hcs : ∀ c ∈ cs, 0 ≤ c.toInt ∧ c.toInt < 256) (hn : 4 * text.toList.length ≤ n) (hbig : n ≤ 536870912) {ce' sl' : Nat} (hce : ce + 2 = ce') (hsl : sl + (n + 4) = sl') (hc : ce' ≤ B.rm.cells) (hs : sl' ≤ B.rm.slots)
    (r : ∀ a b h' σ', Keep h h' [] → (∀ x, σ x → σ' x) → Str Z h' a b cs → (∀ x, σ' x → x ≠ a ∧ x ≠ b) → Go l Z a0 EL n0 kn B D Q h' σ' ce' sl' (pc + 2) Ls (.ref a :: st)) : Go l Z a0 EL n0 kn B D Q h σ ce sl pc Ls st := by
  subst hce hsl
  intro ok ew T vm0 I
  obtain ⟨k0, locs, X, h1, h2, h3, h4, h5, h6, h7, h8, h9, h10⟩ := I
  have hlen : (cs.map byt).length = text.toList.length := by rw [← hvs, List.length_map]
  have hsm : text.toList.length < 2147483648 := by omega
  have hz : (text.toList.length).toInt32.toInt = (text.toList.length : Int) := len_toInt hsm
  obtain ⟨q1, q2⟩ := ix_of hz
  obtain ⟨a, T', h', k1, b, k, X', e', E, hS', hk', hZ', ho', E1, E2, E3, E4, l1, l2, hCr, hL, hne, s'⟩ := ldcCH (s := D.s) X ok.1 h4 h5 w wS h1 h2 h3 ew hmem h6.1 (vs := cs.map byt) (z := (text.toList.length).toInt32) ⟨ht, hvs⟩ q1 (by rw [q2, hlen]) (g := mkF D.m pc Ls st) rfl (Jvm.hb ok.2.1 hd) hn hbig hc hs
  have hal : vm0.Alike T'.vm := by
    have z1 := h4.alike
    have z2 : Z.vm.Alike T'.vm := State.Warmed39.alike hZ'
    exact z1.symm.trans z2
  obtain ⟨s2, o, q, rest⟩ := r a b h' (Own Z EL n0 T'.vm h') (keep_ext E) (fun x hx => ⟨hCr.safe (h9 x hx).2.2 (h9 x hx).1, (h9 x hx).2.1, Nat.lt_of_lt_of_le (h9 x hx).2.2 E.1⟩) ⟨E1, E2, E3, Ary.of_arv E4 (by rw [q2, hlen]), hcs⟩ (fun x hx => hne x hx.1) ok ew T' T'.vm
    ⟨k1, locs, X', e', hS', hk', hZ', ho', h6.trans hCr, h7, h8.ext E, fun x hx => hx, fun z => ⟨(h10 z).1.alikeC hal, (h10 z).2.alikeC hal⟩⟩
  exact ⟨s2, o, s' _ q, rest⟩
end Ends
section Calls
variable {l : Launch} {Z : State} {a0 : Array Value} {EL : List (String × Nat)} {n0 : Nat} {kn : Bool} {B B' : Bdy} {D : Dyn} {Q Q' : Post} {h : Heap} {σ : Addr → Prop} {ce sl : Nat} {Ls : Array Slot} {st : List Value} {a : Addr}
theorem Con.back {R : Room} {p : Program} {e : Env} {below : List Frame} {s : State} {args : Array Value} {vm0 : Vm} {len W : Nat} {as : Array Value} (hM : Con l Z EL n0 kn B' [] σ as h Q') (hZ : Z.Warmed39 vm0) (wc : (Jvm.Cond.code B'.y B'.bs B'.ml B'.rt).before a0 Z = true) (wz : (Jvm.Cond.initialized B'.y.cls).before a0 Z = true)
    (hf : B'.rm.frames + 1 ≤ R.frames) (hl : W + (B'.ml + 11) + B'.rm.locals ≤ R.locals) (hEL : EW Z a0 EL) (H : CHv Z EL vm0 h) (hO : Old Z n0 h) (hσ : ∀ x, σ x → Own Z EL n0 vm0 h x) (hK : kn = true → vm0.MethodsKnown ∧ vm0.FramesKnown below) :
    BackS l R p e below (s.setVm vm0) args B'.y len W (fun A a => a = as ∧ A.U.heap = h ∧ A.cells + B'.rm.cells ≤ R.cells ∧ A.slots + B'.rm.slots ≤ R.slots)
      (fun A _ v Bp => ∃ L, (Q' v Bp.U.heap (Own Z EL n0 Bp.U.vm Bp.U.heap) ∧ Fr n0 L ∧ Old Z n0 Bp.U.heap) ∧ Bp.locs = A.locs ++ L ∧ Bp.cells = A.cells + B'.rm.cells ∧ Bp.slots = A.slots + B'.rm.slots ∧ CHr Z EL vm0 h Bp.U.vm Bp.U.heap) :=
  BackS.of_freeWG (bytes := B'.bs) (maxL := B'.ml) (ret := B'.rt) (E := fun _ first o t L k n => k = B'.rm.cells ∧ n = B'.rm.slots ∧ (∃ v, o = .returned v ∧ Q' v t.heap (Own Z EL n0 t.vm t.heap) ∧ Fr n0 L ∧ Old Z n0 t.heap) ∧ CHr Z EL first.vm first.heap t.vm t.heap) hM hf hl
    (fun m meth c A a Y hp => have hU : Z.Warmed39 A.U.vm := wtrans (s := s.setVm vm0) hZ Y.warmed
      ⟨by show (Cond.and _ .tt).before a A.U = true; rw [Cond.before_and, mv hU wc]; rfl, mv hU wc, mv hU wz, hp.2.2.1, hp.2.2.2⟩)
    (fun m meth c A a g mk Y hp => ⟨hp.1, wtrans (s := s.setVm vm0) hZ Y.warmed, hp.2.1, (CHv.at Y hZ hEL H).1, hO, fun x hx => ⟨(CHv.at Y hZ hEL H).safe (hσ x hx).2.2 (hσ x hx).1, (hσ x hx).2⟩⟩)
    (fun m meth c A a g mk Y _ hg hkn => known_frames Y hg (hK hkn).1 (hK hkn).2)
    (fun _ _ _ _ ⟨v, L, h1, h2, h3, h4, h5, h6⟩ => ⟨L, _, _, h6, rfl, rfl, ⟨v, h1, h2, h3, h5⟩, h4⟩)
    (fun m meth c A a g mk v t L k n Y hp _ _ ⟨e1, e2, ⟨v', e3, e4⟩, e5⟩ => by
      cases e3; subst e1 e2
      refine ⟨L, e4, rfl, rfl, rfl, (CHv.at Y hZ hEL H).trans ?_⟩
      rw [← hp.2.1]; exact e5)
/-- behind a call -/
theorem called {pc len : Nat} {rest : List Value} {as : Array Value} (W : Nat) (hM : Con l Z EL n0 kn B' [] σ as h Q') (wc : (Jvm.Cond.code B'.y B'.bs B'.ml B'.rt).before a0 Z = true) (wz : (Jvm.Cond.initialized B'.y.cls).before a0 Z = true)
    (hf : B'.rm.frames + 1 ≤ B.rm.frames) (hl : W + (B'.ml + 11) + B'.rm.locals ≤ B.rm.locals) (hc : ce + B'.rm.cells ≤ B.rm.cells) (hs : sl + B'.rm.slots ≤ B.rm.slots)
    (k : ∀ T vm0 locs, Stand D.p l D.e B.rm (D.s.setVm vm0) D.m D.args D.bl D.meth D.c T locs ce sl → T.heap = h → Z.Warmed39 vm0 → vm0.findClass B.y.cls = some D.m.cls → Ok B D →
      ∀ {Pre : Pt → Array Value → Prop} {Pst : Pt → Array Value → Option Value → Pt → Prop}, BackS l B.rm D.p D.e D.bl (D.s.setVm vm0) D.args B'.y len W Pre Pst → (∀ vm₁, (D.s.setVm vm0).WarmedH vm₁ → Pre ⟨T.setVm vm₁, locs, ce, sl⟩ as) →
      ∃ (v : Option Value) (vm₁ : Vm) (Bp : Pt), (D.s.setVm vm0).WarmedH vm₁ ∧ Stand D.p l D.e B.rm ((D.s.setVm vm0).setVm Bp.U.vm) D.m D.args D.bl D.meth D.c Bp.U Bp.locs Bp.cells Bp.slots ∧ (D.s.setVm vm0).Since Bp.U.vm Bp.U.heap.size ∧ T.heap.size ≤ Bp.U.heap.size ∧ Pst ⟨T.setVm vm₁, locs, ce, sl⟩ as v Bp ∧
        Steps D.p.tables D.e D.bl (T.setTop (mkF D.m pc Ls st)) (Bp.U.setTop (mkF D.m (pc + len) Ls (v.toList ++ rest))))
    (r : ∀ v h' σ', (∀ x, σ x → σ' x) → Q' v h' σ' → Go l Z a0 EL n0 kn B D Q h' σ' (ce + B'.rm.cells) (sl + B'.rm.slots) (pc + len) Ls (push v rest)) : Go l Z a0 EL n0 kn B D Q h σ ce sl pc Ls st := by
  intro ok ew T vm0 I
  obtain ⟨k0, locs, X, h1, h2, h3, h4, h5, h6, h7, h8, h9, h10⟩ := I
  obtain ⟨v, vm₁, ⟨U, Lc, kc, ks⟩, -, X', hS', hgr, ⟨L, ⟨hQ, hFr, hOld⟩, e1, e2, e3, hCr⟩, stp⟩ := k T vm0 locs X h1 h4 h5 ok (Con.back (s := D.s) hM h4 wc wz hf hl ew h6.1 h8 h9 h10) (fun vm₁ _ => ⟨rfl, h1, hc, hs⟩)
  dsimp only [Pt.U, Pt.locs, Pt.cells, Pt.slots] at X' hS' hgr hQ hOld e1 e2 e3 hCr stp
  subst e1 e2 e3
  obtain ⟨Y, hS2, hZ2, ho2⟩ := rebS h2 (by rw [← h1] at h3; exact h3) X' hS' hgr h4 h5
  have hal : vm0.Alike U.vm := hS'.1.alike
  rw [push_eq] at stp
  obtain ⟨s2, o, q, rest'⟩ := r v U.heap (Own Z EL n0 U.vm U.heap) (fun x hx => ⟨hCr.safe (h9 x hx).2.2 (h9 x hx).1, (h9 x hx).2.1, Nat.lt_of_lt_of_le (h9 x hx).2.2 (by rw [← h1]; exact hgr)⟩) hQ ok ew U U.vm
    ⟨U.heap.size, _, Y, rfl, hS2, Nat.le_refl _, hZ2, ho2, h6.trans hCr, h7.app hFr, hOld, fun x hx => hx, fun z => ⟨(h10 z).1.alikeC hal, (h10 z).2.alikeC hal⟩⟩
  exact ⟨s2, o, stp.trans q, rest'⟩
abbrev notMH (y : MethodName) : Prop := y.cls ≠ "java/lang/invoke/MethodHandle" ∧ y.cls ≠ "java/lang/invoke/VarHandle"
theorem callS (pc : Nat) {ix : Nat} {argsL rest : List Value} (W : Nat) (hd : decode B.bs pc = .ok (.invokestatic ix, 3)) (w1 : (Jvm.Cond.methodLink B.y.cls ix B'.y).before a0 Z = true) (w2 : (Jvm.Cond.static B'.y).before a0 Z = true) (w3 : (Jvm.Cond.initialized B'.y.cls).before a0 Z = true) (w4 : (Jvm.Cond.code B'.y B'.bs B'.ml B'.rt).before a0 Z = true) (hy : notMH B'.y)
    (hM : Con l Z EL n0 kn B' [] σ argsL.toArray h Q') (hlen : ∀ sig, parseMethodDescriptor B'.y.desc = some sig → argsL.length = sig.parameters.length) (hst : st = argsL.reverse ++ rest) (hW : (rest.map fun v => v.category).sum = W) (hsz : Ls.size = B.ml)
    (hf : B'.rm.frames + 1 ≤ B.rm.frames) (hl : W + (B'.ml + 11) + B'.rm.locals ≤ B.rm.locals) {ce' sl' : Nat} (hce : ce + B'.rm.cells = ce') (hsl : sl + B'.rm.slots = sl') (hc : ce' ≤ B.rm.cells) (hs : sl' ≤ B.rm.slots)
    (r : ∀ v h' σ', (∀ x, σ x → σ' x) → Q' v h' σ' → Go l Z a0 EL n0 kn B D Q h' σ' ce' sl' (pc + 3) Ls (push v rest)) : Go l Z a0 EL n0 kn B D Q h σ ce sl pc Ls st := by
  subst hce hsl
  exact called W hM w4 w3 hf hl hc hs (fun T vm0 locs X h1 h4 h5 ok {Pre Pst} hB hpre =>
    callSS X ok.1 (s := D.s.setVm vm0) h5 (mv (s := D.s.setVm vm0) h4 w1) (mv (s := D.s.setVm vm0) h4 w2) (mv (s := D.s.setVm vm0) h4 w3) (mv (s := D.s.setVm vm0) h4 w4) hy hB (g := mkF D.m pc Ls st) rfl (hsz.trans ok.2.2.1.symm) (argsL := argsL) (rest := rest) hlen hst (by show 2 * 0 + _ ≤ _; rw [hW]; omega) (Jvm.hb ok.2.1 hd) hpre) r
theorem callI (pc : Nat) {ix : Nat} {argsL rest : List Value} (W : Nat) (hd : decode B.bs pc = .ok (.invokespecial ix, 3)) (w1 : (Jvm.Cond.methodLink B.y.cls ix B'.y).before a0 Z = true) (w2 : (Jvm.Cond.instanceMethod B'.y).before a0 Z = true) (w3 : (Jvm.Cond.initialized B'.y.cls).before a0 Z = true) (w4 : (Jvm.Cond.code B'.y B'.bs B'.ml B'.rt).before a0 Z = true) (hi : B'.y.name = "<init>") (hrt : B'.rt = none) (hy : notMH B'.y)
    (hM : Con l Z EL n0 kn B' [] σ (.ref a :: argsL).toArray h Q') (hlen : ∀ sig, parseMethodDescriptor B'.y.desc = some sig → argsL.length = sig.parameters.length) (hst : st = argsL.reverse ++ .ref a :: rest) (hW : (rest.map fun v => v.category).sum = W) (hsz : Ls.size = B.ml)
    (hf : B'.rm.frames + 1 ≤ B.rm.frames) (hl : W + (B'.ml + 11) + B'.rm.locals ≤ B.rm.locals) {ce' sl' : Nat} (hce : ce + B'.rm.cells = ce') (hsl : sl + B'.rm.slots = sl') (hc : ce' ≤ B.rm.cells) (hs : sl' ≤ B.rm.slots)
    (r : ∀ v h' σ', (∀ x, σ x → σ' x) → Q' v h' σ' → Go l Z a0 EL n0 kn B D Q h' σ' ce' sl' (pc + 3) Ls (push v rest)) : Go l Z a0 EL n0 kn B D Q h σ ce sl pc Ls st := by
  subst hce hsl
  exact called W hM w4 w3 hf hl hc hs (fun T vm0 locs X h1 h4 h5 ok {Pre Pst} hB hpre =>
    X.specialBackS ok.1 hi (s := D.s.setVm vm0) h5 (mv (s := D.s.setVm vm0) h4 w1) (mv (s := D.s.setVm vm0) h4 w2) (bytes := B'.bs) (maxL := B'.ml) (mv (s := D.s.setVm vm0) h4 (hrt ▸ w4)) hy hB (g := mkF D.m pc Ls st) rfl (hsz.trans ok.2.2.1.symm) (Steps.refl _) (argsL := argsL) (rest := rest) hlen hst (by show 2 * 0 + _ ≤ _; rw [hW]; omega) (Jvm.hb ok.2.1 hd) hpre) r
theorem callV (pc : Nat) {ix : Nat} {y : MethodName} {argsL rest : List Value} (C : String) (W : Nat) (hd : decode B.bs pc = .ok (.invokevirtual ix, 3)) (w1 : (Jvm.Cond.methodLink B.y.cls ix y).before a0 Z = true) (w2 : (Jvm.Cond.declares y).before a0 Z = true) (nf : ∀ vm0, Z.Warmed39 vm0 → NotFace (D.s.setVm vm0) y) (w5 : (Jvm.Cond.selects C y B'.y).before a0 Z = true) (w6 : (Jvm.Cond.instanceMethod B'.y).before a0 Z = true) (w3 : (Jvm.Cond.initialized B'.y.cls).before a0 Z = true) (w4 : (Jvm.Cond.code B'.y B'.bs B'.ml B'.rt).before a0 Z = true) (hy : notMH y)
    (E : Exa Z h a C) (hM : Con l Z EL n0 kn B' [] σ (.ref a :: argsL).toArray h Q') (hlen : ∀ sig, parseMethodDescriptor y.desc = some sig → argsL.length = sig.parameters.length) (hst : st = argsL.reverse ++ .ref a :: rest) (hW : (rest.map fun v => v.category).sum = W) (hsz : Ls.size = B.ml)
    (hf : B'.rm.frames + 1 ≤ B.rm.frames) (hl : W + (B'.ml + 11) + B'.rm.locals ≤ B.rm.locals) {ce' sl' : Nat} (hce : ce + B'.rm.cells = ce') (hsl : sl + B'.rm.slots = sl') (hc : ce' ≤ B.rm.cells) (hs : sl' ≤ B.rm.slots)
    (r : ∀ v h' σ', (∀ x, σ x → σ' x) → Q' v h' σ' → Go l Z a0 EL n0 kn B D Q h' σ' ce' sl' (pc + 3) Ls (push v rest)) : Go l Z a0 EL n0 kn B D Q h σ ce sl pc Ls st := by
  subst hce hsl
  exact called W hM w4 w3 hf hl hc hs (fun T vm0 locs X h1 h4 h5 ok {Pre Pst} hB hpre => by
    obtain ⟨cq, kq, qa, qb, qc⟩ := isOf (s := D.s.setVm vm0) h4 h1 E
    exact X.virtualBackS ok.1 (s := D.s.setVm vm0) (C := C) h5 (mv (s := D.s.setVm vm0) h4 w1) (mv (s := D.s.setVm vm0) h4 w2) (nf vm0 h4) (mv (s := D.s.setVm vm0) h4 w5) (mv (s := D.s.setVm vm0) h4 w6) hy hB qa qc (g := mkF D.m pc Ls st) rfl (hsz.trans ok.2.2.1.symm) (Steps.refl _) (argsL := argsL) (rest := rest) hlen hst (by show 2 * 0 + _ ≤ _; rw [hW]; omega) (Jvm.hb ok.2.1 hd) hpre) r
/-- Object.<init> -/
theorem initObj (pc : Nat) {ix : Nat} (hd : decode B.bs pc = .ok (.invokespecial ix, 3)) (w1 : (Jvm.Cond.methodLink B.y.cls ix Lib.objectInit).before a0 Z = true) (w2 : (Jvm.Cond.instanceMethod Lib.objectInit).before a0 Z = true) (w3 : (Jvm.Cond.code Lib.objectInit ⟨#[0xb1]⟩ 1 none).before a0 Z = true) (W : Nat) (hW : (st.map fun v => v.category).sum = W) (hsz : Ls.size = B.ml) (hf : 1 ≤ B.rm.frames) (hl : W + 12 ≤ B.rm.locals)
    (r : Go l Z a0 EL n0 kn B D Q h σ ce sl (pc + 3) Ls st) : Go l Z a0 EL n0 kn B D Q h σ ce sl pc Ls (.ref a :: st) := by
  intro ok ew T vm0 I
  obtain ⟨k0, locs, X, h1, h2, h3, h4, h5, h6, h7, h8, h9, h10⟩ := I
  obtain ⟨T', X', e', s'⟩ := initO X ok.1 (s := D.s.setVm vm0) h4 h5 w1 w2 w3 h1 (g := mkF D.m pc Ls (.ref a :: st)) rfl (hsz.trans ok.2.2.1.symm) rfl (Jvm.hb ok.2.1 hd) hf (W := W) (by show 2 * 0 + _ ≤ _; rw [hW]; omega) hl
  obtain ⟨s2, o, q, rest⟩ := r ok ew T' vm0 ⟨k0, locs, X', e', h2, h3, h4, h5, h6, h7, h8, h9, h10⟩
  exact ⟨s2, o, s' _ q, rest⟩
end Calls
end Jvm.Road
namespace Jvm.Road
open Jvm Jvm.ClassFile Sem Op Lib Jvm.Free Jvm.Stand Jvm.LawKit Jvm.RoadKit Bundle
theorem n32 {i : Nat} (h : i < 2147483648) : i.toInt32.toInt = (i : Int) := len_toInt h
theorem succ32 (i : Nat) : i.toInt32 + 1 = (i + 1).toInt32 := (Int32.ofNat_add i 1).symm
theorem add32n (i j : Nat) : i.toInt32 + j.toInt32 = (i + j).toInt32 := (Int32.ofNat_add i j).symm
theorem lt32 {i j : Nat} (hi : i < 2147483648) (hj : j < 2147483648) : i.toInt32 < j.toInt32 ↔ i < j := by
  rw [Int32.lt_iff_toInt_lt, n32 hi, n32 hj]; omega
theorem eq32 {i j : Nat} (hi : i < 2147483648) (hj : j < 2147483648) : i.toInt32 = j.toInt32 ↔ i = j := by
  rw [← Int32.toInt_inj, n32 hi, n32 hj]; omega
/-- a slot that an int may be stored in -/
def W1 (w : Slot) : Prop := w = .unset ∨ ∃ v, w = .val (.int v)
theorem nar_byte (x : Int32) : nar .byte (Int8.toInt32 (Int32.toInt8 x)) = Int8.toInt32 (Int32.toInt8 x) := by simp [nar]
theorem nar_chr (x : Int32) : nar .char (chr x) = chr x := by simp only [nar, chr, UInt32.toUInt32_toInt32, UInt16.toUInt16_toUInt32]
theorem set_mid {α β : Type} (f : α → β) (cs : List α) (z : β) (k r : Nat) (hk : k < cs.length) : ((cs.take k).map f ++ List.replicate (r + 1) z).set k (f cs[k]) = (cs.take (k + 1)).map f ++ List.replicate r z := by
  have hl : ((cs.take k).map f).length = k := by simp; omega
  rw [List.set_append, if_neg (by omega), hl, Nat.sub_self, List.replicate_succ, List.set_cons_zero, List.take_succ_eq_append_getElem hk, List.map_append]
  simp
end Jvm.Road
namespace Jvm.Road
open Jvm Jvm.ClassFile Sem Op Lib Jvm.Free Jvm.Stand Jvm.LawKit Jvm.RoadKit Bundle
theorem narRef {t : FieldType} {v : Value} (ht : t.isReference = true) (hv : v.isRef = true) : narrow t v = v := by
  rcases ref_cases hv with rfl | ⟨_, rfl⟩ <;> cases t <;> first | rfl | (cases ht; done)
theorem fitRef {t : FieldType} {v : Value} (ht : t.isReference = true) (hv : v.isRef = true) : fits t v = true := by
  rcases ref_cases hv with rfl | ⟨_, rfl⟩ <;> cases t <;> first | rfl | (cases ht; done)
theorem and255 (x : Int32) : 0 ≤ (chr (x &&& 255)).toInt ∧ (chr (x &&& 255)).toInt < 256 := by
  rw [show chr (x &&& 255) = x &&& 255 from i2c_mask x]
  have h1 : (x &&& 255).toInt = ((x.toBitVec &&& 255#32).toInt) := rfl
  have h2 : (x.toBitVec &&& 255#32).toNat ≤ 255 := by rw [BitVec.toNat_and]; exact Nat.and_le_right
  have h3 : (x.toBitVec &&& 255#32).toInt = ((x.toBitVec &&& 255#32).toNat : Int) := BitVec.toInt_eq_toNat_of_lt (by omega)
  rw [h1, h3]; omega
end Jvm.Road
namespace Jvm.Road
open Jvm Jvm.ClassFile Sem Op Lib Jvm.Free Jvm.Stand Jvm.LawKit Jvm.RoadKit Bundle
theorem nameI {l : Launch} {Z : State} {a0 : Array Value} {EL : List (String × Nat)} {n0 : Nat} {kn : Bool} {B : Bdy} {D : Dyn} {Q : Post} {h : Heap} {σ : Addr → Prop} {ce sl : Nat} {Ls : Array Slot} {st : List Value} {pc : Nat} {x : Int32}
    (r : ∀ z, z = x → Go l Z a0 EL n0 kn B D Q h σ ce sl pc Ls (.int z :: st)) : Go l Z a0 EL n0 kn B D Q h σ ce sl pc Ls (.int x :: st) := r x rfl
theorem nameJ {l : Launch} {Z : State} {a0 : Array Value} {EL : List (String × Nat)} {n0 : Nat} {kn : Bool} {B : Bdy} {D : Dyn} {Q : Post} {h : Heap} {σ : Addr → Prop} {ce sl : Nat} {Ls : Array Slot} {st : List Value} {pc : Nat} {x : Int64}
    (r : ∀ z, z = x → Go l Z a0 EL n0 kn B D Q h σ ce sl pc Ls (.long z :: st)) : Go l Z a0 EL n0 kn B D Q h σ ce sl pc Ls (.long x :: st) := r x rfl
theorem and3 (x : Int32) : x &&& 3 = 0 ∨ x &&& 3 = 1 ∨ x &&& 3 = 2 ∨ x &&& 3 = 3 := by
  have h1 : (x &&& 3).toInt = ((x.toBitVec &&& 3#32).toInt) := rfl
  have h2 : (x.toBitVec &&& 3#32).toNat ≤ 3 := by rw [BitVec.toNat_and]; exact Nat.and_le_right
  have h3 : (x.toBitVec &&& 3#32).toInt = ((x.toBitVec &&& 3#32).toNat : Int) := BitVec.toInt_eq_toNat_of_lt (by omega)
  have h4 : (x &&& 3).toInt = 0 ∨ (x &&& 3).toInt = 1 ∨ (x &&& 3).toInt = 2 ∨ (x &&& 3).toInt = 3 := by rw [h1, h3]; omega
  rcases h4 with h | h | h | h
  · exact Or.inl (Int32.toInt_inj.mp h)
  · exact Or.inr (Or.inl (Int32.toInt_inj.mp h))
  · exact Or.inr (Or.inr (Or.inl (Int32.toInt_inj.mp h)))
  · exact Or.inr (Or.inr (Or.inr (Int32.toInt_inj.mp h)))
/-- a slot that a reference may be stored in -/
def W2 (w : Slot) : Prop := w = .unset ∨ ∃ v, w = .val (.ref v)
end Jvm.Road
namespace Jvm.Road
open Jvm Jvm.ClassFile Sem Op Lib Jvm.Free Jvm.Stand Jvm.LawKit Jvm.RoadKit Bundle
theorem shr0 (x : Int32) : x >>> ((0 : Int32) &&& 31) = x := by
  apply Int32.toBitVec_inj.mp; simp [Int32.toBitVec_shiftRight]
theorem lat_nat {c : Int32} (h : 0 ≤ c.toInt ∧ c.toInt < 256) : ∃ i : Fin 256, c = Int32.ofInt (i.1 : Int) := by
  refine ⟨⟨c.toInt.toNat, by omega⟩, ?_⟩
  apply Int32.toInt_inj.mp
  show c.toInt = (Int32.ofInt ((c.toInt.toNat : Nat) : Int)).toInt
  rw [Int.toNat_of_nonneg h.1, Int32.ofInt_toInt]
theorem byte_back {c : Int32} (h : 0 ≤ c.toInt ∧ c.toInt < 256) : nar .char (chr (Int8.toInt32 (Int32.toInt8 c) &&& 255)) = c := by
  obtain ⟨i, rfl⟩ := lat_nat h
  exact (by decide +kernel : ∀ i : Fin 256, nar .char (chr (Int8.toInt32 (Int32.toInt8 (Int32.ofInt (i.1 : Int))) &&& 255)) = Int32.ofInt (i.1 : Int)) i
theorem nar_lat {c : Int32} (h : 0 ≤ c.toInt ∧ c.toInt < 256) : nar .char c = c := by
  obtain ⟨i, rfl⟩ := lat_nat h
  exact (by decide +kernel : ∀ i : Fin 256, nar .char (Int32.ofInt (i.1 : Int)) = Int32.ofInt (i.1 : Int)) i
end Jvm.Road
namespace Jvm.Road
open Jvm Jvm.ClassFile Sem Op Lib Jvm.Free Jvm.Stand Jvm.LawKit Jvm.RoadKit Bundle
/-- an int's 32 bits as a number -/
def u32 (x : Int32) : Nat := x.toBitVec.toNat
theorem u32_lt (x : Int32) : u32 x < 4294967296 := x.toBitVec.isLt
theorem u32_inj {x y : Int32} (h : u32 x = u32 y) : x = y := Int32.toBitVec_inj.mp (BitVec.eq_of_toNat_eq h)
theorem toInt_u32 {x : Int32} (h : u32 x < 2147483648) : x.toInt = (u32 x : Int) := by
  show x.toBitVec.toInt = _
  exact BitVec.toInt_eq_toNat_of_lt (by show 2 * u32 x < 2 ^ 32; omega)
theorem u32_and (x y : Int32) : u32 (x &&& y) = u32 x &&& u32 y := BitVec.toNat_and ..
theorem u32_chr (x : Int32) : u32 (chr x) = u32 x % 65536 := by
  show ((x.toBitVec.setWidth 16).setWidth 32).toNat = _
  rw [BitVec.toNat_setWidth, BitVec.toNat_setWidth]
  show x.toBitVec.toNat % 65536 % 4294967296 = _
  show _ = x.toBitVec.toNat % 65536
  omega
theorem u32_ushr (x y : Int32) : u32 (XT.ushr x y) = u32 x >>> (u32 y % 32) := by
  show ((x.toBitVec >>> ((y &&& 31).toBitVec.umod 32#32)).toNat) = _
  have h : ((y &&& 31).toBitVec.umod 32#32).toNat = u32 y % 32 := by
    show (BitVec.umod (y.toBitVec &&& 31#32) 32#32).toNat = _
    rw [show (BitVec.umod (y.toBitVec &&& 31#32) 32#32) = (y.toBitVec &&& 31#32) % 32#32 from rfl, BitVec.toNat_umod, BitVec.toNat_and]
    show (u32 y &&& 31) % 32 = _
    rw [show (31 : Nat) = 2 ^ 5 - 1 from rfl, Nat.and_two_pow_sub_one_eq_mod]
    omega
  rw [← h]
  exact BitVec.toNat_ushiftRight ..
theorem and_mask (x : Nat) (k : Nat) : x &&& (2 ^ k - 1) = x % 2 ^ k := Nat.and_two_pow_sub_one_eq_mod x k
theorem u32_and255 (x : Int32) : u32 (x &&& 255) = u32 x % 256 := by rw [u32_and]; exact and_mask _ 8
theorem u32_and7 (x : Int32) : u32 (x &&& 7) = u32 x % 8 := by rw [u32_and]; exact and_mask _ 3
theorem u32_and3 (x : Int32) : u32 (x &&& 3) = u32 x % 4 := by rw [u32_and]; exact and_mask _ 2
theorem u32_and1 (x : Int32) : u32 (x &&& 1) = u32 x % 2 := by rw [u32_and]; exact and_mask _ 1
theorem chr_id {x : Int32} (h : u32 x < 65536) : chr x = x := u32_inj (by rw [u32_chr]; omega)
end Jvm.Road
namespace Jvm.Road
open Jvm Jvm.ClassFile Sem Op Lib Jvm.Free Jvm.Stand Jvm.LawKit Jvm.RoadKit Bundle
/-- the byte of a char, as an int -/
def bf (c : Int32) : Int32 := Int8.toInt32 (Int32.toInt8 c)
theorem bf_inj {c d : Int32} (hc : 0 ≤ c.toInt ∧ c.toInt < 256) (hd : 0 ≤ d.toInt ∧ d.toInt < 256) (h : bf c = bf d) : c = d := by
  rw [← byte_back hc, ← byte_back hd]
  show nar .char (chr (bf c &&& 255)) = nar .char (chr (bf d &&& 255))
  rw [h]
theorem bfs_inj : ∀ {cs ds : List Int32}, (∀ c ∈ cs, 0 ≤ c.toInt ∧ c.toInt < 256) → (∀ c ∈ ds, 0 ≤ c.toInt ∧ c.toInt < 256) → cs.map bf = ds.map bf → cs = ds
  | [], [], _, _, _ => rfl
  | [], d :: ds, _, _, h => by simp at h
  | c :: cs, [], _, _, h => by simp at h
  | c :: cs, d :: ds, h1, h2, h => by
    simp only [List.map_cons, List.cons.injEq] at h
    rw [bf_inj (h1 _ (by simp)) (h2 _ (by simp)) h.1, bfs_inj (fun x hx => h1 x (by simp [hx])) (fun x hx => h2 x (by simp [hx])) h.2]
theorem byts (cs : List Int32) : cs.map byt = (cs.map bf).map Value.int := by rw [List.map_map]; rfl
theorem ints_inj : ∀ {xs ys : List Int32}, xs.map Value.int = ys.map Value.int → xs = ys
  | [], [], _ => rfl
  | [], d :: ds, h => by simp at h
  | c :: cs, [], h => by simp at h
  | c :: cs, d :: ds, h => by
    simp only [List.map_cons, List.cons.injEq, Value.int.injEq] at h
    rw [h.1, ints_inj h.2]
theorem Str.uniq {Z : State} {h : Heap} {a b b' : Addr} {cs ds : List Int32} (S : Str Z h a b cs) (S' : Str Z h a b' ds) : cs = ds := by
  have e := Value.ref.inj (Fld.uniq S.2.2.1 S'.2.2.1)
  subst e
  have q := Ary.uniq S.2.2.2.1 S'.2.2.2.1
  rw [byts, byts] at q
  exact bfs_inj S.2.2.2.2 S'.2.2.2.2 (ints_inj q)
theorem take_ext {xs ys : List Int32} {k : Nat} (hk : k < xs.length) (hk' : k < ys.length) (h : xs.take k = ys.take k) (e : xs[k] = ys[k]) : xs.take (k + 1) = ys.take (k + 1) := by
  rw [List.take_succ_eq_append_getElem hk, List.take_succ_eq_append_getElem hk', h, e]
theorem u32_mask31 (x : Int32) : u32 (x &&& 2147483647) = u32 x % 2147483648 := by rw [u32_and]; exact and_mask _ 31
theorem rem_pos {x y : Int32} {n : Nat} (hx : u32 x < 2147483648) (hy : y.toInt = (n : Int)) (hn : 0 < n) : (x % y).toInt = ((u32 x % n : Nat) : Int) := by
  rw [Int32.toInt_mod, toInt_u32 hx, hy]
  rfl
theorem small_of {x : Int32} {n : Nat} {k : Nat} (h : x.toInt = ((k % n : Nat) : Int)) (hn : 0 < n) : ∃ i : Fin n, x = Int32.ofInt (i.1 : Int) := by
  refine ⟨⟨k % n, Nat.mod_lt _ hn⟩, ?_⟩
  have := congrArg Int32.ofInt h
  rwa [Int32.ofInt_toInt] at this
end Jvm.Road
namespace Jvm.Road
open Jvm Jvm.ClassFile Sem Op Lib Jvm.Free Jvm.Stand Jvm.LawKit Jvm.RoadKit Bundle Jvm.Free.Exc
section Exc
variable {l : Launch} {Z : State} {a0 : Array Value} {EL : List (String × Nat)} {n0 : Nat} {kn : Bool} {B : Bdy} {D : Dyn} {Q : Post} {h : Heap} {σ : Addr → Prop} {ce sl : Nat} {Ls : Array Slot} {st : List Value} {a : Addr}
/-- super(msg) of a Throwable, down a chain of constructors that only pass it on -/
theorem excInit (pc : Nat) {ix n : Nat} {rc : String} {links : List Link} {msg : Value} (W : Nat) (hd : decode B.bs pc = .ok (.invokespecial ix, 3)) (hok : linksOk 1 links = true)
    (w1 : (Jvm.Cond.methodLink B.y.cls ix (ctor 1 (headName links))).before a0 Z = true) (w2 : (Jvm.Cond.instanceMethod (ctor 1 (headName links))).before a0 Z = true) (wT : (chainTab 1 rc links).before a0 Z = true) (wi : (Jvm.Cond.instantiable rc n).before a0 Z = true) (r2 : ∀ d ∈ twoRefs, d.before a0 Z = true)
    (hl : l.stackTraces = true) (hkn : kn = true) (hO : Old Z n0 D.s.heap) (E : Exa Z h a rc) (N : Unt h a) (F1 : Fld Z h a tN "backtrace" obD .null) (F2 : Fld Z h a tN "detailMessage" msgD .null) (hmsg : msg.isRef = true) (hσ : σ a)
    (hW : (st.map fun v => v.category).sum = W) (hsz : Ls.size = B.ml) (hf : 4 + links.length ≤ B.rm.frames) (hlo : W + (56 + 14 * links.length) ≤ B.rm.locals) {ce' sl' : Nat} (hce : ce + 1 = ce') (hsl : sl + 2752 = sl') (hc : ce' ≤ B.rm.cells) (hs : sl' ≤ B.rm.slots)
    (r : ∀ h', Kp Z h h' a → Keep h h' [a] → Exa Z h' a rc → Unt h' a → Fld Z h' a tN "detailMessage" msgD msg → Fld Z h' a tN "cause" thD (.ref a) → Go l Z a0 EL n0 kn B D Q h' σ ce' sl' (pc + 3) Ls st) : Go l Z a0 EL n0 kn B D Q h σ ce sl pc Ls (msg :: .ref a :: st) := by
  subst hce hsl
  intro ok ew T vm0 I
  obtain ⟨k0, locs, X, h1, h2, h3, h4, h5, h6, h7, h8, h9, h10⟩ := I
  obtain ⟨T', h', X', e', K, E', N', M', C', -, s'⟩ := excL1 X ok.1 hl (s := D.s.setVm vm0) h4 h5 hok w1 w2 wT wi r2 (ThS.start.ext hO.2) (ThS.start.ext h8.2) (h10 hkn).1 (h10 hkn).2 h1 E N F1 F2 hmsg (g := mkF D.m pc Ls (msg :: .ref a :: st)) rfl (hsz.trans ok.2.2.1.symm) (rest := st) rfl (Jvm.hb ok.2.1 hd) hf (by show 2 * 0 + _ + _ ≤ _; rw [hW]; omega) hc hs
  have ha := h9 a hσ
  have K2 : Keep h h' [a] := keep_of_kp K
  have hsf : ∀ x ∈ [a], Safe Z EL vm0 h x := fun x hx => by cases List.mem_singleton.mp hx; exact ha.1
  obtain ⟨s2, o, q, rest⟩ := r h' K K2 E' N' M' C' ok ew T' vm0
    ⟨k0, _, X', e', h2, Nat.le_trans h3 K2.1, h4, h5, h6.trans (CHr.keep K2 hsf h6.1), Fr.six h7 ha.2.1, h8.keep K2 (fun x hx => by cases List.mem_singleton.mp hx; exact ha.2.1), fun x hx => ⟨Safe.keep K2 hsf h6.1 (h9 x hx).1, (h9 x hx).2.1, Nat.lt_of_lt_of_le (h9 x hx).2.2 K2.1⟩, h10⟩
  exact ⟨s2, o, s' _ q, rest⟩
end Exc
section Up
variable {l : Launch} {Z : State} {a0 : Array Value} {EL : List (String × Nat)} {n0 : Nat} {kn : Bool} {B B' : Bdy} {D : Dyn} {Q Q' : Post} {h : Heap} {σ : Addr → Prop} {ce sl : Nat} {Ls : Array Slot} {st : List Value} {a : Addr}
/-- invokevirtual whose entry names the method by a subclass of the one that declares it -/
theorem callU (pc : Nat) {ix : Nat} {y : MethodName} {argsL rest : List Value} (C owner : String) (W : Nat) (hd : decode B.bs pc = .ok (.invokevirtual ix, 3)) (w1 : (Jvm.Cond.methodLink B.y.cls ix y).before a0 Z = true) (w2 : (Jvm.Cond.sameMethod y.cls owner y.name y.desc).before a0 Z = true) (w2' : (Jvm.Cond.declares ⟨owner, y.name, y.desc⟩).before a0 Z = true) (hy : owner ≠ "java/lang/invoke/MethodHandle" ∧ owner ≠ "java/lang/invoke/VarHandle") (w5 : (Jvm.Cond.selects C y B'.y).before a0 Z = true) (w6 : (Jvm.Cond.instanceMethod B'.y).before a0 Z = true) (w3 : (Jvm.Cond.initialized B'.y.cls).before a0 Z = true) (w4 : (Jvm.Cond.code B'.y B'.bs B'.ml B'.rt).before a0 Z = true)
    (E : Exa Z h a C) (hM : Con l Z EL n0 kn B' [] σ (.ref a :: argsL).toArray h Q') (hlen : ∀ sig, parseMethodDescriptor y.desc = some sig → argsL.length = sig.parameters.length) (hst : st = argsL.reverse ++ .ref a :: rest) (hW : (rest.map fun v => v.category).sum = W) (hsz : Ls.size = B.ml)
    (hf : B'.rm.frames + 1 ≤ B.rm.frames) (hl : W + (B'.ml + 11) + B'.rm.locals ≤ B.rm.locals) {ce' sl' : Nat} (hce : ce + B'.rm.cells = ce') (hsl : sl + B'.rm.slots = sl') (hc : ce' ≤ B.rm.cells) (hs : sl' ≤ B.rm.slots)
    (r : ∀ v h' σ', (∀ x, σ x → σ' x) → Q' v h' σ' → Go l Z a0 EL n0 kn B D Q h' σ' ce' sl' (pc + 3) Ls (push v rest)) : Go l Z a0 EL n0 kn B D Q h σ ce sl pc Ls st := by
  subst hce hsl
  exact called W hM w4 w3 hf hl hc hs (fun T vm0 locs X h1 h4 h5 ok {Pre Pst} hB hpre => by
    obtain ⟨cq, kq, qa, qb, qc⟩ := isOf (s := D.s.setVm vm0) h4 h1 E
    exact X.virtualBackUpS ok.1 (s := D.s.setVm vm0) (C := C) h5 (mv (s := D.s.setVm vm0) h4 w1) (mv (s := D.s.setVm vm0) h4 w2) (mv (s := D.s.setVm vm0) h4 w2') hy (mv (s := D.s.setVm vm0) h4 w5) (mv (s := D.s.setVm vm0) h4 w6) hB qa qc (g := mkF D.m pc Ls st) rfl (hsz.trans ok.2.2.1.symm) (Steps.refl _) (argsL := argsL) (rest := rest) hlen hst (by show 2 * 0 + _ ≤ _; rw [hW]; omega) (Jvm.hb ok.2.1 hd) hpre) r
end Up
end Jvm.Road
namespace Jvm.Road
open Jvm Jvm.ClassFile Sem Op Lib Jvm.Free Jvm.Stand Jvm.LawKit Jvm.RoadKit Bundle
section Start
variable {Z : State} {a : Addr} {args : Array Value} {t b : Term} {ty : FieldType}
theorem eq_int_of {n : Int32} (h : (Cond.eq t (Term.int n)).value args Z none Z [] = some true) : t.eval args Z none [] Z = some (.int n) := by
  obtain ⟨x, y, q1, q2, -, k2⟩ := cmp_v (Or.inl h)
  cases q2
  obtain ⟨z, rfl⟩ := k2
  have := gotT (Cond.eq_ints q1 (Term.int_eval n)) h
  rw [← this]; exact q1
theorem eq_ref_of {q : Addr} (h : (Cond.eq t b).value args Z none Z [] = some true) (hb : b.eval args Z none [] Z = some (.ref q)) : t.eval args Z none [] Z = some (.ref q) := by
  obtain ⟨x, y, q1, q2, -, k2⟩ := cmp_v (Or.inl h)
  cases hb.symm.trans q2
  have := gotT (eq_R q1 hb k2.2 rfl) h
  rw [← this]; exact q1
theorem len_lt {v : Value} (h : (Term.length t).eval args Z none [] Z = some v) (ev : t.eval args Z none [] Z = some (.ref a)) : ∃ c, Z.arrayAt? a = some c ∧ c.slots.size < 2 ^ 31 ∧ v = .int c.slots.size.toInt32 := by
  obtain ⟨x, c, e1, e2, e3⟩ := Term.length_spec h
  cases ev.symm.trans e1
  refine ⟨c, e2, ?_, e3⟩
  by_cases q : c.slots.size < 2 ^ 31
  · exact q
  · simp [Term.eval, ev, e2, q] at h
theorem Ary.start {n : Int32} {vs : List Value} (ev : t.eval args Z none [] Z = some (.ref a)) (hx : (Cond.arrayOf t ty).value args Z none Z [] = some true)
    (hl : (Cond.eq (Term.length t) (Term.int n)).value args Z none Z [] = some true) (hn : n.toInt = vs.length)
    (he : ∀ i, i < vs.length → ∃ j : Int32, j.toInt = (i : Int) ∧ (Term.elem t (Term.int j)).eval args Z none [] Z = vs[i]?) (hf : ∀ v ∈ vs, fits ty v = true) : Ary Z Z.heap a ty vs := by
  obtain ⟨c, A⟩ := Arr.start ev hx
  obtain ⟨c', e1, e2, e3⟩ := len_lt (eq_int_of hl) ev
  have e4 : Z.heap[a]? = some c' := (arrayAt_spec e1).1
  cases A.1.symm.trans e4
  have e5 : c.slots.size = vs.length := by
    have : n.toInt = (c.slots.size : Int) := by
      injection e3 with q; rw [q]; exact len_toInt e2
    omega
  refine ⟨c, A, ?_, by omega, hf⟩
  apply List.ext_getElem?
  intro i
  by_cases hi : i < vs.length
  · obtain ⟨j, j1, j2⟩ := he i hi
    rw [List.getElem?_eq_getElem hi] at j2 ⊢
    have := (elem_in j2 ev (Term.int_eval j) A.1).2
    rw [(ix_of j1).2] at this
    rw [Array.getElem?_toList]; exact this
  · rw [List.getElem?_eq_none (Nat.le_of_not_lt hi), List.getElem?_eq_none (by rw [Array.length_toList, e5]; exact Nat.le_of_not_lt hi)]
end Start
end Jvm.Road
namespace Jvm.Road
open Jvm Jvm.ClassFile Sem Op Lib Jvm.Free Jvm.Stand Jvm.LawKit Jvm.RoadKit Bundle
section Copy
variable {l : Launch} {Z : State} {a0 : Array Value} {EL : List (String × Nat)} {n0 : Nat} {kn : Bool} {B : Bdy} {D : Dyn} {Q : Post} {h : Heap} {σ : Addr → Prop} {ce sl : Nat} {Ls : Array Slot} {st : List Value} {a b : Addr}
theorem arv_of {ty : FieldType} {vs : List Value} (A : Ary Z h a ty vs) : ∃ k, Arv Z h a k ty (Nat.toInt32 vs.length) vs .null ∧ (Nat.toInt32 vs.length).toNatClampNeg = vs.length := by
  obtain ⟨c, A, e, q, f⟩ := A
  have e1 : (Nat.toInt32 vs.length).toInt = vs.length := len_toInt q
  have e2 := ix_of e1
  have e3 : c.slots.size = vs.length := by rw [← Array.length_toList, e]
  refine ⟨_, ⟨c, A, rfl, e3.trans e2.2.symm, e2.1, fun i hi => ?_, fun i hi => ?_⟩, e2.2⟩
  · rw [← Array.getElem?_toList, e, List.getElem?_eq_getElem (by omega), List.getD_eq_getElem?_getD, List.getElem?_eq_getElem (by omega)]; rfl
  · rw [List.getD_eq_getElem?_getD, List.getElem?_eq_getElem (by omega)]; exact f _ (List.getElem_mem _)
theorem stretch_eq (vs : List Value) (i n : Nat) (h : i + n ≤ vs.length) : (List.range n).map (fun k => vs.getD (i + k) .null) = (vs.drop i).take n := by
  apply List.ext_getElem?
  intro k
  by_cases hk : k < n
  · rw [List.getElem?_map, List.getElem?_range hk, List.getElem?_take_of_lt hk, List.getElem?_drop, List.getElem?_eq_getElem (by omega)]
    simp [List.getD_eq_getElem?_getD, List.getElem?_eq_getElem (show i + k < vs.length by omega)]
  · rw [List.getElem?_eq_none (by simp; omega), List.getElem?_eq_none (by simp; omega)]
theorem acopy (pc : Nat) {ix : Nat} {ty : FieldType} {vs vd : List Value} {sp dp nn : Int32} (i j n W : Nat) (hd : decode B.bs pc = .ok (.invokestatic ix, 3))
    (w1 : (Jvm.Cond.methodLink B.y.cls ix Jvm.Stand.acN).before a0 Z = true) (w2 : (Jvm.Cond.native Jvm.Stand.acN).before a0 Z = true) (w3 : (Jvm.Cond.static Jvm.Stand.acN).before a0 Z = true) (w4 : (Jvm.Cond.initialized "java/lang/System").before a0 Z = true)
    (A : Ary Z h a ty vs) (Ab : Ary Z h b ty vd) (hr : refKind ty = false) (h1 : sp.toInt = (i : Int)) (h2 : dp.toInt = (j : Int)) (h3 : nn.toInt = (n : Int)) (h4 : i + n ≤ vs.length) (h5 : j + n ≤ vd.length) (hσ : σ b)
    (hW : (st.map fun v => v.category).sum = W) (hsz : Ls.size = B.ml) (hf : 1 ≤ B.rm.frames) (hl : W + 18 ≤ B.rm.locals)
    (r : ∀ h', Keep h h' [b] → Ary Z h' b ty (vd.take j ++ (vs.drop i).take n ++ vd.drop (j + n)) → Go l Z a0 EL n0 kn B D Q h' σ ce sl (pc + 3) Ls st) :
    Go l Z a0 EL n0 kn B D Q h σ ce sl pc Ls (.int nn :: .int dp :: .ref b :: .int sp :: .ref a :: st) := by
  intro ok ew T vm0 I
  obtain ⟨k0, locs, X, g1, g2, g3, g4, g5, g6, g7, g8, g9, g10⟩ := I
  obtain ⟨k1, A1, z1⟩ := arv_of A
  obtain ⟨k2, A2, z2⟩ := arv_of Ab
  have ha := g9 b hσ
  obtain ⟨s1, s1'⟩ := ix_of h1
  obtain ⟨s2, s2'⟩ := ix_of h2
  obtain ⟨s3, s3'⟩ := ix_of h3
  obtain ⟨T', h', L, X', e', N, K, A3, s'⟩ := cpA X ok.1 (s := D.s.setVm vm0) g4 g5 w1 w2 w3 w4 g1 A1 A2 (Or.inl ⟨rfl, hr⟩) (sp := sp) (dp := dp) (nn := nn) s1 s2 s3 (by rw [s1', s3', z1]; exact h4) (by rw [s2', s3', z2]; exact h5) rfl (by rw [s2', s3']; exact h5) g7 ha.2.1
    (g := mkF D.m pc Ls (.int nn :: .int dp :: .ref b :: .int sp :: .ref a :: st)) rfl (hsz.trans ok.2.2.1.symm) rfl (Jvm.hb ok.2.1 hd) hf (W := W) (by show 2 * 0 + _ ≤ _; rw [hW]; omega) (by show W + 18 ≤ _; exact hl)
  rw [s1', s2', s3', stretch_eq _ _ _ h4] at A3
  have hlen : (vd.take j ++ (vs.drop i).take n ++ vd.drop (j + n)).length = vd.length := by
    simp only [List.length_append, List.length_take, List.length_drop]; omega
  have hs : ∀ x ∈ [b], Safe Z EL vm0 h x := fun x hx => by cases List.mem_singleton.mp hx; exact ha.1
  obtain ⟨s2, o, q, rest⟩ := r h' K (Ary.of_arv A3 (by rw [z2, hlen])) ok ew T' vm0 ⟨k0, _, X', e', g2, Nat.le_trans g3 K.1, g4, g5, g6.trans (CHr.keep K hs g6.1), N, g8.keep K (fun x hx => by cases List.mem_singleton.mp hx; exact ha.2.1),
    fun x hx => ⟨Safe.keep K hs g6.1 (g9 x hx).1, (g9 x hx).2.1, Nat.lt_of_lt_of_le (g9 x hx).2.2 K.1⟩, g10⟩
  exact ⟨s2, o, s' _ q, rest⟩
end Copy
theorem shl0 (x : Int32) : x <<< ((0 : Int32) &&& 31) = x := by
  apply Int32.toBitVec_inj.mp; simp [Int32.toBitVec_shiftLeft]
theorem sub32n {i j : Nat} (h : j ≤ i) : i.toInt32 - j.toInt32 = (i - j).toInt32 := by
  have e : (i - j).toInt32 + j.toInt32 = i.toInt32 := by rw [add32n, Nat.sub_add_cancel h]
  rw [← e, Int32.add_sub_cancel]
theorem gsub {m N : Nat} (hm : m < 2147483648) (hN : N < 2147483648) : (0 : Int32) < m.toInt32 - N.toInt32 ↔ N < m := by
  by_cases h : N ≤ m
  · rw [sub32n h, show (0 : Int32) = (0 : Nat).toInt32 from rfl, lt32 (by omega) (by omega)]; omega
  · have e : m.toInt32 - N.toInt32 = -((N - m).toInt32) := by rw [← sub32n (show m ≤ N by omega), Int32.neg_sub]
    rw [e, Int32.lt_iff_toInt_lt]
    have : (-((N - m).toInt32)).toInt = -((N - m : Nat) : Int) := by
      rw [Int32.toInt_neg, n32 (by omega)]
      rw [Int.bmod_eq_of_le] <;> omega
    rw [this]
    have : (0 : Int32).toInt = 0 := rfl
    omega
abbrev SB : String := "java/lang/StringBuilder"
abbrev AB : String := "java/lang/AbstractStringBuilder"
/-- the StringBuilder at a holds these chars; its bytes at b, of which there are N -/
def Sb (Z : State) (h : Heap) (a b : Addr) (cs : List Int32) (N : Nat) : Prop := Exa Z h a SB ∧ Fld Z h a AB "coder" "B" (.int 0) ∧ Fld Z h a AB "value" "[B" (.ref b) ∧ Fld Z h a AB "count" "I" (.int (Nat.toInt32 cs.length)) ∧ (∃ r : List Value, Ary Z h b .byte (cs.map byt ++ r) ∧ cs.length + r.length = N) ∧ (∀ c ∈ cs, 0 ≤ c.toInt ∧ c.toInt < 256)
section Builder
variable {Z : State} {h h' : Heap} {a b : Addr} {cs : List Int32} {N : Nat} {ws : List Addr}
theorem Sb.keep (F : Sb Z h a b cs N) (K : Keep h h' ws) (q : a ∉ ws) (q' : b ∉ ws) : Sb Z h' a b cs N := by
  obtain ⟨f1, f2, f3, f4, ⟨r, f5, f6⟩, f7⟩ := F
  exact ⟨f1.keep K, f2.keep K q, f3.keep K q, f4.keep K q, ⟨r, f5.keep K q', f6⟩, f7⟩
theorem Sb.lt (F : Sb Z h a b cs N) : a < h.size := F.1.lt
theorem Sb.ltb (F : Sb Z h a b cs N) : b < h.size := by obtain ⟨_, _, _, _, ⟨r, f5, -⟩, _⟩ := F; exact f5.lt
theorem Sb.le (F : Sb Z h a b cs N) : cs.length ≤ N := by obtain ⟨_, _, _, _, ⟨r, -, f6⟩, _⟩ := F; omega
theorem Sb.small (F : Sb Z h a b cs N) : N < 2147483648 := by obtain ⟨_, _, _, _, ⟨r, f5, f6⟩, _⟩ := F; have := f5.small; simp only [List.length_append, List.length_map] at this; omega
theorem put_str (cs ds : List Int32) (r : List Value) (hl : ds.length ≤ r.length) : (cs.map byt ++ r).take cs.length ++ ((ds.map byt).drop 0).take ds.length ++ (cs.map byt ++ r).drop (cs.length + ds.length) = (cs ++ ds).map byt ++ r.drop ds.length := by
  have e1 : (cs.map byt).length = cs.length := List.length_map _
  have e2 : (ds.map byt).length = ds.length := List.length_map _
  rw [List.take_append_of_le_length (by omega), List.take_of_length_le (by omega), List.drop_zero, List.take_of_length_le (by omega), List.map_append, ← e1, ← List.drop_drop, List.drop_left]
theorem put_chr (cs : List Int32) (x : Int32) (r : List Value) (hl : 1 ≤ r.length) : (cs.map byt ++ r).set cs.length (byt x) = (cs ++ [x]).map byt ++ r.drop 1 := by
  have e1 : (cs.map byt).length = cs.length := List.length_map _
  cases r with
  | nil => simp at hl
  | cons v r => rw [List.set_append_right _ _ (by omega), e1, Nat.sub_self]; simp
theorem keep2 {h2 : Heap} (K : Keep h h' [b]) (K' : Keep h' h2 [a]) : Keep h h2 [a, b] :=
  Keep.trans (ws := [a, b]) ⟨K.1, fun x c q r => K.2.1 x c q (fun z => r (by cases List.mem_singleton.mp z; simp)), K.2.2⟩ K' (by simp)
theorem keep2' {h2 : Heap} (K : Keep h h' [a]) (K' : Keep h' h2 [b]) : Keep h h2 [a, b] :=
  Keep.trans (ws := [a, b]) ⟨K.1, fun x c q r => K.2.1 x c q (fun z => r (by cases List.mem_singleton.mp z; simp)), K.2.2⟩ K' (by simp)
end Builder
end Jvm.Road
namespace Jvm.Road
open Jvm Jvm.ClassFile Sem Op Lib Jvm.Free Jvm.Stand Jvm.LawKit Jvm.RoadKit Bundle
/-- a method's class is no interface, by another method of the same class -/
theorem notFace_sib {args : Array Value} {s : State} {C : String} {y z : MethodName} (hsel : (Jvm.Cond.selects C y y).before args s = true) (e : z.cls = y.cls) : NotFace s z := fun r0 h0 => by
  obtain ⟨c2, r2, m2, q1, q2, q3, q4, kP, hkP, hkPi⟩ := Cond.selects_spec hsel
  have e1 := findClass_of_methodNamed h0
  have e2 := findClass_of_methodNamed q3
  rw [e] at e1
  have e3 := Option.some.inj (e1.symm.trans e2)
  exact ⟨kP, by rw [e3]; exact hkP, hkPi⟩
theorem same_of {args : Array Value} {s : State} {y : MethodName} (hi : (Jvm.Cond.instanceMethod y).before args s = true) (nf : NotFace s y) (hy : y.cls ≠ "java/lang/invoke/MethodHandle" ∧ y.cls ≠ "java/lang/invoke/VarHandle") : (Jvm.Cond.sameMethod y.cls y.cls y.name y.desc).before args s = true := by
  obtain ⟨mk, meth, hnamed, -⟩ := Cond.instanceMethod_spec hi
  have h1 := findClass_of_methodNamed hnamed
  have h2 := State.methodFound?_of_named hnamed hy
  obtain ⟨kr, hk, hni⟩ := nf _ hnamed
  simp [Cond.before, Cond.holds, Cond.value, h1, h2, hnamed, hk, hni]
section Calls2
variable {l : Launch} {Z : State} {a0 : Array Value} {EL : List (String × Nat)} {n0 : Nat} {kn : Bool} {B B' : Bdy} {D : Dyn} {Q Q' : Post} {h : Heap} {σ : Addr → Prop} {ce sl : Nat} {Ls : Array Slot} {st : List Value} {a : Addr}
/-- a private method by invokevirtual -/
theorem callP (pc : Nat) {ix : Nat} {argsL rest : List Value} (C : String) (W : Nat) (hd : decode B.bs pc = .ok (.invokevirtual ix, 3)) (w1 : (Jvm.Cond.methodLink B.y.cls ix B'.y).before a0 Z = true) (w2 : (Jvm.Cond.privateMethod B'.y).before a0 Z = true) (w5 : (Jvm.Cond.selects C B'.y B'.y).before a0 Z = true) (w6 : (Jvm.Cond.instanceMethod B'.y).before a0 Z = true) (w3 : (Jvm.Cond.initialized B'.y.cls).before a0 Z = true) (w4 : (Jvm.Cond.code B'.y B'.bs B'.ml B'.rt).before a0 Z = true) (hy : notMH B'.y)
    (E : Exa Z h a C) (hM : Con l Z EL n0 kn B' [] σ (.ref a :: argsL).toArray h Q') (hlen : ∀ sig, parseMethodDescriptor B'.y.desc = some sig → argsL.length = sig.parameters.length) (hst : st = argsL.reverse ++ .ref a :: rest) (hW : (rest.map fun v => v.category).sum = W) (hsz : Ls.size = B.ml)
    (hf : B'.rm.frames + 1 ≤ B.rm.frames) (hl : W + (B'.ml + 11) + B'.rm.locals ≤ B.rm.locals) {ce' sl' : Nat} (hce : ce + B'.rm.cells = ce') (hsl : sl + B'.rm.slots = sl') (hc : ce' ≤ B.rm.cells) (hs : sl' ≤ B.rm.slots)
    (r : ∀ v h' σ', (∀ x, σ x → σ' x) → Q' v h' σ' → Go l Z a0 EL n0 kn B D Q h' σ' ce' sl' (pc + 3) Ls (push v rest)) : Go l Z a0 EL n0 kn B D Q h σ ce sl pc Ls st := by
  subst hce hsl
  refine called W hM w4 w3 hf hl hc hs (fun T vm0 locs X h1 h4 h5 ok {Pre Pst} hB hpre => ?_) r
  obtain ⟨mk, methM, hnamed, hmethM, hstM, habM⟩ := Cond.instanceMethod_spec (mv (s := D.s.setVm vm0) (args := D.args) h4 w6)
  obtain ⟨methM', cM, hmethM', -, -, -, -, -, -, hsigM⟩ := Cond.code_spec hnamed (mv (s := D.s.setVm vm0) (args := D.args) h4 w4)
  cases hmethM.symm.trans hmethM'
  obtain ⟨c2, r2, m2, -, -, q3, -, kP, hkP, hkPi⟩ := Cond.selects_spec (mv (s := D.s.setVm vm0) (args := D.args) h4 w5)
  cases hnamed.symm.trans q3
  have hpriv := Cond.privateMethod_at (mvP (s := D.s.setVm vm0) (args := D.args) h4 w2)
  obtain ⟨cell, k, hcell, -, -, hns, -⟩ := E
  have hselP : selectMethod D.e.platform (D.s.setVm vm0).vm cell.cls mk = .method mk := selectMethod_private hmethM (hpriv mk methM hnamed hmethM)
  obtain ⟨vm₁, X₁, hstep₁⟩ := X.invokevirtual ok.1 (s := D.s.setVm vm0) h5 (mv (s := D.s.setVm vm0) h4 w1) hnamed hmethM hstM hkP hkPi hy (a := a) (cell := cell) (by rw [h1]; exact hcell) (fun q e => by rw [e] at hns; cases hns) hselP hmethM habM hkP hkPi (g := mkF D.m pc Ls st) rfl (argsL := argsL) (rest := rest) (hlen _ hsigM) hst (Jvm.hb ok.2.1 hd)
  obtain ⟨v, Bp, X', hS, hgr, hpost, hsteps⟩ := hB D.m D.meth D.c ⟨T.setVm vm₁, locs, ce, sl⟩ { mkF D.m pc Ls st with stack := rest } (.invokevirtual ix) mk (.ref a :: argsL).toArray X₁ rfl (hsz.trans ok.2.2.1.symm) (Jvm.hb ok.2.1 hd) (by show 2 * 0 + _ ≤ _; rw [hW]; omega) (X₁.named hnamed) (hpre vm₁ X₁.warmed)
  exact ⟨v, vm₁, Bp, X₁.warmed, X', hS, hgr, hpost, (hstep₁ _ fun acts => by rw [doInvoke_state]; exact Steps.refl _).trans hsteps⟩
/-- super.m(..) -/
theorem callUp (pc : Nat) {ix : Nat} {argsL rest : List Value} (C : String) (W : Nat) (hd : decode B.bs pc = .ok (.invokespecial ix, 3)) (w1 : (Jvm.Cond.methodLink B.y.cls ix B'.y).before a0 Z = true) (nf : NotFace Z B'.y) (w6 : (Jvm.Cond.instanceMethod B'.y).before a0 Z = true) (w7 : (Jvm.Cond.superclass B.y.cls B'.y.cls).before a0 Z = true) (w3 : (Jvm.Cond.initialized B'.y.cls).before a0 Z = true) (w4 : (Jvm.Cond.code B'.y B'.bs B'.ml B'.rt).before a0 Z = true) (hn : B'.y.name ≠ "<init>") (hy : notMH B'.y)
    (E : Exa Z h a C) (hM : Con l Z EL n0 kn B' [] σ (.ref a :: argsL).toArray h Q') (hlen : ∀ sig, parseMethodDescriptor B'.y.desc = some sig → argsL.length = sig.parameters.length) (hst : st = argsL.reverse ++ .ref a :: rest) (hW : (rest.map fun v => v.category).sum = W) (hsz : Ls.size = B.ml)
    (hf : B'.rm.frames + 1 ≤ B.rm.frames) (hl : W + (B'.ml + 11) + B'.rm.locals ≤ B.rm.locals) {ce' sl' : Nat} (hce : ce + B'.rm.cells = ce') (hsl : sl + B'.rm.slots = sl') (hc : ce' ≤ B.rm.cells) (hs : sl' ≤ B.rm.slots)
    (r : ∀ v h' σ', (∀ x, σ x → σ' x) → Q' v h' σ' → Go l Z a0 EL n0 kn B D Q h' σ' ce' sl' (pc + 3) Ls (push v rest)) : Go l Z a0 EL n0 kn B D Q h σ ce sl pc Ls st := by
  subst hce hsl
  exact called W hM w4 w3 hf hl hc hs (fun T vm0 locs X h1 h4 h5 ok {Pre Pst} hB hpre =>
    superBackS X ok.1 (s := D.s.setVm vm0) h4 h5 w1 (same_of w6 nf hy) w6 w7 hn hB h1 (Ins.self E) (g := mkF D.m pc Ls st) rfl (hsz.trans ok.2.2.1.symm) w4 (argsL := argsL) (rest := rest) hlen hst (by show 2 * 0 + _ ≤ _; rw [hW]; omega) (Jvm.hb ok.2.1 hd) hpre) r
end Calls2
end Jvm.Road
namespace Jvm.Pilot.@@N@@
open Jvm Jvm.ClassFile Sem Op Lib Jvm.Free Jvm.Stand Jvm.LawKit Jvm.RoadKit Bundle Jvm.Pilot.@@N@@.Jvm.D
set_option maxRecDepth 65536
def bCmp5 : Road.Bdy := (⟨"java/lang/StringUTF16", "compress", "([CI[BII)I"⟩, jdk_52_method_21_code, 7, (some .int), { frames := 0, cells := 0, slots := 0, locals := 0 })
theorem bCmp5_d0 : decode bCmp5.bs 0 = .ok (.iconst 0, 1) := by decide +kernel
theorem bCmp5_d1 : decode bCmp5.bs 1 = .ok (.istore 5, 2) := by decide +kernel
theorem bCmp5_d3 : decode bCmp5.bs 3 = .ok (.iload 5, 2) := by decide +kernel
theorem bCmp5_d5 : decode bCmp5.bs 5 = .ok (.iload 4, 2) := by decide +kernel
theorem bCmp5_d7 : decode bCmp5.bs 7 = .ok (.if_icmp .ge 37, 3) := by decide +kernel
theorem bCmp5_d10 : decode bCmp5.bs 10 = .ok (.aload_n 0, 1) := by decide +kernel
theorem bCmp5_d11 : decode bCmp5.bs 11 = .ok (.iload_n 1, 1) := by decide +kernel
theorem bCmp5_d12 : decode bCmp5.bs 12 = .ok (.caload, 1) := by decide +kernel
theorem bCmp5_d13 : decode bCmp5.bs 13 = .ok (.istore 6, 2) := by decide +kernel
theorem bCmp5_d15 : decode bCmp5.bs 15 = .ok (.iload 6, 2) := by decide +kernel
theorem bCmp5_d17 : decode bCmp5.bs 17 = .ok (.sipush 255, 3) := by decide +kernel
theorem bCmp5_d20 : decode bCmp5.bs 20 = .ok (.if_icmp .le 6, 3) := by decide +kernel
theorem bCmp5_d23 : decode bCmp5.bs 23 = .ok (.iload 5, 2) := by decide +kernel
theorem bCmp5_d25 : decode bCmp5.bs 25 = .ok (.ireturn, 1) := by decide +kernel
theorem bCmp5_d26 : decode bCmp5.bs 26 = .ok (.aload_n 2, 1) := by decide +kernel
theorem bCmp5_d27 : decode bCmp5.bs 27 = .ok (.iload_n 3, 1) := by decide +kernel
theorem bCmp5_d28 : decode bCmp5.bs 28 = .ok (.iload 6, 2) := by decide +kernel
theorem bCmp5_d30 : decode bCmp5.bs 30 = .ok (.i2b, 1) := by decide +kernel
theorem bCmp5_d31 : decode bCmp5.bs 31 = .ok (.bastore, 1) := by decide +kernel
theorem bCmp5_d32 : decode bCmp5.bs 32 = .ok (.iinc 1 1, 3) := by decide +kernel
theorem bCmp5_d35 : decode bCmp5.bs 35 = .ok (.iinc 3 1, 3) := by decide +kernel
theorem bCmp5_d38 : decode bCmp5.bs 38 = .ok (.iinc 5 1, 3) := by decide +kernel
theorem bCmp5_d41 : decode bCmp5.bs 41 = .ok (.goto (-38), 3) := by decide +kernel
theorem bCmp5_d44 : decode bCmp5.bs 44 = .ok (.iload 4, 2) := by decide +kernel
theorem bCmp5_d46 : decode bCmp5.bs 46 = .ok (.ireturn, 1) := by decide +kernel
theorem bCmp5_pd : parseMethodDescriptor "([CI[BII)I" = some ⟨[(.array .char), .int, (.array .byte), .int, .int], (some .int)⟩ := by decide +kernel
theorem bCmp5_pn : plainFor bCmp5.y = true := plainFor_of_name (show plainName "java/lang/StringUTF16" = true from by first | (simp [plainName, overriddenIn]; done) | decide +kernel)
theorem cCmp5 (l : Launch) (Z : State) (a0 : Array Value) (hw : ∀ d ∈ tables_1, d.before a0 Z = true) (n0 : Nat) (hEW : EW Z a0 consts_1) (b d : Addr) (cs : List Int32) (h0 : Heap) (σ : Addr → Prop) (A : Road.Ary Z h0 b .char (cs.map .int)) (Dd : Road.Ary Z h0 d .byte (List.replicate cs.length (.int 0))) (hlat : ∀ c ∈ cs, 0 ≤ c.toInt ∧ c.toInt < 256) (hbd : b ≠ d) (sd : σ d) :
    Road.Con l Z consts_1 n0 false bCmp5 [] σ #[(.ref b), (.int (0 : Int32)), (.ref d), (.int (0 : Int32)), (.int (Nat.toInt32 cs.length))] h0 (fun v h2 _ => v = some (.int (Nat.toInt32 cs.length)) ∧ Keep h0 h2 [d] ∧ Road.Ary Z h2 d .byte (cs.map Road.byt)) := by
  refine Road.Con.of bCmp5_pn hEW #[.val (.ref b), .val (.int (0 : Int32)), .val (.ref d), .val (.int (0 : Int32)), .val (.int (Nat.toInt32 cs.length)), .unset, .unset] (fun m => Road.ent (Road.laid1 rfl (Road.laid1 rfl (Road.laid1 rfl (Road.laid1 rfl (Road.laid1 rfl Road.laid0))))) (k := 2) rfl rfl) ?_
  intro D hD
  have hn : cs.length < 2147483648 := by have := A.small; rwa [List.length_map] at this
  refine Road.iconst 0 (0 : Int32) bCmp5_d0 rfl ?_
  refine Road.istore 1 #[.val (.ref b), .val (.int (0 : Int32)), .val (.ref d), .val (.int (0 : Int32)), .val (.int (Nat.toInt32 cs.length)), .val (.int (0 : Int32)), .unset] bCmp5_d1 rfl ?_
  have loop : ∀ r k, k + r = cs.length → ∀ (h : Heap) (w : Slot), Road.W1 w → Keep h0 h [d] → Road.Ary Z h d .byte ((cs.take k).map Road.byt ++ List.replicate r (.int 0)) → Road.Go l Z a0 consts_1 n0 false bCmp5 D (fun v h2 _ => v = some (.int (Nat.toInt32 cs.length)) ∧ Keep h0 h2 [d] ∧ Road.Ary Z h2 d .byte (cs.map Road.byt)) h σ 0 0 3 #[.val (.ref b), .val (.int (Nat.toInt32 k)), .val (.ref d), .val (.int (Nat.toInt32 k)), .val (.int (Nat.toInt32 cs.length)), .val (.int (Nat.toInt32 k)), w] [] := by
    intro r
    induction r with
    | zero =>
      intro k hk h w hw1 K1 A1
      have hk' : k = cs.length := by omega
      subst hk'
      refine Road.iload 3 bCmp5_d3 rfl ?_
      refine Road.iload 5 bCmp5_d5 rfl ?_
      refine Road.icmp_ge 7 44 bCmp5_d7 rfl (fun hc7 => ?_) (fun q => absurd q Int32.lt_irrefl)
      refine Road.iload 44 bCmp5_d44 rfl ?_
      exact Road.iretI 46 bCmp5_d46 rfl (by decide) (by decide) (fun σ' m => ⟨rfl, K1, by simpa using A1⟩)
    | succ r ih =>
      intro k hk h w hw1 K1 A1
      have hk' : k < cs.length := by omega
      have hc := hlat _ (List.getElem_mem hk')
      have A2 := A.keep K1 (ninS hbd nin0)
      refine Road.iload 3 bCmp5_d3 rfl ?_
      refine Road.iload 5 bCmp5_d5 rfl ?_
      refine Road.icmp_ge 7 44 bCmp5_d7 rfl (fun q => absurd q (by rw [Decidable.not_not, Road.lt32 (by omega) hn]; omega)) (fun hc7 => ?_)
      refine Road.aloadN 10 bCmp5_d10 rfl ?_
      refine Road.iloadN 11 bCmp5_d11 rfl ?_
      refine Road.caload 12 k bCmp5_d12 A2 (Road.n32 (by omega)) (by rw [List.getElem?_map, List.getElem?_eq_getElem hk']; rfl) ?_
      refine Road.istore 13 #[.val (.ref b), .val (.int (Nat.toInt32 k)), .val (.ref d), .val (.int (Nat.toInt32 k)), .val (.int (Nat.toInt32 cs.length)), .val (.int (Nat.toInt32 k)), .val (.int cs[k])] bCmp5_d13 (by rcases hw1 with rfl | ⟨x, rfl⟩ <;> rfl) ?_
      refine Road.iload 15 bCmp5_d15 rfl ?_
      refine Road.sipush 17 (255 : Int32) bCmp5_d17 rfl ?_
      refine Road.icmp_le 20 26 bCmp5_d20 rfl (fun hc20 => ?_) (fun q => absurd q (by rw [Int32.lt_iff_toInt_lt]; have : (255 : Int32).toInt = 255 := rfl; omega))
      refine Road.aloadN 26 bCmp5_d26 rfl ?_
      refine Road.iloadN 27 bCmp5_d27 rfl ?_
      refine Road.iload 28 bCmp5_d28 rfl ?_
      refine Road.i2b 30 bCmp5_d30 ?_
      refine Road.bastore 31 k (Int8.toInt32 (Int32.toInt8 cs[k])) bCmp5_d31 A1 (Road.n32 (by omega)) (by simp; omega) (Road.nar_byte _) sd ?_
      intro h_1 K_2 A_3
      replace A1 := A_3
      refine Road.iinc 32 (1) #[.val (.ref b), .val (.int ((Nat.toInt32 k) + 1)), .val (.ref d), .val (.int (Nat.toInt32 k)), .val (.int (Nat.toInt32 cs.length)), .val (.int (Nat.toInt32 k)), .val (.int cs[k])] bCmp5_d32 rfl rfl rfl ?_
      refine Road.iinc 35 (1) #[.val (.ref b), .val (.int ((Nat.toInt32 k) + 1)), .val (.ref d), .val (.int ((Nat.toInt32 k) + 1)), .val (.int (Nat.toInt32 cs.length)), .val (.int (Nat.toInt32 k)), .val (.int cs[k])] bCmp5_d35 rfl rfl rfl ?_
      refine Road.iinc 38 (1) #[.val (.ref b), .val (.int ((Nat.toInt32 k) + 1)), .val (.ref d), .val (.int ((Nat.toInt32 k) + 1)), .val (.int (Nat.toInt32 cs.length)), .val (.int ((Nat.toInt32 k) + 1)), .val (.int cs[k])] bCmp5_d38 rfl rfl rfl ?_
      refine Road.goto 41 3 bCmp5_d41 rfl ?_
      rw [show (Value.int (Int8.toInt32 (Int32.toInt8 cs[k]))) = Road.byt cs[k] from rfl, Road.set_mid] at A1
      have := ih (k + 1) (by omega) h_1 (.val (.int cs[k])) (Or.inr ⟨_, rfl⟩) (K1.trans K_2 (by simp)) A1
      rw [← Road.succ32] at this
      exact this
  exact loop cs.length 0 (by omega) h0 .unset (Or.inl rfl) (Keep.refl _ _) (by simpa using Dd)
def bCfa : Road.Bdy := (⟨"java/lang/StringUTF16", "coderFromArrayLen", "([BI)B"⟩, jdk_52_method_15_code, 2, (some .byte), { frames := 0, cells := 0, slots := 0, locals := 0 })
theorem bCfa_d0 : decode bCfa.bs 0 = .ok (.iload_n 1, 1) := by decide +kernel
theorem bCfa_d1 : decode bCfa.bs 1 = .ok (.aload_n 0, 1) := by decide +kernel
theorem bCfa_d2 : decode bCfa.bs 2 = .ok (.arraylength, 1) := by decide +kernel
theorem bCfa_d3 : decode bCfa.bs 3 = .ok (.isub, 1) := by decide +kernel
theorem bCfa_d4 : decode bCfa.bs 4 = .ok (.bipush 31, 2) := by decide +kernel
theorem bCfa_d6 : decode bCfa.bs 6 = .ok (.iushr, 1) := by decide +kernel
theorem bCfa_d7 : decode bCfa.bs 7 = .ok (.i2b, 1) := by decide +kernel
theorem bCfa_d8 : decode bCfa.bs 8 = .ok (.ireturn, 1) := by decide +kernel
theorem bCfa_pd : parseMethodDescriptor "([BI)B" = some ⟨[(.array .byte), .int], (some .byte)⟩ := by decide +kernel
theorem bCfa_pn : plainFor bCfa.y = true := plainFor_of_name (show plainName "java/lang/StringUTF16" = true from by first | (simp [plainName, overriddenIn]; done) | decide +kernel)
theorem cCfa (l : Launch) (Z : State) (a0 : Array Value) (hw : ∀ d ∈ tables_1, d.before a0 Z = true) (n0 : Nat) (hEW : EW Z a0 consts_1) (d : Addr) (vs : List Value) (h0 : Heap) (σ : Addr → Prop) (A : Road.Ary Z h0 d .byte vs) :
    Road.Con l Z consts_1 n0 false bCfa [] σ #[(.ref d), (.int (Nat.toInt32 vs.length))] h0 (fun v h2 _ => v = some (.int 0) ∧ h0 = h2) := by
  refine Road.Con.of bCfa_pn hEW #[.val (.ref d), .val (.int (Nat.toInt32 vs.length))] (fun m => Road.ent (Road.laid1 rfl (Road.laid1 rfl Road.laid0)) (k := 0) rfl rfl) ?_
  intro D hD
  refine Road.iloadN 0 bCfa_d0 rfl ?_
  refine Road.aloadN 1 bCfa_d1 rfl ?_
  refine Road.alen 2 (Nat.toInt32 vs.length) bCfa_d2 A (n := vs.length) rfl rfl ?_
  refine Road.isub 3 bCfa_d3 ?_
  refine Road.bipush 4 (31 : Int32) bCfa_d4 rfl ?_
  refine Road.iushr 6 bCfa_d6 ?_
  refine Road.i2b 7 bCfa_d7 ?_
  exact Road.iret 8 0 bCfa_d8 (t := .byte) rfl (by simp) (by rw [Int32.sub_self]; rfl) (by decide) (by decide) (fun σ' m => ⟨rfl, rfl⟩)
def bCmp4 : Road.Bdy := (⟨"java/lang/StringUTF16", "compress", "([CII)[B"⟩, jdk_52_method_16_code, 6, (some (.array .byte)), { frames := 1, cells := 1, slots := 2, locals := 18 })
theorem bCmp4_d0 : decode bCmp4.bs 0 = .ok (.iload_n 2, 1) := by decide +kernel
theorem bCmp4_d1 : decode bCmp4.bs 1 = .ok (.newarray .byte, 2) := by decide +kernel
theorem bCmp4_d3 : decode bCmp4.bs 3 = .ok (.astore_n 3, 1) := by decide +kernel
theorem bCmp4_d4 : decode bCmp4.bs 4 = .ok (.aload_n 0, 1) := by decide +kernel
theorem bCmp4_d5 : decode bCmp4.bs 5 = .ok (.iload_n 1, 1) := by decide +kernel
theorem bCmp4_d6 : decode bCmp4.bs 6 = .ok (.aload_n 3, 1) := by decide +kernel
theorem bCmp4_d7 : decode bCmp4.bs 7 = .ok (.iconst 0, 1) := by decide +kernel
theorem bCmp4_d8 : decode bCmp4.bs 8 = .ok (.iload_n 2, 1) := by decide +kernel
theorem bCmp4_d9 : decode bCmp4.bs 9 = .ok (.invokestatic 115, 3) := by decide +kernel
theorem bCmp4_d12 : decode bCmp4.bs 12 = .ok (.istore 4, 2) := by decide +kernel
theorem bCmp4_d14 : decode bCmp4.bs 14 = .ok (.iload 4, 2) := by decide +kernel
theorem bCmp4_d16 : decode bCmp4.bs 16 = .ok (.iload_n 2, 1) := by decide +kernel
theorem bCmp4_d17 : decode bCmp4.bs 17 = .ok (.if_icmp .eq 40, 3) := by decide +kernel
theorem bCmp4_d20 : decode bCmp4.bs 20 = .ok (.aload_n 0, 1) := by decide +kernel
theorem bCmp4_d21 : decode bCmp4.bs 21 = .ok (.iload_n 1, 1) := by decide +kernel
theorem bCmp4_d22 : decode bCmp4.bs 22 = .ok (.iload_n 2, 1) := by decide +kernel
theorem bCmp4_d23 : decode bCmp4.bs 23 = .ok (.invokestatic 119, 3) := by decide +kernel
theorem bCmp4_d26 : decode bCmp4.bs 26 = .ok (.astore 5, 2) := by decide +kernel
theorem bCmp4_d28 : decode bCmp4.bs 28 = .ok (.aload 5, 2) := by decide +kernel
theorem bCmp4_d30 : decode bCmp4.bs 30 = .ok (.iload 4, 2) := by decide +kernel
theorem bCmp4_d32 : decode bCmp4.bs 32 = .ok (.invokestatic 71, 3) := by decide +kernel
theorem bCmp4_d35 : decode bCmp4.bs 35 = .ok (.sipush 255, 3) := by decide +kernel
theorem bCmp4_d38 : decode bCmp4.bs 38 = .ok (.if_icmp .gt 16, 3) := by decide +kernel
theorem bCmp4_d41 : decode bCmp4.bs 41 = .ok (.aload 5, 2) := by decide +kernel
theorem bCmp4_d43 : decode bCmp4.bs 43 = .ok (.iconst 0, 1) := by decide +kernel
theorem bCmp4_d44 : decode bCmp4.bs 44 = .ok (.aload_n 3, 1) := by decide +kernel
theorem bCmp4_d45 : decode bCmp4.bs 45 = .ok (.iconst 0, 1) := by decide +kernel
theorem bCmp4_d46 : decode bCmp4.bs 46 = .ok (.iload_n 2, 1) := by decide +kernel
theorem bCmp4_d47 : decode bCmp4.bs 47 = .ok (.invokestatic 123, 3) := by decide +kernel
theorem bCmp4_d50 : decode bCmp4.bs 50 = .ok (.iload_n 2, 1) := by decide +kernel
theorem bCmp4_d51 : decode bCmp4.bs 51 = .ok (.if_icmp .eq 6, 3) := by decide +kernel
theorem bCmp4_d54 : decode bCmp4.bs 54 = .ok (.aload 5, 2) := by decide +kernel
theorem bCmp4_d56 : decode bCmp4.bs 56 = .ok (.areturn, 1) := by decide +kernel
theorem bCmp4_d57 : decode bCmp4.bs 57 = .ok (.aload_n 3, 1) := by decide +kernel
theorem bCmp4_d58 : decode bCmp4.bs 58 = .ok (.areturn, 1) := by decide +kernel
theorem bCmp4_pd : parseMethodDescriptor "([CII)[B" = some ⟨[(.array .char), .int, .int], (some (.array .byte))⟩ := by decide +kernel
theorem bCmp4_pn : plainFor bCmp4.y = true := plainFor_of_name (show plainName "java/lang/StringUTF16" = true from by first | (simp [plainName, overriddenIn]; done) | decide +kernel)
theorem cCmp4 (l : Launch) (Z : State) (a0 : Array Value) (hw : ∀ d ∈ tables_1, d.before a0 Z = true) (n0 : Nat) (hEW : EW Z a0 consts_1) (b : Addr) (cs : List Int32) (h0 : Heap) (σ : Addr → Prop) (A : Road.Ary Z h0 b .char (cs.map .int)) (hcap : cs.length ≤ 2) (hlat : ∀ c ∈ cs, 0 ≤ c.toInt ∧ c.toInt < 256) :
    Road.Con l Z consts_1 n0 false bCmp4 [] σ #[(.ref b), (.int (0 : Int32)), (.int (Nat.toInt32 cs.length))] h0 (fun v h2 s2 => ∃ d, v = some (.ref d) ∧ h0.size ≤ d ∧ Keep h0 h2 [] ∧ s2 d ∧ Road.Ary Z h2 d .byte (cs.map Road.byt)) := by
  refine Road.Con.of bCmp4_pn hEW #[.val (.ref b), .val (.int (0 : Int32)), .val (.int (Nat.toInt32 cs.length)), .unset, .unset, .unset] (fun m => Road.ent (Road.laid1 rfl (Road.laid1 rfl (Road.laid1 rfl Road.laid0))) (k := 3) rfl rfl) ?_
  intro D hD
  refine Road.iloadN 0 bCmp4_d0 rfl ?_
  refine Road.newarray 1 .byte cs.length 2 bCmp4_d1 rfl (hw _ (List.mem_of_getElem? (i := 8) rfl)) (Road.n32 (by omega)) hcap (by decide) (ce' := 1) (sl' := 2) rfl rfl (by decide) (by decide) ?_
  intro d h_1 σ_2 g_3 K_4 lt_5 m_6 s_7 Ad
  have ne_b_d : b ≠ d := Nat.ne_of_lt (Nat.lt_of_lt_of_le A.lt (Nat.le_of_eq g_3.symm))
  replace A := A.keep K_4 nin0
  refine Road.astoreN 3 #[.val (.ref b), .val (.int (0 : Int32)), .val (.int (Nat.toInt32 cs.length)), .val (.ref d), .unset, .unset] bCmp4_d3 rfl ?_
  refine Road.aloadN 4 bCmp4_d4 rfl ?_
  refine Road.iloadN 5 bCmp4_d5 rfl ?_
  refine Road.aloadN 6 bCmp4_d6 rfl ?_
  refine Road.iconst 7 (0 : Int32) bCmp4_d7 rfl ?_
  refine Road.iloadN 8 bCmp4_d8 rfl ?_
  refine Road.callS (B' := bCmp5) 9 (argsL := [(.ref b), (.int (0 : Int32)), (.ref d), (.int (0 : Int32)), (.int (Nat.toInt32 cs.length))]) (rest := []) 0 bCmp4_d9 (hw _ (List.mem_of_getElem? (i := 238) rfl)) (hw _ (List.mem_of_getElem? (i := 239) rfl)) (hw _ (List.mem_of_getElem? (i := 236) rfl)) (hw _ (List.mem_of_getElem? (i := 240) rfl)) (by decide) (cCmp5 l Z a0 hw n0 hEW b d cs h_1 σ_2 A Ad hlat ne_b_d s_7) (lenOf bCmp5_pd rfl) rfl rfl rfl (by decide) (by decide) (ce' := 1) (sl' := 2) rfl rfl (by decide) (by decide) ?_
  rintro _ h_8 σ_9 m_10 ⟨rfl, K_11, Ad2⟩
  replace A := A.keep K_11 (ninS ne_b_d nin0)
  replace s_7 := m_10 _ s_7
  refine Road.istore 12 #[.val (.ref b), .val (.int (0 : Int32)), .val (.int (Nat.toInt32 cs.length)), .val (.ref d), .val (.int (Nat.toInt32 cs.length)), .unset] bCmp4_d12 rfl ?_
  refine Road.iload 14 bCmp4_d14 rfl ?_
  refine Road.iloadN 16 bCmp4_d16 rfl ?_
  refine Road.icmp_eq 17 57 bCmp4_d17 rfl (fun hc17 => ?_) (fun q => absurd q (by simp))
  refine Road.aloadN 57 bCmp4_d57 rfl ?_
  exact Road.aret 58 bCmp4_d58 (t := (.array .byte)) rfl rfl rfl (by decide) (by decide) (fun σ' m => ⟨d, rfl, Nat.le_of_eq g_3.symm, K_4.trans K_11 (by intro x hx; cases List.mem_singleton.mp hx; exact Or.inr (Nat.le_of_eq g_3.symm)), m _ s_7, Ad2⟩)
def bStr2 : Road.Bdy := (⟨"java/lang/String", "<init>", "([CIILjava/lang/Void;)V"⟩, jdk_42_method_149_code, 6, none, { frames := 2, cells := 1, slots := 2, locals := 39 })
theorem bStr2_d0 : decode bStr2.bs 0 = .ok (.aload_n 0, 1) := by decide +kernel
theorem bStr2_d1 : decode bStr2.bs 1 = .ok (.invokespecial 1, 3) := by decide +kernel
theorem bStr2_d4 : decode bStr2.bs 4 = .ok (.iload_n 3, 1) := by decide +kernel
theorem bStr2_d5 : decode bStr2.bs 5 = .ok (.ifCond .ne 22, 3) := by decide +kernel
theorem bStr2_d8 : decode bStr2.bs 8 = .ok (.aload_n 0, 1) := by decide +kernel
theorem bStr2_d9 : decode bStr2.bs 9 = .ok (.ldc 7, 2) := by decide +kernel
theorem bStr2_d11 : decode bStr2.bs 11 = .ok (.getfield 9, 3) := by decide +kernel
theorem bStr2_d14 : decode bStr2.bs 14 = .ok (.putfield 9, 3) := by decide +kernel
theorem bStr2_d17 : decode bStr2.bs 17 = .ok (.aload_n 0, 1) := by decide +kernel
theorem bStr2_d18 : decode bStr2.bs 18 = .ok (.ldc 7, 2) := by decide +kernel
theorem bStr2_d20 : decode bStr2.bs 20 = .ok (.getfield 15, 3) := by decide +kernel
theorem bStr2_d23 : decode bStr2.bs 23 = .ok (.putfield 15, 3) := by decide +kernel
theorem bStr2_d26 : decode bStr2.bs 26 = .ok (.return_, 1) := by decide +kernel
theorem bStr2_d27 : decode bStr2.bs 27 = .ok (.getstatic 38, 3) := by decide +kernel
theorem bStr2_d30 : decode bStr2.bs 30 = .ok (.ifCond .eq 28, 3) := by decide +kernel
theorem bStr2_d33 : decode bStr2.bs 33 = .ok (.aload_n 1, 1) := by decide +kernel
theorem bStr2_d34 : decode bStr2.bs 34 = .ok (.iload_n 2, 1) := by decide +kernel
theorem bStr2_d35 : decode bStr2.bs 35 = .ok (.iload_n 3, 1) := by decide +kernel
theorem bStr2_d36 : decode bStr2.bs 36 = .ok (.invokestatic 177, 3) := by decide +kernel
theorem bStr2_d39 : decode bStr2.bs 39 = .ok (.astore 5, 2) := by decide +kernel
theorem bStr2_d41 : decode bStr2.bs 41 = .ok (.aload_n 0, 1) := by decide +kernel
theorem bStr2_d42 : decode bStr2.bs 42 = .ok (.aload 5, 2) := by decide +kernel
theorem bStr2_d44 : decode bStr2.bs 44 = .ok (.iload_n 3, 1) := by decide +kernel
theorem bStr2_d45 : decode bStr2.bs 45 = .ok (.invokestatic 47, 3) := by decide +kernel
theorem bStr2_d48 : decode bStr2.bs 48 = .ok (.putfield 15, 3) := by decide +kernel
theorem bStr2_d51 : decode bStr2.bs 51 = .ok (.aload_n 0, 1) := by decide +kernel
theorem bStr2_d52 : decode bStr2.bs 52 = .ok (.aload 5, 2) := by decide +kernel
theorem bStr2_d54 : decode bStr2.bs 54 = .ok (.putfield 9, 3) := by decide +kernel
theorem bStr2_d57 : decode bStr2.bs 57 = .ok (.return_, 1) := by decide +kernel
theorem bStr2_d58 : decode bStr2.bs 58 = .ok (.aload_n 0, 1) := by decide +kernel
theorem bStr2_d59 : decode bStr2.bs 59 = .ok (.iconst 1, 1) := by decide +kernel
theorem bStr2_d60 : decode bStr2.bs 60 = .ok (.putfield 15, 3) := by decide +kernel
theorem bStr2_d63 : decode bStr2.bs 63 = .ok (.aload_n 0, 1) := by decide +kernel
theorem bStr2_d64 : decode bStr2.bs 64 = .ok (.aload_n 1, 1) := by decide +kernel
theorem bStr2_d65 : decode bStr2.bs 65 = .ok (.iload_n 2, 1) := by decide +kernel
theorem bStr2_d66 : decode bStr2.bs 66 = .ok (.iload_n 3, 1) := by decide +kernel
theorem bStr2_d67 : decode bStr2.bs 67 = .ok (.invokestatic 180, 3) := by decide +kernel
theorem bStr2_d70 : decode bStr2.bs 70 = .ok (.putfield 9, 3) := by decide +kernel
theorem bStr2_d73 : decode bStr2.bs 73 = .ok (.return_, 1) := by decide +kernel
theorem bStr2_pd : parseMethodDescriptor "([CIILjava/lang/Void;)V" = some ⟨[(.array .char), .int, .int, (.object "java/lang/Void")], none⟩ := by decide +kernel
theorem bStr2_pn : plainFor bStr2.y = true := plainFor_of_name (show plainName "java/lang/String" = true from by first | (simp [plainName, overriddenIn]; done) | decide +kernel)
theorem cStr2 (l : Launch) (Z : State) (a0 : Array Value) (hw : ∀ d ∈ tables_1, d.before a0 Z = true) (n0 : Nat) (hEW : EW Z a0 consts_1) (a b : Addr) (cs : List Int32) (h0 : Heap) (σ : Addr → Prop) (E : Exa Z h0 a Road.SN) (Fc : Fld Z h0 a Road.SN "coder" "B" (.int 0)) (Fv : Fld Z h0 a Road.SN "value" "[B" .null) (A : Road.Ary Z h0 b .char (cs.map .int)) (hcap : cs.length ≤ 2) (hlat : ∀ c ∈ cs, 0 ≤ c.toInt ∧ c.toInt < 256) (sa : σ a) (cp : Int32) (Hc : Sta Z Z.heap Road.SN "COMPACT_STRINGS" "Z" (.int cp)) (hcp : ¬ cp = 0) (hne0 : cs ≠ []) :
    Road.Con l Z consts_1 n0 false bStr2 [] σ #[(.ref a), (.ref b), (.int (0 : Int32)), (.int (Nat.toInt32 cs.length)), .null] h0 (fun v h2 s2 => v = none ∧ Keep h0 h2 [a] ∧ ∃ d, Road.Str Z h2 a d cs ∧ ∀ x, σ x → x ≠ d) := by
  have nab : a ≠ b := by obtain ⟨c, Ar, -⟩ := A; exact ne_arr E (hw _ (List.mem_of_getElem? (i := 7) rfl)) Ar
  refine Road.Con.of bStr2_pn hEW #[.val (.ref a), .val (.ref b), .val (.int (0 : Int32)), .val (.int (Nat.toInt32 cs.length)), .val .null, .unset] (fun m => Road.ent (Road.laid1 rfl (Road.laid1 rfl (Road.laid1 rfl (Road.laid1 rfl (Road.laid1 rfl Road.laid0))))) (k := 1) rfl rfl) ?_
  intro D hD
  refine Road.Go.ownAll ?_
  intro hall
  refine Road.aloadN 0 bStr2_d0 rfl ?_
  refine Road.initObj 1 bStr2_d1 (hw _ (List.mem_of_getElem? (i := 58) rfl)) (hw _ (List.mem_of_getElem? (i := 20) rfl)) (hw _ (List.mem_of_getElem? (i := 21) rfl)) 0 rfl rfl (by decide) (by decide) ?_
  refine Road.iloadN 4 bStr2_d4 rfl ?_
  refine Road.if_ne 5 27 bStr2_d5 rfl (fun hc5 => ?_) (fun hc5 => ?_)
  · skip
    refine Road.getstatic 27 bStr2_d27 (hw _ (List.mem_of_getElem? (i := 45) rfl)) Via.refl Hc ?_
    refine Road.if_eq 30 58 bStr2_d30 rfl (fun q => absurd q hcp) (fun hc30 => ?_)
    refine Road.aloadN 33 bStr2_d33 rfl ?_
    refine Road.iloadN 34 bStr2_d34 rfl ?_
    refine Road.iloadN 35 bStr2_d35 rfl ?_
    refine Road.callS (B' := bCmp4) 36 (argsL := [(.ref b), (.int (0 : Int32)), (.int (Nat.toInt32 cs.length))]) (rest := []) 0 bStr2_d36 (hw _ (List.mem_of_getElem? (i := 234) rfl)) (hw _ (List.mem_of_getElem? (i := 235) rfl)) (hw _ (List.mem_of_getElem? (i := 236) rfl)) (hw _ (List.mem_of_getElem? (i := 237) rfl)) (by decide) (cCmp4 l Z a0 hw n0 hEW b cs h0 σ A hcap hlat) (lenOf bCmp4_pd rfl) rfl rfl rfl (by decide) (by decide) (ce' := 1) (sl' := 2) rfl rfl (by decide) (by decide) ?_
    rintro _ h_1 σ_2 m_3 ⟨d, rfl, gd, K_4, sd, Ad⟩
    have ne_a_d : a ≠ d := Nat.ne_of_lt (Nat.lt_of_lt_of_le E.lt gd)
    have ne_b_d : b ≠ d := Nat.ne_of_lt (Nat.lt_of_lt_of_le A.lt gd)
    replace E := E.keep K_4
    replace Fc := Fc.keep K_4 nin0
    replace Fv := Fv.keep K_4 nin0
    replace A := A.keep K_4 nin0
    replace sa := m_3 _ sa
    refine Road.astore 39 #[.val (.ref a), .val (.ref b), .val (.int (0 : Int32)), .val (.int (Nat.toInt32 cs.length)), .val .null, .val (.ref d)] bStr2_d39 rfl ?_
    refine Road.aloadN 41 bStr2_d41 rfl ?_
    refine Road.aload 42 bStr2_d42 rfl ?_
    refine Road.iloadN 44 bStr2_d44 rfl ?_
    have hlm : (cs.map Road.byt).length = cs.length := List.length_map _
    refine Road.callS (B' := bCfa) 45 (argsL := [(.ref d), (.int (Nat.toInt32 cs.length))]) (rest := [(.ref a)]) 1 bStr2_d45 (hw _ (List.mem_of_getElem? (i := 241) rfl)) (hw _ (List.mem_of_getElem? (i := 242) rfl)) (hw _ (List.mem_of_getElem? (i := 236) rfl)) (hw _ (List.mem_of_getElem? (i := 243) rfl)) (by decide) (by rw [← List.length_map (f := Road.byt) (as := cs)]; exact cCfa l Z a0 hw n0 hEW d (cs.map Road.byt) h_1 σ_2 Ad) (lenOf bCfa_pd rfl) rfl rfl rfl (by decide) (by decide) (ce' := 1) (sl' := 2) rfl rfl (by decide) (by decide) ?_
    rintro _ h_5 σ_6 m_7 ⟨rfl, rfl⟩
    refine Road.Go.weaken (σ' := σ_2) m_7 (Nat.le_refl _) (Nat.le_refl _) ?_
    refine Road.putfield 48 bStr2_d48 (hw _ (List.mem_of_getElem? (i := 60) rfl)) Via.refl Fc E (Or.inr ⟨(hw _ (List.mem_of_getElem? (i := 10) rfl)), rfl, rfl⟩) (hw _ (List.mem_of_getElem? (i := 7) rfl)) (ty := .byte) (by decide) rfl rfl sa ?_
    intro h_11 W_9 K_10
    replace Fc := Fc.same W_9
    replace Fv := Fv.other W_9 (Or.inr (slot_ne (Or.inr (hw _ (List.mem_of_getElem? (i := 9) rfl))) (Or.inr (hw _ (List.mem_of_getElem? (i := 10) rfl))) (by decide) (t := (.array .byte)) (by decide) (t' := .byte) (by decide)))
    replace E := E.keep K_10
    replace A := A.keep K_10 (ninS (Ne.symm nab) nin0)
    replace Ad := Ad.keep K_10 (ninS (Ne.symm ne_a_d) nin0)
    refine Road.aloadN 51 bStr2_d51 rfl ?_
    refine Road.aload 52 bStr2_d52 rfl ?_
    refine Road.putfield 54 bStr2_d54 (hw _ (List.mem_of_getElem? (i := 59) rfl)) Via.refl Fv E (Or.inr ⟨(hw _ (List.mem_of_getElem? (i := 9) rfl)), rfl, rfl⟩) (hw _ (List.mem_of_getElem? (i := 7) rfl)) (ty := (.array .byte)) (by decide) rfl rfl sa ?_
    intro h_14 W_12 K_13
    replace Fv := Fv.same W_12
    replace Fc := Fc.other W_12 (Or.inr (slot_ne (Or.inr (hw _ (List.mem_of_getElem? (i := 10) rfl))) (Or.inr (hw _ (List.mem_of_getElem? (i := 9) rfl))) (by decide) (t := .byte) (by decide) (t' := (.array .byte)) (by decide)))
    replace E := E.keep K_13
    replace A := A.keep K_13 (ninS (Ne.symm nab) nin0)
    replace Ad := Ad.keep K_13 (ninS (Ne.symm ne_a_d) nin0)
    exact Road.ret 57 bStr2_d57 rfl (by decide) (by decide) (fun σ' m => ⟨rfl, ((Road.keep_more K_4).trans K_10 (by simp)).trans K_13 (by simp), d, ⟨E, Fc, Fv, Ad, hlat⟩, fun x hx => Nat.ne_of_lt (Nat.lt_of_lt_of_le (hall x hx).2 gd)⟩)
  · skip
    exact absurd (List.eq_nil_of_length_eq_zero (by have := (Road.eq32 (i := cs.length) (j := 0) (by omega) (by omega)).mp hc5; exact this)) hne0
def bStr1 : Road.Bdy := (⟨"java/lang/String", "<init>", "([C)V"⟩, jdk_42_method_3_code, 2, none, { frames := 3, cells := 1, slots := 2, locals := 56 })
theorem bStr1_d0 : decode bStr1.bs 0 = .ok (.aload_n 0, 1) := by decide +kernel
theorem bStr1_d1 : decode bStr1.bs 1 = .ok (.aload_n 1, 1) := by decide +kernel
theorem bStr1_d2 : decode bStr1.bs 2 = .ok (.iconst 0, 1) := by decide +kernel
theorem bStr1_d3 : decode bStr1.bs 3 = .ok (.aload_n 1, 1) := by decide +kernel
theorem bStr1_d4 : decode bStr1.bs 4 = .ok (.arraylength, 1) := by decide +kernel
theorem bStr1_d5 : decode bStr1.bs 5 = .ok (.aconst_null, 1) := by decide +kernel
theorem bStr1_d6 : decode bStr1.bs 6 = .ok (.invokespecial 27, 3) := by decide +kernel
theorem bStr1_d9 : decode bStr1.bs 9 = .ok (.return_, 1) := by decide +kernel
theorem bStr1_pd : parseMethodDescriptor "([C)V" = some ⟨[(.array .char)], none⟩ := by decide +kernel
theorem bStr1_pn : plainFor bStr1.y = true := plainFor_of_name (show plainName "java/lang/String" = true from by first | (simp [plainName, overriddenIn]; done) | decide +kernel)
theorem cStr1 (l : Launch) (Z : State) (a0 : Array Value) (hw : ∀ d ∈ tables_1, d.before a0 Z = true) (n0 : Nat) (hEW : EW Z a0 consts_1) (a b : Addr) (cs : List Int32) (h0 : Heap) (σ : Addr → Prop) (E : Exa Z h0 a Road.SN) (Fc : Fld Z h0 a Road.SN "coder" "B" (.int 0)) (Fv : Fld Z h0 a Road.SN "value" "[B" .null) (A : Road.Ary Z h0 b .char (cs.map .int)) (hcap : cs.length ≤ 2) (hlat : ∀ c ∈ cs, 0 ≤ c.toInt ∧ c.toInt < 256) (sa : σ a) (cp : Int32) (Hc : Sta Z Z.heap Road.SN "COMPACT_STRINGS" "Z" (.int cp)) (hcp : ¬ cp = 0) (hne0 : cs ≠ []) :
    Road.Con l Z consts_1 n0 false bStr1 [] σ #[(.ref a), (.ref b)] h0 (fun v h2 s2 => v = none ∧ Keep h0 h2 [a] ∧ ∃ d, Road.Str Z h2 a d cs ∧ ∀ x, σ x → x ≠ d) := by
  refine Road.Con.of bStr1_pn hEW #[.val (.ref a), .val (.ref b)] (fun m => Road.ent (Road.laid1 rfl (Road.laid1 rfl Road.laid0)) (k := 0) rfl rfl) ?_
  intro D hD
  refine Road.aloadN 0 bStr1_d0 rfl ?_
  refine Road.aloadN 1 bStr1_d1 rfl ?_
  refine Road.iconst 2 (0 : Int32) bStr1_d2 rfl ?_
  refine Road.aloadN 3 bStr1_d3 rfl ?_
  refine Road.alen 4 (Nat.toInt32 cs.length) bStr1_d4 A (n := cs.length) (List.length_map _) rfl ?_
  refine Road.aconstNull 5 bStr1_d5 ?_
  refine Road.callI (B' := bStr2) (a := a) 6 (argsL := [(.ref b), (.int (0 : Int32)), (.int (Nat.toInt32 cs.length)), .null]) (rest := []) 0 bStr1_d6 (hw _ (List.mem_of_getElem? (i := 231) rfl)) (hw _ (List.mem_of_getElem? (i := 232) rfl)) (hw _ (List.mem_of_getElem? (i := 6) rfl)) (hw _ (List.mem_of_getElem? (i := 233) rfl)) rfl rfl (by decide) (cStr2 l Z a0 hw n0 hEW a b cs h0 σ E Fc Fv A hcap hlat sa cp Hc hcp hne0) (lenOf bStr2_pd rfl) rfl rfl rfl (by decide) (by decide) (ce' := 1) (sl' := 2) rfl rfl (by decide) (by decide) ?_
  rintro _ h_1 σ_2 m_3 ⟨rfl, K_4, d, S, hd⟩
  exact Road.ret 9 bStr1_d9 rfl (by decide) (by decide) (fun σ' m => ⟨rfl, K_4, d, S, hd⟩)
def bCan : Road.Bdy := (⟨"java/lang/StringLatin1", "canEncode", "(C)Z"⟩, jdk_43_method_3_code, 1, (some .boolean), { frames := 0, cells := 0, slots := 0, locals := 0 })
theorem bCan_d0 : decode bCan.bs 0 = .ok (.iload_n 0, 1) := by decide +kernel
theorem bCan_d1 : decode bCan.bs 1 = .ok (.sipush 255, 3) := by decide +kernel
theorem bCan_d4 : decode bCan.bs 4 = .ok (.if_icmp .gt 7, 3) := by decide +kernel
theorem bCan_d7 : decode bCan.bs 7 = .ok (.iconst 1, 1) := by decide +kernel
theorem bCan_d8 : decode bCan.bs 8 = .ok (.goto 4, 3) := by decide +kernel
theorem bCan_d11 : decode bCan.bs 11 = .ok (.iconst 0, 1) := by decide +kernel
theorem bCan_d12 : decode bCan.bs 12 = .ok (.ireturn, 1) := by decide +kernel
theorem bCan_pd : parseMethodDescriptor "(C)Z" = some ⟨[.char], (some .boolean)⟩ := by decide +kernel
theorem bCan_pn : plainFor bCan.y = true := plainFor_of_name (show plainName "java/lang/StringLatin1" = true from by first | (simp [plainName, overriddenIn]; done) | decide +kernel)
theorem cCan (l : Launch) (Z : State) (a0 : Array Value) (hw : ∀ d ∈ tables_1, d.before a0 Z = true) (n0 : Nat) (hEW : EW Z a0 consts_1) (c : Int32) (h0 : Heap) (σ : Addr → Prop) (hc : 0 ≤ c.toInt ∧ c.toInt < 256) :
    Road.Con l Z consts_1 n0 false bCan [] σ #[(.int c)] h0 (fun v h2 _ => v = some (.int 1) ∧ h0 = h2) := by
  refine Road.Con.of bCan_pn hEW #[.val (.int c)] (fun m => Road.ent (Road.laid1 rfl Road.laid0) (k := 0) rfl rfl) ?_
  intro D hD
  refine Road.iloadN 0 bCan_d0 rfl ?_
  refine Road.sipush 1 (255 : Int32) bCan_d1 rfl ?_
  refine Road.icmp_gt 4 11 bCan_d4 rfl (fun q => absurd q (by rw [Int32.lt_iff_toInt_lt]; have : (255 : Int32).toInt = 255 := rfl; omega)) (fun hc4 => ?_)
  refine Road.iconst 7 (1 : Int32) bCan_d7 rfl ?_
  refine Road.goto 8 12 bCan_d8 rfl ?_
  exact Road.iret 12 1 bCan_d12 (t := .boolean) rfl (by simp) rfl (by decide) (by decide) (fun σ' m => ⟨rfl, rfl⟩)
def bToB : Road.Bdy := (⟨"java/lang/StringLatin1", "toBytes", "(C)[B"⟩, jdk_43_method_46_code, 1, (some (.array .byte)), { frames := 0, cells := 1, slots := 1, locals := 0 })
theorem bToB_d0 : decode bToB.bs 0 = .ok (.iconst 1, 1) := by decide +kernel
theorem bToB_d1 : decode bToB.bs 1 = .ok (.newarray .byte, 2) := by decide +kernel
theorem bToB_d3 : decode bToB.bs 3 = .ok (.dup, 1) := by decide +kernel
theorem bToB_d4 : decode bToB.bs 4 = .ok (.iconst 0, 1) := by decide +kernel
theorem bToB_d5 : decode bToB.bs 5 = .ok (.iload_n 0, 1) := by decide +kernel
theorem bToB_d6 : decode bToB.bs 6 = .ok (.i2b, 1) := by decide +kernel
theorem bToB_d7 : decode bToB.bs 7 = .ok (.bastore, 1) := by decide +kernel
theorem bToB_d8 : decode bToB.bs 8 = .ok (.areturn, 1) := by decide +kernel
theorem bToB_pd : parseMethodDescriptor "(C)[B" = some ⟨[.char], (some (.array .byte))⟩ := by decide +kernel
theorem bToB_pn : plainFor bToB.y = true := plainFor_of_name (show plainName "java/lang/StringLatin1" = true from by first | (simp [plainName, overriddenIn]; done) | decide +kernel)
theorem cToB (l : Launch) (Z : State) (a0 : Array Value) (hw : ∀ d ∈ tables_1, d.before a0 Z = true) (n0 : Nat) (hEW : EW Z a0 consts_1) (c : Int32) (h0 : Heap) (σ : Addr → Prop)  :
    Road.Con l Z consts_1 n0 false bToB [] σ #[(.int c)] h0 (fun v h2 s2 => ∃ d, v = some (.ref d) ∧ h0.size ≤ d ∧ Keep h0 h2 [] ∧ s2 d ∧ Road.Ary Z h2 d .byte ([c].map Road.byt)) := by
  refine Road.Con.of bToB_pn hEW #[.val (.int c)] (fun m => Road.ent (Road.laid1 rfl Road.laid0) (k := 0) rfl rfl) ?_
  intro D hD
  refine Road.iconst 0 (1 : Int32) bToB_d0 rfl ?_
  refine Road.newarray 1 .byte 1 1 bToB_d1 rfl (hw _ (List.mem_of_getElem? (i := 8) rfl)) (by decide) (by decide) (by decide) (ce' := 1) (sl' := 1) rfl rfl (by decide) (by decide) ?_
  intro d h_1 σ_2 g_3 K_4 lt_5 m_6 s_7 Ad
  refine Road.dup 3 bToB_d3 ?_
  refine Road.iconst 4 (0 : Int32) bToB_d4 rfl ?_
  refine Road.iloadN 5 bToB_d5 rfl ?_
  refine Road.i2b 6 bToB_d6 ?_
  refine Road.bastore 7 0 (Int8.toInt32 (Int32.toInt8 c)) bToB_d7 Ad (by decide) (by simp) (Road.nar_byte _) s_7 ?_
  intro h_8 K_9 A_10
  replace Ad := A_10
  exact Road.aret 8 bToB_d8 (t := (.array .byte)) rfl rfl rfl (by decide) (by decide) (fun σ' m => ⟨d, rfl, Nat.le_of_eq g_3.symm, K_4.trans K_9 (by intro x hx; cases List.mem_singleton.mp hx; exact Or.inr (Nat.le_of_eq g_3.symm)), m _ s_7, Ad⟩)
def bStB : Road.Bdy := (⟨"java/lang/String", "<init>", "([BB)V"⟩, jdk_42_method_151_code, 3, none, { frames := 1, cells := 0, slots := 0, locals := 13 })
theorem bStB_d0 : decode bStB.bs 0 = .ok (.aload_n 0, 1) := by decide +kernel
theorem bStB_d1 : decode bStB.bs 1 = .ok (.invokespecial 1, 3) := by decide +kernel
theorem bStB_d4 : decode bStB.bs 4 = .ok (.aload_n 0, 1) := by decide +kernel
theorem bStB_d5 : decode bStB.bs 5 = .ok (.aload_n 1, 1) := by decide +kernel
theorem bStB_d6 : decode bStB.bs 6 = .ok (.putfield 9, 3) := by decide +kernel
theorem bStB_d9 : decode bStB.bs 9 = .ok (.aload_n 0, 1) := by decide +kernel
theorem bStB_d10 : decode bStB.bs 10 = .ok (.iload_n 2, 1) := by decide +kernel
theorem bStB_d11 : decode bStB.bs 11 = .ok (.putfield 15, 3) := by decide +kernel
theorem bStB_d14 : decode bStB.bs 14 = .ok (.return_, 1) := by decide +kernel
theorem bStB_pd : parseMethodDescriptor "([BB)V" = some ⟨[(.array .byte), .byte], none⟩ := by decide +kernel
theorem bStB_pn : plainFor bStB.y = true := plainFor_of_name (show plainName "java/lang/String" = true from by first | (simp [plainName, overriddenIn]; done) | decide +kernel)
theorem cStB (l : Launch) (Z : State) (a0 : Array Value) (hw : ∀ d ∈ tables_1, d.before a0 Z = true) (n0 : Nat) (hEW : EW Z a0 consts_1) (a d : Addr) (cs : List Int32) (h0 : Heap) (σ : Addr → Prop) (E : Exa Z h0 a Road.SN) (Fc : Fld Z h0 a Road.SN "coder" "B" (.int 0)) (Fv : Fld Z h0 a Road.SN "value" "[B" .null) (Ad : Road.Ary Z h0 d .byte (cs.map Road.byt)) (hlat : ∀ c ∈ cs, 0 ≤ c.toInt ∧ c.toInt < 256) (sa : σ a) :
    Road.Con l Z consts_1 n0 false bStB [] σ #[(.ref a), (.ref d), (.int (0 : Int32))] h0 (fun v h2 s2 => v = none ∧ Keep h0 h2 [a] ∧ Road.Str Z h2 a d cs) := by
  have nad : a ≠ d := by obtain ⟨c, Ar, -⟩ := Ad; exact ne_arr E (hw _ (List.mem_of_getElem? (i := 7) rfl)) Ar
  refine Road.Con.of bStB_pn hEW #[.val (.ref a), .val (.ref d), .val (.int (0 : Int32))] (fun m => Road.ent (Road.laid1 rfl (Road.laid1 rfl (Road.laid1 rfl Road.laid0))) (k := 0) rfl rfl) ?_
  intro D hD
  refine Road.aloadN 0 bStB_d0 rfl ?_
  refine Road.initObj 1 bStB_d1 (hw _ (List.mem_of_getElem? (i := 58) rfl)) (hw _ (List.mem_of_getElem? (i := 20) rfl)) (hw _ (List.mem_of_getElem? (i := 21) rfl)) 0 rfl rfl (by decide) (by decide) ?_
  refine Road.aloadN 4 bStB_d4 rfl ?_
  refine Road.aloadN 5 bStB_d5 rfl ?_
  refine Road.putfield 6 bStB_d6 (hw _ (List.mem_of_getElem? (i := 59) rfl)) Via.refl Fv E (Or.inr ⟨(hw _ (List.mem_of_getElem? (i := 9) rfl)), rfl, rfl⟩) (hw _ (List.mem_of_getElem? (i := 7) rfl)) (ty := (.array .byte)) (by decide) rfl rfl sa ?_
  intro h_3 W_1 K_2
  replace Fv := Fv.same W_1
  replace Fc := Fc.other W_1 (Or.inr (slot_ne (Or.inr (hw _ (List.mem_of_getElem? (i := 10) rfl))) (Or.inr (hw _ (List.mem_of_getElem? (i := 9) rfl))) (by decide) (t := .byte) (by decide) (t' := (.array .byte)) (by decide)))
  replace E := E.keep K_2
  replace Ad := Ad.keep K_2 (ninS (Ne.symm nad) nin0)
  refine Road.aloadN 9 bStB_d9 rfl ?_
  refine Road.iloadN 10 bStB_d10 rfl ?_
  refine Road.putfield 11 bStB_d11 (hw _ (List.mem_of_getElem? (i := 60) rfl)) Via.refl Fc E (Or.inr ⟨(hw _ (List.mem_of_getElem? (i := 10) rfl)), rfl, rfl⟩) (hw _ (List.mem_of_getElem? (i := 7) rfl)) (ty := .byte) (by decide) rfl rfl sa ?_
  intro h_6 W_4 K_5
  replace Fc := Fc.same W_4
  replace Fv := Fv.other W_4 (Or.inr (slot_ne (Or.inr (hw _ (List.mem_of_getElem? (i := 9) rfl))) (Or.inr (hw _ (List.mem_of_getElem? (i := 10) rfl))) (by decide) (t := (.array .byte)) (by decide) (t' := .byte) (by decide)))
  replace E := E.keep K_5
  replace Ad := Ad.keep K_5 (ninS (Ne.symm nad) nin0)
  exact Road.ret 14 bStB_d14 rfl (by decide) (by decide) (fun σ' m => ⟨rfl, K_2.trans K_5 (by simp), E, Fc, Fv, Ad, hlat⟩)
def bVal : Road.Bdy := (⟨"java/lang/String", "valueOf", "(C)Ljava/lang/String;"⟩, jdk_42_method_139_code, 1, (some (.object "java/lang/String")), { frames := 2, cells := 2, slots := 5, locals := 28 })
theorem bVal_d0 : decode bVal.bs 0 = .ok (.getstatic 38, 3) := by decide +kernel
theorem bVal_d3 : decode bVal.bs 3 = .ok (.ifCond .eq 23, 3) := by decide +kernel
theorem bVal_d6 : decode bVal.bs 6 = .ok (.iload_n 0, 1) := by decide +kernel
theorem bVal_d7 : decode bVal.bs 7 = .ok (.invokestatic 1015, 3) := by decide +kernel
theorem bVal_d10 : decode bVal.bs 10 = .ok (.ifCond .eq 16, 3) := by decide +kernel
theorem bVal_d13 : decode bVal.bs 13 = .ok (.new 10, 3) := by decide +kernel
theorem bVal_d16 : decode bVal.bs 16 = .ok (.dup, 1) := by decide +kernel
theorem bVal_d17 : decode bVal.bs 17 = .ok (.iload_n 0, 1) := by decide +kernel
theorem bVal_d18 : decode bVal.bs 18 = .ok (.invokestatic 1018, 3) := by decide +kernel
theorem bVal_d21 : decode bVal.bs 21 = .ok (.iconst 0, 1) := by decide +kernel
theorem bVal_d22 : decode bVal.bs 22 = .ok (.invokespecial 209, 3) := by decide +kernel
theorem bVal_d25 : decode bVal.bs 25 = .ok (.areturn, 1) := by decide +kernel
theorem bVal_d26 : decode bVal.bs 26 = .ok (.new 10, 3) := by decide +kernel
theorem bVal_d29 : decode bVal.bs 29 = .ok (.dup, 1) := by decide +kernel
theorem bVal_d30 : decode bVal.bs 30 = .ok (.iload_n 0, 1) := by decide +kernel
theorem bVal_d31 : decode bVal.bs 31 = .ok (.invokestatic 1021, 3) := by decide +kernel
theorem bVal_d34 : decode bVal.bs 34 = .ok (.iconst 1, 1) := by decide +kernel
theorem bVal_d35 : decode bVal.bs 35 = .ok (.invokespecial 209, 3) := by decide +kernel
theorem bVal_d38 : decode bVal.bs 38 = .ok (.areturn, 1) := by decide +kernel
theorem bVal_pd : parseMethodDescriptor "(C)Ljava/lang/String;" = some ⟨[.char], (some (.object "java/lang/String"))⟩ := by decide +kernel
theorem bVal_pn : plainFor bVal.y = true := plainFor_of_name (show plainName "java/lang/String" = true from by first | (simp [plainName, overriddenIn]; done) | decide +kernel)
theorem cVal (l : Launch) (Z : State) (a0 : Array Value) (hw : ∀ d ∈ tables_1, d.before a0 Z = true) (n0 : Nat) (hEW : EW Z a0 consts_1) (c : Int32) (h0 : Heap) (σ : Addr → Prop) (hc : 0 ≤ c.toInt ∧ c.toInt < 256) (cp : Int32) (Hc : Sta Z Z.heap Road.SN "COMPACT_STRINGS" "Z" (.int cp)) (hcp : ¬ cp = 0) :
    Road.Con l Z consts_1 n0 false bVal [] σ #[(.int c)] h0 (fun v h2 s2 => ∃ a d, v = some (.ref a) ∧ h0.size ≤ a ∧ h0.size ≤ d ∧ Keep h0 h2 [] ∧ Road.Str Z h2 a d [c]) := by
  refine Road.Con.of bVal_pn hEW #[.val (.int c)] (fun m => Road.ent (Road.laid1 rfl Road.laid0) (k := 0) rfl rfl) ?_
  intro D hD
  refine Road.getstatic 0 bVal_d0 (hw _ (List.mem_of_getElem? (i := 45) rfl)) Via.refl Hc ?_
  refine Road.if_eq 3 26 bVal_d3 rfl (fun q => absurd q hcp) (fun hc3 => ?_)
  refine Road.iloadN 6 bVal_d6 rfl ?_
  refine Road.callS (B' := bCan) 7 (argsL := [(.int c)]) (rest := []) 0 bVal_d7 (hw _ (List.mem_of_getElem? (i := 46) rfl)) (hw _ (List.mem_of_getElem? (i := 47) rfl)) (hw _ (List.mem_of_getElem? (i := 48) rfl)) (hw _ (List.mem_of_getElem? (i := 49) rfl)) (by decide) (cCan l Z a0 hw n0 hEW c h0 σ hc) (lenOf bCan_pd rfl) rfl rfl rfl (by decide) (by decide) (ce' := 0) (sl' := 0) rfl rfl (by decide) (by decide) ?_
  rintro _ h_1 σ_2 m_3 ⟨rfl, rfl⟩
  refine Road.Go.weaken (σ' := σ) m_3 (Nat.le_refl _) (Nat.le_refl _) ?_
  refine Road.if_eq 10 26 bVal_d10 rfl (fun q => absurd q (by decide)) (fun hc10 => ?_)
  refine Road.new 13 "java/lang/String" bVal_d13 (hw _ (List.mem_of_getElem? (i := 50) rfl)) (hw _ (List.mem_of_getElem? (i := 7) rfl)) (hw _ (List.mem_of_getElem? (i := 6) rfl)) (ce' := 1) (sl' := 4) rfl rfl (by decide) (by decide) ?_
  intro a h_5 σ_6 g_7 K_8 lt_9 m_10 s_11 E D_12 M_13
  have Fc := D_12 (Or.inr (hw _ (List.mem_of_getElem? (i := 10) rfl))) (ty := .byte) (by decide)
  have Fv := D_12 (Or.inr (hw _ (List.mem_of_getElem? (i := 9) rfl))) (ty := (.array .byte)) (by decide)
  refine Road.dup 16 bVal_d16 ?_
  refine Road.iloadN 17 bVal_d17 rfl ?_
  refine Road.callS (B' := bToB) 18 (argsL := [(.int c)]) (rest := [(.ref a), (.ref a)]) 2 bVal_d18 (hw _ (List.mem_of_getElem? (i := 51) rfl)) (hw _ (List.mem_of_getElem? (i := 52) rfl)) (hw _ (List.mem_of_getElem? (i := 48) rfl)) (hw _ (List.mem_of_getElem? (i := 53) rfl)) (by decide) (cToB l Z a0 hw n0 hEW c h_5 σ_6) (lenOf bToB_pd rfl) rfl rfl rfl (by decide) (by decide) (ce' := 2) (sl' := 5) rfl rfl (by decide) (by decide) ?_
  rintro _ h_14 σ_15 m_16 ⟨d, rfl, gd, K_17, sd, Ad⟩
  have ne_a_d : a ≠ d := Nat.ne_of_lt (Nat.lt_of_lt_of_le E.lt gd)
  replace E := E.keep K_17
  replace Fc := Fc.keep K_17 nin0
  replace Fv := Fv.keep K_17 nin0
  replace s_11 := m_16 _ s_11
  refine Road.iconst 21 (0 : Int32) bVal_d21 rfl ?_
  refine Road.callI (B' := bStB) (a := a) 22 (argsL := [(.ref d), (.int (0 : Int32))]) (rest := [(.ref a)]) 1 bVal_d22 (hw _ (List.mem_of_getElem? (i := 54) rfl)) (hw _ (List.mem_of_getElem? (i := 55) rfl)) (hw _ (List.mem_of_getElem? (i := 6) rfl)) (hw _ (List.mem_of_getElem? (i := 57) rfl)) rfl rfl (by decide) (cStB l Z a0 hw n0 hEW a d [c] h_14 σ_15 E Fc Fv Ad (by intro x hx; cases List.mem_singleton.mp hx; exact hc) s_11) (lenOf bStB_pd rfl) rfl rfl rfl (by decide) (by decide) (ce' := 2) (sl' := 5) rfl rfl (by decide) (by decide) ?_
  rintro _ h_18 σ_19 m_20 ⟨rfl, K_21, S⟩
  replace s_11 := m_20 _ s_11
  exact Road.aret 25 bVal_d25 (t := (.object "java/lang/String")) rfl rfl rfl (by decide) (by decide) (fun σ' m => ⟨a, d, rfl, Nat.le_of_eq g_7.symm, Nat.le_trans K_8.1 gd, (K_8.trans K_17 (by simp)).trans K_21 (by intro x hx; cases List.mem_singleton.mp hx; exact Or.inr (Nat.le_of_eq g_7.symm)), S⟩)
def bCod : Road.Bdy := (⟨"java/lang/String", "coder", "()B"⟩, jdk_42_method_152_code, 1, (some .byte), { frames := 0, cells := 0, slots := 0, locals := 0 })
theorem bCod_d0 : decode bCod.bs 0 = .ok (.getstatic 38, 3) := by decide +kernel
theorem bCod_d3 : decode bCod.bs 3 = .ok (.ifCond .eq 10, 3) := by decide +kernel
theorem bCod_d6 : decode bCod.bs 6 = .ok (.aload_n 0, 1) := by decide +kernel
theorem bCod_d7 : decode bCod.bs 7 = .ok (.getfield 15, 3) := by decide +kernel
theorem bCod_d10 : decode bCod.bs 10 = .ok (.goto 4, 3) := by decide +kernel
theorem bCod_d13 : decode bCod.bs 13 = .ok (.iconst 1, 1) := by decide +kernel
theorem bCod_d14 : decode bCod.bs 14 = .ok (.ireturn, 1) := by decide +kernel
theorem bCod_pd : parseMethodDescriptor "()B" = some ⟨[], (some .byte)⟩ := by decide +kernel
theorem bCod_pn : plainFor bCod.y = true := plainFor_of_name (show plainName "java/lang/String" = true from by first | (simp [plainName, overriddenIn]; done) | decide +kernel)
theorem cCod (l : Launch) (Z : State) (a0 : Array Value) (hw : ∀ d ∈ tables_1, d.before a0 Z = true) (n0 : Nat) (hEW : EW Z a0 consts_1) (a : Addr) (h0 : Heap) (σ : Addr → Prop) (Fc : Fld Z h0 a Road.SN "coder" "B" (.int 0)) (cp : Int32) (Hc : Sta Z Z.heap Road.SN "COMPACT_STRINGS" "Z" (.int cp)) (hcp : ¬ cp = 0) :
    Road.Con l Z consts_1 n0 false bCod [] σ #[(.ref a)] h0 (fun v h2 _ => v = some (.int 0) ∧ h0 = h2) := by
  refine Road.Con.of bCod_pn hEW #[.val (.ref a)] (fun m => Road.ent (Road.laid1 rfl Road.laid0) (k := 0) rfl rfl) ?_
  intro D hD
  refine Road.getstatic 0 bCod_d0 (hw _ (List.mem_of_getElem? (i := 45) rfl)) Via.refl Hc ?_
  refine Road.if_eq 3 13 bCod_d3 rfl (fun q => absurd q hcp) (fun hc3 => ?_)
  refine Road.aloadN 6 bCod_d6 rfl ?_
  refine Road.getfield 7 bCod_d7 (hw _ (List.mem_of_getElem? (i := 60) rfl)) Via.refl Fc ?_
  refine Road.goto 10 14 bCod_d10 rfl ?_
  exact Road.iret 14 0 bCod_d14 (t := .byte) rfl (by simp) rfl (by decide) (by decide) (fun σ' m => ⟨rfl, rfl⟩)
def bLen : Road.Bdy := (⟨"java/lang/String", "length", "()I"⟩, jdk_42_method_54_code, 1, (some .int), { frames := 1, cells := 0, slots := 0, locals := 13 })
theorem bLen_d0 : decode bLen.bs 0 = .ok (.aload_n 0, 1) := by decide +kernel
theorem bLen_d1 : decode bLen.bs 1 = .ok (.getfield 9, 3) := by decide +kernel
theorem bLen_d4 : decode bLen.bs 4 = .ok (.arraylength, 1) := by decide +kernel
theorem bLen_d5 : decode bLen.bs 5 = .ok (.aload_n 0, 1) := by decide +kernel
theorem bLen_d6 : decode bLen.bs 6 = .ok (.invokevirtual 335, 3) := by decide +kernel
theorem bLen_d9 : decode bLen.bs 9 = .ok (.ishr, 1) := by decide +kernel
theorem bLen_d10 : decode bLen.bs 10 = .ok (.ireturn, 1) := by decide +kernel
theorem bLen_pd : parseMethodDescriptor "()I" = some ⟨[], (some .int)⟩ := by decide +kernel
theorem bLen_pn : plainFor bLen.y = true := plainFor_of_name (show plainName "java/lang/String" = true from by first | (simp [plainName, overriddenIn]; done) | decide +kernel)
theorem cLen (l : Launch) (Z : State) (a0 : Array Value) (hw : ∀ d ∈ tables_1, d.before a0 Z = true) (n0 : Nat) (hEW : EW Z a0 consts_1) (a b : Addr) (cs : List Int32) (h0 : Heap) (σ : Addr → Prop) (S : Road.Str Z h0 a b cs) (cp : Int32) (Hc : Sta Z Z.heap Road.SN "COMPACT_STRINGS" "Z" (.int cp)) (hcp : ¬ cp = 0) :
    Road.Con l Z consts_1 n0 false bLen [] σ #[(.ref a)] h0 (fun v h2 _ => v = some (.int (Nat.toInt32 cs.length)) ∧ h0 = h2) := by
  refine Road.Con.of bLen_pn hEW #[.val (.ref a)] (fun m => Road.ent (Road.laid1 rfl Road.laid0) (k := 0) rfl rfl) ?_
  intro D hD
  refine Road.aloadN 0 bLen_d0 rfl ?_
  refine Road.getfield 1 bLen_d1 (hw _ (List.mem_of_getElem? (i := 59) rfl)) Via.refl S.2.2.1 ?_
  refine Road.alen 4 (Nat.toInt32 cs.length) bLen_d4 S.2.2.2.1 (n := cs.length) (List.length_map _) rfl ?_
  refine Road.aloadN 5 bLen_d5 rfl ?_
  refine Road.callV (B' := bCod) (a := a) 6 (argsL := []) (rest := [(.int (Nat.toInt32 cs.length))]) "java/lang/String" 1 bLen_d6 (hw _ (List.mem_of_getElem? (i := 82) rfl)) (hw _ (List.mem_of_getElem? (i := 83) rfl)) (fun vm hz => Road.notFace_sib (args := #[]) (mv (s := D.s.setVm vm) hz (hw _ (List.mem_of_getElem? (i := 80) rfl))) rfl) (hw _ (List.mem_of_getElem? (i := 85) rfl)) (hw _ (List.mem_of_getElem? (i := 84) rfl)) (hw _ (List.mem_of_getElem? (i := 6) rfl)) (hw _ (List.mem_of_getElem? (i := 86) rfl)) (by decide) S.1 (cCod l Z a0 hw n0 hEW a h0 σ S.2.1 cp Hc hcp) (lenOf bCod_pd rfl) rfl rfl rfl (by decide) (by decide) (ce' := 0) (sl' := 0) rfl rfl (by decide) (by decide) ?_
  rintro _ h_1 σ_2 m_3 ⟨rfl, rfl⟩
  refine Road.Go.weaken (σ' := σ) m_3 (Nat.le_refl _) (Nat.le_refl _) ?_
  refine Road.ishr 9 bLen_d9 ?_
  exact Road.iretI 10 bLen_d10 rfl (by decide) (by decide) (fun σ' m => ⟨by rw [Road.shr0], rfl⟩)
def bIsL : Road.Bdy := (⟨"java/lang/String", "isLatin1", "()Z"⟩, jdk_42_method_154_code, 1, (some .boolean), { frames := 0, cells := 0, slots := 0, locals := 0 })
theorem bIsL_d0 : decode bIsL.bs 0 = .ok (.getstatic 38, 3) := by decide +kernel
theorem bIsL_d3 : decode bIsL.bs 3 = .ok (.ifCond .eq 14, 3) := by decide +kernel
theorem bIsL_d6 : decode bIsL.bs 6 = .ok (.aload_n 0, 1) := by decide +kernel
theorem bIsL_d7 : decode bIsL.bs 7 = .ok (.getfield 15, 3) := by decide +kernel
theorem bIsL_d10 : decode bIsL.bs 10 = .ok (.ifCond .ne 7, 3) := by decide +kernel
theorem bIsL_d13 : decode bIsL.bs 13 = .ok (.iconst 1, 1) := by decide +kernel
theorem bIsL_d14 : decode bIsL.bs 14 = .ok (.goto 4, 3) := by decide +kernel
theorem bIsL_d17 : decode bIsL.bs 17 = .ok (.iconst 0, 1) := by decide +kernel
theorem bIsL_d18 : decode bIsL.bs 18 = .ok (.ireturn, 1) := by decide +kernel
theorem bIsL_pd : parseMethodDescriptor "()Z" = some ⟨[], (some .boolean)⟩ := by decide +kernel
theorem bIsL_pn : plainFor bIsL.y = true := plainFor_of_name (show plainName "java/lang/String" = true from by first | (simp [plainName, overriddenIn]; done) | decide +kernel)
theorem cIsL (l : Launch) (Z : State) (a0 : Array Value) (hw : ∀ d ∈ tables_1, d.before a0 Z = true) (n0 : Nat) (hEW : EW Z a0 consts_1) (a : Addr) (h0 : Heap) (σ : Addr → Prop) (Fc : Fld Z h0 a Road.SN "coder" "B" (.int 0)) (cp : Int32) (Hc : Sta Z Z.heap Road.SN "COMPACT_STRINGS" "Z" (.int cp)) (hcp : ¬ cp = 0) :
    Road.Con l Z consts_1 n0 false bIsL [] σ #[(.ref a)] h0 (fun v h2 _ => v = some (.int 1) ∧ h0 = h2) := by
  refine Road.Con.of bIsL_pn hEW #[.val (.ref a)] (fun m => Road.ent (Road.laid1 rfl Road.laid0) (k := 0) rfl rfl) ?_
  intro D hD
  refine Road.getstatic 0 bIsL_d0 (hw _ (List.mem_of_getElem? (i := 45) rfl)) Via.refl Hc ?_
  refine Road.if_eq 3 17 bIsL_d3 rfl (fun q => absurd q hcp) (fun hc3 => ?_)
  refine Road.aloadN 6 bIsL_d6 rfl ?_
  refine Road.getfield 7 bIsL_d7 (hw _ (List.mem_of_getElem? (i := 60) rfl)) Via.refl Fc ?_
  refine Road.if_ne 10 17 bIsL_d10 rfl (fun q => absurd q (by decide)) (fun hc10 => ?_)
  refine Road.iconst 13 (1 : Int32) bIsL_d13 rfl ?_
  refine Road.goto 14 18 bIsL_d14 rfl ?_
  exact Road.iret 18 1 bIsL_d18 (t := .boolean) rfl (by simp) rfl (by decide) (by decide) (fun σ' m => ⟨rfl, rfl⟩)
def bPre : Road.Bdy := (⟨"jdk/internal/util/Preconditions", "checkIndex", "(IILjava/util/function/BiFunction;)I"⟩, jdk_41_method_11_code, 3, (some .int), { frames := 0, cells := 0, slots := 0, locals := 0 })
theorem bPre_d0 : decode bPre.bs 0 = .ok (.iload_n 0, 1) := by decide +kernel
theorem bPre_d1 : decode bPre.bs 1 = .ok (.ifCond .lt 8, 3) := by decide +kernel
theorem bPre_d4 : decode bPre.bs 4 = .ok (.iload_n 0, 1) := by decide +kernel
theorem bPre_d5 : decode bPre.bs 5 = .ok (.iload_n 1, 1) := by decide +kernel
theorem bPre_d6 : decode bPre.bs 6 = .ok (.if_icmp .lt 10, 3) := by decide +kernel
theorem bPre_d9 : decode bPre.bs 9 = .ok (.aload_n 2, 1) := by decide +kernel
theorem bPre_d10 : decode bPre.bs 10 = .ok (.iload_n 0, 1) := by decide +kernel
theorem bPre_d11 : decode bPre.bs 11 = .ok (.iload_n 1, 1) := by decide +kernel
theorem bPre_d12 : decode bPre.bs 12 = .ok (.invokestatic 95, 3) := by decide +kernel
theorem bPre_d15 : decode bPre.bs 15 = .ok (.athrow, 1) := by decide +kernel
theorem bPre_d16 : decode bPre.bs 16 = .ok (.iload_n 0, 1) := by decide +kernel
theorem bPre_d17 : decode bPre.bs 17 = .ok (.ireturn, 1) := by decide +kernel
theorem bPre_pd : parseMethodDescriptor "(IILjava/util/function/BiFunction;)I" = some ⟨[.int, .int, (.object "java/util/function/BiFunction")], (some .int)⟩ := by decide +kernel
theorem bPre_pn : plainFor bPre.y = true := plainFor_of_name (show plainName "jdk/internal/util/Preconditions" = true from by first | (simp [plainName, overriddenIn]; done) | decide +kernel)
theorem cPre (l : Launch) (Z : State) (a0 : Array Value) (hw : ∀ d ∈ tables_1, d.before a0 Z = true) (n0 : Nat) (hEW : EW Z a0 consts_1) (j n : Int32) (fm : Value) (h0 : Heap) (σ : Addr → Prop) (hfm : fm.isRef = true) (hj : ¬ j < 0) (hjn : j < n) :
    Road.Con l Z consts_1 n0 false bPre [] σ #[(.int j), (.int n), fm] h0 (fun v h2 _ => v = some (.int j) ∧ h0 = h2) := by
  refine Road.Con.of bPre_pn hEW #[.val (.int j), .val (.int n), .val fm] (fun m => Road.ent (Road.laid1 rfl (Road.laid1 rfl (Road.laid1 (XT.cat1 hfm) Road.laid0))) (k := 0) rfl rfl) ?_
  intro D hD
  refine Road.iloadN 0 bPre_d0 rfl ?_
  refine Road.if_lt 1 9 bPre_d1 rfl (fun q => absurd q hj) (fun hc1 => ?_)
  refine Road.iloadN 4 bPre_d4 rfl ?_
  refine Road.iloadN 5 bPre_d5 rfl ?_
  refine Road.icmp_lt 6 16 bPre_d6 rfl (fun hc6 => ?_) (fun q => absurd q (by simpa using hjn))
  refine Road.iloadN 16 bPre_d16 rfl ?_
  exact Road.iretI 17 bPre_d17 rfl (by decide) (by decide) (fun σ' m => ⟨rfl, rfl⟩)
def bChk : Road.Bdy := (⟨"java/lang/String", "checkIndex", "(II)V"⟩, jdk_42_method_155_code, 2, none, { frames := 1, cells := 0, slots := 0, locals := 14 })
theorem bChk_d0 : decode bChk.bs 0 = .ok (.iload_n 0, 1) := by decide +kernel
theorem bChk_d1 : decode bChk.bs 1 = .ok (.iload_n 1, 1) := by decide +kernel
theorem bChk_d2 : decode bChk.bs 2 = .ok (.getstatic 1053, 3) := by decide +kernel
theorem bChk_d5 : decode bChk.bs 5 = .ok (.invokestatic 1059, 3) := by decide +kernel
theorem bChk_d8 : decode bChk.bs 8 = .ok (.pop, 1) := by decide +kernel
theorem bChk_d9 : decode bChk.bs 9 = .ok (.return_, 1) := by decide +kernel
theorem bChk_pd : parseMethodDescriptor "(II)V" = some ⟨[.int, .int], none⟩ := by decide +kernel
theorem bChk_pn : plainFor bChk.y = true := plainFor_of_name (show plainName "java/lang/String" = true from by first | (simp [plainName, overriddenIn]; done) | decide +kernel)
theorem cChk (l : Launch) (Z : State) (a0 : Array Value) (hw : ∀ d ∈ tables_1, d.before a0 Z = true) (n0 : Nat) (hEW : EW Z a0 consts_1) (j n : Int32) (h0 : Heap) (σ : Addr → Prop) (fm : Value) (hfm : fm.isRef = true) (Hf : Sta Z Z.heap "jdk/internal/util/Preconditions" "SIOOBE_FORMATTER" "Ljava/util/function/BiFunction;" fm) (hj : ¬ j < 0) (hjn : j < n) :
    Road.Con l Z consts_1 n0 false bChk [] σ #[(.int j), (.int n)] h0 (fun v h2 _ => v = none ∧ h0 = h2) := by
  refine Road.Con.of bChk_pn hEW #[.val (.int j), .val (.int n)] (fun m => Road.ent (Road.laid1 rfl (Road.laid1 rfl Road.laid0)) (k := 0) rfl rfl) ?_
  intro D hD
  refine Road.iloadN 0 bChk_d0 rfl ?_
  refine Road.iloadN 1 bChk_d1 rfl ?_
  refine Road.getstatic 2 bChk_d2 (hw _ (List.mem_of_getElem? (i := 217) rfl)) Via.refl Hf ?_
  refine Road.callS (B' := bPre) 5 (argsL := [(.int j), (.int n), fm]) (rest := []) 0 bChk_d5 (hw _ (List.mem_of_getElem? (i := 219) rfl)) (hw _ (List.mem_of_getElem? (i := 220) rfl)) (hw _ (List.mem_of_getElem? (i := 218) rfl)) (hw _ (List.mem_of_getElem? (i := 221) rfl)) (by decide) (cPre l Z a0 hw n0 hEW j n fm h0 σ hfm hj hjn) (lenOf bPre_pd rfl) rfl rfl rfl (by decide) (by decide) (ce' := 0) (sl' := 0) rfl rfl (by decide) (by decide) ?_
  rintro _ h_1 σ_2 m_3 ⟨rfl, rfl⟩
  refine Road.Go.weaken (σ' := σ) m_3 (Nat.le_refl _) (Nat.le_refl _) ?_
  refine Road.pop 8 bChk_d8 ?_
  exact Road.ret 9 bChk_d9 rfl (by decide) (by decide) (fun σ' m => ⟨rfl, rfl⟩)
def bLch : Road.Bdy := (⟨"java/lang/StringLatin1", "charAt", "([BI)C"⟩, jdk_43_method_2_code, 2, (some .char), { frames := 2, cells := 0, slots := 0, locals := 27 })
theorem bLch_d0 : decode bLch.bs 0 = .ok (.iload_n 1, 1) := by decide +kernel
theorem bLch_d1 : decode bLch.bs 1 = .ok (.aload_n 0, 1) := by decide +kernel
theorem bLch_d2 : decode bLch.bs 2 = .ok (.arraylength, 1) := by decide +kernel
theorem bLch_d3 : decode bLch.bs 3 = .ok (.invokestatic 9, 3) := by decide +kernel
theorem bLch_d6 : decode bLch.bs 6 = .ok (.aload_n 0, 1) := by decide +kernel
theorem bLch_d7 : decode bLch.bs 7 = .ok (.iload_n 1, 1) := by decide +kernel
theorem bLch_d8 : decode bLch.bs 8 = .ok (.baload, 1) := by decide +kernel
theorem bLch_d9 : decode bLch.bs 9 = .ok (.sipush 255, 3) := by decide +kernel
theorem bLch_d12 : decode bLch.bs 12 = .ok (.iand, 1) := by decide +kernel
theorem bLch_d13 : decode bLch.bs 13 = .ok (.i2c, 1) := by decide +kernel
theorem bLch_d14 : decode bLch.bs 14 = .ok (.ireturn, 1) := by decide +kernel
theorem bLch_pd : parseMethodDescriptor "([BI)C" = some ⟨[(.array .byte), .int], (some .char)⟩ := by decide +kernel
theorem bLch_pn : plainFor bLch.y = true := plainFor_of_name (show plainName "java/lang/StringLatin1" = true from by first | (simp [plainName, overriddenIn]; done) | decide +kernel)
theorem cLch (l : Launch) (Z : State) (a0 : Array Value) (hw : ∀ d ∈ tables_1, d.before a0 Z = true) (n0 : Nat) (hEW : EW Z a0 consts_1) (b : Addr) (cs : List Int32) (j : Int32) (i : Nat) (h0 : Heap) (σ : Addr → Prop) (A : Road.Ary Z h0 b .byte (cs.map Road.byt)) (hlat : ∀ c ∈ cs, 0 ≤ c.toInt ∧ c.toInt < 256) (hj : j.toInt = (i : Int)) (hi : i < cs.length) (fm : Value) (hfm : fm.isRef = true) (Hf : Sta Z Z.heap "jdk/internal/util/Preconditions" "SIOOBE_FORMATTER" "Ljava/util/function/BiFunction;" fm) :
    Road.Con l Z consts_1 n0 false bLch [] σ #[(.ref b), (.int j)] h0 (fun v h2 _ => v = some (.int cs[i]) ∧ h0 = h2) := by
  refine Road.Con.of bLch_pn hEW #[.val (.ref b), .val (.int j)] (fun m => Road.ent (Road.laid1 rfl (Road.laid1 rfl Road.laid0)) (k := 0) rfl rfl) ?_
  intro D hD
  have hn : cs.length < 2147483648 := by have := A.small; rwa [List.length_map] at this
  have hjn : j < Nat.toInt32 cs.length := by rw [Int32.lt_iff_toInt_lt, Road.n32 hn, hj]; omega
  refine Road.iloadN 0 bLch_d0 rfl ?_
  refine Road.aloadN 1 bLch_d1 rfl ?_
  refine Road.alen 2 (Nat.toInt32 cs.length) bLch_d2 A (n := cs.length) (List.length_map _) rfl ?_
  refine Road.callS (B' := bChk) 3 (argsL := [(.int j), (.int (Nat.toInt32 cs.length))]) (rest := []) 0 bLch_d3 (hw _ (List.mem_of_getElem? (i := 214) rfl)) (hw _ (List.mem_of_getElem? (i := 215) rfl)) (hw _ (List.mem_of_getElem? (i := 6) rfl)) (hw _ (List.mem_of_getElem? (i := 216) rfl)) (by decide) (cChk l Z a0 hw n0 hEW j (Nat.toInt32 cs.length) h0 σ fm hfm Hf (Road.ix_of hj).1 hjn) (lenOf bChk_pd rfl) rfl rfl rfl (by decide) (by decide) (ce' := 0) (sl' := 0) rfl rfl (by decide) (by decide) ?_
  rintro _ h_1 σ_2 m_3 ⟨rfl, rfl⟩
  refine Road.Go.weaken (σ' := σ) m_3 (Nat.le_refl _) (Nat.le_refl _) ?_
  refine Road.aloadN 6 bLch_d6 rfl ?_
  refine Road.iloadN 7 bLch_d7 rfl ?_
  refine Road.baload 8 i bLch_d8 A hj (by rw [List.getElem?_map, List.getElem?_eq_getElem hi]; rfl) ?_
  refine Road.sipush 9 (255 : Int32) bLch_d9 rfl ?_
  refine Road.iand 12 bLch_d12 ?_
  refine Road.i2c 13 bLch_d13 ?_
  exact Road.iret 14 cs[i] bLch_d14 (t := .char) rfl (by simp) (Road.byte_back (hlat _ (List.getElem_mem hi))) (by decide) (by decide) (fun σ' m => ⟨rfl, rfl⟩)
def bChA : Road.Bdy := (⟨"java/lang/String", "charAt", "(I)C"⟩, jdk_42_method_56_code, 2, (some .char), { frames := 3, cells := 0, slots := 0, locals := 40 })
theorem bChA_d0 : decode bChA.bs 0 = .ok (.aload_n 0, 1) := by decide +kernel
theorem bChA_d1 : decode bChA.bs 1 = .ok (.invokevirtual 492, 3) := by decide +kernel
theorem bChA_d4 : decode bChA.bs 4 = .ok (.ifCond .eq 12, 3) := by decide +kernel
theorem bChA_d7 : decode bChA.bs 7 = .ok (.aload_n 0, 1) := by decide +kernel
theorem bChA_d8 : decode bChA.bs 8 = .ok (.getfield 9, 3) := by decide +kernel
theorem bChA_d11 : decode bChA.bs 11 = .ok (.iload_n 1, 1) := by decide +kernel
theorem bChA_d12 : decode bChA.bs 12 = .ok (.invokestatic 495, 3) := by decide +kernel
theorem bChA_d15 : decode bChA.bs 15 = .ok (.ireturn, 1) := by decide +kernel
theorem bChA_d16 : decode bChA.bs 16 = .ok (.aload_n 0, 1) := by decide +kernel
theorem bChA_d17 : decode bChA.bs 17 = .ok (.getfield 9, 3) := by decide +kernel
theorem bChA_d20 : decode bChA.bs 20 = .ok (.iload_n 1, 1) := by decide +kernel
theorem bChA_d21 : decode bChA.bs 21 = .ok (.invokestatic 498, 3) := by decide +kernel
theorem bChA_d24 : decode bChA.bs 24 = .ok (.ireturn, 1) := by decide +kernel
theorem bChA_pd : parseMethodDescriptor "(I)C" = some ⟨[.int], (some .char)⟩ := by decide +kernel
theorem bChA_pn : plainFor bChA.y = true := plainFor_of_name (show plainName "java/lang/String" = true from by first | (simp [plainName, overriddenIn]; done) | decide +kernel)
theorem cChA (l : Launch) (Z : State) (a0 : Array Value) (hw : ∀ d ∈ tables_1, d.before a0 Z = true) (n0 : Nat) (hEW : EW Z a0 consts_1) (a b : Addr) (cs : List Int32) (j : Int32) (i : Nat) (h0 : Heap) (σ : Addr → Prop) (S : Road.Str Z h0 a b cs) (hj : j.toInt = (i : Int)) (hi : i < cs.length) (cp : Int32) (Hc : Sta Z Z.heap Road.SN "COMPACT_STRINGS" "Z" (.int cp)) (hcp : ¬ cp = 0) (fm : Value) (hfm : fm.isRef = true) (Hf : Sta Z Z.heap "jdk/internal/util/Preconditions" "SIOOBE_FORMATTER" "Ljava/util/function/BiFunction;" fm) :
    Road.Con l Z consts_1 n0 false bChA [] σ #[(.ref a), (.int j)] h0 (fun v h2 _ => v = some (.int cs[i]) ∧ h0 = h2) := by
  refine Road.Con.of bChA_pn hEW #[.val (.ref a), .val (.int j)] (fun m => Road.ent (Road.laid1 rfl (Road.laid1 rfl Road.laid0)) (k := 0) rfl rfl) ?_
  intro D hD
  refine Road.aloadN 0 bChA_d0 rfl ?_
  refine Road.callV (B' := bIsL) (a := a) 1 (argsL := []) (rest := []) "java/lang/String" 0 bChA_d1 (hw _ (List.mem_of_getElem? (i := 206) rfl)) (hw _ (List.mem_of_getElem? (i := 207) rfl)) (fun vm hz => Road.notFace_sib (args := #[]) (mv (s := D.s.setVm vm) hz (hw _ (List.mem_of_getElem? (i := 80) rfl))) rfl) (hw _ (List.mem_of_getElem? (i := 209) rfl)) (hw _ (List.mem_of_getElem? (i := 208) rfl)) (hw _ (List.mem_of_getElem? (i := 6) rfl)) (hw _ (List.mem_of_getElem? (i := 210) rfl)) (by decide) S.1 (cIsL l Z a0 hw n0 hEW a h0 σ S.2.1 cp Hc hcp) (lenOf bIsL_pd rfl) rfl rfl rfl (by decide) (by decide) (ce' := 0) (sl' := 0) rfl rfl (by decide) (by decide) ?_
  rintro _ h_1 σ_2 m_3 ⟨rfl, rfl⟩
  refine Road.Go.weaken (σ' := σ) m_3 (Nat.le_refl _) (Nat.le_refl _) ?_
  refine Road.if_eq 4 16 bChA_d4 rfl (fun q => absurd q (by decide)) (fun hc4 => ?_)
  refine Road.aloadN 7 bChA_d7 rfl ?_
  refine Road.getfield 8 bChA_d8 (hw _ (List.mem_of_getElem? (i := 59) rfl)) Via.refl S.2.2.1 ?_
  refine Road.iloadN 11 bChA_d11 rfl ?_
  refine Road.callS (B' := bLch) 12 (argsL := [(.ref b), (.int j)]) (rest := []) 0 bChA_d12 (hw _ (List.mem_of_getElem? (i := 211) rfl)) (hw _ (List.mem_of_getElem? (i := 212) rfl)) (hw _ (List.mem_of_getElem? (i := 48) rfl)) (hw _ (List.mem_of_getElem? (i := 213) rfl)) (by decide) (cLch l Z a0 hw n0 hEW b cs j i h0 σ S.2.2.2.1 S.2.2.2.2 hj hi fm hfm Hf) (lenOf bLch_pd rfl) rfl rfl rfl (by decide) (by decide) (ce' := 0) (sl' := 0) rfl rfl (by decide) (by decide) ?_
  rintro _ h_5 σ_6 m_7 ⟨rfl, rfl⟩
  refine Road.Go.weaken (σ' := σ) m_7 (Nat.le_refl _) (Nat.le_refl _) ?_
  exact Road.iret 15 cs[i] bChA_d15 (t := .char) rfl (by simp) (Road.nar_lat (S.2.2.2.2 _ (List.getElem_mem hi))) (by decide) (by decide) (fun σ' m => ⟨rfl, rfl⟩)
def bAbI : Road.Bdy := (⟨"java/lang/AbstractStringBuilder", "<init>", "(I)V"⟩, jdk_68_method_2_code, 2, none, { frames := 1, cells := 1, slots := 16, locals := 14 })
theorem bAbI_d0 : decode bAbI.bs 0 = .ok (.aload_n 0, 1) := by decide +kernel
theorem bAbI_d1 : decode bAbI.bs 1 = .ok (.invokespecial 3, 3) := by decide +kernel
theorem bAbI_d4 : decode bAbI.bs 4 = .ok (.getstatic 18, 3) := by decide +kernel
theorem bAbI_d7 : decode bAbI.bs 7 = .ok (.ifCond .eq 18, 3) := by decide +kernel
theorem bAbI_d10 : decode bAbI.bs 10 = .ok (.aload_n 0, 1) := by decide +kernel
theorem bAbI_d11 : decode bAbI.bs 11 = .ok (.iload_n 1, 1) := by decide +kernel
theorem bAbI_d12 : decode bAbI.bs 12 = .ok (.newarray .byte, 2) := by decide +kernel
theorem bAbI_d14 : decode bAbI.bs 14 = .ok (.putfield 15, 3) := by decide +kernel
theorem bAbI_d17 : decode bAbI.bs 17 = .ok (.aload_n 0, 1) := by decide +kernel
theorem bAbI_d18 : decode bAbI.bs 18 = .ok (.iconst 0, 1) := by decide +kernel
theorem bAbI_d19 : decode bAbI.bs 19 = .ok (.putfield 22, 3) := by decide +kernel
theorem bAbI_d22 : decode bAbI.bs 22 = .ok (.goto 16, 3) := by decide +kernel
theorem bAbI_d25 : decode bAbI.bs 25 = .ok (.aload_n 0, 1) := by decide +kernel
theorem bAbI_d26 : decode bAbI.bs 26 = .ok (.iload_n 1, 1) := by decide +kernel
theorem bAbI_d27 : decode bAbI.bs 27 = .ok (.invokestatic 26, 3) := by decide +kernel
theorem bAbI_d30 : decode bAbI.bs 30 = .ok (.putfield 15, 3) := by decide +kernel
theorem bAbI_d33 : decode bAbI.bs 33 = .ok (.aload_n 0, 1) := by decide +kernel
theorem bAbI_d34 : decode bAbI.bs 34 = .ok (.iconst 1, 1) := by decide +kernel
theorem bAbI_d35 : decode bAbI.bs 35 = .ok (.putfield 22, 3) := by decide +kernel
theorem bAbI_d38 : decode bAbI.bs 38 = .ok (.return_, 1) := by decide +kernel
theorem bAbI_pd : parseMethodDescriptor "(I)V" = some ⟨[.int], none⟩ := by decide +kernel
theorem bAbI_pn : plainFor bAbI.y = true := plainFor_of_name (show plainName "java/lang/AbstractStringBuilder" = true from by first | (simp [plainName, overriddenIn]; done) | decide +kernel)
theorem cAbI (l : Launch) (Z : State) (a0 : Array Value) (hw : ∀ d ∈ tables_1, d.before a0 Z = true) (n0 : Nat) (hEW : EW Z a0 consts_1) (q : Addr) (h0 : Heap) (σ : Addr → Prop) (E : Exa Z h0 q Road.SB) (Fc : Fld Z h0 q Road.AB "coder" "B" (.int 0)) (Fv : Fld Z h0 q Road.AB "value" "[B" .null) (Fn : Fld Z h0 q Road.AB "count" "I" (.int 0)) (sq : σ q) (cp : Int32) (Hc : Sta Z Z.heap Road.SN "COMPACT_STRINGS" "Z" (.int cp)) (hcp : ¬ cp = 0) :
    Road.Con l Z consts_1 n0 false bAbI [] σ #[(.ref q), (.int (16 : Int32))] h0 (fun v h2 s2 => v = none ∧ Keep h0 h2 [q] ∧ ∃ b, Road.Sb Z h2 q b [] 16 ∧ h0.size ≤ b ∧ s2 b) := by
  refine Road.Con.of bAbI_pn hEW #[.val (.ref q), .val (.int (16 : Int32))] (fun m => Road.ent (Road.laid1 rfl (Road.laid1 rfl Road.laid0)) (k := 0) rfl rfl) ?_
  intro D hD
  refine Road.aloadN 0 bAbI_d0 rfl ?_
  refine Road.initObj 1 bAbI_d1 (hw _ (List.mem_of_getElem? (i := 34) rfl)) (hw _ (List.mem_of_getElem? (i := 20) rfl)) (hw _ (List.mem_of_getElem? (i := 21) rfl)) 0 rfl rfl (by decide) (by decide) ?_
  refine Road.getstatic 4 bAbI_d4 (hw _ (List.mem_of_getElem? (i := 35) rfl)) Via.refl Hc ?_
  refine Road.if_eq 7 25 bAbI_d7 rfl (fun q => absurd q hcp) (fun hc7 => ?_)
  refine Road.aloadN 10 bAbI_d10 rfl ?_
  refine Road.iloadN 11 bAbI_d11 rfl ?_
  refine Road.newarray 12 .byte 16 16 bAbI_d12 rfl (hw _ (List.mem_of_getElem? (i := 8) rfl)) (by decide) (by decide) (by decide) (ce' := 1) (sl' := 16) rfl rfl (by decide) (by decide) ?_
  intro b h_1 σ_2 g_3 K_4 lt_5 m_6 s_7 Ab
  have ne_q_b : q ≠ b := Nat.ne_of_lt (Nat.lt_of_lt_of_le E.lt (Nat.le_of_eq g_3.symm))
  replace E := E.keep K_4
  replace Fc := Fc.keep K_4 nin0
  replace Fv := Fv.keep K_4 nin0
  replace Fn := Fn.keep K_4 nin0
  replace sq := m_6 _ sq
  refine Road.putfield 14 bAbI_d14 (hw _ (List.mem_of_getElem? (i := 36) rfl)) Via.refl Fv E (Or.inl (hw _ (List.mem_of_getElem? (i := 37) rfl))) (hw _ (List.mem_of_getElem? (i := 23) rfl)) (ty := (.array .byte)) (by decide) rfl rfl sq ?_
  intro h_10 W_8 K_9
  replace Fv := Fv.same W_8
  replace Fc := Fc.other W_8 (Or.inr (slot_ne (Or.inl (hw _ (List.mem_of_getElem? (i := 39) rfl))) (Or.inl (hw _ (List.mem_of_getElem? (i := 37) rfl))) (by decide) (t := .byte) (by decide) (t' := (.array .byte)) (by decide)))
  replace Fn := Fn.other W_8 (Or.inr (slot_ne (Or.inl (hw _ (List.mem_of_getElem? (i := 88) rfl))) (Or.inl (hw _ (List.mem_of_getElem? (i := 37) rfl))) (by decide) (t := .int) (by decide) (t' := (.array .byte)) (by decide)))
  replace E := E.keep K_9
  replace Ab := Ab.keep K_9 (ninS (Ne.symm ne_q_b) nin0)
  refine Road.aloadN 17 bAbI_d17 rfl ?_
  refine Road.iconst 18 (0 : Int32) bAbI_d18 rfl ?_
  refine Road.putfield 19 bAbI_d19 (hw _ (List.mem_of_getElem? (i := 38) rfl)) Via.refl Fc E (Or.inl (hw _ (List.mem_of_getElem? (i := 39) rfl))) (hw _ (List.mem_of_getElem? (i := 23) rfl)) (ty := .byte) (by decide) rfl rfl sq ?_
  intro h_13 W_11 K_12
  replace Fc := Fc.same W_11
  replace Fv := Fv.other W_11 (Or.inr (slot_ne (Or.inl (hw _ (List.mem_of_getElem? (i := 37) rfl))) (Or.inl (hw _ (List.mem_of_getElem? (i := 39) rfl))) (by decide) (t := (.array .byte)) (by decide) (t' := .byte) (by decide)))
  replace Fn := Fn.other W_11 (Or.inr (slot_ne (Or.inl (hw _ (List.mem_of_getElem? (i := 88) rfl))) (Or.inl (hw _ (List.mem_of_getElem? (i := 39) rfl))) (by decide) (t := .int) (by decide) (t' := .byte) (by decide)))
  replace E := E.keep K_12
  replace Ab := Ab.keep K_12 (ninS (Ne.symm ne_q_b) nin0)
  refine Road.goto 22 38 bAbI_d22 rfl ?_
  exact Road.ret 38 bAbI_d38 rfl (by decide) (by decide) (fun σ' m => ⟨rfl, ((Road.keep_more K_4).trans K_9 (by simp)).trans K_12 (by simp), b, ⟨E, Fc, Fv, Fn, ⟨_, Ab, rfl⟩, by simp⟩, Nat.le_of_eq g_3.symm, m _ s_7⟩)
def bSbI : Road.Bdy := (⟨"java/lang/StringBuilder", "<init>", "()V"⟩, jdk_67_method_1_code, 1, none, { frames := 2, cells := 1, slots := 16, locals := 27 })
theorem bSbI_d0 : decode bSbI.bs 0 = .ok (.aload_n 0, 1) := by decide +kernel
theorem bSbI_d1 : decode bSbI.bs 1 = .ok (.bipush 16, 2) := by decide +kernel
theorem bSbI_d3 : decode bSbI.bs 3 = .ok (.invokespecial 1, 3) := by decide +kernel
theorem bSbI_d6 : decode bSbI.bs 6 = .ok (.return_, 1) := by decide +kernel
theorem bSbI_pd : parseMethodDescriptor "()V" = some ⟨[], none⟩ := by decide +kernel
theorem bSbI_pn : plainFor bSbI.y = true := plainFor_of_name (show plainName "java/lang/StringBuilder" = true from by first | (simp [plainName, overriddenIn]; done) | decide +kernel)
theorem cSbI (l : Launch) (Z : State) (a0 : Array Value) (hw : ∀ d ∈ tables_1, d.before a0 Z = true) (n0 : Nat) (hEW : EW Z a0 consts_1) (q : Addr) (h0 : Heap) (σ : Addr → Prop) (E : Exa Z h0 q Road.SB) (Fc : Fld Z h0 q Road.AB "coder" "B" (.int 0)) (Fv : Fld Z h0 q Road.AB "value" "[B" .null) (Fn : Fld Z h0 q Road.AB "count" "I" (.int 0)) (sq : σ q) (cp : Int32) (Hc : Sta Z Z.heap Road.SN "COMPACT_STRINGS" "Z" (.int cp)) (hcp : ¬ cp = 0) :
    Road.Con l Z consts_1 n0 false bSbI [] σ #[(.ref q)] h0 (fun v h2 s2 => v = none ∧ Keep h0 h2 [q] ∧ ∃ b, Road.Sb Z h2 q b [] 16 ∧ h0.size ≤ b ∧ s2 b) := by
  refine Road.Con.of bSbI_pn hEW #[.val (.ref q)] (fun m => Road.ent (Road.laid1 rfl Road.laid0) (k := 0) rfl rfl) ?_
  intro D hD
  refine Road.aloadN 0 bSbI_d0 rfl ?_
  refine Road.bipush 1 (16 : Int32) bSbI_d1 rfl ?_
  refine Road.callI (B' := bAbI) (a := q) 3 (argsL := [(.int (16 : Int32))]) (rest := []) 0 bSbI_d3 (hw _ (List.mem_of_getElem? (i := 28) rfl)) (hw _ (List.mem_of_getElem? (i := 29) rfl)) (hw _ (List.mem_of_getElem? (i := 32) rfl)) (hw _ (List.mem_of_getElem? (i := 33) rfl)) rfl rfl (by decide) (cAbI l Z a0 hw n0 hEW q h0 σ E Fc Fv Fn sq cp Hc hcp) (lenOf bAbI_pd rfl) rfl rfl rfl (by decide) (by decide) (ce' := 1) (sl' := 16) rfl rfl (by decide) (by decide) ?_
  rintro _ h_1 σ_2 m_3 ⟨rfl, K_4, b, S, gb, sb⟩
  exact Road.ret 6 bSbI_d6 rfl (by decide) (by decide) (fun σ' m => ⟨rfl, K_4, b, S, gb, m _ sb⟩)
def bEn0 : Road.Bdy := (⟨"java/lang/AbstractStringBuilder", "ensureCapacityInternal", "(I)V"⟩, jdk_68_method_9_code, 3, none, { frames := 0, cells := 0, slots := 0, locals := 0 })
theorem bEn0_d0 : decode bEn0.bs 0 = .ok (.aload_n 0, 1) := by decide +kernel
theorem bEn0_d1 : decode bEn0.bs 1 = .ok (.getfield 15, 3) := by decide +kernel
theorem bEn0_d4 : decode bEn0.bs 4 = .ok (.arraylength, 1) := by decide +kernel
theorem bEn0_d5 : decode bEn0.bs 5 = .ok (.aload_n 0, 1) := by decide +kernel
theorem bEn0_d6 : decode bEn0.bs 6 = .ok (.getfield 22, 3) := by decide +kernel
theorem bEn0_d9 : decode bEn0.bs 9 = .ok (.ishr, 1) := by decide +kernel
theorem bEn0_d10 : decode bEn0.bs 10 = .ok (.istore_n 2, 1) := by decide +kernel
theorem bEn0_d11 : decode bEn0.bs 11 = .ok (.iload_n 1, 1) := by decide +kernel
theorem bEn0_d12 : decode bEn0.bs 12 = .ok (.iload_n 2, 1) := by decide +kernel
theorem bEn0_d13 : decode bEn0.bs 13 = .ok (.isub, 1) := by decide +kernel
theorem bEn0_d14 : decode bEn0.bs 14 = .ok (.ifCond .le 24, 3) := by decide +kernel
theorem bEn0_d17 : decode bEn0.bs 17 = .ok (.aload_n 0, 1) := by decide +kernel
theorem bEn0_d18 : decode bEn0.bs 18 = .ok (.aload_n 0, 1) := by decide +kernel
theorem bEn0_d19 : decode bEn0.bs 19 = .ok (.getfield 15, 3) := by decide +kernel
theorem bEn0_d22 : decode bEn0.bs 22 = .ok (.aload_n 0, 1) := by decide +kernel
theorem bEn0_d23 : decode bEn0.bs 23 = .ok (.iload_n 1, 1) := by decide +kernel
theorem bEn0_d24 : decode bEn0.bs 24 = .ok (.invokevirtual 104, 3) := by decide +kernel
theorem bEn0_d27 : decode bEn0.bs 27 = .ok (.aload_n 0, 1) := by decide +kernel
theorem bEn0_d28 : decode bEn0.bs 28 = .ok (.getfield 22, 3) := by decide +kernel
theorem bEn0_d31 : decode bEn0.bs 31 = .ok (.ishl, 1) := by decide +kernel
theorem bEn0_d32 : decode bEn0.bs 32 = .ok (.invokestatic 108, 3) := by decide +kernel
theorem bEn0_d35 : decode bEn0.bs 35 = .ok (.putfield 15, 3) := by decide +kernel
theorem bEn0_d38 : decode bEn0.bs 38 = .ok (.return_, 1) := by decide +kernel
theorem bEn0_pd : parseMethodDescriptor "(I)V" = some ⟨[.int], none⟩ := by decide +kernel
theorem bEn0_pn : plainFor bEn0.y = true := plainFor_of_name (show plainName "java/lang/AbstractStringBuilder" = true from by first | (simp [plainName, overriddenIn]; done) | decide +kernel)
theorem cEn0 (l : Launch) (Z : State) (a0 : Array Value) (hw : ∀ d ∈ tables_1, d.before a0 Z = true) (n0 : Nat) (hEW : EW Z a0 consts_1) (q b : Addr) (cs : List Int32) (N : Nat) (m : Nat) (h0 : Heap) (σ : Addr → Prop) (S : Road.Sb Z h0 q b cs N) (hm : m ≤ N) :
    Road.Con l Z consts_1 n0 false bEn0 [] σ #[(.ref q), (.int (Nat.toInt32 m))] h0 (fun v h2 _ => v = none ∧ h0 = h2) := by
  have hN := S.small
  have hle := S.le
  obtain ⟨E, Fc, Fv, Fn, ⟨r, Ab, hr⟩, hlt⟩ := S
  refine Road.Con.of bEn0_pn hEW #[.val (.ref q), .val (.int (Nat.toInt32 m)), .unset] (fun m => Road.ent (Road.laid1 rfl (Road.laid1 rfl Road.laid0)) (k := 1) rfl rfl) ?_
  intro D hD
  refine Road.aloadN 0 bEn0_d0 rfl ?_
  refine Road.getfield 1 bEn0_d1 (hw _ (List.mem_of_getElem? (i := 36) rfl)) Via.refl Fv ?_
  refine Road.alen 4 (Nat.toInt32 N) bEn0_d4 Ab (n := N) (by rw [List.length_append, List.length_map]; exact hr) rfl ?_
  refine Road.aloadN 5 bEn0_d5 rfl ?_
  refine Road.getfield 6 bEn0_d6 (hw _ (List.mem_of_getElem? (i := 38) rfl)) Via.refl Fc ?_
  refine Road.ishr 9 bEn0_d9 ?_
  refine Road.nameI ?_
  intro z_1 hz_1
  obtain rfl : z_1 = (Nat.toInt32 N) := by rw [hz_1]; exact Road.shr0 _
  refine Road.istoreN 10 #[.val (.ref q), .val (.int (Nat.toInt32 m)), .val (.int (Nat.toInt32 N))] bEn0_d10 rfl ?_
  refine Road.iloadN 11 bEn0_d11 rfl ?_
  refine Road.iloadN 12 bEn0_d12 rfl ?_
  refine Road.isub 13 bEn0_d13 ?_
  refine Road.if_le 14 38 bEn0_d14 rfl (fun hc14 => ?_) (fun q => absurd q (by rw [Road.gsub (by omega) hN]; omega))
  exact Road.ret 38 bEn0_d38 rfl (by decide) (by decide) (fun σ' m => ⟨rfl, rfl⟩)
def bInf : Road.Bdy := (⟨"java/lang/AbstractStringBuilder", "inflateIfNeededFor", "(Ljava/lang/String;)V"⟩, jdk_68_method_71_code, 2, none, { frames := 1, cells := 0, slots := 0, locals := 13 })
theorem bInf_d0 : decode bInf.bs 0 = .ok (.getstatic 18, 3) := by decide +kernel
theorem bInf_d3 : decode bInf.bs 3 = .ok (.ifCond .eq 18, 3) := by decide +kernel
theorem bInf_d6 : decode bInf.bs 6 = .ok (.aload_n 0, 1) := by decide +kernel
theorem bInf_d7 : decode bInf.bs 7 = .ok (.getfield 22, 3) := by decide +kernel
theorem bInf_d10 : decode bInf.bs 10 = .ok (.aload_n 1, 1) := by decide +kernel
theorem bInf_d11 : decode bInf.bs 11 = .ok (.invokevirtual 40, 3) := by decide +kernel
theorem bInf_d14 : decode bInf.bs 14 = .ok (.if_icmp .eq 7, 3) := by decide +kernel
theorem bInf_d17 : decode bInf.bs 17 = .ok (.aload_n 0, 1) := by decide +kernel
theorem bInf_d18 : decode bInf.bs 18 = .ok (.invokevirtual 195, 3) := by decide +kernel
theorem bInf_d21 : decode bInf.bs 21 = .ok (.return_, 1) := by decide +kernel
theorem bInf_pd : parseMethodDescriptor "(Ljava/lang/String;)V" = some ⟨[(.object "java/lang/String")], none⟩ := by decide +kernel
theorem bInf_pn : plainFor bInf.y = true := plainFor_of_name (show plainName "java/lang/AbstractStringBuilder" = true from by first | (simp [plainName, overriddenIn]; done) | decide +kernel)
theorem cInf (l : Launch) (Z : State) (a0 : Array Value) (hw : ∀ d ∈ tables_1, d.before a0 Z = true) (n0 : Nat) (hEW : EW Z a0 consts_1) (q s sb : Addr) (ds : List Int32) (h0 : Heap) (σ : Addr → Prop) (Fc : Fld Z h0 q Road.AB "coder" "B" (.int 0)) (T : Road.Str Z h0 s sb ds) (cp : Int32) (Hc : Sta Z Z.heap Road.SN "COMPACT_STRINGS" "Z" (.int cp)) (hcp : ¬ cp = 0) :
    Road.Con l Z consts_1 n0 false bInf [] σ #[(.ref q), (.ref s)] h0 (fun v h2 _ => v = none ∧ h0 = h2) := by
  refine Road.Con.of bInf_pn hEW #[.val (.ref q), .val (.ref s)] (fun m => Road.ent (Road.laid1 rfl (Road.laid1 rfl Road.laid0)) (k := 0) rfl rfl) ?_
  intro D hD
  refine Road.getstatic 0 bInf_d0 (hw _ (List.mem_of_getElem? (i := 35) rfl)) Via.refl Hc ?_
  refine Road.if_eq 3 21 bInf_d3 rfl (fun q => absurd q hcp) (fun hc3 => ?_)
  refine Road.aloadN 6 bInf_d6 rfl ?_
  refine Road.getfield 7 bInf_d7 (hw _ (List.mem_of_getElem? (i := 38) rfl)) Via.refl Fc ?_
  refine Road.aloadN 10 bInf_d10 rfl ?_
  refine Road.callV (B' := bCod) (a := s) 11 (argsL := []) (rest := [(.int (0 : Int32))]) "java/lang/String" 1 bInf_d11 (hw _ (List.mem_of_getElem? (i := 104) rfl)) (hw _ (List.mem_of_getElem? (i := 83) rfl)) (fun vm hz => Road.notFace_sib (args := #[]) (mv (s := D.s.setVm vm) hz (hw _ (List.mem_of_getElem? (i := 80) rfl))) rfl) (hw _ (List.mem_of_getElem? (i := 85) rfl)) (hw _ (List.mem_of_getElem? (i := 84) rfl)) (hw _ (List.mem_of_getElem? (i := 6) rfl)) (hw _ (List.mem_of_getElem? (i := 86) rfl)) (by decide) T.1 (cCod l Z a0 hw n0 hEW s h0 σ T.2.1 cp Hc hcp) (lenOf bCod_pd rfl) rfl rfl rfl (by decide) (by decide) (ce' := 0) (sl' := 0) rfl rfl (by decide) (by decide) ?_
  rintro _ h_1 σ_2 m_3 ⟨rfl, rfl⟩
  refine Road.Go.weaken (σ' := σ) m_3 (Nat.le_refl _) (Nat.le_refl _) ?_
  refine Road.icmp_eq 14 21 bInf_d14 rfl (fun hc14 => ?_) (fun q => absurd q (by decide))
  exact Road.ret 21 bInf_d21 rfl (by decide) (by decide) (fun σ' m => ⟨rfl, rfl⟩)
def bGeB : Road.Bdy := (⟨"java/lang/String", "getBytes", "([BIB)V"⟩, jdk_42_method_147_code, 4, none, { frames := 1, cells := 0, slots := 0, locals := 18 })
theorem bGeB_d0 : decode bGeB.bs 0 = .ok (.aload_n 0, 1) := by decide +kernel
theorem bGeB_d1 : decode bGeB.bs 1 = .ok (.invokevirtual 335, 3) := by decide +kernel
theorem bGeB_d4 : decode bGeB.bs 4 = .ok (.iload_n 3, 1) := by decide +kernel
theorem bGeB_d5 : decode bGeB.bs 5 = .ok (.if_icmp .ne 23, 3) := by decide +kernel
theorem bGeB_d8 : decode bGeB.bs 8 = .ok (.aload_n 0, 1) := by decide +kernel
theorem bGeB_d9 : decode bGeB.bs 9 = .ok (.getfield 9, 3) := by decide +kernel
theorem bGeB_d12 : decode bGeB.bs 12 = .ok (.iconst 0, 1) := by decide +kernel
theorem bGeB_d13 : decode bGeB.bs 13 = .ok (.aload_n 1, 1) := by decide +kernel
theorem bGeB_d14 : decode bGeB.bs 14 = .ok (.iload_n 2, 1) := by decide +kernel
theorem bGeB_d15 : decode bGeB.bs 15 = .ok (.iload_n 3, 1) := by decide +kernel
theorem bGeB_d16 : decode bGeB.bs 16 = .ok (.ishl, 1) := by decide +kernel
theorem bGeB_d17 : decode bGeB.bs 17 = .ok (.aload_n 0, 1) := by decide +kernel
theorem bGeB_d18 : decode bGeB.bs 18 = .ok (.getfield 9, 3) := by decide +kernel
theorem bGeB_d21 : decode bGeB.bs 21 = .ok (.arraylength, 1) := by decide +kernel
theorem bGeB_d22 : decode bGeB.bs 22 = .ok (.invokestatic 212, 3) := by decide +kernel
theorem bGeB_d25 : decode bGeB.bs 25 = .ok (.goto 18, 3) := by decide +kernel
theorem bGeB_d28 : decode bGeB.bs 28 = .ok (.aload_n 0, 1) := by decide +kernel
theorem bGeB_d29 : decode bGeB.bs 29 = .ok (.getfield 9, 3) := by decide +kernel
theorem bGeB_d32 : decode bGeB.bs 32 = .ok (.iconst 0, 1) := by decide +kernel
theorem bGeB_d33 : decode bGeB.bs 33 = .ok (.aload_n 1, 1) := by decide +kernel
theorem bGeB_d34 : decode bGeB.bs 34 = .ok (.iload_n 2, 1) := by decide +kernel
theorem bGeB_d35 : decode bGeB.bs 35 = .ok (.aload_n 0, 1) := by decide +kernel
theorem bGeB_d36 : decode bGeB.bs 36 = .ok (.getfield 9, 3) := by decide +kernel
theorem bGeB_d39 : decode bGeB.bs 39 = .ok (.arraylength, 1) := by decide +kernel
theorem bGeB_d40 : decode bGeB.bs 40 = .ok (.invokestatic 106, 3) := by decide +kernel
theorem bGeB_d43 : decode bGeB.bs 43 = .ok (.return_, 1) := by decide +kernel
theorem bGeB_pd : parseMethodDescriptor "([BIB)V" = some ⟨[(.array .byte), .int, .byte], none⟩ := by decide +kernel
theorem bGeB_pn : plainFor bGeB.y = true := plainFor_of_name (show plainName "java/lang/String" = true from by first | (simp [plainName, overriddenIn]; done) | decide +kernel)
theorem cGeB (l : Launch) (Z : State) (a0 : Array Value) (hw : ∀ d ∈ tables_1, d.before a0 Z = true) (n0 : Nat) (hEW : EW Z a0 consts_1) (s sb d : Addr) (ds : List Int32) (vd : List Value) (i : Nat) (h0 : Heap) (σ : Addr → Prop) (T : Road.Str Z h0 s sb ds) (Ad : Road.Ary Z h0 d .byte vd) (hi : i + ds.length ≤ vd.length) (sd : σ d) (cp : Int32) (Hc : Sta Z Z.heap Road.SN "COMPACT_STRINGS" "Z" (.int cp)) (hcp : ¬ cp = 0) :
    Road.Con l Z consts_1 n0 false bGeB [] σ #[(.ref s), (.ref d), (.int (Nat.toInt32 i)), (.int (0 : Int32))] h0 (fun v h2 _ => v = none ∧ Keep h0 h2 [d] ∧ Road.Ary Z h2 d .byte (vd.take i ++ ((ds.map Road.byt).drop 0).take ds.length ++ vd.drop (i + ds.length))) := by
  have hsm := Ad.small
  refine Road.Con.of bGeB_pn hEW #[.val (.ref s), .val (.ref d), .val (.int (Nat.toInt32 i)), .val (.int (0 : Int32))] (fun m => Road.ent (Road.laid1 rfl (Road.laid1 rfl (Road.laid1 rfl (Road.laid1 rfl Road.laid0)))) (k := 0) rfl rfl) ?_
  intro D hD
  refine Road.aloadN 0 bGeB_d0 rfl ?_
  refine Road.callV (B' := bCod) (a := s) 1 (argsL := []) (rest := []) "java/lang/String" 0 bGeB_d1 (hw _ (List.mem_of_getElem? (i := 82) rfl)) (hw _ (List.mem_of_getElem? (i := 83) rfl)) (fun vm hz => Road.notFace_sib (args := #[]) (mv (s := D.s.setVm vm) hz (hw _ (List.mem_of_getElem? (i := 80) rfl))) rfl) (hw _ (List.mem_of_getElem? (i := 85) rfl)) (hw _ (List.mem_of_getElem? (i := 84) rfl)) (hw _ (List.mem_of_getElem? (i := 6) rfl)) (hw _ (List.mem_of_getElem? (i := 86) rfl)) (by decide) T.1 (cCod l Z a0 hw n0 hEW s h0 σ T.2.1 cp Hc hcp) (lenOf bCod_pd rfl) rfl rfl rfl (by decide) (by decide) (ce' := 0) (sl' := 0) rfl rfl (by decide) (by decide) ?_
  rintro _ h_1 σ_2 m_3 ⟨rfl, rfl⟩
  refine Road.Go.weaken (σ' := σ) m_3 (Nat.le_refl _) (Nat.le_refl _) ?_
  refine Road.iloadN 4 bGeB_d4 rfl ?_
  refine Road.icmp_ne 5 28 bGeB_d5 rfl (fun q => absurd q (by decide)) (fun hc5 => ?_)
  refine Road.aloadN 8 bGeB_d8 rfl ?_
  refine Road.getfield 9 bGeB_d9 (hw _ (List.mem_of_getElem? (i := 59) rfl)) Via.refl T.2.2.1 ?_
  refine Road.iconst 12 (0 : Int32) bGeB_d12 rfl ?_
  refine Road.aloadN 13 bGeB_d13 rfl ?_
  refine Road.iloadN 14 bGeB_d14 rfl ?_
  refine Road.iloadN 15 bGeB_d15 rfl ?_
  refine Road.ishl 16 bGeB_d16 ?_
  refine Road.nameI ?_
  intro z_5 hz_5
  obtain rfl : z_5 = (Nat.toInt32 i) := by rw [hz_5]; exact Road.shl0 _
  refine Road.aloadN 17 bGeB_d17 rfl ?_
  refine Road.getfield 18 bGeB_d18 (hw _ (List.mem_of_getElem? (i := 59) rfl)) Via.refl T.2.2.1 ?_
  refine Road.alen 21 (Nat.toInt32 ds.length) bGeB_d21 T.2.2.2.1 (n := ds.length) (List.length_map _) rfl ?_
  refine Road.acopy 22 0 i ds.length 0 bGeB_d22 (hw _ (List.mem_of_getElem? (i := 110) rfl)) (hw _ (List.mem_of_getElem? (i := 113) rfl)) (hw _ (List.mem_of_getElem? (i := 111) rfl)) (hw _ (List.mem_of_getElem? (i := 112) rfl)) T.2.2.2.1 Ad rfl rfl (Road.n32 (by omega)) (Road.n32 (by omega)) (by rw [List.length_map]; omega) hi sd rfl rfl (by decide) (by decide) ?_
  intro h_6 K_7 Ae
  refine Road.goto 25 43 bGeB_d25 rfl ?_
  exact Road.ret 43 bGeB_d43 rfl (by decide) (by decide) (fun σ' m => ⟨rfl, K_7, Ae⟩)
def bPut : Road.Bdy := (⟨"java/lang/AbstractStringBuilder", "putStringAt", "(ILjava/lang/String;)V"⟩, jdk_68_method_73_code, 3, none, { frames := 2, cells := 0, slots := 0, locals := 33 })
theorem bPut_d0 : decode bPut.bs 0 = .ok (.aload_n 0, 1) := by decide +kernel
theorem bPut_d1 : decode bPut.bs 1 = .ok (.aload_n 2, 1) := by decide +kernel
theorem bPut_d2 : decode bPut.bs 2 = .ok (.invokevirtual 397, 3) := by decide +kernel
theorem bPut_d5 : decode bPut.bs 5 = .ok (.aload_n 2, 1) := by decide +kernel
theorem bPut_d6 : decode bPut.bs 6 = .ok (.aload_n 0, 1) := by decide +kernel
theorem bPut_d7 : decode bPut.bs 7 = .ok (.getfield 15, 3) := by decide +kernel
theorem bPut_d10 : decode bPut.bs 10 = .ok (.iload_n 1, 1) := by decide +kernel
theorem bPut_d11 : decode bPut.bs 11 = .ok (.aload_n 0, 1) := by decide +kernel
theorem bPut_d12 : decode bPut.bs 12 = .ok (.getfield 22, 3) := by decide +kernel
theorem bPut_d15 : decode bPut.bs 15 = .ok (.invokevirtual 399, 3) := by decide +kernel
theorem bPut_d18 : decode bPut.bs 18 = .ok (.return_, 1) := by decide +kernel
theorem bPut_pd : parseMethodDescriptor "(ILjava/lang/String;)V" = some ⟨[.int, (.object "java/lang/String")], none⟩ := by decide +kernel
theorem bPut_pn : plainFor bPut.y = true := plainFor_of_name (show plainName "java/lang/AbstractStringBuilder" = true from by first | (simp [plainName, overriddenIn]; done) | decide +kernel)
theorem cPut (l : Launch) (Z : State) (a0 : Array Value) (hw : ∀ d ∈ tables_1, d.before a0 Z = true) (n0 : Nat) (hEW : EW Z a0 consts_1) (q b : Addr) (cs : List Int32) (N : Nat) (s sb : Addr) (ds : List Int32) (h0 : Heap) (σ : Addr → Prop) (S : Road.Sb Z h0 q b cs N) (T : Road.Str Z h0 s sb ds) (hm : cs.length + ds.length ≤ N) (sb_ : σ b) (cp : Int32) (Hc : Sta Z Z.heap Road.SN "COMPACT_STRINGS" "Z" (.int cp)) (hcp : ¬ cp = 0) :
    Road.Con l Z consts_1 n0 false bPut [] σ #[(.ref q), (.int (Nat.toInt32 cs.length)), (.ref s)] h0 (fun v h2 _ => v = none ∧ Keep h0 h2 [b] ∧ ∃ r, Road.Ary Z h2 b .byte ((cs ++ ds).map Road.byt ++ r) ∧ (cs ++ ds).length + r.length = N) := by
  have hN := S.small
  have hle := S.le
  obtain ⟨E, Fc, Fv, Fn, ⟨r, Ab, hr⟩, hlt⟩ := S
  refine Road.Con.of bPut_pn hEW #[.val (.ref q), .val (.int (Nat.toInt32 cs.length)), .val (.ref s)] (fun m => Road.ent (Road.laid1 rfl (Road.laid1 rfl (Road.laid1 rfl Road.laid0))) (k := 0) rfl rfl) ?_
  intro D hD
  refine Road.aloadN 0 bPut_d0 rfl ?_
  refine Road.aloadN 1 bPut_d1 rfl ?_
  refine Road.callP (B' := bInf) (a := q) 2 (argsL := [(.ref s)]) (rest := []) "java/lang/StringBuilder" 0 bPut_d2 (hw _ (List.mem_of_getElem? (i := 99) rfl)) (hw _ (List.mem_of_getElem? (i := 101) rfl)) (hw _ (List.mem_of_getElem? (i := 102) rfl)) (hw _ (List.mem_of_getElem? (i := 100) rfl)) (hw _ (List.mem_of_getElem? (i := 32) rfl)) (hw _ (List.mem_of_getElem? (i := 103) rfl)) (by decide) E (cInf l Z a0 hw n0 hEW q s sb ds h0 σ Fc T cp Hc hcp) (lenOf bInf_pd rfl) rfl rfl rfl (by decide) (by decide) (ce' := 0) (sl' := 0) rfl rfl (by decide) (by decide) ?_
  rintro _ h_1 σ_2 m_3 ⟨rfl, rfl⟩
  refine Road.Go.weaken (σ' := σ) m_3 (Nat.le_refl _) (Nat.le_refl _) ?_
  refine Road.aloadN 5 bPut_d5 rfl ?_
  refine Road.aloadN 6 bPut_d6 rfl ?_
  refine Road.getfield 7 bPut_d7 (hw _ (List.mem_of_getElem? (i := 36) rfl)) Via.refl Fv ?_
  refine Road.iloadN 10 bPut_d10 rfl ?_
  refine Road.aloadN 11 bPut_d11 rfl ?_
  refine Road.getfield 12 bPut_d12 (hw _ (List.mem_of_getElem? (i := 38) rfl)) Via.refl Fc ?_
  refine Road.callV (B' := bGeB) (a := s) 15 (argsL := [(.ref b), (.int (Nat.toInt32 cs.length)), (.int (0 : Int32))]) (rest := []) "java/lang/String" 0 bPut_d15 (hw _ (List.mem_of_getElem? (i := 105) rfl)) (hw _ (List.mem_of_getElem? (i := 106) rfl)) (fun vm hz => Road.notFace_sib (args := #[]) (mv (s := D.s.setVm vm) hz (hw _ (List.mem_of_getElem? (i := 80) rfl))) rfl) (hw _ (List.mem_of_getElem? (i := 108) rfl)) (hw _ (List.mem_of_getElem? (i := 107) rfl)) (hw _ (List.mem_of_getElem? (i := 6) rfl)) (hw _ (List.mem_of_getElem? (i := 109) rfl)) (by decide) T.1 (cGeB l Z a0 hw n0 hEW s sb b ds _ cs.length h0 σ T Ab (by rw [List.length_append, List.length_map]; omega) sb_ cp Hc hcp) (lenOf bGeB_pd rfl) rfl rfl rfl (by decide) (by decide) (ce' := 0) (sl' := 0) rfl rfl (by decide) (by decide) ?_
  rintro _ h_5 σ_6 m_7 ⟨rfl, K_8, A2⟩
  rw [Road.put_str _ _ _ (by omega)] at A2
  exact Road.ret 18 bPut_d18 rfl (by decide) (by decide) (fun σ' m => ⟨rfl, K_8, _, A2, by rw [List.length_append, List.length_drop]; omega⟩)
def bAp0 : Road.Bdy := (⟨"java/lang/AbstractStringBuilder", "append", "(Ljava/lang/String;)Ljava/lang/AbstractStringBuilder;"⟩, jdk_68_method_22_code, 3, (some (.object "java/lang/AbstractStringBuilder")), { frames := 3, cells := 0, slots := 0, locals := 48 })
theorem bAp0_d0 : decode bAp0.bs 0 = .ok (.aload_n 1, 1) := by decide +kernel
theorem bAp0_d1 : decode bAp0.bs 1 = .ok (.ifnonnull 8, 3) := by decide +kernel
theorem bAp0_d4 : decode bAp0.bs 4 = .ok (.aload_n 0, 1) := by decide +kernel
theorem bAp0_d5 : decode bAp0.bs 5 = .ok (.invokevirtual 204, 3) := by decide +kernel
theorem bAp0_d8 : decode bAp0.bs 8 = .ok (.areturn, 1) := by decide +kernel
theorem bAp0_d9 : decode bAp0.bs 9 = .ok (.aload_n 1, 1) := by decide +kernel
theorem bAp0_d10 : decode bAp0.bs 10 = .ok (.invokevirtual 32, 3) := by decide +kernel
theorem bAp0_d13 : decode bAp0.bs 13 = .ok (.istore_n 2, 1) := by decide +kernel
theorem bAp0_d14 : decode bAp0.bs 14 = .ok (.aload_n 0, 1) := by decide +kernel
theorem bAp0_d15 : decode bAp0.bs 15 = .ok (.aload_n 0, 1) := by decide +kernel
theorem bAp0_d16 : decode bAp0.bs 16 = .ok (.getfield 79, 3) := by decide +kernel
theorem bAp0_d19 : decode bAp0.bs 19 = .ok (.iload_n 2, 1) := by decide +kernel
theorem bAp0_d20 : decode bAp0.bs 20 = .ok (.iadd, 1) := by decide +kernel
theorem bAp0_d21 : decode bAp0.bs 21 = .ok (.invokevirtual 100, 3) := by decide +kernel
theorem bAp0_d24 : decode bAp0.bs 24 = .ok (.aload_n 0, 1) := by decide +kernel
theorem bAp0_d25 : decode bAp0.bs 25 = .ok (.aload_n 0, 1) := by decide +kernel
theorem bAp0_d26 : decode bAp0.bs 26 = .ok (.getfield 79, 3) := by decide +kernel
theorem bAp0_d29 : decode bAp0.bs 29 = .ok (.aload_n 1, 1) := by decide +kernel
theorem bAp0_d30 : decode bAp0.bs 30 = .ok (.invokevirtual 208, 3) := by decide +kernel
theorem bAp0_d33 : decode bAp0.bs 33 = .ok (.aload_n 0, 1) := by decide +kernel
theorem bAp0_d34 : decode bAp0.bs 34 = .ok (.dup, 1) := by decide +kernel
theorem bAp0_d35 : decode bAp0.bs 35 = .ok (.getfield 79, 3) := by decide +kernel
theorem bAp0_d38 : decode bAp0.bs 38 = .ok (.iload_n 2, 1) := by decide +kernel
theorem bAp0_d39 : decode bAp0.bs 39 = .ok (.iadd, 1) := by decide +kernel
theorem bAp0_d40 : decode bAp0.bs 40 = .ok (.putfield 79, 3) := by decide +kernel
theorem bAp0_d43 : decode bAp0.bs 43 = .ok (.aload_n 0, 1) := by decide +kernel
theorem bAp0_d44 : decode bAp0.bs 44 = .ok (.areturn, 1) := by decide +kernel
theorem bAp0_pd : parseMethodDescriptor "(Ljava/lang/String;)Ljava/lang/AbstractStringBuilder;" = some ⟨[(.object "java/lang/String")], (some (.object "java/lang/AbstractStringBuilder"))⟩ := by decide +kernel
theorem bAp0_pn : plainFor bAp0.y = true := plainFor_of_name (show plainName "java/lang/AbstractStringBuilder" = true from by first | (simp [plainName, overriddenIn]; done) | decide +kernel)
theorem cAp0 (l : Launch) (Z : State) (a0 : Array Value) (hw : ∀ d ∈ tables_1, d.before a0 Z = true) (n0 : Nat) (hEW : EW Z a0 consts_1) (q b : Addr) (cs : List Int32) (N : Nat) (s sb : Addr) (ds : List Int32) (h0 : Heap) (σ : Addr → Prop) (S : Road.Sb Z h0 q b cs N) (T : Road.Str Z h0 s sb ds) (hm : cs.length + ds.length ≤ N) (sb_ : σ b) (sq : σ q) (cp : Int32) (Hc : Sta Z Z.heap Road.SN "COMPACT_STRINGS" "Z" (.int cp)) (hcp : ¬ cp = 0) :
    Road.Con l Z consts_1 n0 false bAp0 [] σ #[(.ref q), (.ref s)] h0 (fun v h2 s2 => v = some (.ref q) ∧ Keep h0 h2 [q, b] ∧ Road.Sb Z h2 q b (cs ++ ds) N) := by
  have S0 := S
  have hN := S.small
  have hle := S.le
  obtain ⟨E, Fc, Fv, Fn, ⟨r, Ab, hr⟩, hlt⟩ := S
  have nqb : q ≠ b := by obtain ⟨c, Ar, -⟩ := Ab; exact ne_arr E (hw _ (List.mem_of_getElem? (i := 23) rfl)) Ar
  refine Road.Con.of bAp0_pn hEW #[.val (.ref q), .val (.ref s), .unset] (fun m => Road.ent (Road.laid1 rfl (Road.laid1 rfl Road.laid0)) (k := 1) rfl rfl) ?_
  intro D hD
  refine Road.aloadN 0 bAp0_d0 rfl ?_
  refine Road.ifnonnull 1 9 rfl bAp0_d1 rfl (fun hc1 => ?_) (fun q => absurd q (by simp))
  refine Road.aloadN 9 bAp0_d9 rfl ?_
  refine Road.callV (B' := bLen) (a := s) 10 (argsL := []) (rest := []) "java/lang/String" 0 bAp0_d10 (hw _ (List.mem_of_getElem? (i := 77) rfl)) (hw _ (List.mem_of_getElem? (i := 78) rfl)) (fun vm hz => Road.notFace_sib (args := #[]) (mv (s := D.s.setVm vm) hz (hw _ (List.mem_of_getElem? (i := 80) rfl))) rfl) (hw _ (List.mem_of_getElem? (i := 80) rfl)) (hw _ (List.mem_of_getElem? (i := 79) rfl)) (hw _ (List.mem_of_getElem? (i := 6) rfl)) (hw _ (List.mem_of_getElem? (i := 81) rfl)) (by decide) T.1 (cLen l Z a0 hw n0 hEW s sb ds h0 σ T cp Hc hcp) (lenOf bLen_pd rfl) rfl rfl rfl (by decide) (by decide) (ce' := 0) (sl' := 0) rfl rfl (by decide) (by decide) ?_
  rintro _ h_1 σ_2 m_3 ⟨rfl, rfl⟩
  refine Road.Go.weaken (σ' := σ) m_3 (Nat.le_refl _) (Nat.le_refl _) ?_
  refine Road.istoreN 13 #[.val (.ref q), .val (.ref s), .val (.int (Nat.toInt32 ds.length))] bAp0_d13 rfl ?_
  refine Road.aloadN 14 bAp0_d14 rfl ?_
  refine Road.aloadN 15 bAp0_d15 rfl ?_
  refine Road.getfield 16 bAp0_d16 (hw _ (List.mem_of_getElem? (i := 87) rfl)) Via.refl Fn ?_
  refine Road.iloadN 19 bAp0_d19 rfl ?_
  refine Road.iadd 20 bAp0_d20 ?_
  refine Road.nameI ?_
  intro z_5 hz_5
  obtain rfl : z_5 = (Nat.toInt32 (cs.length + ds.length)) := by rw [hz_5]; exact Road.add32n _ _
  refine Road.callP (B' := bEn0) (a := q) 21 (argsL := [(.int (Nat.toInt32 (cs.length + ds.length)))]) (rest := []) "java/lang/StringBuilder" 0 bAp0_d21 (hw _ (List.mem_of_getElem? (i := 89) rfl)) (hw _ (List.mem_of_getElem? (i := 91) rfl)) (hw _ (List.mem_of_getElem? (i := 92) rfl)) (hw _ (List.mem_of_getElem? (i := 90) rfl)) (hw _ (List.mem_of_getElem? (i := 32) rfl)) (hw _ (List.mem_of_getElem? (i := 93) rfl)) (by decide) E (cEn0 l Z a0 hw n0 hEW q b cs N (cs.length + ds.length) h0 σ S0 hm) (lenOf bEn0_pd rfl) rfl rfl rfl (by decide) (by decide) (ce' := 0) (sl' := 0) rfl rfl (by decide) (by decide) ?_
  rintro _ h_6 σ_7 m_8 ⟨rfl, rfl⟩
  refine Road.Go.weaken (σ' := σ) m_8 (Nat.le_refl _) (Nat.le_refl _) ?_
  refine Road.aloadN 24 bAp0_d24 rfl ?_
  refine Road.aloadN 25 bAp0_d25 rfl ?_
  refine Road.getfield 26 bAp0_d26 (hw _ (List.mem_of_getElem? (i := 87) rfl)) Via.refl Fn ?_
  refine Road.aloadN 29 bAp0_d29 rfl ?_
  refine Road.callP (B' := bPut) (a := q) 30 (argsL := [(.int (Nat.toInt32 cs.length)), (.ref s)]) (rest := []) "java/lang/StringBuilder" 0 bAp0_d30 (hw _ (List.mem_of_getElem? (i := 94) rfl)) (hw _ (List.mem_of_getElem? (i := 96) rfl)) (hw _ (List.mem_of_getElem? (i := 97) rfl)) (hw _ (List.mem_of_getElem? (i := 95) rfl)) (hw _ (List.mem_of_getElem? (i := 32) rfl)) (hw _ (List.mem_of_getElem? (i := 98) rfl)) (by decide) E (cPut l Z a0 hw n0 hEW q b cs N s sb ds h0 σ S0 T hm sb_ cp Hc hcp) (lenOf bPut_pd rfl) rfl rfl rfl (by decide) (by decide) (ce' := 0) (sl' := 0) rfl rfl (by decide) (by decide) ?_
  rintro _ h_10 σ_11 m_12 ⟨rfl, K_13, r3, A3, hr3⟩
  replace E := E.keep K_13
  replace Fc := Fc.keep K_13 (ninS nqb nin0)
  replace Fv := Fv.keep K_13 (ninS nqb nin0)
  replace Fn := Fn.keep K_13 (ninS nqb nin0)
  replace sq := m_12 _ sq
  replace sb_ := m_12 _ sb_
  refine Road.aloadN 33 bAp0_d33 rfl ?_
  refine Road.dup 34 bAp0_d34 ?_
  refine Road.getfield 35 bAp0_d35 (hw _ (List.mem_of_getElem? (i := 87) rfl)) Via.refl Fn ?_
  refine Road.iloadN 38 bAp0_d38 rfl ?_
  refine Road.iadd 39 bAp0_d39 ?_
  refine Road.nameI ?_
  intro z_14 hz_14
  obtain rfl : z_14 = (Nat.toInt32 (cs ++ ds).length) := by rw [hz_14]; rw [Road.add32n, List.length_append]
  refine Road.putfield 40 bAp0_d40 (hw _ (List.mem_of_getElem? (i := 87) rfl)) Via.refl Fn E (Or.inl (hw _ (List.mem_of_getElem? (i := 88) rfl))) (hw _ (List.mem_of_getElem? (i := 23) rfl)) (ty := .int) (by decide) rfl rfl sq ?_
  intro h_17 W_15 K_16
  replace Fn := Fn.same W_15
  replace Fc := Fc.other W_15 (Or.inr (slot_ne (Or.inl (hw _ (List.mem_of_getElem? (i := 39) rfl))) (Or.inl (hw _ (List.mem_of_getElem? (i := 88) rfl))) (by decide) (t := .byte) (by decide) (t' := .int) (by decide)))
  replace Fv := Fv.other W_15 (Or.inr (slot_ne (Or.inl (hw _ (List.mem_of_getElem? (i := 37) rfl))) (Or.inl (hw _ (List.mem_of_getElem? (i := 88) rfl))) (by decide) (t := (.array .byte)) (by decide) (t' := .int) (by decide)))
  replace E := E.keep K_16
  replace A3 := A3.keep K_16 (ninS (Ne.symm nqb) nin0)
  refine Road.aloadN 43 bAp0_d43 rfl ?_
  exact Road.aret 44 bAp0_d44 (t := (.object "java/lang/AbstractStringBuilder")) rfl rfl rfl (by decide) (by decide) (fun σ' m => ⟨rfl, (Road.keep2 K_13 K_16), ⟨E, Fc, Fv, Fn, ⟨r3, A3, hr3⟩, (fun c hc => (List.mem_append.mp hc).elim (hlt c) (T.2.2.2.2 c))⟩⟩)
def bSp0 : Road.Bdy := (⟨"java/lang/StringBuilder", "append", "(Ljava/lang/String;)Ljava/lang/StringBuilder;"⟩, jdk_67_method_7_code, 2, (some (.object "java/lang/StringBuilder")), { frames := 4, cells := 0, slots := 0, locals := 62 })
theorem bSp0_d0 : decode bSp0.bs 0 = .ok (.aload_n 0, 1) := by decide +kernel
theorem bSp0_d1 : decode bSp0.bs 1 = .ok (.aload_n 1, 1) := by decide +kernel
theorem bSp0_d2 : decode bSp0.bs 2 = .ok (.invokespecial 29, 3) := by decide +kernel
theorem bSp0_d5 : decode bSp0.bs 5 = .ok (.pop, 1) := by decide +kernel
theorem bSp0_d6 : decode bSp0.bs 6 = .ok (.aload_n 0, 1) := by decide +kernel
theorem bSp0_d7 : decode bSp0.bs 7 = .ok (.areturn, 1) := by decide +kernel
theorem bSp0_pd : parseMethodDescriptor "(Ljava/lang/String;)Ljava/lang/StringBuilder;" = some ⟨[(.object "java/lang/String")], (some (.object "java/lang/StringBuilder"))⟩ := by decide +kernel
theorem bSp0_pn : plainFor bSp0.y = true := plainFor_of_name (show plainName "java/lang/StringBuilder" = true from by first | (simp [plainName, overriddenIn]; done) | decide +kernel)
theorem cSp0 (l : Launch) (Z : State) (a0 : Array Value) (hw : ∀ d ∈ tables_1, d.before a0 Z = true) (n0 : Nat) (hEW : EW Z a0 consts_1) (q b : Addr) (cs : List Int32) (N : Nat) (s sb : Addr) (ds : List Int32) (h0 : Heap) (σ : Addr → Prop) (S : Road.Sb Z h0 q b cs N) (T : Road.Str Z h0 s sb ds) (hm : cs.length + ds.length ≤ N) (sb_ : σ b) (sq : σ q) (cp : Int32) (Hc : Sta Z Z.heap Road.SN "COMPACT_STRINGS" "Z" (.int cp)) (hcp : ¬ cp = 0) :
    Road.Con l Z consts_1 n0 false bSp0 [] σ #[(.ref q), (.ref s)] h0 (fun v h2 s2 => v = some (.ref q) ∧ Keep h0 h2 [q, b] ∧ Road.Sb Z h2 q b (cs ++ ds) N) := by
  refine Road.Con.of bSp0_pn hEW #[.val (.ref q), .val (.ref s)] (fun m => Road.ent (Road.laid1 rfl (Road.laid1 rfl Road.laid0)) (k := 0) rfl rfl) ?_
  intro D hD
  refine Road.aloadN 0 bSp0_d0 rfl ?_
  refine Road.aloadN 1 bSp0_d1 rfl ?_
  refine Road.callUp (B' := bAp0) (a := q) 2 (argsL := [(.ref s)]) (rest := []) "java/lang/StringBuilder" 0 bSp0_d2 (hw _ (List.mem_of_getElem? (i := 72) rfl)) (Road.notFace_sib (hw _ (List.mem_of_getElem? (i := 92) rfl)) rfl) (hw _ (List.mem_of_getElem? (i := 73) rfl)) (hw _ (List.mem_of_getElem? (i := 74) rfl)) (hw _ (List.mem_of_getElem? (i := 32) rfl)) (hw _ (List.mem_of_getElem? (i := 76) rfl)) (by decide) (by decide) S.1 (cAp0 l Z a0 hw n0 hEW q b cs N s sb ds h0 σ S T hm sb_ sq cp Hc hcp) (lenOf bAp0_pd rfl) rfl rfl rfl (by decide) (by decide) (ce' := 0) (sl' := 0) rfl rfl (by decide) (by decide) ?_
  rintro _ h_1 σ_2 m_3 ⟨rfl, K_4, S2⟩
  refine Road.pop 5 bSp0_d5 ?_
  refine Road.aloadN 6 bSp0_d6 rfl ?_
  exact Road.aret 7 bSp0_d7 (t := (.object "java/lang/StringBuilder")) rfl rfl rfl (by decide) (by decide) (fun σ' m => ⟨rfl, K_4, S2⟩)
def bMin : Road.Bdy := (⟨"java/lang/Math", "min", "(II)I"⟩, jdk_29_method_69_code, 2, (some .int), { frames := 0, cells := 0, slots := 0, locals := 0 })
theorem bMin_d0 : decode bMin.bs 0 = .ok (.iload_n 0, 1) := by decide +kernel
theorem bMin_d1 : decode bMin.bs 1 = .ok (.iload_n 1, 1) := by decide +kernel
theorem bMin_d2 : decode bMin.bs 2 = .ok (.if_icmp .gt 7, 3) := by decide +kernel
theorem bMin_d5 : decode bMin.bs 5 = .ok (.iload_n 0, 1) := by decide +kernel
theorem bMin_d6 : decode bMin.bs 6 = .ok (.goto 4, 3) := by decide +kernel
theorem bMin_d9 : decode bMin.bs 9 = .ok (.iload_n 1, 1) := by decide +kernel
theorem bMin_d10 : decode bMin.bs 10 = .ok (.ireturn, 1) := by decide +kernel
theorem bMin_pd : parseMethodDescriptor "(II)I" = some ⟨[.int, .int], (some .int)⟩ := by decide +kernel
theorem bMin_pn : plainFor bMin.y = true := Jvm.Free.JP.mathPlain rfl (by decide +kernel)
theorem cMin (l : Launch) (Z : State) (a0 : Array Value) (hw : ∀ d ∈ tables_1, d.before a0 Z = true) (n0 : Nat) (hEW : EW Z a0 consts_1) (i j : Nat) (h0 : Heap) (σ : Addr → Prop) (hi : i < 2147483648) (hj : j < 2147483648) :
    Road.Con l Z consts_1 n0 false bMin [] σ #[(.int (Nat.toInt32 i)), (.int (Nat.toInt32 j))] h0 (fun v h2 _ => v = some (.int (Nat.toInt32 (min i j))) ∧ h0 = h2) := by
  refine Road.Con.of bMin_pn hEW #[.val (.int (Nat.toInt32 i)), .val (.int (Nat.toInt32 j))] (fun m => Road.ent (Road.laid1 rfl (Road.laid1 rfl Road.laid0)) (k := 0) rfl rfl) ?_
  intro D hD
  refine Road.iloadN 0 bMin_d0 rfl ?_
  refine Road.iloadN 1 bMin_d1 rfl ?_
  refine Road.icmp_gt 2 9 bMin_d2 rfl (fun hc2 => ?_) (fun hc2 => ?_)
  · skip
    refine Road.iloadN 9 bMin_d9 rfl ?_
    exact Road.iretI 10 bMin_d10 rfl (by decide) (by decide) (fun σ' m => ⟨by rw [Road.lt32 hj hi] at hc2; rw [Nat.min_eq_right (by omega)], rfl⟩)
  · skip
    refine Road.iloadN 5 bMin_d5 rfl ?_
    refine Road.goto 6 10 bMin_d6 rfl ?_
    exact Road.iretI 10 bMin_d10 rfl (by decide) (by decide) (fun σ' m => ⟨by rw [Road.lt32 hj hi] at hc2; rw [Nat.min_eq_left (by omega)], rfl⟩)
def bCpO : Road.Bdy := (⟨"java/util/Arrays", "copyOf", "([BI)[B"⟩, jdk_65_method_121_code, 3, (some (.array .byte)), { frames := 1, cells := 1, slots := 34, locals := 22 })
theorem bCpO_d0 : decode bCpO.bs 0 = .ok (.iload_n 1, 1) := by decide +kernel
theorem bCpO_d1 : decode bCpO.bs 1 = .ok (.aload_n 0, 1) := by decide +kernel
theorem bCpO_d2 : decode bCpO.bs 2 = .ok (.arraylength, 1) := by decide +kernel
theorem bCpO_d3 : decode bCpO.bs 3 = .ok (.if_icmp .ne 11, 3) := by decide +kernel
theorem bCpO_d6 : decode bCpO.bs 6 = .ok (.aload_n 0, 1) := by decide +kernel
theorem bCpO_d7 : decode bCpO.bs 7 = .ok (.invokevirtual 310, 3) := by decide +kernel
theorem bCpO_d10 : decode bCpO.bs 10 = .ok (.checkcast 311, 3) := by decide +kernel
theorem bCpO_d13 : decode bCpO.bs 13 = .ok (.areturn, 1) := by decide +kernel
theorem bCpO_d14 : decode bCpO.bs 14 = .ok (.iload_n 1, 1) := by decide +kernel
theorem bCpO_d15 : decode bCpO.bs 15 = .ok (.newarray .byte, 2) := by decide +kernel
theorem bCpO_d17 : decode bCpO.bs 17 = .ok (.astore_n 2, 1) := by decide +kernel
theorem bCpO_d18 : decode bCpO.bs 18 = .ok (.aload_n 0, 1) := by decide +kernel
theorem bCpO_d19 : decode bCpO.bs 19 = .ok (.iconst 0, 1) := by decide +kernel
theorem bCpO_d20 : decode bCpO.bs 20 = .ok (.aload_n 2, 1) := by decide +kernel
theorem bCpO_d21 : decode bCpO.bs 21 = .ok (.iconst 0, 1) := by decide +kernel
theorem bCpO_d22 : decode bCpO.bs 22 = .ok (.aload_n 0, 1) := by decide +kernel
theorem bCpO_d23 : decode bCpO.bs 23 = .ok (.arraylength, 1) := by decide +kernel
theorem bCpO_d24 : decode bCpO.bs 24 = .ok (.iload_n 1, 1) := by decide +kernel
theorem bCpO_d25 : decode bCpO.bs 25 = .ok (.invokestatic 304, 3) := by decide +kernel
theorem bCpO_d28 : decode bCpO.bs 28 = .ok (.invokestatic 150, 3) := by decide +kernel
theorem bCpO_d31 : decode bCpO.bs 31 = .ok (.aload_n 2, 1) := by decide +kernel
theorem bCpO_d32 : decode bCpO.bs 32 = .ok (.areturn, 1) := by decide +kernel
theorem bCpO_pd : parseMethodDescriptor "([BI)[B" = some ⟨[(.array .byte), .int], (some (.array .byte))⟩ := by decide +kernel
theorem bCpO_pn : plainFor bCpO.y = true := plainFor_of_name (show plainName "java/util/Arrays" = true from by first | (simp [plainName, overriddenIn]; done) | decide +kernel)
theorem cCpO (l : Launch) (Z : State) (a0 : Array Value) (hw : ∀ d ∈ tables_1, d.before a0 Z = true) (n0 : Nat) (hEW : EW Z a0 consts_1) (b : Addr) (vs : List Value) (m : Nat) (h0 : Heap) (σ : Addr → Prop) (A : Road.Ary Z h0 b .byte vs) (hm : vs.length < m) (hcap : m ≤ 34) :
    Road.Con l Z consts_1 n0 false bCpO [] σ #[(.ref b), (.int (Nat.toInt32 m))] h0 (fun v h2 s2 => ∃ d, v = some (.ref d) ∧ h0.size ≤ d ∧ Keep h0 h2 [] ∧ s2 d ∧ Road.Ary Z h2 d .byte (vs ++ List.replicate (m - vs.length) (.int 0))) := by
  have hsm := A.small
  refine Road.Con.of bCpO_pn hEW #[.val (.ref b), .val (.int (Nat.toInt32 m)), .unset] (fun m => Road.ent (Road.laid1 rfl (Road.laid1 rfl Road.laid0)) (k := 1) rfl rfl) ?_
  intro D hD
  refine Road.iloadN 0 bCpO_d0 rfl ?_
  refine Road.aloadN 1 bCpO_d1 rfl ?_
  refine Road.alen 2 (Nat.toInt32 vs.length) bCpO_d2 A (n := vs.length) rfl rfl ?_
  refine Road.icmp_ne 3 14 bCpO_d3 rfl (fun hc3 => ?_) (fun q => absurd q (by rw [Road.eq32 (by omega) (by omega)]; omega))
  refine Road.iloadN 14 bCpO_d14 rfl ?_
  refine Road.newarray 15 .byte m 34 bCpO_d15 rfl (hw _ (List.mem_of_getElem? (i := 8) rfl)) (Road.n32 (by omega)) hcap (by decide) (ce' := 1) (sl' := 34) rfl rfl (by decide) (by decide) ?_
  intro d h_1 σ_2 g_3 K_4 lt_5 m_6 s_7 Ad
  have ne_b_d : b ≠ d := Nat.ne_of_lt (Nat.lt_of_lt_of_le A.lt (Nat.le_of_eq g_3.symm))
  replace A := A.keep K_4 nin0
  refine Road.astoreN 17 #[.val (.ref b), .val (.int (Nat.toInt32 m)), .val (.ref d)] bCpO_d17 rfl ?_
  refine Road.aloadN 18 bCpO_d18 rfl ?_
  refine Road.iconst 19 (0 : Int32) bCpO_d19 rfl ?_
  refine Road.aloadN 20 bCpO_d20 rfl ?_
  refine Road.iconst 21 (0 : Int32) bCpO_d21 rfl ?_
  refine Road.aloadN 22 bCpO_d22 rfl ?_
  refine Road.alen 23 (Nat.toInt32 vs.length) bCpO_d23 A (n := vs.length) rfl rfl ?_
  refine Road.iloadN 24 bCpO_d24 rfl ?_
  refine Road.callS (B' := bMin) 25 (argsL := [(.int (Nat.toInt32 vs.length)), (.int (Nat.toInt32 m))]) (rest := [(.int (0 : Int32)), (.ref d), (.int (0 : Int32)), (.ref b)]) 4 bCpO_d25 (hw _ (List.mem_of_getElem? (i := 153) rfl)) (hw _ (List.mem_of_getElem? (i := 154) rfl)) (hw _ (List.mem_of_getElem? (i := 145) rfl)) (hw _ (List.mem_of_getElem? (i := 155) rfl)) (by decide) (cMin l Z a0 hw n0 hEW vs.length m h_1 σ_2 hsm (by omega)) (lenOf bMin_pd rfl) rfl rfl rfl (by decide) (by decide) (ce' := 1) (sl' := 34) rfl rfl (by decide) (by decide) ?_
  rintro _ h_8 σ_9 m_10 ⟨rfl, rfl⟩
  refine Road.Go.weaken (σ' := σ_2) m_10 (Nat.le_refl _) (Nat.le_refl _) ?_
  refine Road.acopy 28 0 0 vs.length 0 bCpO_d28 (hw _ (List.mem_of_getElem? (i := 156) rfl)) (hw _ (List.mem_of_getElem? (i := 113) rfl)) (hw _ (List.mem_of_getElem? (i := 111) rfl)) (hw _ (List.mem_of_getElem? (i := 112) rfl)) A Ad rfl rfl rfl (by rw [Nat.min_eq_left (by omega)]; exact Road.n32 hsm) (by omega) (by rw [List.length_replicate]; omega) s_7 rfl rfl (by decide) (by decide) ?_
  intro h_12 K_13 Ae
  replace A := A.keep K_13 (ninS ne_b_d nin0)
  refine Road.aloadN 31 bCpO_d31 rfl ?_
  exact Road.aret 32 bCpO_d32 (t := (.array .byte)) rfl rfl rfl (by decide) (by decide) (fun σ' m => ⟨d, rfl, Nat.le_of_eq g_3.symm, K_4.trans K_13 (by intro x hx; cases List.mem_singleton.mp hx; exact Or.inr (Nat.le_of_eq g_3.symm)), m _ s_7, by simpa [defaultValue] using Ae⟩)
def bMax : Road.Bdy := (⟨"java/lang/Math", "max", "(II)I"⟩, jdk_29_method_65_code, 2, (some .int), { frames := 0, cells := 0, slots := 0, locals := 0 })
theorem bMax_d0 : decode bMax.bs 0 = .ok (.iload_n 0, 1) := by decide +kernel
theorem bMax_d1 : decode bMax.bs 1 = .ok (.iload_n 1, 1) := by decide +kernel
theorem bMax_d2 : decode bMax.bs 2 = .ok (.if_icmp .lt 7, 3) := by decide +kernel
theorem bMax_d5 : decode bMax.bs 5 = .ok (.iload_n 0, 1) := by decide +kernel
theorem bMax_d6 : decode bMax.bs 6 = .ok (.goto 4, 3) := by decide +kernel
theorem bMax_d9 : decode bMax.bs 9 = .ok (.iload_n 1, 1) := by decide +kernel
theorem bMax_d10 : decode bMax.bs 10 = .ok (.ireturn, 1) := by decide +kernel
theorem bMax_pd : parseMethodDescriptor "(II)I" = some ⟨[.int, .int], (some .int)⟩ := by decide +kernel
theorem bMax_pn : plainFor bMax.y = true := Jvm.Free.JP.mathPlain rfl (by decide +kernel)
theorem cMax (l : Launch) (Z : State) (a0 : Array Value) (hw : ∀ d ∈ tables_1, d.before a0 Z = true) (n0 : Nat) (hEW : EW Z a0 consts_1) (i j : Nat) (h0 : Heap) (σ : Addr → Prop) (hi : i < 2147483648) (hj : j < 2147483648) :
    Road.Con l Z consts_1 n0 false bMax [] σ #[(.int (Nat.toInt32 i)), (.int (Nat.toInt32 j))] h0 (fun v h2 _ => v = some (.int (Nat.toInt32 (max i j))) ∧ h0 = h2) := by
  refine Road.Con.of bMax_pn hEW #[.val (.int (Nat.toInt32 i)), .val (.int (Nat.toInt32 j))] (fun m => Road.ent (Road.laid1 rfl (Road.laid1 rfl Road.laid0)) (k := 0) rfl rfl) ?_
  intro D hD
  refine Road.iloadN 0 bMax_d0 rfl ?_
  refine Road.iloadN 1 bMax_d1 rfl ?_
  refine Road.icmp_lt 2 9 bMax_d2 rfl (fun hc2 => ?_) (fun hc2 => ?_)
  · skip
    refine Road.iloadN 9 bMax_d9 rfl ?_
    exact Road.iretI 10 bMax_d10 rfl (by decide) (by decide) (fun σ' m => ⟨by rw [Road.lt32 hi hj] at hc2; rw [Nat.max_eq_right (by omega)], rfl⟩)
  · skip
    refine Road.iloadN 5 bMax_d5 rfl ?_
    refine Road.goto 6 10 bMax_d6 rfl ?_
    exact Road.iretI 10 bMax_d10 rfl (by decide) (by decide) (fun σ' m => ⟨by rw [Road.lt32 hi hj] at hc2; rw [Nat.max_eq_left (by omega)], rfl⟩)
def bNwL : Road.Bdy := (⟨"jdk/internal/util/ArraysSupport", "newLength", "(III)I"⟩, jdk_48_method_27_code, 4, (some .int), { frames := 1, cells := 0, slots := 0, locals := 14 })
theorem bNwL_d0 : decode bNwL.bs 0 = .ok (.iload_n 0, 1) := by decide +kernel
theorem bNwL_d1 : decode bNwL.bs 1 = .ok (.iload_n 1, 1) := by decide +kernel
theorem bNwL_d2 : decode bNwL.bs 2 = .ok (.iload_n 2, 1) := by decide +kernel
theorem bNwL_d3 : decode bNwL.bs 3 = .ok (.invokestatic 194, 3) := by decide +kernel
theorem bNwL_d6 : decode bNwL.bs 6 = .ok (.iadd, 1) := by decide +kernel
theorem bNwL_d7 : decode bNwL.bs 7 = .ok (.istore_n 3, 1) := by decide +kernel
theorem bNwL_d8 : decode bNwL.bs 8 = .ok (.iconst 0, 1) := by decide +kernel
theorem bNwL_d9 : decode bNwL.bs 9 = .ok (.iload_n 3, 1) := by decide +kernel
theorem bNwL_d10 : decode bNwL.bs 10 = .ok (.if_icmp .ge 11, 3) := by decide +kernel
theorem bNwL_d13 : decode bNwL.bs 13 = .ok (.iload_n 3, 1) := by decide +kernel
theorem bNwL_d14 : decode bNwL.bs 14 = .ok (.ldc 200, 2) := by decide +kernel
theorem bNwL_d16 : decode bNwL.bs 16 = .ok (.if_icmp .gt 5, 3) := by decide +kernel
theorem bNwL_d19 : decode bNwL.bs 19 = .ok (.iload_n 3, 1) := by decide +kernel
theorem bNwL_d20 : decode bNwL.bs 20 = .ok (.ireturn, 1) := by decide +kernel
theorem bNwL_d21 : decode bNwL.bs 21 = .ok (.iload_n 0, 1) := by decide +kernel
theorem bNwL_d22 : decode bNwL.bs 22 = .ok (.iload_n 1, 1) := by decide +kernel
theorem bNwL_d23 : decode bNwL.bs 23 = .ok (.invokestatic 201, 3) := by decide +kernel
theorem bNwL_d26 : decode bNwL.bs 26 = .ok (.ireturn, 1) := by decide +kernel
theorem bNwL_pd : parseMethodDescriptor "(III)I" = some ⟨[.int, .int, .int], (some .int)⟩ := by decide +kernel
theorem bNwL_pn : plainFor bNwL.y = true := plainFor_of_name (show plainName "jdk/internal/util/ArraysSupport" = true from by first | (simp [plainName, overriddenIn]; done) | decide +kernel)
theorem cNwL (l : Launch) (Z : State) (a0 : Array Value) (hw : ∀ d ∈ tables_1, d.before a0 Z = true) (n0 : Nat) (hEW : EW Z a0 consts_1) (i g p : Nat) (h0 : Heap) (σ : Addr → Prop) (hi : 0 < i + max g p) (hb : i + max g p ≤ 2147483639) :
    Road.Con l Z consts_1 n0 false bNwL [] σ #[(.int (Nat.toInt32 i)), (.int (Nat.toInt32 g)), (.int (Nat.toInt32 p))] h0 (fun v h2 _ => v = some (.int (Nat.toInt32 (i + max g p))) ∧ h0 = h2) := by
  refine Road.Con.of bNwL_pn hEW #[.val (.int (Nat.toInt32 i)), .val (.int (Nat.toInt32 g)), .val (.int (Nat.toInt32 p)), .unset] (fun m => Road.ent (Road.laid1 rfl (Road.laid1 rfl (Road.laid1 rfl Road.laid0))) (k := 1) rfl rfl) ?_
  intro D hD
  refine Road.iloadN 0 bNwL_d0 rfl ?_
  refine Road.iloadN 1 bNwL_d1 rfl ?_
  refine Road.iloadN 2 bNwL_d2 rfl ?_
  refine Road.callS (B' := bMax) 3 (argsL := [(.int (Nat.toInt32 g)), (.int (Nat.toInt32 p))]) (rest := [(.int (Nat.toInt32 i))]) 1 bNwL_d3 (hw _ (List.mem_of_getElem? (i := 143) rfl)) (hw _ (List.mem_of_getElem? (i := 144) rfl)) (hw _ (List.mem_of_getElem? (i := 145) rfl)) (hw _ (List.mem_of_getElem? (i := 146) rfl)) (by decide) (cMax l Z a0 hw n0 hEW g p h0 σ (by omega) (by omega)) (lenOf bMax_pd rfl) rfl rfl rfl (by decide) (by decide) (ce' := 0) (sl' := 0) rfl rfl (by decide) (by decide) ?_
  rintro _ h_1 σ_2 m_3 ⟨rfl, rfl⟩
  refine Road.Go.weaken (σ' := σ) m_3 (Nat.le_refl _) (Nat.le_refl _) ?_
  refine Road.iadd 6 bNwL_d6 ?_
  refine Road.nameI ?_
  intro z_5 hz_5
  obtain rfl : z_5 = (Nat.toInt32 (i + max g p)) := by rw [hz_5]; exact Road.add32n _ _
  refine Road.istoreN 7 #[.val (.int (Nat.toInt32 i)), .val (.int (Nat.toInt32 g)), .val (.int (Nat.toInt32 p)), .val (.int (Nat.toInt32 (i + max g p)))] bNwL_d7 rfl ?_
  refine Road.iconst 8 (0 : Int32) bNwL_d8 rfl ?_
  refine Road.iloadN 9 bNwL_d9 rfl ?_
  refine Road.icmp_ge 10 21 bNwL_d10 rfl (fun q => absurd q (by rw [Decidable.not_not, show (0 : Int32) = Nat.toInt32 0 from rfl, Road.lt32 (by omega) (by omega)]; exact hi)) (fun hc10 => ?_)
  refine Road.iloadN 13 bNwL_d13 rfl ?_
  refine Road.ldcI 14 bNwL_d14 (hw _ (List.mem_of_getElem? (i := 147) rfl)) ?_
  refine Road.icmp_gt 16 21 bNwL_d16 rfl (fun q => absurd q (by rw [show (2147483639 : Int32) = Nat.toInt32 2147483639 from rfl, Road.lt32 (by omega) (by omega)]; omega)) (fun hc16 => ?_)
  refine Road.iloadN 19 bNwL_d19 rfl ?_
  exact Road.iretI 20 bNwL_d20 rfl (by decide) (by decide) (fun σ' m => ⟨rfl, rfl⟩)
def bNwC : Road.Bdy := (⟨"java/lang/AbstractStringBuilder", "newCapacity", "(I)I"⟩, jdk_68_method_10_code, 6, (some .int), { frames := 2, cells := 0, slots := 0, locals := 29 })
theorem bNwC_d0 : decode bNwC.bs 0 = .ok (.aload_n 0, 1) := by decide +kernel
theorem bNwC_d1 : decode bNwC.bs 1 = .ok (.getfield 15, 3) := by decide +kernel
theorem bNwC_d4 : decode bNwC.bs 4 = .ok (.arraylength, 1) := by decide +kernel
theorem bNwC_d5 : decode bNwC.bs 5 = .ok (.istore_n 2, 1) := by decide +kernel
theorem bNwC_d6 : decode bNwC.bs 6 = .ok (.iload_n 1, 1) := by decide +kernel
theorem bNwC_d7 : decode bNwC.bs 7 = .ok (.aload_n 0, 1) := by decide +kernel
theorem bNwC_d8 : decode bNwC.bs 8 = .ok (.getfield 22, 3) := by decide +kernel
theorem bNwC_d11 : decode bNwC.bs 11 = .ok (.ishl, 1) := by decide +kernel
theorem bNwC_d12 : decode bNwC.bs 12 = .ok (.istore_n 3, 1) := by decide +kernel
theorem bNwC_d13 : decode bNwC.bs 13 = .ok (.iload_n 3, 1) := by decide +kernel
theorem bNwC_d14 : decode bNwC.bs 14 = .ok (.iload_n 2, 1) := by decide +kernel
theorem bNwC_d15 : decode bNwC.bs 15 = .ok (.isub, 1) := by decide +kernel
theorem bNwC_d16 : decode bNwC.bs 16 = .ok (.istore 4, 2) := by decide +kernel
theorem bNwC_d18 : decode bNwC.bs 18 = .ok (.iload_n 2, 1) := by decide +kernel
theorem bNwC_d19 : decode bNwC.bs 19 = .ok (.iload 4, 2) := by decide +kernel
theorem bNwC_d21 : decode bNwC.bs 21 = .ok (.iload_n 2, 1) := by decide +kernel
theorem bNwC_d22 : decode bNwC.bs 22 = .ok (.iconst 2, 1) := by decide +kernel
theorem bNwC_d23 : decode bNwC.bs 23 = .ok (.aload_n 0, 1) := by decide +kernel
theorem bNwC_d24 : decode bNwC.bs 24 = .ok (.getfield 22, 3) := by decide +kernel
theorem bNwC_d27 : decode bNwC.bs 27 = .ok (.ishl, 1) := by decide +kernel
theorem bNwC_d28 : decode bNwC.bs 28 = .ok (.iadd, 1) := by decide +kernel
theorem bNwC_d29 : decode bNwC.bs 29 = .ok (.invokestatic 114, 3) := by decide +kernel
theorem bNwC_d32 : decode bNwC.bs 32 = .ok (.istore 5, 2) := by decide +kernel
theorem bNwC_d34 : decode bNwC.bs 34 = .ok (.iload 5, 2) := by decide +kernel
theorem bNwC_d36 : decode bNwC.bs 36 = .ok (.ldc 39, 2) := by decide +kernel
theorem bNwC_d38 : decode bNwC.bs 38 = .ok (.if_icmp .ne 13, 3) := by decide +kernel
theorem bNwC_d41 : decode bNwC.bs 41 = .ok (.new 120, 3) := by decide +kernel
theorem bNwC_d44 : decode bNwC.bs 44 = .ok (.dup, 1) := by decide +kernel
theorem bNwC_d45 : decode bNwC.bs 45 = .ok (.ldc 122, 2) := by decide +kernel
theorem bNwC_d47 : decode bNwC.bs 47 = .ok (.invokespecial 124, 3) := by decide +kernel
theorem bNwC_d50 : decode bNwC.bs 50 = .ok (.athrow, 1) := by decide +kernel
theorem bNwC_d51 : decode bNwC.bs 51 = .ok (.iload 5, 2) := by decide +kernel
theorem bNwC_d53 : decode bNwC.bs 53 = .ok (.aload_n 0, 1) := by decide +kernel
theorem bNwC_d54 : decode bNwC.bs 54 = .ok (.getfield 22, 3) := by decide +kernel
theorem bNwC_d57 : decode bNwC.bs 57 = .ok (.ishr, 1) := by decide +kernel
theorem bNwC_d58 : decode bNwC.bs 58 = .ok (.ireturn, 1) := by decide +kernel
theorem bNwC_pd : parseMethodDescriptor "(I)I" = some ⟨[.int], (some .int)⟩ := by decide +kernel
theorem bNwC_pn : plainFor bNwC.y = true := plainFor_of_name (show plainName "java/lang/AbstractStringBuilder" = true from by first | (simp [plainName, overriddenIn]; done) | decide +kernel)
theorem cNwC (l : Launch) (Z : State) (a0 : Array Value) (hw : ∀ d ∈ tables_1, d.before a0 Z = true) (n0 : Nat) (hEW : EW Z a0 consts_1) (q b : Addr) (cs : List Int32) (N : Nat) (m : Nat) (h0 : Heap) (σ : Addr → Prop) (S : Road.Sb Z h0 q b cs N) (hm : N < m) (hb : max m (2 * N + 2) ≤ 2147483639) :
    Road.Con l Z consts_1 n0 false bNwC [] σ #[(.ref q), (.int (Nat.toInt32 m))] h0 (fun v h2 _ => v = some (.int (Nat.toInt32 (max m (2 * N + 2)))) ∧ h0 = h2) := by
  have hN := S.small
  have hle := S.le
  obtain ⟨E, Fc, Fv, Fn, ⟨r, Ab, hr⟩, hlt⟩ := S
  refine Road.Con.of bNwC_pn hEW #[.val (.ref q), .val (.int (Nat.toInt32 m)), .unset, .unset, .unset, .unset] (fun m => Road.ent (Road.laid1 rfl (Road.laid1 rfl Road.laid0)) (k := 4) rfl rfl) ?_
  intro D hD
  refine Road.aloadN 0 bNwC_d0 rfl ?_
  refine Road.getfield 1 bNwC_d1 (hw _ (List.mem_of_getElem? (i := 36) rfl)) Via.refl Fv ?_
  refine Road.alen 4 (Nat.toInt32 N) bNwC_d4 Ab (n := N) (by rw [List.length_append, List.length_map]; exact hr) rfl ?_
  refine Road.istoreN 5 #[.val (.ref q), .val (.int (Nat.toInt32 m)), .val (.int (Nat.toInt32 N)), .unset, .unset, .unset] bNwC_d5 rfl ?_
  refine Road.iloadN 6 bNwC_d6 rfl ?_
  refine Road.aloadN 7 bNwC_d7 rfl ?_
  refine Road.getfield 8 bNwC_d8 (hw _ (List.mem_of_getElem? (i := 38) rfl)) Via.refl Fc ?_
  refine Road.ishl 11 bNwC_d11 ?_
  refine Road.nameI ?_
  intro z_1 hz_1
  obtain rfl : z_1 = (Nat.toInt32 m) := by rw [hz_1]; exact Road.shl0 _
  refine Road.istoreN 12 #[.val (.ref q), .val (.int (Nat.toInt32 m)), .val (.int (Nat.toInt32 N)), .val (.int (Nat.toInt32 m)), .unset, .unset] bNwC_d12 rfl ?_
  refine Road.iloadN 13 bNwC_d13 rfl ?_
  refine Road.iloadN 14 bNwC_d14 rfl ?_
  refine Road.isub 15 bNwC_d15 ?_
  refine Road.nameI ?_
  intro z_2 hz_2
  obtain rfl : z_2 = (Nat.toInt32 (m - N)) := by rw [hz_2]; exact Road.sub32n (by omega)
  refine Road.istore 16 #[.val (.ref q), .val (.int (Nat.toInt32 m)), .val (.int (Nat.toInt32 N)), .val (.int (Nat.toInt32 m)), .val (.int (Nat.toInt32 (m - N))), .unset] bNwC_d16 rfl ?_
  refine Road.iloadN 18 bNwC_d18 rfl ?_
  refine Road.iload 19 bNwC_d19 rfl ?_
  refine Road.iloadN 21 bNwC_d21 rfl ?_
  refine Road.iconst 22 (2 : Int32) bNwC_d22 rfl ?_
  refine Road.aloadN 23 bNwC_d23 rfl ?_
  refine Road.getfield 24 bNwC_d24 (hw _ (List.mem_of_getElem? (i := 38) rfl)) Via.refl Fc ?_
  refine Road.ishl 27 bNwC_d27 ?_
  refine Road.nameI ?_
  intro z_3 hz_3
  obtain rfl : z_3 = (2 : Int32) := by rw [hz_3]; exact Road.shl0 _
  refine Road.iadd 28 bNwC_d28 ?_
  refine Road.nameI ?_
  intro z_4 hz_4
  obtain rfl : z_4 = (Nat.toInt32 (N + 2)) := by rw [hz_4]; exact Road.add32n N 2
  refine Road.callS (B' := bNwL) 29 (argsL := [(.int (Nat.toInt32 N)), (.int (Nat.toInt32 (m - N))), (.int (Nat.toInt32 (N + 2)))]) (rest := []) 0 bNwC_d29 (hw _ (List.mem_of_getElem? (i := 139) rfl)) (hw _ (List.mem_of_getElem? (i := 140) rfl)) (hw _ (List.mem_of_getElem? (i := 141) rfl)) (hw _ (List.mem_of_getElem? (i := 142) rfl)) (by decide) (cNwL l Z a0 hw n0 hEW N (m - N) (N + 2) h0 σ (by omega) (by omega)) (lenOf bNwL_pd rfl) rfl rfl rfl (by decide) (by decide) (ce' := 0) (sl' := 0) rfl rfl (by decide) (by decide) ?_
  rintro _ h_5 σ_6 m_7 ⟨rfl, rfl⟩
  refine Road.Go.weaken (σ' := σ) m_7 (Nat.le_refl _) (Nat.le_refl _) ?_
  refine Road.nameI ?_
  intro z_9 hz_9
  obtain rfl : z_9 = (Nat.toInt32 (max m (2 * N + 2))) := by rw [hz_9]; congr 1; omega
  refine Road.istore 32 #[.val (.ref q), .val (.int (Nat.toInt32 m)), .val (.int (Nat.toInt32 N)), .val (.int (Nat.toInt32 m)), .val (.int (Nat.toInt32 (m - N))), .val (.int (Nat.toInt32 (max m (2 * N + 2))))] bNwC_d32 rfl ?_
  refine Road.iload 34 bNwC_d34 rfl ?_
  refine Road.ldcI 36 bNwC_d36 (hw _ (List.mem_of_getElem? (i := 148) rfl)) ?_
  refine Road.icmp_ne 38 51 bNwC_d38 rfl (fun hc38 => ?_) (fun q => absurd q (by rw [show (2147483647 : Int32) = Nat.toInt32 2147483647 from rfl, Road.eq32 (by omega) (by omega)]; omega))
  refine Road.iload 51 bNwC_d51 rfl ?_
  refine Road.aloadN 53 bNwC_d53 rfl ?_
  refine Road.getfield 54 bNwC_d54 (hw _ (List.mem_of_getElem? (i := 38) rfl)) Via.refl Fc ?_
  refine Road.ishr 57 bNwC_d57 ?_
  exact Road.iretI 58 bNwC_d58 rfl (by decide) (by decide) (fun σ' m => ⟨by rw [Road.shr0], rfl⟩)
def bEnG : Road.Bdy := (⟨"java/lang/AbstractStringBuilder", "ensureCapacityInternal", "(I)V"⟩, jdk_68_method_9_code, 3, none, { frames := 3, cells := 1, slots := 34, locals := 48 })
theorem bEnG_d0 : decode bEnG.bs 0 = .ok (.aload_n 0, 1) := by decide +kernel
theorem bEnG_d1 : decode bEnG.bs 1 = .ok (.getfield 15, 3) := by decide +kernel
theorem bEnG_d4 : decode bEnG.bs 4 = .ok (.arraylength, 1) := by decide +kernel
theorem bEnG_d5 : decode bEnG.bs 5 = .ok (.aload_n 0, 1) := by decide +kernel
theorem bEnG_d6 : decode bEnG.bs 6 = .ok (.getfield 22, 3) := by decide +kernel
theorem bEnG_d9 : decode bEnG.bs 9 = .ok (.ishr, 1) := by decide +kernel
theorem bEnG_d10 : decode bEnG.bs 10 = .ok (.istore_n 2, 1) := by decide +kernel
theorem bEnG_d11 : decode bEnG.bs 11 = .ok (.iload_n 1, 1) := by decide +kernel
theorem bEnG_d12 : decode bEnG.bs 12 = .ok (.iload_n 2, 1) := by decide +kernel
theorem bEnG_d13 : decode bEnG.bs 13 = .ok (.isub, 1) := by decide +kernel
theorem bEnG_d14 : decode bEnG.bs 14 = .ok (.ifCond .le 24, 3) := by decide +kernel
theorem bEnG_d17 : decode bEnG.bs 17 = .ok (.aload_n 0, 1) := by decide +kernel
theorem bEnG_d18 : decode bEnG.bs 18 = .ok (.aload_n 0, 1) := by decide +kernel
theorem bEnG_d19 : decode bEnG.bs 19 = .ok (.getfield 15, 3) := by decide +kernel
theorem bEnG_d22 : decode bEnG.bs 22 = .ok (.aload_n 0, 1) := by decide +kernel
theorem bEnG_d23 : decode bEnG.bs 23 = .ok (.iload_n 1, 1) := by decide +kernel
theorem bEnG_d24 : decode bEnG.bs 24 = .ok (.invokevirtual 104, 3) := by decide +kernel
theorem bEnG_d27 : decode bEnG.bs 27 = .ok (.aload_n 0, 1) := by decide +kernel
theorem bEnG_d28 : decode bEnG.bs 28 = .ok (.getfield 22, 3) := by decide +kernel
theorem bEnG_d31 : decode bEnG.bs 31 = .ok (.ishl, 1) := by decide +kernel
theorem bEnG_d32 : decode bEnG.bs 32 = .ok (.invokestatic 108, 3) := by decide +kernel
theorem bEnG_d35 : decode bEnG.bs 35 = .ok (.putfield 15, 3) := by decide +kernel
theorem bEnG_d38 : decode bEnG.bs 38 = .ok (.return_, 1) := by decide +kernel
theorem bEnG_pd : parseMethodDescriptor "(I)V" = some ⟨[.int], none⟩ := by decide +kernel
theorem bEnG_pn : plainFor bEnG.y = true := plainFor_of_name (show plainName "java/lang/AbstractStringBuilder" = true from by first | (simp [plainName, overriddenIn]; done) | decide +kernel)
theorem cEnG (l : Launch) (Z : State) (a0 : Array Value) (hw : ∀ d ∈ tables_1, d.before a0 Z = true) (n0 : Nat) (hEW : EW Z a0 consts_1) (q b : Addr) (cs : List Int32) (N : Nat) (m : Nat) (h0 : Heap) (σ : Addr → Prop) (S : Road.Sb Z h0 q b cs N) (hm : N < m) (hcap : max m (2 * N + 2) ≤ 34) (sq : σ q) :
    Road.Con l Z consts_1 n0 false bEnG [] σ #[(.ref q), (.int (Nat.toInt32 m))] h0 (fun v h2 s2 => v = none ∧ Keep h0 h2 [q] ∧ ∃ d, Road.Sb Z h2 q d cs (max m (2 * N + 2)) ∧ h0.size ≤ d ∧ s2 d) := by
  have S0 := S
  have hN := S.small
  have hle := S.le
  obtain ⟨E, Fc, Fv, Fn, ⟨r, Ab, hr⟩, hlt⟩ := S
  have nqb : q ≠ b := by obtain ⟨c, Ar, -⟩ := Ab; exact ne_arr E (hw _ (List.mem_of_getElem? (i := 23) rfl)) Ar
  refine Road.Con.of bEnG_pn hEW #[.val (.ref q), .val (.int (Nat.toInt32 m)), .unset] (fun m => Road.ent (Road.laid1 rfl (Road.laid1 rfl Road.laid0)) (k := 1) rfl rfl) ?_
  intro D hD
  refine Road.aloadN 0 bEnG_d0 rfl ?_
  refine Road.getfield 1 bEnG_d1 (hw _ (List.mem_of_getElem? (i := 36) rfl)) Via.refl Fv ?_
  refine Road.alen 4 (Nat.toInt32 N) bEnG_d4 Ab (n := N) (by rw [List.length_append, List.length_map]; exact hr) rfl ?_
  refine Road.aloadN 5 bEnG_d5 rfl ?_
  refine Road.getfield 6 bEnG_d6 (hw _ (List.mem_of_getElem? (i := 38) rfl)) Via.refl Fc ?_
  refine Road.ishr 9 bEnG_d9 ?_
  refine Road.nameI ?_
  intro z_1 hz_1
  obtain rfl : z_1 = (Nat.toInt32 N) := by rw [hz_1]; exact Road.shr0 _
  refine Road.istoreN 10 #[.val (.ref q), .val (.int (Nat.toInt32 m)), .val (.int (Nat.toInt32 N))] bEnG_d10 rfl ?_
  refine Road.iloadN 11 bEnG_d11 rfl ?_
  refine Road.iloadN 12 bEnG_d12 rfl ?_
  refine Road.isub 13 bEnG_d13 ?_
  refine Road.if_le 14 38 bEnG_d14 rfl (fun q => absurd q (by rw [Decidable.not_not, Road.gsub (by omega) hN]; omega)) (fun hc14 => ?_)
  refine Road.aloadN 17 bEnG_d17 rfl ?_
  refine Road.aloadN 18 bEnG_d18 rfl ?_
  refine Road.getfield 19 bEnG_d19 (hw _ (List.mem_of_getElem? (i := 36) rfl)) Via.refl Fv ?_
  refine Road.aloadN 22 bEnG_d22 rfl ?_
  refine Road.iloadN 23 bEnG_d23 rfl ?_
  refine Road.callP (B' := bNwC) (a := q) 24 (argsL := [(.int (Nat.toInt32 m))]) (rest := [(.ref b), (.ref q)]) "java/lang/StringBuilder" 2 bEnG_d24 (hw _ (List.mem_of_getElem? (i := 134) rfl)) (hw _ (List.mem_of_getElem? (i := 136) rfl)) (hw _ (List.mem_of_getElem? (i := 137) rfl)) (hw _ (List.mem_of_getElem? (i := 135) rfl)) (hw _ (List.mem_of_getElem? (i := 32) rfl)) (hw _ (List.mem_of_getElem? (i := 138) rfl)) (by decide) E (cNwC l Z a0 hw n0 hEW q b cs N m h0 σ S0 hm (by omega)) (lenOf bNwC_pd rfl) rfl rfl rfl (by decide) (by decide) (ce' := 0) (sl' := 0) rfl rfl (by decide) (by decide) ?_
  rintro _ h_2 σ_3 m_4 ⟨rfl, rfl⟩
  refine Road.Go.weaken (σ' := σ) m_4 (Nat.le_refl _) (Nat.le_refl _) ?_
  refine Road.aloadN 27 bEnG_d27 rfl ?_
  refine Road.getfield 28 bEnG_d28 (hw _ (List.mem_of_getElem? (i := 38) rfl)) Via.refl Fc ?_
  refine Road.ishl 31 bEnG_d31 ?_
  refine Road.nameI ?_
  intro z_6 hz_6
  obtain rfl : z_6 = (Nat.toInt32 (max m (2 * N + 2))) := by rw [hz_6]; exact Road.shl0 _
  refine Road.callS (B' := bCpO) 32 (argsL := [(.ref b), (.int (Nat.toInt32 (max m (2 * N + 2))))]) (rest := [(.ref q)]) 1 bEnG_d32 (hw _ (List.mem_of_getElem? (i := 149) rfl)) (hw _ (List.mem_of_getElem? (i := 150) rfl)) (hw _ (List.mem_of_getElem? (i := 151) rfl)) (hw _ (List.mem_of_getElem? (i := 152) rfl)) (by decide) (cCpO l Z a0 hw n0 hEW b _ (max m (2 * N + 2)) h0 σ Ab (by rw [List.length_append, List.length_map]; omega) (by omega)) (lenOf bCpO_pd rfl) rfl rfl rfl (by decide) (by decide) (ce' := 1) (sl' := 34) rfl rfl (by decide) (by decide) ?_
  rintro _ h_7 σ_8 m_9 ⟨d, rfl, gd, K_10, sd, Ad⟩
  have ne_q_d : q ≠ d := Nat.ne_of_lt (Nat.lt_of_lt_of_le E.lt gd)
  replace E := E.keep K_10
  replace Fc := Fc.keep K_10 nin0
  replace Fv := Fv.keep K_10 nin0
  replace Fn := Fn.keep K_10 nin0
  replace sq := m_9 _ sq
  refine Road.putfield 35 bEnG_d35 (hw _ (List.mem_of_getElem? (i := 36) rfl)) Via.refl Fv E (Or.inl (hw _ (List.mem_of_getElem? (i := 37) rfl))) (hw _ (List.mem_of_getElem? (i := 23) rfl)) (ty := (.array .byte)) (by decide) rfl rfl sq ?_
  intro h_13 W_11 K_12
  replace Fv := Fv.same W_11
  replace Fc := Fc.other W_11 (Or.inr (slot_ne (Or.inl (hw _ (List.mem_of_getElem? (i := 39) rfl))) (Or.inl (hw _ (List.mem_of_getElem? (i := 37) rfl))) (by decide) (t := .byte) (by decide) (t' := (.array .byte)) (by decide)))
  replace Fn := Fn.other W_11 (Or.inr (slot_ne (Or.inl (hw _ (List.mem_of_getElem? (i := 88) rfl))) (Or.inl (hw _ (List.mem_of_getElem? (i := 37) rfl))) (by decide) (t := .int) (by decide) (t' := (.array .byte)) (by decide)))
  replace E := E.keep K_12
  replace Ad := Ad.keep K_12 (ninS (Ne.symm ne_q_d) nin0)
  exact Road.ret 38 bEnG_d38 rfl (by decide) (by decide) (fun σ' m => ⟨rfl, (Road.keep_more K_10).trans K_12 (by simp), d, ⟨E, Fc, Fv, Fn, ⟨_, by rw [List.append_assoc] at Ad; exact Ad, by simp only [List.length_append, List.length_map, List.length_replicate]; omega⟩, hlt⟩, gd, m _ sd⟩)
def bApG : Road.Bdy := (⟨"java/lang/AbstractStringBuilder", "append", "(Ljava/lang/String;)Ljava/lang/AbstractStringBuilder;"⟩, jdk_68_method_22_code, 3, (some (.object "java/lang/AbstractStringBuilder")), { frames := 4, cells := 1, slots := 34, locals := 63 })
theorem bApG_d0 : decode bApG.bs 0 = .ok (.aload_n 1, 1) := by decide +kernel
theorem bApG_d1 : decode bApG.bs 1 = .ok (.ifnonnull 8, 3) := by decide +kernel
theorem bApG_d4 : decode bApG.bs 4 = .ok (.aload_n 0, 1) := by decide +kernel
theorem bApG_d5 : decode bApG.bs 5 = .ok (.invokevirtual 204, 3) := by decide +kernel
theorem bApG_d8 : decode bApG.bs 8 = .ok (.areturn, 1) := by decide +kernel
theorem bApG_d9 : decode bApG.bs 9 = .ok (.aload_n 1, 1) := by decide +kernel
theorem bApG_d10 : decode bApG.bs 10 = .ok (.invokevirtual 32, 3) := by decide +kernel
theorem bApG_d13 : decode bApG.bs 13 = .ok (.istore_n 2, 1) := by decide +kernel
theorem bApG_d14 : decode bApG.bs 14 = .ok (.aload_n 0, 1) := by decide +kernel
theorem bApG_d15 : decode bApG.bs 15 = .ok (.aload_n 0, 1) := by decide +kernel
theorem bApG_d16 : decode bApG.bs 16 = .ok (.getfield 79, 3) := by decide +kernel
theorem bApG_d19 : decode bApG.bs 19 = .ok (.iload_n 2, 1) := by decide +kernel
theorem bApG_d20 : decode bApG.bs 20 = .ok (.iadd, 1) := by decide +kernel
theorem bApG_d21 : decode bApG.bs 21 = .ok (.invokevirtual 100, 3) := by decide +kernel
theorem bApG_d24 : decode bApG.bs 24 = .ok (.aload_n 0, 1) := by decide +kernel
theorem bApG_d25 : decode bApG.bs 25 = .ok (.aload_n 0, 1) := by decide +kernel
theorem bApG_d26 : decode bApG.bs 26 = .ok (.getfield 79, 3) := by decide +kernel
theorem bApG_d29 : decode bApG.bs 29 = .ok (.aload_n 1, 1) := by decide +kernel
theorem bApG_d30 : decode bApG.bs 30 = .ok (.invokevirtual 208, 3) := by decide +kernel
theorem bApG_d33 : decode bApG.bs 33 = .ok (.aload_n 0, 1) := by decide +kernel
theorem bApG_d34 : decode bApG.bs 34 = .ok (.dup, 1) := by decide +kernel
theorem bApG_d35 : decode bApG.bs 35 = .ok (.getfield 79, 3) := by decide +kernel
theorem bApG_d38 : decode bApG.bs 38 = .ok (.iload_n 2, 1) := by decide +kernel
theorem bApG_d39 : decode bApG.bs 39 = .ok (.iadd, 1) := by decide +kernel
theorem bApG_d40 : decode bApG.bs 40 = .ok (.putfield 79, 3) := by decide +kernel
theorem bApG_d43 : decode bApG.bs 43 = .ok (.aload_n 0, 1) := by decide +kernel
theorem bApG_d44 : decode bApG.bs 44 = .ok (.areturn, 1) := by decide +kernel
theorem bApG_pd : parseMethodDescriptor "(Ljava/lang/String;)Ljava/lang/AbstractStringBuilder;" = some ⟨[(.object "java/lang/String")], (some (.object "java/lang/AbstractStringBuilder"))⟩ := by decide +kernel
theorem bApG_pn : plainFor bApG.y = true := plainFor_of_name (show plainName "java/lang/AbstractStringBuilder" = true from by first | (simp [plainName, overriddenIn]; done) | decide +kernel)
theorem cApG (l : Launch) (Z : State) (a0 : Array Value) (hw : ∀ d ∈ tables_1, d.before a0 Z = true) (n0 : Nat) (hEW : EW Z a0 consts_1) (q b : Addr) (cs : List Int32) (N : Nat) (s sb : Addr) (ds : List Int32) (h0 : Heap) (σ : Addr → Prop) (S : Road.Sb Z h0 q b cs N) (T : Road.Str Z h0 s sb ds) (hm : N < cs.length + ds.length) (hcap : max (cs.length + ds.length) (2 * N + 2) ≤ 34) (nsq : s ≠ q) (nbq : sb ≠ q) (sq : σ q) (cp : Int32) (Hc : Sta Z Z.heap Road.SN "COMPACT_STRINGS" "Z" (.int cp)) (hcp : ¬ cp = 0) :
    Road.Con l Z consts_1 n0 false bApG [] σ #[(.ref q), (.ref s)] h0 (fun v h2 s2 => v = some (.ref q) ∧ Keep h0 h2 [q] ∧ ∃ d, Road.Sb Z h2 q d (cs ++ ds) (max (cs.length + ds.length) (2 * N + 2)) ∧ h0.size ≤ d ∧ s2 d) := by
  have S0 := S
  have hN := S.small
  have hle := S.le
  obtain ⟨E, Fc, Fv, Fn, ⟨r, Ab, hr⟩, hlt⟩ := S
  have nqb : q ≠ b := by obtain ⟨c, Ar, -⟩ := Ab; exact ne_arr E (hw _ (List.mem_of_getElem? (i := 23) rfl)) Ar
  refine Road.Con.of bApG_pn hEW #[.val (.ref q), .val (.ref s), .unset] (fun m => Road.ent (Road.laid1 rfl (Road.laid1 rfl Road.laid0)) (k := 1) rfl rfl) ?_
  intro D hD
  refine Road.aloadN 0 bApG_d0 rfl ?_
  refine Road.ifnonnull 1 9 rfl bApG_d1 rfl (fun hc1 => ?_) (fun q => absurd q (by simp))
  refine Road.aloadN 9 bApG_d9 rfl ?_
  refine Road.callV (B' := bLen) (a := s) 10 (argsL := []) (rest := []) "java/lang/String" 0 bApG_d10 (hw _ (List.mem_of_getElem? (i := 77) rfl)) (hw _ (List.mem_of_getElem? (i := 78) rfl)) (fun vm hz => Road.notFace_sib (args := #[]) (mv (s := D.s.setVm vm) hz (hw _ (List.mem_of_getElem? (i := 80) rfl))) rfl) (hw _ (List.mem_of_getElem? (i := 80) rfl)) (hw _ (List.mem_of_getElem? (i := 79) rfl)) (hw _ (List.mem_of_getElem? (i := 6) rfl)) (hw _ (List.mem_of_getElem? (i := 81) rfl)) (by decide) T.1 (cLen l Z a0 hw n0 hEW s sb ds h0 σ T cp Hc hcp) (lenOf bLen_pd rfl) rfl rfl rfl (by decide) (by decide) (ce' := 0) (sl' := 0) rfl rfl (by decide) (by decide) ?_
  rintro _ h_1 σ_2 m_3 ⟨rfl, rfl⟩
  refine Road.Go.weaken (σ' := σ) m_3 (Nat.le_refl _) (Nat.le_refl _) ?_
  refine Road.istoreN 13 #[.val (.ref q), .val (.ref s), .val (.int (Nat.toInt32 ds.length))] bApG_d13 rfl ?_
  refine Road.aloadN 14 bApG_d14 rfl ?_
  refine Road.aloadN 15 bApG_d15 rfl ?_
  refine Road.getfield 16 bApG_d16 (hw _ (List.mem_of_getElem? (i := 87) rfl)) Via.refl Fn ?_
  refine Road.iloadN 19 bApG_d19 rfl ?_
  refine Road.iadd 20 bApG_d20 ?_
  refine Road.nameI ?_
  intro z_5 hz_5
  obtain rfl : z_5 = (Nat.toInt32 (cs.length + ds.length)) := by rw [hz_5]; exact Road.add32n _ _
  refine Road.callP (B' := bEnG) (a := q) 21 (argsL := [(.int (Nat.toInt32 (cs.length + ds.length)))]) (rest := []) "java/lang/StringBuilder" 0 bApG_d21 (hw _ (List.mem_of_getElem? (i := 89) rfl)) (hw _ (List.mem_of_getElem? (i := 91) rfl)) (hw _ (List.mem_of_getElem? (i := 92) rfl)) (hw _ (List.mem_of_getElem? (i := 90) rfl)) (hw _ (List.mem_of_getElem? (i := 32) rfl)) (hw _ (List.mem_of_getElem? (i := 93) rfl)) (by decide) E (cEnG l Z a0 hw n0 hEW q b cs N (cs.length + ds.length) h0 σ S0 hm hcap sq) (lenOf bEnG_pd rfl) rfl rfl rfl (by decide) (by decide) (ce' := 1) (sl' := 34) rfl rfl (by decide) (by decide) ?_
  rintro _ h_6 σ_7 m_8 ⟨rfl, K_9, d, S2, gd, sd⟩
  replace T := T.keep K_9 (ninS nsq nin0) (ninS nbq nin0)
  replace sq := m_8 _ sq
  clear E Fc Fv Fn Ab
  have S3 := S2
  obtain ⟨E, Fc, Fv, Fn, ⟨r2, Ab, hr2⟩, -⟩ := S2
  have nqd : q ≠ d := by obtain ⟨c, Ar, -⟩ := Ab; exact ne_arr E (hw _ (List.mem_of_getElem? (i := 23) rfl)) Ar
  refine Road.aloadN 24 bApG_d24 rfl ?_
  refine Road.aloadN 25 bApG_d25 rfl ?_
  refine Road.getfield 26 bApG_d26 (hw _ (List.mem_of_getElem? (i := 87) rfl)) Via.refl Fn ?_
  refine Road.aloadN 29 bApG_d29 rfl ?_
  refine Road.callP (B' := bPut) (a := q) 30 (argsL := [(.int (Nat.toInt32 cs.length)), (.ref s)]) (rest := []) "java/lang/StringBuilder" 0 bApG_d30 (hw _ (List.mem_of_getElem? (i := 94) rfl)) (hw _ (List.mem_of_getElem? (i := 96) rfl)) (hw _ (List.mem_of_getElem? (i := 97) rfl)) (hw _ (List.mem_of_getElem? (i := 95) rfl)) (hw _ (List.mem_of_getElem? (i := 32) rfl)) (hw _ (List.mem_of_getElem? (i := 98) rfl)) (by decide) E (cPut l Z a0 hw n0 hEW q d cs (max (cs.length + ds.length) (2 * N + 2)) s sb ds h_6 σ_7 S3 T (by omega) sd cp Hc hcp) (lenOf bPut_pd rfl) rfl rfl rfl (by decide) (by decide) (ce' := 1) (sl' := 34) rfl rfl (by decide) (by decide) ?_
  rintro _ h_10 σ_11 m_12 ⟨rfl, K_13, r3, A3, hr3⟩
  replace E := E.keep K_13
  replace Fc := Fc.keep K_13 (ninS nqd nin0)
  replace Fv := Fv.keep K_13 (ninS nqd nin0)
  replace Fn := Fn.keep K_13 (ninS nqd nin0)
  replace sq := m_12 _ sq
  replace sd := m_12 _ sd
  refine Road.aloadN 33 bApG_d33 rfl ?_
  refine Road.dup 34 bApG_d34 ?_
  refine Road.getfield 35 bApG_d35 (hw _ (List.mem_of_getElem? (i := 87) rfl)) Via.refl Fn ?_
  refine Road.iloadN 38 bApG_d38 rfl ?_
  refine Road.iadd 39 bApG_d39 ?_
  refine Road.nameI ?_
  intro z_14 hz_14
  obtain rfl : z_14 = (Nat.toInt32 (cs ++ ds).length) := by rw [hz_14]; rw [Road.add32n, List.length_append]
  refine Road.putfield 40 bApG_d40 (hw _ (List.mem_of_getElem? (i := 87) rfl)) Via.refl Fn E (Or.inl (hw _ (List.mem_of_getElem? (i := 88) rfl))) (hw _ (List.mem_of_getElem? (i := 23) rfl)) (ty := .int) (by decide) rfl rfl sq ?_
  intro h_17 W_15 K_16
  replace Fn := Fn.same W_15
  replace Fc := Fc.other W_15 (Or.inr (slot_ne (Or.inl (hw _ (List.mem_of_getElem? (i := 39) rfl))) (Or.inl (hw _ (List.mem_of_getElem? (i := 88) rfl))) (by decide) (t := .byte) (by decide) (t' := .int) (by decide)))
  replace Fv := Fv.other W_15 (Or.inr (slot_ne (Or.inl (hw _ (List.mem_of_getElem? (i := 37) rfl))) (Or.inl (hw _ (List.mem_of_getElem? (i := 88) rfl))) (by decide) (t := (.array .byte)) (by decide) (t' := .int) (by decide)))
  replace E := E.keep K_16
  replace A3 := A3.keep K_16 (ninS (Ne.symm nqd) nin0)
  refine Road.aloadN 43 bApG_d43 rfl ?_
  exact Road.aret 44 bApG_d44 (t := (.object "java/lang/AbstractStringBuilder")) rfl rfl rfl (by decide) (by decide) (fun σ' m => ⟨rfl, (K_9.trans K_13 (by intro x hx; cases List.mem_singleton.mp hx; exact Or.inr gd)).trans K_16 (by simp), d, ⟨E, Fc, Fv, Fn, ⟨r3, A3, hr3⟩, (fun c hc => (List.mem_append.mp hc).elim (hlt c) (T.2.2.2.2 c))⟩, gd, m _ sd⟩)
def bSpG : Road.Bdy := (⟨"java/lang/StringBuilder", "append", "(Ljava/lang/String;)Ljava/lang/StringBuilder;"⟩, jdk_67_method_7_code, 2, (some (.object "java/lang/StringBuilder")), { frames := 5, cells := 1, slots := 34, locals := 77 })
theorem bSpG_d0 : decode bSpG.bs 0 = .ok (.aload_n 0, 1) := by decide +kernel
theorem bSpG_d1 : decode bSpG.bs 1 = .ok (.aload_n 1, 1) := by decide +kernel
theorem bSpG_d2 : decode bSpG.bs 2 = .ok (.invokespecial 29, 3) := by decide +kernel
theorem bSpG_d5 : decode bSpG.bs 5 = .ok (.pop, 1) := by decide +kernel
theorem bSpG_d6 : decode bSpG.bs 6 = .ok (.aload_n 0, 1) := by decide +kernel
theorem bSpG_d7 : decode bSpG.bs 7 = .ok (.areturn, 1) := by decide +kernel
theorem bSpG_pd : parseMethodDescriptor "(Ljava/lang/String;)Ljava/lang/StringBuilder;" = some ⟨[(.object "java/lang/String")], (some (.object "java/lang/StringBuilder"))⟩ := by decide +kernel
theorem bSpG_pn : plainFor bSpG.y = true := plainFor_of_name (show plainName "java/lang/StringBuilder" = true from by first | (simp [plainName, overriddenIn]; done) | decide +kernel)
theorem cSpG (l : Launch) (Z : State) (a0 : Array Value) (hw : ∀ d ∈ tables_1, d.before a0 Z = true) (n0 : Nat) (hEW : EW Z a0 consts_1) (q b : Addr) (cs : List Int32) (N : Nat) (s sb : Addr) (ds : List Int32) (h0 : Heap) (σ : Addr → Prop) (S : Road.Sb Z h0 q b cs N) (T : Road.Str Z h0 s sb ds) (hm : N < cs.length + ds.length) (hcap : max (cs.length + ds.length) (2 * N + 2) ≤ 34) (nsq : s ≠ q) (nbq : sb ≠ q) (sq : σ q) (cp : Int32) (Hc : Sta Z Z.heap Road.SN "COMPACT_STRINGS" "Z" (.int cp)) (hcp : ¬ cp = 0) :
    Road.Con l Z consts_1 n0 false bSpG [] σ #[(.ref q), (.ref s)] h0 (fun v h2 s2 => v = some (.ref q) ∧ Keep h0 h2 [q] ∧ ∃ d, Road.Sb Z h2 q d (cs ++ ds) (max (cs.length + ds.length) (2 * N + 2)) ∧ h0.size ≤ d ∧ s2 d) := by
  refine Road.Con.of bSpG_pn hEW #[.val (.ref q), .val (.ref s)] (fun m => Road.ent (Road.laid1 rfl (Road.laid1 rfl Road.laid0)) (k := 0) rfl rfl) ?_
  intro D hD
  refine Road.aloadN 0 bSpG_d0 rfl ?_
  refine Road.aloadN 1 bSpG_d1 rfl ?_
  refine Road.callUp (B' := bApG) (a := q) 2 (argsL := [(.ref s)]) (rest := []) "java/lang/StringBuilder" 0 bSpG_d2 (hw _ (List.mem_of_getElem? (i := 72) rfl)) (Road.notFace_sib (hw _ (List.mem_of_getElem? (i := 92) rfl)) rfl) (hw _ (List.mem_of_getElem? (i := 73) rfl)) (hw _ (List.mem_of_getElem? (i := 74) rfl)) (hw _ (List.mem_of_getElem? (i := 32) rfl)) (hw _ (List.mem_of_getElem? (i := 76) rfl)) (by decide) (by decide) S.1 (cApG l Z a0 hw n0 hEW q b cs N s sb ds h0 σ S T hm hcap nsq nbq sq cp Hc hcp) (lenOf bApG_pd rfl) rfl rfl rfl (by decide) (by decide) (ce' := 1) (sl' := 34) rfl rfl (by decide) (by decide) ?_
  rintro _ h_1 σ_2 m_3 ⟨rfl, K_4, d, S2, gd, sd⟩
  refine Road.pop 5 bSpG_d5 ?_
  refine Road.aloadN 6 bSpG_d6 rfl ?_
  exact Road.aret 7 bSpG_d7 (t := (.object "java/lang/StringBuilder")) rfl rfl rfl (by decide) (by decide) (fun σ' m => ⟨rfl, K_4, d, S2, gd, m _ sd⟩)
def bAbL : Road.Bdy := (⟨"java/lang/AbstractStringBuilder", "isLatin1", "()Z"⟩, jdk_68_method_68_code, 1, (some .boolean), { frames := 0, cells := 0, slots := 0, locals := 0 })
theorem bAbL_d0 : decode bAbL.bs 0 = .ok (.getstatic 18, 3) := by decide +kernel
theorem bAbL_d3 : decode bAbL.bs 3 = .ok (.ifCond .eq 14, 3) := by decide +kernel
theorem bAbL_d6 : decode bAbL.bs 6 = .ok (.aload_n 0, 1) := by decide +kernel
theorem bAbL_d7 : decode bAbL.bs 7 = .ok (.getfield 22, 3) := by decide +kernel
theorem bAbL_d10 : decode bAbL.bs 10 = .ok (.ifCond .ne 7, 3) := by decide +kernel
theorem bAbL_d13 : decode bAbL.bs 13 = .ok (.iconst 1, 1) := by decide +kernel
theorem bAbL_d14 : decode bAbL.bs 14 = .ok (.goto 4, 3) := by decide +kernel
theorem bAbL_d17 : decode bAbL.bs 17 = .ok (.iconst 0, 1) := by decide +kernel
theorem bAbL_d18 : decode bAbL.bs 18 = .ok (.ireturn, 1) := by decide +kernel
theorem bAbL_pd : parseMethodDescriptor "()Z" = some ⟨[], (some .boolean)⟩ := by decide +kernel
theorem bAbL_pn : plainFor bAbL.y = true := plainFor_of_name (show plainName "java/lang/AbstractStringBuilder" = true from by first | (simp [plainName, overriddenIn]; done) | decide +kernel)
theorem cAbL (l : Launch) (Z : State) (a0 : Array Value) (hw : ∀ d ∈ tables_1, d.before a0 Z = true) (n0 : Nat) (hEW : EW Z a0 consts_1) (q : Addr) (h0 : Heap) (σ : Addr → Prop) (Fc : Fld Z h0 q Road.AB "coder" "B" (.int 0)) (cp : Int32) (Hc : Sta Z Z.heap Road.SN "COMPACT_STRINGS" "Z" (.int cp)) (hcp : ¬ cp = 0) :
    Road.Con l Z consts_1 n0 false bAbL [] σ #[(.ref q)] h0 (fun v h2 _ => v = some (.int 1) ∧ h0 = h2) := by
  refine Road.Con.of bAbL_pn hEW #[.val (.ref q)] (fun m => Road.ent (Road.laid1 rfl Road.laid0) (k := 0) rfl rfl) ?_
  intro D hD
  refine Road.getstatic 0 bAbL_d0 (hw _ (List.mem_of_getElem? (i := 35) rfl)) Via.refl Hc ?_
  refine Road.if_eq 3 17 bAbL_d3 rfl (fun q => absurd q hcp) (fun hc3 => ?_)
  refine Road.aloadN 6 bAbL_d6 rfl ?_
  refine Road.getfield 7 bAbL_d7 (hw _ (List.mem_of_getElem? (i := 38) rfl)) Via.refl Fc ?_
  refine Road.if_ne 10 17 bAbL_d10 rfl (fun q => absurd q (by decide)) (fun hc10 => ?_)
  refine Road.iconst 13 (1 : Int32) bAbL_d13 rfl ?_
  refine Road.goto 14 18 bAbL_d14 rfl ?_
  exact Road.iret 18 1 bAbL_d18 (t := .boolean) rfl (by simp) rfl (by decide) (by decide) (fun σ' m => ⟨rfl, rfl⟩)
def bAc0 : Road.Bdy := (⟨"java/lang/AbstractStringBuilder", "append", "(C)Ljava/lang/AbstractStringBuilder;"⟩, jdk_68_method_31_code, 2, (some (.object "java/lang/AbstractStringBuilder")), { frames := 1, cells := 0, slots := 0, locals := 14 })
theorem bAc0_d0 : decode bAc0.bs 0 = .ok (.aload_n 0, 1) := by decide +kernel
theorem bAc0_d1 : decode bAc0.bs 1 = .ok (.aload_n 0, 1) := by decide +kernel
theorem bAc0_d2 : decode bAc0.bs 2 = .ok (.getfield 79, 3) := by decide +kernel
theorem bAc0_d5 : decode bAc0.bs 5 = .ok (.iconst 1, 1) := by decide +kernel
theorem bAc0_d6 : decode bAc0.bs 6 = .ok (.iadd, 1) := by decide +kernel
theorem bAc0_d7 : decode bAc0.bs 7 = .ok (.invokevirtual 100, 3) := by decide +kernel
theorem bAc0_d10 : decode bAc0.bs 10 = .ok (.aload_n 0, 1) := by decide +kernel
theorem bAc0_d11 : decode bAc0.bs 11 = .ok (.invokevirtual 83, 3) := by decide +kernel
theorem bAc0_d14 : decode bAc0.bs 14 = .ok (.ifCond .eq 31, 3) := by decide +kernel
theorem bAc0_d17 : decode bAc0.bs 17 = .ok (.iload_n 1, 1) := by decide +kernel
theorem bAc0_d18 : decode bAc0.bs 18 = .ok (.invokestatic 191, 3) := by decide +kernel
theorem bAc0_d21 : decode bAc0.bs 21 = .ok (.ifCond .eq 24, 3) := by decide +kernel
theorem bAc0_d24 : decode bAc0.bs 24 = .ok (.aload_n 0, 1) := by decide +kernel
theorem bAc0_d25 : decode bAc0.bs 25 = .ok (.getfield 15, 3) := by decide +kernel
theorem bAc0_d28 : decode bAc0.bs 28 = .ok (.aload_n 0, 1) := by decide +kernel
theorem bAc0_d29 : decode bAc0.bs 29 = .ok (.dup, 1) := by decide +kernel
theorem bAc0_d30 : decode bAc0.bs 30 = .ok (.getfield 79, 3) := by decide +kernel
theorem bAc0_d33 : decode bAc0.bs 33 = .ok (.dup_x1, 1) := by decide +kernel
theorem bAc0_d34 : decode bAc0.bs 34 = .ok (.iconst 1, 1) := by decide +kernel
theorem bAc0_d35 : decode bAc0.bs 35 = .ok (.iadd, 1) := by decide +kernel
theorem bAc0_d36 : decode bAc0.bs 36 = .ok (.putfield 79, 3) := by decide +kernel
theorem bAc0_d39 : decode bAc0.bs 39 = .ok (.iload_n 1, 1) := by decide +kernel
theorem bAc0_d40 : decode bAc0.bs 40 = .ok (.i2b, 1) := by decide +kernel
theorem bAc0_d41 : decode bAc0.bs 41 = .ok (.bastore, 1) := by decide +kernel
theorem bAc0_d42 : decode bAc0.bs 42 = .ok (.goto 33, 3) := by decide +kernel
theorem bAc0_d45 : decode bAc0.bs 45 = .ok (.aload_n 0, 1) := by decide +kernel
theorem bAc0_d46 : decode bAc0.bs 46 = .ok (.invokevirtual 83, 3) := by decide +kernel
theorem bAc0_d49 : decode bAc0.bs 49 = .ok (.ifCond .eq 7, 3) := by decide +kernel
theorem bAc0_d52 : decode bAc0.bs 52 = .ok (.aload_n 0, 1) := by decide +kernel
theorem bAc0_d53 : decode bAc0.bs 53 = .ok (.invokevirtual 195, 3) := by decide +kernel
theorem bAc0_d56 : decode bAc0.bs 56 = .ok (.aload_n 0, 1) := by decide +kernel
theorem bAc0_d57 : decode bAc0.bs 57 = .ok (.getfield 15, 3) := by decide +kernel
theorem bAc0_d60 : decode bAc0.bs 60 = .ok (.aload_n 0, 1) := by decide +kernel
theorem bAc0_d61 : decode bAc0.bs 61 = .ok (.dup, 1) := by decide +kernel
theorem bAc0_d62 : decode bAc0.bs 62 = .ok (.getfield 79, 3) := by decide +kernel
theorem bAc0_d65 : decode bAc0.bs 65 = .ok (.dup_x1, 1) := by decide +kernel
theorem bAc0_d66 : decode bAc0.bs 66 = .ok (.iconst 1, 1) := by decide +kernel
theorem bAc0_d67 : decode bAc0.bs 67 = .ok (.iadd, 1) := by decide +kernel
theorem bAc0_d68 : decode bAc0.bs 68 = .ok (.putfield 79, 3) := by decide +kernel
theorem bAc0_d71 : decode bAc0.bs 71 = .ok (.iload_n 1, 1) := by decide +kernel
theorem bAc0_d72 : decode bAc0.bs 72 = .ok (.invokestatic 197, 3) := by decide +kernel
theorem bAc0_d75 : decode bAc0.bs 75 = .ok (.aload_n 0, 1) := by decide +kernel
theorem bAc0_d76 : decode bAc0.bs 76 = .ok (.areturn, 1) := by decide +kernel
theorem bAc0_pd : parseMethodDescriptor "(C)Ljava/lang/AbstractStringBuilder;" = some ⟨[.char], (some (.object "java/lang/AbstractStringBuilder"))⟩ := by decide +kernel
theorem bAc0_pn : plainFor bAc0.y = true := plainFor_of_name (show plainName "java/lang/AbstractStringBuilder" = true from by first | (simp [plainName, overriddenIn]; done) | decide +kernel)
theorem cAc0 (l : Launch) (Z : State) (a0 : Array Value) (hw : ∀ d ∈ tables_1, d.before a0 Z = true) (n0 : Nat) (hEW : EW Z a0 consts_1) (q b : Addr) (cs : List Int32) (N : Nat) (x : Int32) (h0 : Heap) (σ : Addr → Prop) (S : Road.Sb Z h0 q b cs N) (hx : 0 ≤ x.toInt ∧ x.toInt < 256) (hm : cs.length + 1 ≤ N) (sb_ : σ b) (sq : σ q) (cp : Int32) (Hc : Sta Z Z.heap Road.SN "COMPACT_STRINGS" "Z" (.int cp)) (hcp : ¬ cp = 0) :
    Road.Con l Z consts_1 n0 false bAc0 [] σ #[(.ref q), (.int x)] h0 (fun v h2 s2 => v = some (.ref q) ∧ Keep h0 h2 [q, b] ∧ Road.Sb Z h2 q b (cs ++ [x]) N) := by
  have S0 := S
  have hN := S.small
  have hle := S.le
  obtain ⟨E, Fc, Fv, Fn, ⟨r, Ab, hr⟩, hlt⟩ := S
  have nqb : q ≠ b := by obtain ⟨c, Ar, -⟩ := Ab; exact ne_arr E (hw _ (List.mem_of_getElem? (i := 23) rfl)) Ar
  refine Road.Con.of bAc0_pn hEW #[.val (.ref q), .val (.int x)] (fun m => Road.ent (Road.laid1 rfl (Road.laid1 rfl Road.laid0)) (k := 0) rfl rfl) ?_
  intro D hD
  refine Road.aloadN 0 bAc0_d0 rfl ?_
  refine Road.aloadN 1 bAc0_d1 rfl ?_
  refine Road.getfield 2 bAc0_d2 (hw _ (List.mem_of_getElem? (i := 87) rfl)) Via.refl Fn ?_
  refine Road.iconst 5 (1 : Int32) bAc0_d5 rfl ?_
  refine Road.iadd 6 bAc0_d6 ?_
  refine Road.nameI ?_
  intro z_1 hz_1
  obtain rfl : z_1 = (Nat.toInt32 (cs.length + 1)) := by rw [hz_1]; exact Road.succ32 _
  refine Road.callP (B' := bEn0) (a := q) 7 (argsL := [(.int (Nat.toInt32 (cs.length + 1)))]) (rest := []) "java/lang/StringBuilder" 0 bAc0_d7 (hw _ (List.mem_of_getElem? (i := 89) rfl)) (hw _ (List.mem_of_getElem? (i := 91) rfl)) (hw _ (List.mem_of_getElem? (i := 92) rfl)) (hw _ (List.mem_of_getElem? (i := 90) rfl)) (hw _ (List.mem_of_getElem? (i := 32) rfl)) (hw _ (List.mem_of_getElem? (i := 93) rfl)) (by decide) E (cEn0 l Z a0 hw n0 hEW q b cs N (cs.length + 1) h0 σ S0 hm) (lenOf bEn0_pd rfl) rfl rfl rfl (by decide) (by decide) (ce' := 0) (sl' := 0) rfl rfl (by decide) (by decide) ?_
  rintro _ h_2 σ_3 m_4 ⟨rfl, rfl⟩
  refine Road.Go.weaken (σ' := σ) m_4 (Nat.le_refl _) (Nat.le_refl _) ?_
  refine Road.aloadN 10 bAc0_d10 rfl ?_
  refine Road.callV (B' := bAbL) (a := q) 11 (argsL := []) (rest := []) "java/lang/StringBuilder" 0 bAc0_d11 (hw _ (List.mem_of_getElem? (i := 123) rfl)) (hw _ (List.mem_of_getElem? (i := 124) rfl)) (fun vm hz => Road.notFace_sib (args := #[]) (mv (s := D.s.setVm vm) hz (hw _ (List.mem_of_getElem? (i := 92) rfl))) rfl) (hw _ (List.mem_of_getElem? (i := 126) rfl)) (hw _ (List.mem_of_getElem? (i := 125) rfl)) (hw _ (List.mem_of_getElem? (i := 32) rfl)) (hw _ (List.mem_of_getElem? (i := 127) rfl)) (by decide) E (cAbL l Z a0 hw n0 hEW q h0 σ Fc cp Hc hcp) (lenOf bAbL_pd rfl) rfl rfl rfl (by decide) (by decide) (ce' := 0) (sl' := 0) rfl rfl (by decide) (by decide) ?_
  rintro _ h_6 σ_7 m_8 ⟨rfl, rfl⟩
  refine Road.Go.weaken (σ' := σ) m_8 (Nat.le_refl _) (Nat.le_refl _) ?_
  refine Road.if_eq 14 45 bAc0_d14 rfl (fun q => absurd q (by decide)) (fun hc14 => ?_)
  refine Road.iloadN 17 bAc0_d17 rfl ?_
  refine Road.callS (B' := bCan) 18 (argsL := [(.int x)]) (rest := []) 0 bAc0_d18 (hw _ (List.mem_of_getElem? (i := 128) rfl)) (hw _ (List.mem_of_getElem? (i := 47) rfl)) (hw _ (List.mem_of_getElem? (i := 48) rfl)) (hw _ (List.mem_of_getElem? (i := 49) rfl)) (by decide) (cCan l Z a0 hw n0 hEW x h0 σ hx) (lenOf bCan_pd rfl) rfl rfl rfl (by decide) (by decide) (ce' := 0) (sl' := 0) rfl rfl (by decide) (by decide) ?_
  rintro _ h_10 σ_11 m_12 ⟨rfl, rfl⟩
  refine Road.Go.weaken (σ' := σ) m_12 (Nat.le_refl _) (Nat.le_refl _) ?_
  refine Road.if_eq 21 45 bAc0_d21 rfl (fun q => absurd q (by decide)) (fun hc21 => ?_)
  refine Road.aloadN 24 bAc0_d24 rfl ?_
  refine Road.getfield 25 bAc0_d25 (hw _ (List.mem_of_getElem? (i := 36) rfl)) Via.refl Fv ?_
  refine Road.aloadN 28 bAc0_d28 rfl ?_
  refine Road.dup 29 bAc0_d29 ?_
  refine Road.getfield 30 bAc0_d30 (hw _ (List.mem_of_getElem? (i := 87) rfl)) Via.refl Fn ?_
  refine Road.dupX1 33 bAc0_d33 ?_
  refine Road.iconst 34 (1 : Int32) bAc0_d34 rfl ?_
  refine Road.iadd 35 bAc0_d35 ?_
  refine Road.nameI ?_
  intro z_14 hz_14
  obtain rfl : z_14 = (Nat.toInt32 (cs ++ [x]).length) := by rw [hz_14]; rw [Road.succ32, List.length_append]; rfl
  refine Road.putfield 36 bAc0_d36 (hw _ (List.mem_of_getElem? (i := 87) rfl)) Via.refl Fn E (Or.inl (hw _ (List.mem_of_getElem? (i := 88) rfl))) (hw _ (List.mem_of_getElem? (i := 23) rfl)) (ty := .int) (by decide) rfl rfl sq ?_
  intro h_17 W_15 K_16
  replace Fn := Fn.same W_15
  replace Fc := Fc.other W_15 (Or.inr (slot_ne (Or.inl (hw _ (List.mem_of_getElem? (i := 39) rfl))) (Or.inl (hw _ (List.mem_of_getElem? (i := 88) rfl))) (by decide) (t := .byte) (by decide) (t' := .int) (by decide)))
  replace Fv := Fv.other W_15 (Or.inr (slot_ne (Or.inl (hw _ (List.mem_of_getElem? (i := 37) rfl))) (Or.inl (hw _ (List.mem_of_getElem? (i := 88) rfl))) (by decide) (t := (.array .byte)) (by decide) (t' := .int) (by decide)))
  replace E := E.keep K_16
  replace Ab := Ab.keep K_16 (ninS (Ne.symm nqb) nin0)
  refine Road.iloadN 39 bAc0_d39 rfl ?_
  refine Road.i2b 40 bAc0_d40 ?_
  refine Road.bastore 41 cs.length (Int8.toInt32 (Int32.toInt8 x)) bAc0_d41 Ab (Road.n32 (by omega)) (by rw [List.length_append, List.length_map]; omega) (Road.nar_byte _) sb_ ?_
  intro h_18 K_19 A_20
  replace E := E.keep K_19
  replace Fc := Fc.keep K_19 (ninS nqb nin0)
  replace Fv := Fv.keep K_19 (ninS nqb nin0)
  replace Fn := Fn.keep K_19 (ninS nqb nin0)
  replace Ab := A_20
  rw [show (Value.int (Int8.toInt32 (Int32.toInt8 x))) = Road.byt x from rfl, Road.put_chr _ _ _ (by omega)] at Ab
  refine Road.goto 42 75 bAc0_d42 rfl ?_
  refine Road.aloadN 75 bAc0_d75 rfl ?_
  exact Road.aret 76 bAc0_d76 (t := (.object "java/lang/AbstractStringBuilder")) rfl rfl rfl (by decide) (by decide) (fun σ' m => ⟨rfl, Road.keep2' K_16 K_19, ⟨E, Fc, Fv, Fn, ⟨_, Ab, by rw [List.length_append, List.length_drop]; simp only [List.length_singleton]; omega⟩, (fun c hc => (List.mem_append.mp hc).elim (hlt c) (fun hy => by rw [List.mem_singleton.mp hy]; exact hx))⟩⟩)
def bSc0 : Road.Bdy := (⟨"java/lang/StringBuilder", "append", "(C)Ljava/lang/StringBuilder;"⟩, jdk_67_method_14_code, 2, (some (.object "java/lang/StringBuilder")), { frames := 2, cells := 0, slots := 0, locals := 27 })
theorem bSc0_d0 : decode bSc0.bs 0 = .ok (.aload_n 0, 1) := by decide +kernel
theorem bSc0_d1 : decode bSc0.bs 1 = .ok (.iload_n 1, 1) := by decide +kernel
theorem bSc0_d2 : decode bSc0.bs 2 = .ok (.invokespecial 50, 3) := by decide +kernel
theorem bSc0_d5 : decode bSc0.bs 5 = .ok (.pop, 1) := by decide +kernel
theorem bSc0_d6 : decode bSc0.bs 6 = .ok (.aload_n 0, 1) := by decide +kernel
theorem bSc0_d7 : decode bSc0.bs 7 = .ok (.areturn, 1) := by decide +kernel
theorem bSc0_pd : parseMethodDescriptor "(C)Ljava/lang/StringBuilder;" = some ⟨[.char], (some (.object "java/lang/StringBuilder"))⟩ := by decide +kernel
theorem bSc0_pn : plainFor bSc0.y = true := plainFor_of_name (show plainName "java/lang/StringBuilder" = true from by first | (simp [plainName, overriddenIn]; done) | decide +kernel)
theorem cSc0 (l : Launch) (Z : State) (a0 : Array Value) (hw : ∀ d ∈ tables_1, d.before a0 Z = true) (n0 : Nat) (hEW : EW Z a0 consts_1) (q b : Addr) (cs : List Int32) (N : Nat) (x : Int32) (h0 : Heap) (σ : Addr → Prop) (S : Road.Sb Z h0 q b cs N) (hx : 0 ≤ x.toInt ∧ x.toInt < 256) (hm : cs.length + 1 ≤ N) (sb_ : σ b) (sq : σ q) (cp : Int32) (Hc : Sta Z Z.heap Road.SN "COMPACT_STRINGS" "Z" (.int cp)) (hcp : ¬ cp = 0) :
    Road.Con l Z consts_1 n0 false bSc0 [] σ #[(.ref q), (.int x)] h0 (fun v h2 s2 => v = some (.ref q) ∧ Keep h0 h2 [q, b] ∧ Road.Sb Z h2 q b (cs ++ [x]) N) := by
  refine Road.Con.of bSc0_pn hEW #[.val (.ref q), .val (.int x)] (fun m => Road.ent (Road.laid1 rfl (Road.laid1 rfl Road.laid0)) (k := 0) rfl rfl) ?_
  intro D hD
  refine Road.aloadN 0 bSc0_d0 rfl ?_
  refine Road.iloadN 1 bSc0_d1 rfl ?_
  refine Road.callUp (B' := bAc0) (a := q) 2 (argsL := [(.int x)]) (rest := []) "java/lang/StringBuilder" 0 bSc0_d2 (hw _ (List.mem_of_getElem? (i := 119) rfl)) (Road.notFace_sib (hw _ (List.mem_of_getElem? (i := 92) rfl)) rfl) (hw _ (List.mem_of_getElem? (i := 120) rfl)) (hw _ (List.mem_of_getElem? (i := 74) rfl)) (hw _ (List.mem_of_getElem? (i := 32) rfl)) (hw _ (List.mem_of_getElem? (i := 122) rfl)) (by decide) (by decide) S.1 (cAc0 l Z a0 hw n0 hEW q b cs N x h0 σ S hx hm sb_ sq cp Hc hcp) (lenOf bAc0_pd rfl) rfl rfl rfl (by decide) (by decide) (ce' := 0) (sl' := 0) rfl rfl (by decide) (by decide) ?_
  rintro _ h_1 σ_2 m_3 ⟨rfl, K_4, S2⟩
  refine Road.pop 5 bSc0_d5 ?_
  refine Road.aloadN 6 bSc0_d6 rfl ?_
  exact Road.aret 7 bSc0_d7 (t := (.object "java/lang/StringBuilder")) rfl rfl rfl (by decide) (by decide) (fun σ' m => ⟨rfl, K_4, S2⟩)
def bChL : Road.Bdy := (⟨"java/util/Arrays", "checkLength", "(II)V"⟩, jdk_65_method_131_code, 2, none, { frames := 0, cells := 0, slots := 0, locals := 0 })
theorem bChL_d0 : decode bChL.bs 0 = .ok (.iload_n 1, 1) := by decide +kernel
theorem bChL_d1 : decode bChL.bs 1 = .ok (.iload_n 0, 1) := by decide +kernel
theorem bChL_d2 : decode bChL.bs 2 = .ok (.if_icmp .ge 35, 3) := by decide +kernel
theorem bChL_d5 : decode bChL.bs 5 = .ok (.new 43, 3) := by decide +kernel
theorem bChL_d8 : decode bChL.bs 8 = .ok (.dup, 1) := by decide +kernel
theorem bChL_d9 : decode bChL.bs 9 = .ok (.new 45, 3) := by decide +kernel
theorem bChL_d12 : decode bChL.bs 12 = .ok (.dup, 1) := by decide +kernel
theorem bChL_d13 : decode bChL.bs 13 = .ok (.invokespecial 47, 3) := by decide +kernel
theorem bChL_d16 : decode bChL.bs 16 = .ok (.iload_n 0, 1) := by decide +kernel
theorem bChL_d17 : decode bChL.bs 17 = .ok (.invokevirtual 54, 3) := by decide +kernel
theorem bChL_d20 : decode bChL.bs 20 = .ok (.ldc_w 337, 3) := by decide +kernel
theorem bChL_d23 : decode bChL.bs 23 = .ok (.invokevirtual 50, 3) := by decide +kernel
theorem bChL_d26 : decode bChL.bs 26 = .ok (.iload_n 1, 1) := by decide +kernel
theorem bChL_d27 : decode bChL.bs 27 = .ok (.invokevirtual 54, 3) := by decide +kernel
theorem bChL_d30 : decode bChL.bs 30 = .ok (.invokevirtual 61, 3) := by decide +kernel
theorem bChL_d33 : decode bChL.bs 33 = .ok (.invokespecial 65, 3) := by decide +kernel
theorem bChL_d36 : decode bChL.bs 36 = .ok (.athrow, 1) := by decide +kernel
theorem bChL_d37 : decode bChL.bs 37 = .ok (.return_, 1) := by decide +kernel
theorem bChL_pd : parseMethodDescriptor "(II)V" = some ⟨[.int, .int], none⟩ := by decide +kernel
theorem bChL_pn : plainFor bChL.y = true := plainFor_of_name (show plainName "java/util/Arrays" = true from by first | (simp [plainName, overriddenIn]; done) | decide +kernel)
theorem cChL (l : Launch) (Z : State) (a0 : Array Value) (hw : ∀ d ∈ tables_1, d.before a0 Z = true) (n0 : Nat) (hEW : EW Z a0 consts_1) (n : Nat) (h0 : Heap) (σ : Addr → Prop) (hn : n < 2147483648) :
    Road.Con l Z consts_1 n0 false bChL [] σ #[(.int (0 : Int32)), (.int (Nat.toInt32 n))] h0 (fun v h2 _ => v = none ∧ h0 = h2) := by
  refine Road.Con.of bChL_pn hEW #[.val (.int (0 : Int32)), .val (.int (Nat.toInt32 n))] (fun m => Road.ent (Road.laid1 rfl (Road.laid1 rfl Road.laid0)) (k := 0) rfl rfl) ?_
  intro D hD
  refine Road.iloadN 0 bChL_d0 rfl ?_
  refine Road.iloadN 1 bChL_d1 rfl ?_
  refine Road.icmp_ge 2 37 bChL_d2 rfl (fun hc2 => ?_) (fun q => absurd q (by rw [show (0 : Int32) = Nat.toInt32 0 from rfl, Road.lt32 hn (by omega)]; omega))
  exact Road.ret 37 bChL_d37 rfl (by decide) (by decide) (fun σ' m => ⟨rfl, rfl⟩)
def bCrB : Road.Bdy := (⟨"java/util/Arrays", "copyOfRangeByte", "([BII)[B"⟩, jdk_65_method_133_code, 5, (some (.array .byte)), { frames := 1, cells := 1, slots := 25, locals := 22 })
theorem bCrB_d0 : decode bCrB.bs 0 = .ok (.iload_n 1, 1) := by decide +kernel
theorem bCrB_d1 : decode bCrB.bs 1 = .ok (.iload_n 2, 1) := by decide +kernel
theorem bCrB_d2 : decode bCrB.bs 2 = .ok (.invokestatic 343, 3) := by decide +kernel
theorem bCrB_d5 : decode bCrB.bs 5 = .ok (.iload_n 2, 1) := by decide +kernel
theorem bCrB_d6 : decode bCrB.bs 6 = .ok (.iload_n 1, 1) := by decide +kernel
theorem bCrB_d7 : decode bCrB.bs 7 = .ok (.isub, 1) := by decide +kernel
theorem bCrB_d8 : decode bCrB.bs 8 = .ok (.istore_n 3, 1) := by decide +kernel
theorem bCrB_d9 : decode bCrB.bs 9 = .ok (.iload_n 3, 1) := by decide +kernel
theorem bCrB_d10 : decode bCrB.bs 10 = .ok (.newarray .byte, 2) := by decide +kernel
theorem bCrB_d12 : decode bCrB.bs 12 = .ok (.astore 4, 2) := by decide +kernel
theorem bCrB_d14 : decode bCrB.bs 14 = .ok (.aload_n 0, 1) := by decide +kernel
theorem bCrB_d15 : decode bCrB.bs 15 = .ok (.iload_n 1, 1) := by decide +kernel
theorem bCrB_d16 : decode bCrB.bs 16 = .ok (.aload 4, 2) := by decide +kernel
theorem bCrB_d18 : decode bCrB.bs 18 = .ok (.iconst 0, 1) := by decide +kernel
theorem bCrB_d19 : decode bCrB.bs 19 = .ok (.aload_n 0, 1) := by decide +kernel
theorem bCrB_d20 : decode bCrB.bs 20 = .ok (.arraylength, 1) := by decide +kernel
theorem bCrB_d21 : decode bCrB.bs 21 = .ok (.iload_n 1, 1) := by decide +kernel
theorem bCrB_d22 : decode bCrB.bs 22 = .ok (.isub, 1) := by decide +kernel
theorem bCrB_d23 : decode bCrB.bs 23 = .ok (.iload_n 3, 1) := by decide +kernel
theorem bCrB_d24 : decode bCrB.bs 24 = .ok (.invokestatic 304, 3) := by decide +kernel
theorem bCrB_d27 : decode bCrB.bs 27 = .ok (.invokestatic 150, 3) := by decide +kernel
theorem bCrB_d30 : decode bCrB.bs 30 = .ok (.aload 4, 2) := by decide +kernel
theorem bCrB_d32 : decode bCrB.bs 32 = .ok (.areturn, 1) := by decide +kernel
theorem bCrB_pd : parseMethodDescriptor "([BII)[B" = some ⟨[(.array .byte), .int, .int], (some (.array .byte))⟩ := by decide +kernel
theorem bCrB_pn : plainFor bCrB.y = true := plainFor_of_name (show plainName "java/util/Arrays" = true from by first | (simp [plainName, overriddenIn]; done) | decide +kernel)
theorem cCrB (l : Launch) (Z : State) (a0 : Array Value) (hw : ∀ d ∈ tables_1, d.before a0 Z = true) (n0 : Nat) (hEW : EW Z a0 consts_1) (b : Addr) (vs : List Value) (n : Nat) (h0 : Heap) (σ : Addr → Prop) (A : Road.Ary Z h0 b .byte vs) (hn : n < vs.length) (hcap : n ≤ 25) :
    Road.Con l Z consts_1 n0 false bCrB [] σ #[(.ref b), (.int (0 : Int32)), (.int (Nat.toInt32 n))] h0 (fun v h2 s2 => ∃ d, v = some (.ref d) ∧ h0.size ≤ d ∧ Keep h0 h2 [] ∧ s2 d ∧ Road.Ary Z h2 d .byte (vs.take n)) := by
  have hsm := A.small
  refine Road.Con.of bCrB_pn hEW #[.val (.ref b), .val (.int (0 : Int32)), .val (.int (Nat.toInt32 n)), .unset, .unset] (fun m => Road.ent (Road.laid1 rfl (Road.laid1 rfl (Road.laid1 rfl Road.laid0))) (k := 2) rfl rfl) ?_
  intro D hD
  refine Road.iloadN 0 bCrB_d0 rfl ?_
  refine Road.iloadN 1 bCrB_d1 rfl ?_
  refine Road.callS (B' := bChL) 2 (argsL := [(.int (0 : Int32)), (.int (Nat.toInt32 n))]) (rest := []) 0 bCrB_d2 (hw _ (List.mem_of_getElem? (i := 194) rfl)) (hw _ (List.mem_of_getElem? (i := 195) rfl)) (hw _ (List.mem_of_getElem? (i := 151) rfl)) (hw _ (List.mem_of_getElem? (i := 196) rfl)) (by decide) (cChL l Z a0 hw n0 hEW n h0 σ (by omega)) (lenOf bChL_pd rfl) rfl rfl rfl (by decide) (by decide) (ce' := 0) (sl' := 0) rfl rfl (by decide) (by decide) ?_
  rintro _ h_1 σ_2 m_3 ⟨rfl, rfl⟩
  refine Road.Go.weaken (σ' := σ) m_3 (Nat.le_refl _) (Nat.le_refl _) ?_
  refine Road.iloadN 5 bCrB_d5 rfl ?_
  refine Road.iloadN 6 bCrB_d6 rfl ?_
  refine Road.isub 7 bCrB_d7 ?_
  refine Road.nameI ?_
  intro z_5 hz_5
  obtain rfl : z_5 = (Nat.toInt32 n) := by rw [hz_5]; exact Int32.sub_zero _
  refine Road.istoreN 8 #[.val (.ref b), .val (.int (0 : Int32)), .val (.int (Nat.toInt32 n)), .val (.int (Nat.toInt32 n)), .unset] bCrB_d8 rfl ?_
  refine Road.iloadN 9 bCrB_d9 rfl ?_
  refine Road.newarray 10 .byte n 25 bCrB_d10 rfl (hw _ (List.mem_of_getElem? (i := 8) rfl)) (Road.n32 (by omega)) hcap (by decide) (ce' := 1) (sl' := 25) rfl rfl (by decide) (by decide) ?_
  intro d h_6 σ_7 g_8 K_9 lt_10 m_11 s_12 Ad
  have ne_b_d : b ≠ d := Nat.ne_of_lt (Nat.lt_of_lt_of_le A.lt (Nat.le_of_eq g_8.symm))
  replace A := A.keep K_9 nin0
  refine Road.astore 12 #[.val (.ref b), .val (.int (0 : Int32)), .val (.int (Nat.toInt32 n)), .val (.int (Nat.toInt32 n)), .val (.ref d)] bCrB_d12 rfl ?_
  refine Road.aloadN 14 bCrB_d14 rfl ?_
  refine Road.iloadN 15 bCrB_d15 rfl ?_
  refine Road.aload 16 bCrB_d16 rfl ?_
  refine Road.iconst 18 (0 : Int32) bCrB_d18 rfl ?_
  refine Road.aloadN 19 bCrB_d19 rfl ?_
  refine Road.alen 20 (Nat.toInt32 vs.length) bCrB_d20 A (n := vs.length) rfl rfl ?_
  refine Road.iloadN 21 bCrB_d21 rfl ?_
  refine Road.isub 22 bCrB_d22 ?_
  refine Road.nameI ?_
  intro z_13 hz_13
  obtain rfl : z_13 = (Nat.toInt32 vs.length) := by rw [hz_13]; exact Int32.sub_zero _
  refine Road.iloadN 23 bCrB_d23 rfl ?_
  refine Road.callS (B' := bMin) 24 (argsL := [(.int (Nat.toInt32 vs.length)), (.int (Nat.toInt32 n))]) (rest := [(.int (0 : Int32)), (.ref d), (.int (0 : Int32)), (.ref b)]) 4 bCrB_d24 (hw _ (List.mem_of_getElem? (i := 153) rfl)) (hw _ (List.mem_of_getElem? (i := 154) rfl)) (hw _ (List.mem_of_getElem? (i := 145) rfl)) (hw _ (List.mem_of_getElem? (i := 155) rfl)) (by decide) (cMin l Z a0 hw n0 hEW vs.length n h_6 σ_7 hsm (by omega)) (lenOf bMin_pd rfl) rfl rfl rfl (by decide) (by decide) (ce' := 1) (sl' := 25) rfl rfl (by decide) (by decide) ?_
  rintro _ h_14 σ_15 m_16 ⟨rfl, rfl⟩
  refine Road.Go.weaken (σ' := σ_7) m_16 (Nat.le_refl _) (Nat.le_refl _) ?_
  refine Road.acopy 27 0 0 n 0 bCrB_d27 (hw _ (List.mem_of_getElem? (i := 156) rfl)) (hw _ (List.mem_of_getElem? (i := 113) rfl)) (hw _ (List.mem_of_getElem? (i := 111) rfl)) (hw _ (List.mem_of_getElem? (i := 112) rfl)) A Ad rfl rfl rfl (by rw [Nat.min_eq_right (by omega)]; exact Road.n32 (by omega)) (by omega) (by rw [List.length_replicate]; omega) s_12 rfl rfl (by decide) (by decide) ?_
  intro h_18 K_19 Ae
  replace A := A.keep K_19 (ninS ne_b_d nin0)
  refine Road.aload 30 bCrB_d30 rfl ?_
  exact Road.aret 32 bCrB_d32 (t := (.array .byte)) rfl rfl rfl (by decide) (by decide) (fun σ' m => ⟨d, rfl, Nat.le_of_eq g_8.symm, K_9.trans K_19 (by intro x hx; cases List.mem_singleton.mp hx; exact Or.inr (Nat.le_of_eq g_8.symm)), m _ s_12, by simpa using Ae⟩)
def bCrR : Road.Bdy := (⟨"java/util/Arrays", "copyOfRange", "([BII)[B"⟩, jdk_65_method_132_code, 3, (some (.array .byte)), { frames := 2, cells := 1, slots := 25, locals := 38 })
theorem bCrR_d0 : decode bCrR.bs 0 = .ok (.iload_n 1, 1) := by decide +kernel
theorem bCrR_d1 : decode bCrR.bs 1 = .ok (.ifCond .ne 9, 3) := by decide +kernel
theorem bCrR_d4 : decode bCrR.bs 4 = .ok (.iload_n 2, 1) := by decide +kernel
theorem bCrR_d5 : decode bCrR.bs 5 = .ok (.aload_n 0, 1) := by decide +kernel
theorem bCrR_d6 : decode bCrR.bs 6 = .ok (.arraylength, 1) := by decide +kernel
theorem bCrR_d7 : decode bCrR.bs 7 = .ok (.if_icmp .eq 10, 3) := by decide +kernel
theorem bCrR_d10 : decode bCrR.bs 10 = .ok (.aload_n 0, 1) := by decide +kernel
theorem bCrR_d11 : decode bCrR.bs 11 = .ok (.iload_n 1, 1) := by decide +kernel
theorem bCrR_d12 : decode bCrR.bs 12 = .ok (.iload_n 2, 1) := by decide +kernel
theorem bCrR_d13 : decode bCrR.bs 13 = .ok (.invokestatic 339, 3) := by decide +kernel
theorem bCrR_d16 : decode bCrR.bs 16 = .ok (.areturn, 1) := by decide +kernel
theorem bCrR_d17 : decode bCrR.bs 17 = .ok (.aload_n 0, 1) := by decide +kernel
theorem bCrR_d18 : decode bCrR.bs 18 = .ok (.invokevirtual 310, 3) := by decide +kernel
theorem bCrR_d21 : decode bCrR.bs 21 = .ok (.checkcast 311, 3) := by decide +kernel
theorem bCrR_d24 : decode bCrR.bs 24 = .ok (.areturn, 1) := by decide +kernel
theorem bCrR_pd : parseMethodDescriptor "([BII)[B" = some ⟨[(.array .byte), .int, .int], (some (.array .byte))⟩ := by decide +kernel
theorem bCrR_pn : plainFor bCrR.y = true := plainFor_of_name (show plainName "java/util/Arrays" = true from by first | (simp [plainName, overriddenIn]; done) | decide +kernel)
theorem cCrR (l : Launch) (Z : State) (a0 : Array Value) (hw : ∀ d ∈ tables_1, d.before a0 Z = true) (n0 : Nat) (hEW : EW Z a0 consts_1) (b : Addr) (vs : List Value) (n : Nat) (h0 : Heap) (σ : Addr → Prop) (A : Road.Ary Z h0 b .byte vs) (hn : n < vs.length) (hcap : n ≤ 25) :
    Road.Con l Z consts_1 n0 false bCrR [] σ #[(.ref b), (.int (0 : Int32)), (.int (Nat.toInt32 n))] h0 (fun v h2 s2 => ∃ d, v = some (.ref d) ∧ h0.size ≤ d ∧ Keep h0 h2 [] ∧ s2 d ∧ Road.Ary Z h2 d .byte (vs.take n)) := by
  have hsm := A.small
  refine Road.Con.of bCrR_pn hEW #[.val (.ref b), .val (.int (0 : Int32)), .val (.int (Nat.toInt32 n))] (fun m => Road.ent (Road.laid1 rfl (Road.laid1 rfl (Road.laid1 rfl Road.laid0))) (k := 0) rfl rfl) ?_
  intro D hD
  refine Road.iloadN 0 bCrR_d0 rfl ?_
  refine Road.if_ne 1 10 bCrR_d1 rfl (fun q => absurd q (by decide)) (fun hc1 => ?_)
  refine Road.iloadN 4 bCrR_d4 rfl ?_
  refine Road.aloadN 5 bCrR_d5 rfl ?_
  refine Road.alen 6 (Nat.toInt32 vs.length) bCrR_d6 A (n := vs.length) rfl rfl ?_
  refine Road.icmp_eq 7 17 bCrR_d7 rfl (fun q => absurd q (by rw [Road.eq32 (by omega) hsm]; omega)) (fun hc7 => ?_)
  refine Road.aloadN 10 bCrR_d10 rfl ?_
  refine Road.iloadN 11 bCrR_d11 rfl ?_
  refine Road.iloadN 12 bCrR_d12 rfl ?_
  refine Road.callS (B' := bCrB) 13 (argsL := [(.ref b), (.int (0 : Int32)), (.int (Nat.toInt32 n))]) (rest := []) 0 bCrR_d13 (hw _ (List.mem_of_getElem? (i := 191) rfl)) (hw _ (List.mem_of_getElem? (i := 192) rfl)) (hw _ (List.mem_of_getElem? (i := 151) rfl)) (hw _ (List.mem_of_getElem? (i := 193) rfl)) (by decide) (cCrB l Z a0 hw n0 hEW b vs n h0 σ A hn hcap) (lenOf bCrB_pd rfl) rfl rfl rfl (by decide) (by decide) (ce' := 1) (sl' := 25) rfl rfl (by decide) (by decide) ?_
  rintro _ h_1 σ_2 m_3 ⟨d, rfl, gd, K_4, sd, Ad⟩
  exact Road.aret 16 bCrR_d16 (t := (.array .byte)) rfl rfl rfl (by decide) (by decide) (fun σ' m => ⟨d, rfl, gd, K_4, m _ sd, Ad⟩)
def bGtV : Road.Bdy := (⟨"java/lang/AbstractStringBuilder", "getValue", "()[B"⟩, jdk_68_method_64_code, 1, (some (.array .byte)), { frames := 0, cells := 0, slots := 0, locals := 0 })
theorem bGtV_d0 : decode bGtV.bs 0 = .ok (.aload_n 0, 1) := by decide +kernel
theorem bGtV_d1 : decode bGtV.bs 1 = .ok (.getfield 15, 3) := by decide +kernel
theorem bGtV_d4 : decode bGtV.bs 4 = .ok (.areturn, 1) := by decide +kernel
theorem bGtV_pd : parseMethodDescriptor "()[B" = some ⟨[], (some (.array .byte))⟩ := by decide +kernel
theorem bGtV_pn : plainFor bGtV.y = true := plainFor_of_name (show plainName "java/lang/AbstractStringBuilder" = true from by first | (simp [plainName, overriddenIn]; done) | decide +kernel)
theorem cGtV (l : Launch) (Z : State) (a0 : Array Value) (hw : ∀ d ∈ tables_1, d.before a0 Z = true) (n0 : Nat) (hEW : EW Z a0 consts_1) (q b : Addr) (h0 : Heap) (σ : Addr → Prop) (Fv : Fld Z h0 q Road.AB "value" "[B" (.ref b)) :
    Road.Con l Z consts_1 n0 false bGtV [] σ #[(.ref q)] h0 (fun v h2 _ => v = some (.ref b) ∧ h0 = h2) := by
  refine Road.Con.of bGtV_pn hEW #[.val (.ref q)] (fun m => Road.ent (Road.laid1 rfl Road.laid0) (k := 0) rfl rfl) ?_
  intro D hD
  refine Road.aloadN 0 bGtV_d0 rfl ?_
  refine Road.getfield 1 bGtV_d1 (hw _ (List.mem_of_getElem? (i := 36) rfl)) Via.refl Fv ?_
  exact Road.aret 4 bGtV_d4 (t := (.array .byte)) rfl rfl rfl (by decide) (by decide) (fun σ' m => ⟨rfl, rfl⟩)
def bAbN : Road.Bdy := (⟨"java/lang/AbstractStringBuilder", "length", "()I"⟩, jdk_68_method_6_code, 1, (some .int), { frames := 0, cells := 0, slots := 0, locals := 0 })
theorem bAbN_d0 : decode bAbN.bs 0 = .ok (.aload_n 0, 1) := by decide +kernel
theorem bAbN_d1 : decode bAbN.bs 1 = .ok (.getfield 79, 3) := by decide +kernel
theorem bAbN_d4 : decode bAbN.bs 4 = .ok (.ireturn, 1) := by decide +kernel
theorem bAbN_pd : parseMethodDescriptor "()I" = some ⟨[], (some .int)⟩ := by decide +kernel
theorem bAbN_pn : plainFor bAbN.y = true := plainFor_of_name (show plainName "java/lang/AbstractStringBuilder" = true from by first | (simp [plainName, overriddenIn]; done) | decide +kernel)
theorem cAbN (l : Launch) (Z : State) (a0 : Array Value) (hw : ∀ d ∈ tables_1, d.before a0 Z = true) (n0 : Nat) (hEW : EW Z a0 consts_1) (q : Addr) (n : Int32) (h0 : Heap) (σ : Addr → Prop) (Fn : Fld Z h0 q Road.AB "count" "I" (.int n)) :
    Road.Con l Z consts_1 n0 false bAbN [] σ #[(.ref q)] h0 (fun v h2 _ => v = some (.int n) ∧ h0 = h2) := by
  refine Road.Con.of bAbN_pn hEW #[.val (.ref q)] (fun m => Road.ent (Road.laid1 rfl Road.laid0) (k := 0) rfl rfl) ?_
  intro D hD
  refine Road.aloadN 0 bAbN_d0 rfl ?_
  refine Road.getfield 1 bAbN_d1 (hw _ (List.mem_of_getElem? (i := 87) rfl)) Via.refl Fn ?_
  exact Road.iretI 4 bAbN_d4 rfl (by decide) (by decide) (fun σ' m => ⟨rfl, rfl⟩)
def bSbN : Road.Bdy := (⟨"java/lang/StringBuilder", "length", "()I"⟩, jdk_67_method_93_code, 1, (some .int), { frames := 1, cells := 0, slots := 0, locals := 12 })
theorem bSbN_d0 : decode bSbN.bs 0 = .ok (.aload_n 0, 1) := by decide +kernel
theorem bSbN_d1 : decode bSbN.bs 1 = .ok (.invokespecial 343, 3) := by decide +kernel
theorem bSbN_d4 : decode bSbN.bs 4 = .ok (.ireturn, 1) := by decide +kernel
theorem bSbN_pd : parseMethodDescriptor "()I" = some ⟨[], (some .int)⟩ := by decide +kernel
theorem bSbN_pn : plainFor bSbN.y = true := plainFor_of_name (show plainName "java/lang/StringBuilder" = true from by first | (simp [plainName, overriddenIn]; done) | decide +kernel)
theorem cSbN (l : Launch) (Z : State) (a0 : Array Value) (hw : ∀ d ∈ tables_1, d.before a0 Z = true) (n0 : Nat) (hEW : EW Z a0 consts_1) (q : Addr) (n : Int32) (h0 : Heap) (σ : Addr → Prop) (E : Exa Z h0 q Road.SB) (Fn : Fld Z h0 q Road.AB "count" "I" (.int n)) :
    Road.Con l Z consts_1 n0 false bSbN [] σ #[(.ref q)] h0 (fun v h2 _ => v = some (.int n) ∧ h0 = h2) := by
  refine Road.Con.of bSbN_pn hEW #[.val (.ref q)] (fun m => Road.ent (Road.laid1 rfl Road.laid0) (k := 0) rfl rfl) ?_
  intro D hD
  refine Road.aloadN 0 bSbN_d0 rfl ?_
  refine Road.callUp (B' := bAbN) (a := q) 1 (argsL := []) (rest := []) "java/lang/StringBuilder" 0 bSbN_d1 (hw _ (List.mem_of_getElem? (i := 185) rfl)) (Road.notFace_sib (hw _ (List.mem_of_getElem? (i := 92) rfl)) rfl) (hw _ (List.mem_of_getElem? (i := 181) rfl)) (hw _ (List.mem_of_getElem? (i := 74) rfl)) (hw _ (List.mem_of_getElem? (i := 32) rfl)) (hw _ (List.mem_of_getElem? (i := 186) rfl)) (by decide) (by decide) E (cAbN l Z a0 hw n0 hEW q n h0 σ Fn) (lenOf bAbN_pd rfl) rfl rfl rfl (by decide) (by decide) (ce' := 0) (sl' := 0) rfl rfl (by decide) (by decide) ?_
  rintro _ h_1 σ_2 m_3 ⟨rfl, rfl⟩
  refine Road.Go.weaken (σ' := σ) m_3 (Nat.le_refl _) (Nat.le_refl _) ?_
  exact Road.iretI 4 bSbN_d4 rfl (by decide) (by decide) (fun σ' m => ⟨rfl, rfl⟩)
def bStV : Road.Bdy := (⟨"java/lang/String", "<init>", "(Ljava/lang/AbstractStringBuilder;Ljava/lang/Void;)V"⟩, jdk_42_method_150_code, 5, none, { frames := 3, cells := 1, slots := 25, locals := 53 })
theorem bStV_d0 : decode bStV.bs 0 = .ok (.aload_n 0, 1) := by decide +kernel
theorem bStV_d1 : decode bStV.bs 1 = .ok (.invokespecial 1, 3) := by decide +kernel
theorem bStV_d4 : decode bStV.bs 4 = .ok (.aload_n 1, 1) := by decide +kernel
theorem bStV_d5 : decode bStV.bs 5 = .ok (.invokevirtual 552, 3) := by decide +kernel
theorem bStV_d8 : decode bStV.bs 8 = .ok (.astore_n 3, 1) := by decide +kernel
theorem bStV_d9 : decode bStV.bs 9 = .ok (.aload_n 1, 1) := by decide +kernel
theorem bStV_d10 : decode bStV.bs 10 = .ok (.invokevirtual 549, 3) := by decide +kernel
theorem bStV_d13 : decode bStV.bs 13 = .ok (.istore 4, 2) := by decide +kernel
theorem bStV_d15 : decode bStV.bs 15 = .ok (.aload_n 1, 1) := by decide +kernel
theorem bStV_d16 : decode bStV.bs 16 = .ok (.invokevirtual 1047, 3) := by decide +kernel
theorem bStV_d19 : decode bStV.bs 19 = .ok (.ifCond .eq 22, 3) := by decide +kernel
theorem bStV_d22 : decode bStV.bs 22 = .ok (.aload_n 0, 1) := by decide +kernel
theorem bStV_d23 : decode bStV.bs 23 = .ok (.iconst 0, 1) := by decide +kernel
theorem bStV_d24 : decode bStV.bs 24 = .ok (.putfield 15, 3) := by decide +kernel
theorem bStV_d27 : decode bStV.bs 27 = .ok (.aload_n 0, 1) := by decide +kernel
theorem bStV_d28 : decode bStV.bs 28 = .ok (.aload_n 3, 1) := by decide +kernel
theorem bStV_d29 : decode bStV.bs 29 = .ok (.iconst 0, 1) := by decide +kernel
theorem bStV_d30 : decode bStV.bs 30 = .ok (.iload 4, 2) := by decide +kernel
theorem bStV_d32 : decode bStV.bs 32 = .ok (.invokestatic 54, 3) := by decide +kernel
theorem bStV_d35 : decode bStV.bs 35 = .ok (.putfield 9, 3) := by decide +kernel
theorem bStV_d38 : decode bStV.bs 38 = .ok (.goto 59, 3) := by decide +kernel
theorem bStV_d41 : decode bStV.bs 41 = .ok (.getstatic 38, 3) := by decide +kernel
theorem bStV_d44 : decode bStV.bs 44 = .ok (.ifCond .eq 35, 3) := by decide +kernel
theorem bStV_d47 : decode bStV.bs 47 = .ok (.aload_n 1, 1) := by decide +kernel
theorem bStV_d48 : decode bStV.bs 48 = .ok (.getfield 1048, 3) := by decide +kernel
theorem bStV_d51 : decode bStV.bs 51 = .ok (.ifCond .eq 28, 3) := by decide +kernel
theorem bStV_d54 : decode bStV.bs 54 = .ok (.aload_n 0, 1) := by decide +kernel
theorem bStV_d55 : decode bStV.bs 55 = .ok (.aload_n 3, 1) := by decide +kernel
theorem bStV_d56 : decode bStV.bs 56 = .ok (.iconst 0, 1) := by decide +kernel
theorem bStV_d57 : decode bStV.bs 57 = .ok (.iload 4, 2) := by decide +kernel
theorem bStV_d59 : decode bStV.bs 59 = .ok (.invokestatic 1051, 3) := by decide +kernel
theorem bStV_d62 : decode bStV.bs 62 = .ok (.putfield 9, 3) := by decide +kernel
theorem bStV_d65 : decode bStV.bs 65 = .ok (.aload_n 0, 1) := by decide +kernel
theorem bStV_d66 : decode bStV.bs 66 = .ok (.aload_n 0, 1) := by decide +kernel
theorem bStV_d67 : decode bStV.bs 67 = .ok (.getfield 9, 3) := by decide +kernel
theorem bStV_d70 : decode bStV.bs 70 = .ok (.iload 4, 2) := by decide +kernel
theorem bStV_d72 : decode bStV.bs 72 = .ok (.invokestatic 47, 3) := by decide +kernel
theorem bStV_d75 : decode bStV.bs 75 = .ok (.putfield 15, 3) := by decide +kernel
theorem bStV_d78 : decode bStV.bs 78 = .ok (.return_, 1) := by decide +kernel
theorem bStV_d79 : decode bStV.bs 79 = .ok (.aload_n 0, 1) := by decide +kernel
theorem bStV_d80 : decode bStV.bs 80 = .ok (.iconst 1, 1) := by decide +kernel
theorem bStV_d81 : decode bStV.bs 81 = .ok (.putfield 15, 3) := by decide +kernel
theorem bStV_d84 : decode bStV.bs 84 = .ok (.aload_n 0, 1) := by decide +kernel
theorem bStV_d85 : decode bStV.bs 85 = .ok (.aload_n 3, 1) := by decide +kernel
theorem bStV_d86 : decode bStV.bs 86 = .ok (.iconst 0, 1) := by decide +kernel
theorem bStV_d87 : decode bStV.bs 87 = .ok (.iload 4, 2) := by decide +kernel
theorem bStV_d89 : decode bStV.bs 89 = .ok (.iconst 1, 1) := by decide +kernel
theorem bStV_d90 : decode bStV.bs 90 = .ok (.ishl, 1) := by decide +kernel
theorem bStV_d91 : decode bStV.bs 91 = .ok (.invokestatic 54, 3) := by decide +kernel
theorem bStV_d94 : decode bStV.bs 94 = .ok (.putfield 9, 3) := by decide +kernel
theorem bStV_d97 : decode bStV.bs 97 = .ok (.return_, 1) := by decide +kernel
theorem bStV_pd : parseMethodDescriptor "(Ljava/lang/AbstractStringBuilder;Ljava/lang/Void;)V" = some ⟨[(.object "java/lang/AbstractStringBuilder"), (.object "java/lang/Void")], none⟩ := by decide +kernel
theorem bStV_pn : plainFor bStV.y = true := plainFor_of_name (show plainName "java/lang/String" = true from by first | (simp [plainName, overriddenIn]; done) | decide +kernel)
theorem cStV (l : Launch) (Z : State) (a0 : Array Value) (hw : ∀ d ∈ tables_1, d.before a0 Z = true) (n0 : Nat) (hEW : EW Z a0 consts_1) (a : Addr) (q b : Addr) (cs : List Int32) (N : Nat) (h0 : Heap) (σ : Addr → Prop) (E : Exa Z h0 a Road.SN) (Gc : Fld Z h0 a Road.SN "coder" "B" (.int 0)) (Gv : Fld Z h0 a Road.SN "value" "[B" .null) (S : Road.Sb Z h0 q b cs N) (hn : cs.length < N) (hcap : cs.length ≤ 25) (naq : a ≠ q) (sa : σ a) (cp : Int32) (Hc : Sta Z Z.heap Road.SN "COMPACT_STRINGS" "Z" (.int cp)) (hcp : ¬ cp = 0) :
    Road.Con l Z consts_1 n0 false bStV [] σ #[(.ref a), (.ref q), .null] h0 (fun v h2 s2 => v = none ∧ Keep h0 h2 [a] ∧ ∃ d, Road.Str Z h2 a d cs ∧ h0.size ≤ d) := by
  have hN := S.small
  obtain ⟨F, Fc, Fv, Fn, ⟨r, Ab, hr⟩, hlt⟩ := S
  refine Road.Con.of bStV_pn hEW #[.val (.ref a), .val (.ref q), .val .null, .unset, .unset] (fun m => Road.ent (Road.laid1 rfl (Road.laid1 rfl (Road.laid1 rfl Road.laid0))) (k := 2) rfl rfl) ?_
  intro D hD
  refine Road.aloadN 0 bStV_d0 rfl ?_
  refine Road.initObj 1 bStV_d1 (hw _ (List.mem_of_getElem? (i := 58) rfl)) (hw _ (List.mem_of_getElem? (i := 20) rfl)) (hw _ (List.mem_of_getElem? (i := 21) rfl)) 0 rfl rfl (by decide) (by decide) ?_
  refine Road.aloadN 4 bStV_d4 rfl ?_
  refine Road.callV (B' := bGtV) (a := q) 5 (argsL := []) (rest := []) "java/lang/StringBuilder" 0 bStV_d5 (hw _ (List.mem_of_getElem? (i := 174) rfl)) (hw _ (List.mem_of_getElem? (i := 175) rfl)) (fun vm hz => Road.notFace_sib (args := #[]) (mv (s := D.s.setVm vm) hz (hw _ (List.mem_of_getElem? (i := 92) rfl))) rfl) (hw _ (List.mem_of_getElem? (i := 177) rfl)) (hw _ (List.mem_of_getElem? (i := 176) rfl)) (hw _ (List.mem_of_getElem? (i := 32) rfl)) (hw _ (List.mem_of_getElem? (i := 178) rfl)) (by decide) F (cGtV l Z a0 hw n0 hEW q b h0 σ Fv) (lenOf bGtV_pd rfl) rfl rfl rfl (by decide) (by decide) (ce' := 0) (sl' := 0) rfl rfl (by decide) (by decide) ?_
  rintro _ h_1 σ_2 m_3 ⟨rfl, rfl⟩
  refine Road.Go.weaken (σ' := σ) m_3 (Nat.le_refl _) (Nat.le_refl _) ?_
  refine Road.astoreN 8 #[.val (.ref a), .val (.ref q), .val .null, .val (.ref b), .unset] bStV_d8 rfl ?_
  refine Road.aloadN 9 bStV_d9 rfl ?_
  refine Road.callV (B' := bSbN) (a := q) 10 (argsL := []) (rest := []) "java/lang/StringBuilder" 0 bStV_d10 (hw _ (List.mem_of_getElem? (i := 179) rfl)) (hw _ (List.mem_of_getElem? (i := 180) rfl)) (fun vm hz => Road.notFace_sib (args := #[]) (mv (s := D.s.setVm vm) hz (hw _ (List.mem_of_getElem? (i := 92) rfl))) rfl) (hw _ (List.mem_of_getElem? (i := 182) rfl)) (hw _ (List.mem_of_getElem? (i := 183) rfl)) (hw _ (List.mem_of_getElem? (i := 24) rfl)) (hw _ (List.mem_of_getElem? (i := 184) rfl)) (by decide) F (cSbN l Z a0 hw n0 hEW q (Nat.toInt32 cs.length) h0 σ F Fn) (lenOf bSbN_pd rfl) rfl rfl rfl (by decide) (by decide) (ce' := 0) (sl' := 0) rfl rfl (by decide) (by decide) ?_
  rintro _ h_5 σ_6 m_7 ⟨rfl, rfl⟩
  refine Road.Go.weaken (σ' := σ) m_7 (Nat.le_refl _) (Nat.le_refl _) ?_
  refine Road.istore 13 #[.val (.ref a), .val (.ref q), .val .null, .val (.ref b), .val (.int (Nat.toInt32 cs.length))] bStV_d13 rfl ?_
  refine Road.aloadN 15 bStV_d15 rfl ?_
  refine Road.callV (B' := bAbL) (a := q) 16 (argsL := []) (rest := []) "java/lang/StringBuilder" 0 bStV_d16 (hw _ (List.mem_of_getElem? (i := 187) rfl)) (hw _ (List.mem_of_getElem? (i := 124) rfl)) (fun vm hz => Road.notFace_sib (args := #[]) (mv (s := D.s.setVm vm) hz (hw _ (List.mem_of_getElem? (i := 92) rfl))) rfl) (hw _ (List.mem_of_getElem? (i := 126) rfl)) (hw _ (List.mem_of_getElem? (i := 125) rfl)) (hw _ (List.mem_of_getElem? (i := 32) rfl)) (hw _ (List.mem_of_getElem? (i := 127) rfl)) (by decide) F (cAbL l Z a0 hw n0 hEW q h0 σ Fc cp Hc hcp) (lenOf bAbL_pd rfl) rfl rfl rfl (by decide) (by decide) (ce' := 0) (sl' := 0) rfl rfl (by decide) (by decide) ?_
  rintro _ h_9 σ_10 m_11 ⟨rfl, rfl⟩
  refine Road.Go.weaken (σ' := σ) m_11 (Nat.le_refl _) (Nat.le_refl _) ?_
  refine Road.if_eq 19 41 bStV_d19 rfl (fun q => absurd q (by decide)) (fun hc19 => ?_)
  refine Road.aloadN 22 bStV_d22 rfl ?_
  refine Road.iconst 23 (0 : Int32) bStV_d23 rfl ?_
  have nab : a ≠ b := by obtain ⟨c, Ar, -⟩ := Ab; exact ne_arr E (hw _ (List.mem_of_getElem? (i := 7) rfl)) Ar
  refine Road.putfield 24 bStV_d24 (hw _ (List.mem_of_getElem? (i := 60) rfl)) Via.refl Gc E (Or.inr ⟨(hw _ (List.mem_of_getElem? (i := 10) rfl)), rfl, rfl⟩) (hw _ (List.mem_of_getElem? (i := 7) rfl)) (ty := .byte) (by decide) rfl rfl sa ?_
  intro h_15 W_13 K_14
  replace Gc := Gc.same W_13
  replace Gv := Gv.other W_13 (Or.inr (slot_ne (Or.inr (hw _ (List.mem_of_getElem? (i := 9) rfl))) (Or.inr (hw _ (List.mem_of_getElem? (i := 10) rfl))) (by decide) (t := (.array .byte)) (by decide) (t' := .byte) (by decide)))
  replace E := E.keep K_14
  replace Ab := Ab.keep K_14 (ninS (Ne.symm nab) nin0)
  refine Road.aloadN 27 bStV_d27 rfl ?_
  refine Road.aloadN 28 bStV_d28 rfl ?_
  refine Road.iconst 29 (0 : Int32) bStV_d29 rfl ?_
  refine Road.iload 30 bStV_d30 rfl ?_
  refine Road.callS (B' := bCrR) 32 (argsL := [(.ref b), (.int (0 : Int32)), (.int (Nat.toInt32 cs.length))]) (rest := [(.ref a)]) 1 bStV_d32 (hw _ (List.mem_of_getElem? (i := 188) rfl)) (hw _ (List.mem_of_getElem? (i := 189) rfl)) (hw _ (List.mem_of_getElem? (i := 151) rfl)) (hw _ (List.mem_of_getElem? (i := 190) rfl)) (by decide) (cCrR l Z a0 hw n0 hEW b _ cs.length h_15 σ Ab (by rw [List.length_append, List.length_map]; omega) hcap) (lenOf bCrR_pd rfl) rfl rfl rfl (by decide) (by decide) (ce' := 1) (sl' := 25) rfl rfl (by decide) (by decide) ?_
  rintro _ h_16 σ_17 m_18 ⟨d, rfl, gd, K_19, sd, Ad⟩
  have ne_a_d : a ≠ d := Nat.ne_of_lt (Nat.lt_of_lt_of_le E.lt gd)
  have ne_b_d : b ≠ d := Nat.ne_of_lt (Nat.lt_of_lt_of_le Ab.lt gd)
  replace E := E.keep K_19
  replace Gc := Gc.keep K_19 nin0
  replace Gv := Gv.keep K_19 nin0
  replace Ab := Ab.keep K_19 nin0
  replace sa := m_18 _ sa
  refine Road.putfield 35 bStV_d35 (hw _ (List.mem_of_getElem? (i := 59) rfl)) Via.refl Gv E (Or.inr ⟨(hw _ (List.mem_of_getElem? (i := 9) rfl)), rfl, rfl⟩) (hw _ (List.mem_of_getElem? (i := 7) rfl)) (ty := (.array .byte)) (by decide) rfl rfl sa ?_
  intro h_22 W_20 K_21
  replace Gv := Gv.same W_20
  replace Gc := Gc.other W_20 (Or.inr (slot_ne (Or.inr (hw _ (List.mem_of_getElem? (i := 10) rfl))) (Or.inr (hw _ (List.mem_of_getElem? (i := 9) rfl))) (by decide) (t := .byte) (by decide) (t' := (.array .byte)) (by decide)))
  replace E := E.keep K_21
  replace Ab := Ab.keep K_21 (ninS (Ne.symm nab) nin0)
  replace Ad := Ad.keep K_21 (ninS (Ne.symm ne_a_d) nin0)
  refine Road.goto 38 97 bStV_d38 rfl ?_
  rw [List.take_append_of_le_length (by rw [List.length_map]; omega), List.take_of_length_le (by rw [List.length_map]; omega)] at Ad
  exact Road.ret 97 bStV_d97 rfl (by decide) (by decide) (fun σ' m => ⟨rfl, (K_14.trans (Road.keep_more (ws := [a]) K_19) (by simp)).trans K_21 (by simp), d, ⟨E, Gc, Gv, Ad, hlt⟩, Nat.le_trans K_14.1 gd⟩)
def bStS : Road.Bdy := (⟨"java/lang/String", "<init>", "(Ljava/lang/StringBuilder;)V"⟩, jdk_42_method_53_code, 2, none, { frames := 4, cells := 1, slots := 25, locals := 69 })
theorem bStS_d0 : decode bStS.bs 0 = .ok (.aload_n 0, 1) := by decide +kernel
theorem bStS_d1 : decode bStS.bs 1 = .ok (.aload_n 1, 1) := by decide +kernel
theorem bStS_d2 : decode bStS.bs 2 = .ok (.aconst_null, 1) := by decide +kernel
theorem bStS_d3 : decode bStS.bs 3 = .ok (.invokespecial 489, 3) := by decide +kernel
theorem bStS_d6 : decode bStS.bs 6 = .ok (.return_, 1) := by decide +kernel
theorem bStS_pd : parseMethodDescriptor "(Ljava/lang/StringBuilder;)V" = some ⟨[(.object "java/lang/StringBuilder")], none⟩ := by decide +kernel
theorem bStS_pn : plainFor bStS.y = true := plainFor_of_name (show plainName "java/lang/String" = true from by first | (simp [plainName, overriddenIn]; done) | decide +kernel)
theorem cStS (l : Launch) (Z : State) (a0 : Array Value) (hw : ∀ d ∈ tables_1, d.before a0 Z = true) (n0 : Nat) (hEW : EW Z a0 consts_1) (a : Addr) (q b : Addr) (cs : List Int32) (N : Nat) (h0 : Heap) (σ : Addr → Prop) (E : Exa Z h0 a Road.SN) (Gc : Fld Z h0 a Road.SN "coder" "B" (.int 0)) (Gv : Fld Z h0 a Road.SN "value" "[B" .null) (S : Road.Sb Z h0 q b cs N) (hn : cs.length < N) (hcap : cs.length ≤ 25) (naq : a ≠ q) (sa : σ a) (cp : Int32) (Hc : Sta Z Z.heap Road.SN "COMPACT_STRINGS" "Z" (.int cp)) (hcp : ¬ cp = 0) :
    Road.Con l Z consts_1 n0 false bStS [] σ #[(.ref a), (.ref q)] h0 (fun v h2 s2 => v = none ∧ Keep h0 h2 [a] ∧ ∃ d, Road.Str Z h2 a d cs ∧ h0.size ≤ d) := by
  refine Road.Con.of bStS_pn hEW #[.val (.ref a), .val (.ref q)] (fun m => Road.ent (Road.laid1 rfl (Road.laid1 rfl Road.laid0)) (k := 0) rfl rfl) ?_
  intro D hD
  refine Road.aloadN 0 bStS_d0 rfl ?_
  refine Road.aloadN 1 bStS_d1 rfl ?_
  refine Road.aconstNull 2 bStS_d2 ?_
  refine Road.callI (B' := bStV) (a := a) 3 (argsL := [(.ref q), .null]) (rest := []) 0 bStS_d3 (hw _ (List.mem_of_getElem? (i := 171) rfl)) (hw _ (List.mem_of_getElem? (i := 172) rfl)) (hw _ (List.mem_of_getElem? (i := 6) rfl)) (hw _ (List.mem_of_getElem? (i := 173) rfl)) rfl rfl (by decide) (cStV l Z a0 hw n0 hEW a q b cs N h0 σ E Gc Gv S hn hcap naq sa cp Hc hcp) (lenOf bStV_pd rfl) rfl rfl rfl (by decide) (by decide) (ce' := 1) (sl' := 25) rfl rfl (by decide) (by decide) ?_
  rintro _ h_1 σ_2 m_3 ⟨rfl, K_4, d, T, gd⟩
  exact Road.ret 6 bStS_d6 rfl (by decide) (by decide) (fun σ' m => ⟨rfl, K_4, d, T, gd⟩)
def bToS : Road.Bdy := (⟨"java/lang/StringBuilder", "toString", "()Ljava/lang/String;"⟩, jdk_67_method_42_code, 1, (some (.object "java/lang/String")), { frames := 5, cells := 2, slots := 29, locals := 83 })
theorem bToS_d0 : decode bToS.bs 0 = .ok (.new 18, 3) := by decide +kernel
theorem bToS_d3 : decode bToS.bs 3 = .ok (.dup, 1) := by decide +kernel
theorem bToS_d4 : decode bToS.bs 4 = .ok (.aload_n 0, 1) := by decide +kernel
theorem bToS_d5 : decode bToS.bs 5 = .ok (.invokespecial 137, 3) := by decide +kernel
theorem bToS_d8 : decode bToS.bs 8 = .ok (.areturn, 1) := by decide +kernel
theorem bToS_pd : parseMethodDescriptor "()Ljava/lang/String;" = some ⟨[], (some (.object "java/lang/String"))⟩ := by decide +kernel
theorem bToS_pn : plainFor bToS.y = true := plainFor_of_name (show plainName "java/lang/StringBuilder" = true from by first | (simp [plainName, overriddenIn]; done) | decide +kernel)
theorem cToS (l : Launch) (Z : State) (a0 : Array Value) (hw : ∀ d ∈ tables_1, d.before a0 Z = true) (n0 : Nat) (hEW : EW Z a0 consts_1) (q b : Addr) (cs : List Int32) (N : Nat) (h0 : Heap) (σ : Addr → Prop) (S : Road.Sb Z h0 q b cs N) (hn : cs.length < N) (hcap : cs.length ≤ 25) (cp : Int32) (Hc : Sta Z Z.heap Road.SN "COMPACT_STRINGS" "Z" (.int cp)) (hcp : ¬ cp = 0) :
    Road.Con l Z consts_1 n0 false bToS [] σ #[(.ref q)] h0 (fun v h2 s2 => ∃ a d, v = some (.ref a) ∧ h0.size ≤ a ∧ h0.size ≤ d ∧ Keep h0 h2 [] ∧ Road.Str Z h2 a d cs) := by
  refine Road.Con.of bToS_pn hEW #[.val (.ref q)] (fun m => Road.ent (Road.laid1 rfl Road.laid0) (k := 0) rfl rfl) ?_
  intro D hD
  refine Road.new 0 "java/lang/String" bToS_d0 (hw _ (List.mem_of_getElem? (i := 167) rfl)) (hw _ (List.mem_of_getElem? (i := 7) rfl)) (hw _ (List.mem_of_getElem? (i := 6) rfl)) (ce' := 1) (sl' := 4) rfl rfl (by decide) (by decide) ?_
  intro a h_1 σ_2 g_3 K_4 lt_5 m_6 s_7 E D_8 M_9
  have ne_q_a : q ≠ a := Nat.ne_of_lt (Nat.lt_of_lt_of_le S.lt (Nat.le_of_eq g_3.symm))
  have ne_b_a : b ≠ a := Nat.ne_of_lt (Nat.lt_of_lt_of_le S.ltb (Nat.le_of_eq g_3.symm))
  replace S := S.keep K_4 nin0 nin0
  have Gc := D_8 (Or.inr (hw _ (List.mem_of_getElem? (i := 10) rfl))) (ty := .byte) (by decide)
  have Gv := D_8 (Or.inr (hw _ (List.mem_of_getElem? (i := 9) rfl))) (ty := (.array .byte)) (by decide)
  refine Road.dup 3 bToS_d3 ?_
  refine Road.aloadN 4 bToS_d4 rfl ?_
  refine Road.callI (B' := bStS) (a := a) 5 (argsL := [(.ref q)]) (rest := [(.ref a)]) 1 bToS_d5 (hw _ (List.mem_of_getElem? (i := 168) rfl)) (hw _ (List.mem_of_getElem? (i := 169) rfl)) (hw _ (List.mem_of_getElem? (i := 6) rfl)) (hw _ (List.mem_of_getElem? (i := 170) rfl)) rfl rfl (by decide) (cStS l Z a0 hw n0 hEW a q b cs N h_1 σ_2 E Gc Gv S hn hcap (Ne.symm ne_q_a) s_7 cp Hc hcp) (lenOf bStS_pd rfl) rfl rfl rfl (by decide) (by decide) (ce' := 2) (sl' := 29) rfl rfl (by decide) (by decide) ?_
  rintro _ h_10 σ_11 m_12 ⟨rfl, K_13, d, T, gd⟩
  replace s_7 := m_12 _ s_7
  exact Road.aret 8 bToS_d8 (t := (.object "java/lang/String")) rfl rfl rfl (by decide) (by decide) (fun σ' m => ⟨a, d, rfl, Nat.le_of_eq g_3.symm, Nat.le_trans K_4.1 gd, K_4.trans K_13 (by intro x hx; cases List.mem_singleton.mp hx; exact Or.inr (Nat.le_of_eq g_3.symm)), T⟩)
def escC (c : Int32) : List Int32 := if c = 92 then [92, 92] else if c = 10 then [92, 110] else [c]
def escL : List Int32 → List Int32
  | [] => []
  | c :: cs => escC c ++ escL cs
theorem escL_app (xs ys : List Int32) : escL (xs ++ ys) = escL xs ++ escL ys := by induction xs with
  | nil => rfl
  | cons c cs ih => show escC c ++ escL (cs ++ ys) = escC c ++ escL cs ++ escL ys; rw [ih, List.append_assoc]
theorem escC_len (c : Int32) : (escC c).length ≤ 2 := by unfold escC; (repeat' split) <;> simp
theorem escL_len (xs : List Int32) : (escL xs).length ≤ 2 * xs.length := by induction xs with
  | nil => simp [escL]
  | cons c cs ih => have := escC_len c; simp only [escL, List.length_append, List.length_cons]; omega
theorem escL_next (xs : List Int32) (k : Nat) (h : k < xs.length) : escL (xs.take (k + 1)) = escL (xs.take k) ++ escC xs[k] := by rw [List.take_succ_eq_append_getElem h, escL_app]; simp [escL]
def bPick : Road.Bdy := (⟨"com/example/meerkat/meerkat/metrics/ExpositionFamilyPinLaw", "pick", "(I)C"⟩, method_2_code, 2, (some .char), { frames := 0, cells := 0, slots := 0, locals := 0 })
theorem bPick_d0 : decode bPick.bs 0 = .ok (.iload_n 0, 1) := by decide +kernel
theorem bPick_d1 : decode bPick.bs 1 = .ok (.iconst 3, 1) := by decide +kernel
theorem bPick_d2 : decode bPick.bs 2 = .ok (.iand, 1) := by decide +kernel
theorem bPick_d3 : decode bPick.bs 3 = .ok (.istore_n 1, 1) := by decide +kernel
theorem bPick_d4 : decode bPick.bs 4 = .ok (.iload_n 1, 1) := by decide +kernel
theorem bPick_d5 : decode bPick.bs 5 = .ok (.ifCond .ne 6, 3) := by decide +kernel
theorem bPick_d8 : decode bPick.bs 8 = .ok (.bipush 92, 2) := by decide +kernel
theorem bPick_d10 : decode bPick.bs 10 = .ok (.ireturn, 1) := by decide +kernel
theorem bPick_d11 : decode bPick.bs 11 = .ok (.iload_n 1, 1) := by decide +kernel
theorem bPick_d12 : decode bPick.bs 12 = .ok (.iconst 1, 1) := by decide +kernel
theorem bPick_d13 : decode bPick.bs 13 = .ok (.if_icmp .ne 6, 3) := by decide +kernel
theorem bPick_d16 : decode bPick.bs 16 = .ok (.bipush 10, 2) := by decide +kernel
theorem bPick_d18 : decode bPick.bs 18 = .ok (.ireturn, 1) := by decide +kernel
theorem bPick_d19 : decode bPick.bs 19 = .ok (.iload_n 1, 1) := by decide +kernel
theorem bPick_d20 : decode bPick.bs 20 = .ok (.iconst 2, 1) := by decide +kernel
theorem bPick_d21 : decode bPick.bs 21 = .ok (.if_icmp .ne 6, 3) := by decide +kernel
theorem bPick_d24 : decode bPick.bs 24 = .ok (.bipush 34, 2) := by decide +kernel
theorem bPick_d26 : decode bPick.bs 26 = .ok (.ireturn, 1) := by decide +kernel
theorem bPick_d27 : decode bPick.bs 27 = .ok (.iload_n 0, 1) := by decide +kernel
theorem bPick_d28 : decode bPick.bs 28 = .ok (.iconst 2, 1) := by decide +kernel
theorem bPick_d29 : decode bPick.bs 29 = .ok (.iushr, 1) := by decide +kernel
theorem bPick_d30 : decode bPick.bs 30 = .ok (.sipush 255, 3) := by decide +kernel
theorem bPick_d33 : decode bPick.bs 33 = .ok (.iand, 1) := by decide +kernel
theorem bPick_d34 : decode bPick.bs 34 = .ok (.i2c, 1) := by decide +kernel
theorem bPick_d35 : decode bPick.bs 35 = .ok (.ireturn, 1) := by decide +kernel
theorem bPick_pd : parseMethodDescriptor "(I)C" = some ⟨[.int], (some .char)⟩ := by decide +kernel
theorem bPick_pn : plainFor bPick.y = true := plainFor_of_name (show plainName "com/example/meerkat/meerkat/metrics/ExpositionFamilyPinLaw" = true from by first | (simp [plainName, overriddenIn]; done) | decide +kernel)
theorem cPick (l : Launch) (Z : State) (a0 : Array Value) (hw : ∀ d ∈ tables_1, d.before a0 Z = true) (n0 : Nat) (hEW : EW Z a0 consts_1) (x : Int32) (h0 : Heap) (σ : Addr → Prop)  :
    Road.Con l Z consts_1 n0 false bPick [] σ #[(.int x)] h0 (fun v h2 _ => ∃ c : Int32, v = some (.int c) ∧ (0 ≤ c.toInt ∧ c.toInt < 256) ∧ h0 = h2) := by
  refine Road.Con.of bPick_pn hEW #[.val (.int x), .unset] (fun m => Road.ent (Road.laid1 rfl Road.laid0) (k := 1) rfl rfl) ?_
  intro D hD
  refine Road.iloadN 0 bPick_d0 rfl ?_
  refine Road.iconst 1 (3 : Int32) bPick_d1 rfl ?_
  refine Road.iand 2 bPick_d2 ?_
  refine Road.istoreN 3 #[.val (.int x), .val (.int (x &&& (3 : Int32)))] bPick_d3 rfl ?_
  refine Road.iloadN 4 bPick_d4 rfl ?_
  refine Road.if_ne 5 11 bPick_d5 rfl (fun hc5 => ?_) (fun hc5 => ?_)
  · skip
    refine Road.iloadN 11 bPick_d11 rfl ?_
    refine Road.iconst 12 (1 : Int32) bPick_d12 rfl ?_
    refine Road.icmp_ne 13 19 bPick_d13 rfl (fun hc13 => ?_) (fun hc13 => ?_)
    · skip
      refine Road.iloadN 19 bPick_d19 rfl ?_
      refine Road.iconst 20 (2 : Int32) bPick_d20 rfl ?_
      refine Road.icmp_ne 21 27 bPick_d21 rfl (fun hc21 => ?_) (fun hc21 => ?_)
      · skip
        refine Road.iloadN 27 bPick_d27 rfl ?_
        refine Road.iconst 28 (2 : Int32) bPick_d28 rfl ?_
        refine Road.iushr 29 bPick_d29 ?_
        refine Road.sipush 30 (255 : Int32) bPick_d30 rfl ?_
        refine Road.iand 33 bPick_d33 ?_
        refine Road.i2c 34 bPick_d34 ?_
        refine Road.nameI ?_
        intro z hz
        have lz : 0 ≤ z.toInt ∧ z.toInt < 256 := by rw [hz]; exact Road.and255 _
        exact Road.iret 35 z bPick_d35 (t := .char) rfl (by simp) (Road.nar_lat lz) (by decide) (by decide) (fun σ' m => ⟨z, rfl, lz, rfl⟩)
      · skip
        refine Road.bipush 24 (34 : Int32) bPick_d24 rfl ?_
        exact Road.iret 26 (34 : Int32) bPick_d26 (t := .char) rfl (by simp) rfl (by decide) (by decide) (fun σ' m => ⟨(34 : Int32), rfl, (by decide), rfl⟩)
    · skip
      refine Road.bipush 16 (10 : Int32) bPick_d16 rfl ?_
      exact Road.iret 18 (10 : Int32) bPick_d18 (t := .char) rfl (by simp) rfl (by decide) (by decide) (fun σ' m => ⟨(10 : Int32), rfl, (by decide), rfl⟩)
  · skip
    refine Road.bipush 8 (92 : Int32) bPick_d8 rfl ?_
    exact Road.iret 10 (92 : Int32) bPick_d10 (t := .char) rfl (by simp) rfl (by decide) (by decide) (fun σ' m => ⟨(92 : Int32), rfl, (by decide), rfl⟩)
def bOne : Road.Bdy := (⟨"com/example/meerkat/meerkat/metrics/ExpositionFamilyPinLaw", "one", "(Ljava/lang/String;IC)I"⟩, method_3_code, 3, (some .int), { frames := 4, cells := 0, slots := 0, locals := 53 })
theorem bOne_d0 : decode bOne.bs 0 = .ok (.iload_n 1, 1) := by decide +kernel
theorem bOne_d1 : decode bOne.bs 1 = .ok (.ifCond .lt 11, 3) := by decide +kernel
theorem bOne_d4 : decode bOne.bs 4 = .ok (.iload_n 1, 1) := by decide +kernel
theorem bOne_d5 : decode bOne.bs 5 = .ok (.aload_n 0, 1) := by decide +kernel
theorem bOne_d6 : decode bOne.bs 6 = .ok (.invokevirtual 7, 3) := by decide +kernel
theorem bOne_d9 : decode bOne.bs 9 = .ok (.if_icmp .lt 5, 3) := by decide +kernel
theorem bOne_d12 : decode bOne.bs 12 = .ok (.iconst (-1), 1) := by decide +kernel
theorem bOne_d13 : decode bOne.bs 13 = .ok (.ireturn, 1) := by decide +kernel
theorem bOne_d14 : decode bOne.bs 14 = .ok (.aload_n 0, 1) := by decide +kernel
theorem bOne_d15 : decode bOne.bs 15 = .ok (.iload_n 1, 1) := by decide +kernel
theorem bOne_d16 : decode bOne.bs 16 = .ok (.invokevirtual 13, 3) := by decide +kernel
theorem bOne_d19 : decode bOne.bs 19 = .ok (.iload_n 2, 1) := by decide +kernel
theorem bOne_d20 : decode bOne.bs 20 = .ok (.if_icmp .ne 9, 3) := by decide +kernel
theorem bOne_d23 : decode bOne.bs 23 = .ok (.iload_n 1, 1) := by decide +kernel
theorem bOne_d24 : decode bOne.bs 24 = .ok (.iconst 1, 1) := by decide +kernel
theorem bOne_d25 : decode bOne.bs 25 = .ok (.iadd, 1) := by decide +kernel
theorem bOne_d26 : decode bOne.bs 26 = .ok (.goto 4, 3) := by decide +kernel
theorem bOne_d29 : decode bOne.bs 29 = .ok (.iconst (-1), 1) := by decide +kernel
theorem bOne_d30 : decode bOne.bs 30 = .ok (.ireturn, 1) := by decide +kernel
theorem bOne_pd : parseMethodDescriptor "(Ljava/lang/String;IC)I" = some ⟨[(.object "java/lang/String"), .int, .char], (some .int)⟩ := by decide +kernel
theorem bOne_pn : plainFor bOne.y = true := plainFor_of_name (show plainName "com/example/meerkat/meerkat/metrics/ExpositionFamilyPinLaw" = true from by first | (simp [plainName, overriddenIn]; done) | decide +kernel)
theorem cOne (l : Launch) (Z : State) (a0 : Array Value) (hw : ∀ d ∈ tables_1, d.before a0 Z = true) (n0 : Nat) (hEW : EW Z a0 consts_1) (t td : Addr) (pre post : List Int32) (c : Int32) (h0 : Heap) (σ : Addr → Prop) (T : Road.Str Z h0 t td (pre ++ c :: post)) (cp : Int32) (Hc : Sta Z Z.heap Road.SN "COMPACT_STRINGS" "Z" (.int cp)) (hcp : ¬ cp = 0) (fm : Value) (hfm : fm.isRef = true) (Hf : Sta Z Z.heap "jdk/internal/util/Preconditions" "SIOOBE_FORMATTER" "Ljava/util/function/BiFunction;" fm) :
    Road.Con l Z consts_1 n0 false bOne [] σ #[(.ref t), (.int (Nat.toInt32 pre.length)), (.int c)] h0 (fun v h2 _ => v = some (.int (Nat.toInt32 (pre ++ [c]).length)) ∧ h0 = h2) := by
  have hsm := T.2.2.2.1.small
  rw [List.length_map, List.length_append, List.length_cons] at hsm
  refine Road.Con.of bOne_pn hEW #[.val (.ref t), .val (.int (Nat.toInt32 pre.length)), .val (.int c)] (fun m => Road.ent (Road.laid1 rfl (Road.laid1 rfl (Road.laid1 rfl Road.laid0))) (k := 0) rfl rfl) ?_
  intro D hD
  refine Road.iloadN 0 bOne_d0 rfl ?_
  refine Road.if_lt 1 12 bOne_d1 rfl (fun q => absurd q (Road.ix_of (Road.n32 (by omega))).1) (fun hc1 => ?_)
  refine Road.iloadN 4 bOne_d4 rfl ?_
  refine Road.aloadN 5 bOne_d5 rfl ?_
  refine Road.callV (B' := bLen) (a := t) 6 (argsL := []) (rest := [(.int (Nat.toInt32 pre.length))]) "java/lang/String" 1 bOne_d6 (hw _ (List.mem_of_getElem? (i := 200) rfl)) (hw _ (List.mem_of_getElem? (i := 78) rfl)) (fun vm hz => Road.notFace_sib (args := #[]) (mv (s := D.s.setVm vm) hz (hw _ (List.mem_of_getElem? (i := 80) rfl))) rfl) (hw _ (List.mem_of_getElem? (i := 80) rfl)) (hw _ (List.mem_of_getElem? (i := 79) rfl)) (hw _ (List.mem_of_getElem? (i := 6) rfl)) (hw _ (List.mem_of_getElem? (i := 81) rfl)) (by decide) T.1 (cLen l Z a0 hw n0 hEW t td _ h0 σ T cp Hc hcp) (lenOf bLen_pd rfl) rfl rfl rfl (by decide) (by decide) (ce' := 0) (sl' := 0) rfl rfl (by decide) (by decide) ?_
  rintro _ h_1 σ_2 m_3 ⟨rfl, rfl⟩
  refine Road.Go.weaken (σ' := σ) m_3 (Nat.le_refl _) (Nat.le_refl _) ?_
  refine Road.icmp_lt 9 14 bOne_d9 rfl (fun hc9 => ?_) (fun q => absurd q (by rw [Decidable.not_not, Road.lt32 (by omega) (by rw [List.length_append, List.length_cons]; omega), List.length_append, List.length_cons]; omega))
  refine Road.aloadN 14 bOne_d14 rfl ?_
  refine Road.iloadN 15 bOne_d15 rfl ?_
  have hi : pre.length < (pre ++ c :: post).length := by rw [List.length_append, List.length_cons]; omega
  refine Road.callV (B' := bChA) (a := t) 16 (argsL := [(.int (Nat.toInt32 pre.length))]) (rest := []) "java/lang/String" 0 bOne_d16 (hw _ (List.mem_of_getElem? (i := 201) rfl)) (hw _ (List.mem_of_getElem? (i := 202) rfl)) (fun vm hz => Road.notFace_sib (args := #[]) (mv (s := D.s.setVm vm) hz (hw _ (List.mem_of_getElem? (i := 80) rfl))) rfl) (hw _ (List.mem_of_getElem? (i := 204) rfl)) (hw _ (List.mem_of_getElem? (i := 203) rfl)) (hw _ (List.mem_of_getElem? (i := 6) rfl)) (hw _ (List.mem_of_getElem? (i := 205) rfl)) (by decide) T.1 (cChA l Z a0 hw n0 hEW t td _ (Nat.toInt32 pre.length) pre.length h0 σ T (Road.n32 (by omega)) hi cp Hc hcp fm hfm Hf) (lenOf bChA_pd rfl) rfl rfl rfl (by decide) (by decide) (ce' := 0) (sl' := 0) rfl rfl (by decide) (by decide) ?_
  rintro _ h_5 σ_6 m_7 ⟨rfl, rfl⟩
  refine Road.Go.weaken (σ' := σ) m_7 (Nat.le_refl _) (Nat.le_refl _) ?_
  refine Road.nameI ?_
  intro z_9 hz_9
  obtain rfl : z_9 = c := by rw [hz_9]; simp
  refine Road.iloadN 19 bOne_d19 rfl ?_
  refine Road.icmp_ne 20 29 bOne_d20 rfl (fun q => absurd q (by simp)) (fun hc20 => ?_)
  refine Road.iloadN 23 bOne_d23 rfl ?_
  refine Road.iconst 24 (1 : Int32) bOne_d24 rfl ?_
  refine Road.iadd 25 bOne_d25 ?_
  refine Road.goto 26 30 bOne_d26 rfl ?_
  exact Road.iretI 30 bOne_d30 rfl (by decide) (by decide) (fun σ' m => ⟨by rw [Road.succ32, List.length_append]; rfl, rfl⟩)
def bEsc : Road.Bdy := (⟨"com/example/meerkat/meerkat/metrics/ExpositionFamilyPinLaw", "esc", "(Ljava/lang/String;IC)I"⟩, method_4_code, 3, (some .int), { frames := 5, cells := 0, slots := 0, locals := 68 })
theorem bEsc_d0 : decode bEsc.bs 0 = .ok (.iload_n 2, 1) := by decide +kernel
theorem bEsc_d1 : decode bEsc.bs 1 = .ok (.bipush 92, 2) := by decide +kernel
theorem bEsc_d3 : decode bEsc.bs 3 = .ok (.if_icmp .ne 17, 3) := by decide +kernel
theorem bEsc_d6 : decode bEsc.bs 6 = .ok (.aload_n 0, 1) := by decide +kernel
theorem bEsc_d7 : decode bEsc.bs 7 = .ok (.aload_n 0, 1) := by decide +kernel
theorem bEsc_d8 : decode bEsc.bs 8 = .ok (.iload_n 1, 1) := by decide +kernel
theorem bEsc_d9 : decode bEsc.bs 9 = .ok (.bipush 92, 2) := by decide +kernel
theorem bEsc_d11 : decode bEsc.bs 11 = .ok (.invokestatic 17, 3) := by decide +kernel
theorem bEsc_d14 : decode bEsc.bs 14 = .ok (.bipush 92, 2) := by decide +kernel
theorem bEsc_d16 : decode bEsc.bs 16 = .ok (.invokestatic 17, 3) := by decide +kernel
theorem bEsc_d19 : decode bEsc.bs 19 = .ok (.ireturn, 1) := by decide +kernel
theorem bEsc_d20 : decode bEsc.bs 20 = .ok (.iload_n 2, 1) := by decide +kernel
theorem bEsc_d21 : decode bEsc.bs 21 = .ok (.bipush 10, 2) := by decide +kernel
theorem bEsc_d23 : decode bEsc.bs 23 = .ok (.if_icmp .ne 17, 3) := by decide +kernel
theorem bEsc_d26 : decode bEsc.bs 26 = .ok (.aload_n 0, 1) := by decide +kernel
theorem bEsc_d27 : decode bEsc.bs 27 = .ok (.aload_n 0, 1) := by decide +kernel
theorem bEsc_d28 : decode bEsc.bs 28 = .ok (.iload_n 1, 1) := by decide +kernel
theorem bEsc_d29 : decode bEsc.bs 29 = .ok (.bipush 92, 2) := by decide +kernel
theorem bEsc_d31 : decode bEsc.bs 31 = .ok (.invokestatic 17, 3) := by decide +kernel
theorem bEsc_d34 : decode bEsc.bs 34 = .ok (.bipush 110, 2) := by decide +kernel
theorem bEsc_d36 : decode bEsc.bs 36 = .ok (.invokestatic 17, 3) := by decide +kernel
theorem bEsc_d39 : decode bEsc.bs 39 = .ok (.ireturn, 1) := by decide +kernel
theorem bEsc_d40 : decode bEsc.bs 40 = .ok (.aload_n 0, 1) := by decide +kernel
theorem bEsc_d41 : decode bEsc.bs 41 = .ok (.iload_n 1, 1) := by decide +kernel
theorem bEsc_d42 : decode bEsc.bs 42 = .ok (.iload_n 2, 1) := by decide +kernel
theorem bEsc_d43 : decode bEsc.bs 43 = .ok (.invokestatic 17, 3) := by decide +kernel
theorem bEsc_d46 : decode bEsc.bs 46 = .ok (.ireturn, 1) := by decide +kernel
theorem bEsc_pd : parseMethodDescriptor "(Ljava/lang/String;IC)I" = some ⟨[(.object "java/lang/String"), .int, .char], (some .int)⟩ := by decide +kernel
theorem bEsc_pn : plainFor bEsc.y = true := plainFor_of_name (show plainName "com/example/meerkat/meerkat/metrics/ExpositionFamilyPinLaw" = true from by first | (simp [plainName, overriddenIn]; done) | decide +kernel)
theorem cEsc (l : Launch) (Z : State) (a0 : Array Value) (hw : ∀ d ∈ tables_1, d.before a0 Z = true) (n0 : Nat) (hEW : EW Z a0 consts_1) (t td : Addr) (pre post : List Int32) (c : Int32) (h0 : Heap) (σ : Addr → Prop) (T : Road.Str Z h0 t td (pre ++ (escC c ++ post))) (cp : Int32) (Hc : Sta Z Z.heap Road.SN "COMPACT_STRINGS" "Z" (.int cp)) (hcp : ¬ cp = 0) (fm : Value) (hfm : fm.isRef = true) (Hf : Sta Z Z.heap "jdk/internal/util/Preconditions" "SIOOBE_FORMATTER" "Ljava/util/function/BiFunction;" fm) :
    Road.Con l Z consts_1 n0 false bEsc [] σ #[(.ref t), (.int (Nat.toInt32 pre.length)), (.int c)] h0 (fun v h2 _ => v = some (.int (Nat.toInt32 (pre ++ escC c).length)) ∧ h0 = h2) := by
  refine Road.Con.of bEsc_pn hEW #[.val (.ref t), .val (.int (Nat.toInt32 pre.length)), .val (.int c)] (fun m => Road.ent (Road.laid1 rfl (Road.laid1 rfl (Road.laid1 rfl Road.laid0))) (k := 0) rfl rfl) ?_
  intro D hD
  refine Road.iloadN 0 bEsc_d0 rfl ?_
  refine Road.bipush 1 (92 : Int32) bEsc_d1 rfl ?_
  refine Road.icmp_ne 3 20 bEsc_d3 rfl (fun hc3 => ?_) (fun hc3 => ?_)
  · skip
    refine Road.iloadN 20 bEsc_d20 rfl ?_
    refine Road.bipush 21 (10 : Int32) bEsc_d21 rfl ?_
    refine Road.icmp_ne 23 40 bEsc_d23 rfl (fun hc23 => ?_) (fun hc23 => ?_)
    · skip
      have ec : escC c = [c] := by unfold escC; rw [if_neg hc3, if_neg hc23]
      rw [ec] at T ⊢
      refine Road.aloadN 40 bEsc_d40 rfl ?_
      refine Road.iloadN 41 bEsc_d41 rfl ?_
      refine Road.iloadN 42 bEsc_d42 rfl ?_
      refine Road.callS (B' := bOne) 43 (argsL := [(.ref t), (.int (Nat.toInt32 pre.length)), (.int c)]) (rest := []) 0 bEsc_d43 (hw _ (List.mem_of_getElem? (i := 197) rfl)) (hw _ (List.mem_of_getElem? (i := 198) rfl)) (hw _ (List.mem_of_getElem? (i := 2) rfl)) (hw _ (List.mem_of_getElem? (i := 199) rfl)) (by decide) (cOne l Z a0 hw n0 hEW t td pre post c h0 σ T cp Hc hcp fm hfm Hf) (lenOf bOne_pd rfl) rfl rfl rfl (by decide) (by decide) (ce' := 0) (sl' := 0) rfl rfl (by decide) (by decide) ?_
      rintro _ h_1 σ_2 m_3 ⟨rfl, rfl⟩
      refine Road.Go.weaken (σ' := σ) m_3 (Nat.le_refl _) (Nat.le_refl _) ?_
      exact Road.iretI 46 bEsc_d46 rfl (by decide) (by decide) (fun σ' m => ⟨rfl, rfl⟩)
    · skip
      subst hc23
      rw [show escC 10 = [92, 110] from by decide] at T ⊢
      refine Road.aloadN 26 bEsc_d26 rfl ?_
      refine Road.aloadN 27 bEsc_d27 rfl ?_
      refine Road.iloadN 28 bEsc_d28 rfl ?_
      refine Road.bipush 29 (92 : Int32) bEsc_d29 rfl ?_
      refine Road.callS (B' := bOne) 31 (argsL := [(.ref t), (.int (Nat.toInt32 pre.length)), (.int (92 : Int32))]) (rest := [(.ref t)]) 1 bEsc_d31 (hw _ (List.mem_of_getElem? (i := 197) rfl)) (hw _ (List.mem_of_getElem? (i := 198) rfl)) (hw _ (List.mem_of_getElem? (i := 2) rfl)) (hw _ (List.mem_of_getElem? (i := 199) rfl)) (by decide) (cOne l Z a0 hw n0 hEW t td pre (110 :: post) 92 h0 σ T cp Hc hcp fm hfm Hf) (lenOf bOne_pd rfl) rfl rfl rfl (by decide) (by decide) (ce' := 0) (sl' := 0) rfl rfl (by decide) (by decide) ?_
      rintro _ h_5 σ_6 m_7 ⟨rfl, rfl⟩
      refine Road.Go.weaken (σ' := σ) m_7 (Nat.le_refl _) (Nat.le_refl _) ?_
      refine Road.bipush 34 (110 : Int32) bEsc_d34 rfl ?_
      refine Road.callS (B' := bOne) 36 (argsL := [(.ref t), (.int (Nat.toInt32 (pre ++ [92]).length)), (.int (110 : Int32))]) (rest := []) 0 bEsc_d36 (hw _ (List.mem_of_getElem? (i := 197) rfl)) (hw _ (List.mem_of_getElem? (i := 198) rfl)) (hw _ (List.mem_of_getElem? (i := 2) rfl)) (hw _ (List.mem_of_getElem? (i := 199) rfl)) (by decide) (cOne l Z a0 hw n0 hEW t td (pre ++ [92]) post 110 h0 σ (by rw [List.append_assoc]; exact T) cp Hc hcp fm hfm Hf) (lenOf bOne_pd rfl) rfl rfl rfl (by decide) (by decide) (ce' := 0) (sl' := 0) rfl rfl (by decide) (by decide) ?_
      rintro _ h_9 σ_10 m_11 ⟨rfl, rfl⟩
      refine Road.Go.weaken (σ' := σ) m_11 (Nat.le_refl _) (Nat.le_refl _) ?_
      exact Road.iretI 39 bEsc_d39 rfl (by decide) (by decide) (fun σ' m => ⟨by rw [List.append_assoc]; rfl, rfl⟩)
  · skip
    subst hc3
    rw [show escC 92 = [92, 92] from by decide] at T ⊢
    refine Road.aloadN 6 bEsc_d6 rfl ?_
    refine Road.aloadN 7 bEsc_d7 rfl ?_
    refine Road.iloadN 8 bEsc_d8 rfl ?_
    refine Road.bipush 9 (92 : Int32) bEsc_d9 rfl ?_
    refine Road.callS (B' := bOne) 11 (argsL := [(.ref t), (.int (Nat.toInt32 pre.length)), (.int (92 : Int32))]) (rest := [(.ref t)]) 1 bEsc_d11 (hw _ (List.mem_of_getElem? (i := 197) rfl)) (hw _ (List.mem_of_getElem? (i := 198) rfl)) (hw _ (List.mem_of_getElem? (i := 2) rfl)) (hw _ (List.mem_of_getElem? (i := 199) rfl)) (by decide) (cOne l Z a0 hw n0 hEW t td pre (92 :: post) 92 h0 σ T cp Hc hcp fm hfm Hf) (lenOf bOne_pd rfl) rfl rfl rfl (by decide) (by decide) (ce' := 0) (sl' := 0) rfl rfl (by decide) (by decide) ?_
    rintro _ h_13 σ_14 m_15 ⟨rfl, rfl⟩
    refine Road.Go.weaken (σ' := σ) m_15 (Nat.le_refl _) (Nat.le_refl _) ?_
    refine Road.bipush 14 (92 : Int32) bEsc_d14 rfl ?_
    refine Road.callS (B' := bOne) 16 (argsL := [(.ref t), (.int (Nat.toInt32 (pre ++ [92]).length)), (.int (92 : Int32))]) (rest := []) 0 bEsc_d16 (hw _ (List.mem_of_getElem? (i := 197) rfl)) (hw _ (List.mem_of_getElem? (i := 198) rfl)) (hw _ (List.mem_of_getElem? (i := 2) rfl)) (hw _ (List.mem_of_getElem? (i := 199) rfl)) (by decide) (cOne l Z a0 hw n0 hEW t td (pre ++ [92]) post 92 h0 σ (by rw [List.append_assoc]; exact T) cp Hc hcp fm hfm Hf) (lenOf bOne_pd rfl) rfl rfl rfl (by decide) (by decide) (ce' := 0) (sl' := 0) rfl rfl (by decide) (by decide) ?_
    rintro _ h_17 σ_18 m_19 ⟨rfl, rfl⟩
    refine Road.Go.weaken (σ' := σ) m_19 (Nat.le_refl _) (Nat.le_refl _) ?_
    exact Road.iretI 19 bEsc_d19 rfl (by decide) (by decide) (fun σ' m => ⟨by rw [List.append_assoc]; rfl, rfl⟩)
def bXsc : Road.Bdy := (⟨"com/example/meerkat/meerkat/metrics/Exposition", "escape", "(Ljava/lang/String;ZLjava/lang/StringBuilder;)V"⟩, prog_10_method_8_code, 5, none, { frames := 5, cells := 4, slots := 24, locals := 75 })
theorem bXsc_d0 : decode bXsc.bs 0 = .ok (.iconst 0, 1) := by decide +kernel
theorem bXsc_d1 : decode bXsc.bs 1 = .ok (.istore_n 3, 1) := by decide +kernel
theorem bXsc_d2 : decode bXsc.bs 2 = .ok (.iload_n 3, 1) := by decide +kernel
theorem bXsc_d3 : decode bXsc.bs 3 = .ok (.aload_n 0, 1) := by decide +kernel
theorem bXsc_d4 : decode bXsc.bs 4 = .ok (.invokevirtual 85, 3) := by decide +kernel
theorem bXsc_d7 : decode bXsc.bs 7 = .ok (.if_icmp .ge 78, 3) := by decide +kernel
theorem bXsc_d10 : decode bXsc.bs 10 = .ok (.aload_n 0, 1) := by decide +kernel
theorem bXsc_d11 : decode bXsc.bs 11 = .ok (.iload_n 3, 1) := by decide +kernel
theorem bXsc_d12 : decode bXsc.bs 12 = .ok (.invokevirtual 88, 3) := by decide +kernel
theorem bXsc_d15 : decode bXsc.bs 15 = .ok (.istore 4, 2) := by decide +kernel
theorem bXsc_d17 : decode bXsc.bs 17 = .ok (.iload 4, 2) := by decide +kernel
theorem bXsc_d19 : decode bXsc.bs 19 = .ok (.bipush 92, 2) := by decide +kernel
theorem bXsc_d21 : decode bXsc.bs 21 = .ok (.if_icmp .ne 13, 3) := by decide +kernel
theorem bXsc_d24 : decode bXsc.bs 24 = .ok (.aload_n 2, 1) := by decide +kernel
theorem bXsc_d25 : decode bXsc.bs 25 = .ok (.ldc 92, 2) := by decide +kernel
theorem bXsc_d27 : decode bXsc.bs 27 = .ok (.invokevirtual 18, 3) := by decide +kernel
theorem bXsc_d30 : decode bXsc.bs 30 = .ok (.pop, 1) := by decide +kernel
theorem bXsc_d31 : decode bXsc.bs 31 = .ok (.goto 48, 3) := by decide +kernel
theorem bXsc_d34 : decode bXsc.bs 34 = .ok (.iload 4, 2) := by decide +kernel
theorem bXsc_d36 : decode bXsc.bs 36 = .ok (.bipush 10, 2) := by decide +kernel
theorem bXsc_d38 : decode bXsc.bs 38 = .ok (.if_icmp .ne 13, 3) := by decide +kernel
theorem bXsc_d41 : decode bXsc.bs 41 = .ok (.aload_n 2, 1) := by decide +kernel
theorem bXsc_d42 : decode bXsc.bs 42 = .ok (.ldc 94, 2) := by decide +kernel
theorem bXsc_d44 : decode bXsc.bs 44 = .ok (.invokevirtual 18, 3) := by decide +kernel
theorem bXsc_d47 : decode bXsc.bs 47 = .ok (.pop, 1) := by decide +kernel
theorem bXsc_d48 : decode bXsc.bs 48 = .ok (.goto 31, 3) := by decide +kernel
theorem bXsc_d51 : decode bXsc.bs 51 = .ok (.iload 4, 2) := by decide +kernel
theorem bXsc_d53 : decode bXsc.bs 53 = .ok (.bipush 34, 2) := by decide +kernel
theorem bXsc_d55 : decode bXsc.bs 55 = .ok (.if_icmp .ne 17, 3) := by decide +kernel
theorem bXsc_d58 : decode bXsc.bs 58 = .ok (.iload_n 1, 1) := by decide +kernel
theorem bXsc_d59 : decode bXsc.bs 59 = .ok (.ifCond .eq 13, 3) := by decide +kernel
theorem bXsc_d62 : decode bXsc.bs 62 = .ok (.aload_n 2, 1) := by decide +kernel
theorem bXsc_d63 : decode bXsc.bs 63 = .ok (.ldc 96, 2) := by decide +kernel
theorem bXsc_d65 : decode bXsc.bs 65 = .ok (.invokevirtual 18, 3) := by decide +kernel
theorem bXsc_d68 : decode bXsc.bs 68 = .ok (.pop, 1) := by decide +kernel
theorem bXsc_d69 : decode bXsc.bs 69 = .ok (.goto 10, 3) := by decide +kernel
theorem bXsc_d72 : decode bXsc.bs 72 = .ok (.aload_n 2, 1) := by decide +kernel
theorem bXsc_d73 : decode bXsc.bs 73 = .ok (.iload 4, 2) := by decide +kernel
theorem bXsc_d75 : decode bXsc.bs 75 = .ok (.invokevirtual 22, 3) := by decide +kernel
theorem bXsc_d78 : decode bXsc.bs 78 = .ok (.pop, 1) := by decide +kernel
theorem bXsc_d79 : decode bXsc.bs 79 = .ok (.iinc 3 1, 3) := by decide +kernel
theorem bXsc_d82 : decode bXsc.bs 82 = .ok (.goto (-80), 3) := by decide +kernel
theorem bXsc_d85 : decode bXsc.bs 85 = .ok (.return_, 1) := by decide +kernel
theorem bXsc_pd : parseMethodDescriptor "(Ljava/lang/String;ZLjava/lang/StringBuilder;)V" = some ⟨[(.object "java/lang/String"), .boolean, (.object "java/lang/StringBuilder")], none⟩ := by decide +kernel
theorem bXsc_pn : plainFor bXsc.y = true := plainFor_of_name (show plainName "com/example/meerkat/meerkat/metrics/Exposition" = true from by first | (simp [plainName, overriddenIn]; done) | decide +kernel)
theorem cXsc (l : Launch) (Z : State) (a0 : Array Value) (hw : ∀ d ∈ tables_1, d.before a0 Z = true) (n0 : Nat) (hEW : EW Z a0 consts_1) (q b : Addr) (cs : List Int32) (N : Nat) (s sd : Addr) (hs : List Int32) (h0 : Heap) (σ : Addr → Prop) (S : Road.Sb Z h0 q b cs N) (T : Road.Str Z h0 s sd hs) (hl : hs.length ≤ 2) (hm : cs.length + 4 ≤ N) (sq : σ q) (sb_ : σ b) (nsq : s ≠ q) (nsb : s ≠ b) (ndq : sd ≠ q) (ndb : sd ≠ b) (cp : Int32) (Hc : Sta Z Z.heap Road.SN "COMPACT_STRINGS" "Z" (.int cp)) (hcp : ¬ cp = 0) (fm : Value) (hfm : fm.isRef = true) (Hf : Sta Z Z.heap "jdk/internal/util/Preconditions" "SIOOBE_FORMATTER" "Ljava/util/function/BiFunction;" fm) :
    Road.Con l Z consts_1 n0 false bXsc [] σ #[(.ref s), (.int (0 : Int32)), (.ref q)] h0 (fun v h2 s2 => v = none ∧ Keep h0 h2 [q, b] ∧ Road.Sb Z h2 q b (cs ++ escL hs) N) := by
  have wS : ∀ d ∈ Bundle.stringAtoms, d.before a0 Z = true := fun d hd => hw d ((by decide +kernel : ∀ d ∈ Bundle.stringAtoms, d ∈ tables_1) d hd)
  refine Road.Con.of bXsc_pn hEW #[.val (.ref s), .val (.int (0 : Int32)), .val (.ref q), .unset, .unset] (fun m => Road.ent (Road.laid1 rfl (Road.laid1 rfl (Road.laid1 rfl Road.laid0))) (k := 2) rfl rfl) ?_
  intro D hD
  refine Road.iconst 0 (0 : Int32) bXsc_d0 rfl ?_
  refine Road.istoreN 1 #[.val (.ref s), .val (.int (0 : Int32)), .val (.ref q), .val (.int (0 : Int32)), .unset] bXsc_d1 rfl ?_
  have KT := Keep.refl h0 [q, b]
  have J2 : ∀ (h : Heap) (τ : Addr → Prop) (w4 : Slot), Road.W1 w4 → Keep h0 h [q, b] → Road.Str Z h s sd hs → Road.Sb Z h q b (cs ++ escL (hs.take 2)) N → τ q → τ b → 2 ≤ hs.length → Road.Go l Z a0 consts_1 n0 false bXsc D (fun v h2 s2 => v = none ∧ Keep h0 h2 [q, b] ∧ Road.Sb Z h2 q b (cs ++ escL hs) N) h τ 4 24 2 #[.val (.ref s), .val (.int (0 : Int32)), .val (.ref q), .val (.int (2 : Int32)), w4] [] := by
    intro h τ w4 hw4 KT T S sq sb_ hk
    refine Road.iloadN 2 bXsc_d2 rfl ?_
    refine Road.aloadN 3 bXsc_d3 rfl ?_
    refine Road.callV (B' := bLen) (a := s) 4 (argsL := []) (rest := [(.int (2 : Int32))]) "java/lang/String" 1 bXsc_d4 (hw _ (List.mem_of_getElem? (i := 132) rfl)) (hw _ (List.mem_of_getElem? (i := 78) rfl)) (fun vm hz => Road.notFace_sib (args := #[]) (mv (s := D.s.setVm vm) hz (hw _ (List.mem_of_getElem? (i := 80) rfl))) rfl) (hw _ (List.mem_of_getElem? (i := 80) rfl)) (hw _ (List.mem_of_getElem? (i := 79) rfl)) (hw _ (List.mem_of_getElem? (i := 6) rfl)) (hw _ (List.mem_of_getElem? (i := 81) rfl)) (by decide) T.1 (cLen l Z a0 hw n0 hEW s sd _ h τ T cp Hc hcp) (lenOf bLen_pd rfl) rfl rfl rfl (by decide) (by decide) (ce' := 4) (sl' := 24) rfl rfl (by decide) (by decide) ?_
    rintro _ h_1 σ_2 m_3 ⟨rfl, rfl⟩
    refine Road.Go.weaken (σ' := τ) m_3 (Nat.le_refl _) (Nat.le_refl _) ?_
    refine Road.icmp_ge 7 85 bXsc_d7 rfl (fun hc7 => ?_) (fun hc7 => ?_)
    · skip
      rw [show (2 : Int32) = Nat.toInt32 2 from rfl, Road.lt32 (by omega) (by omega)] at hc7
      rw [List.take_of_length_le (by omega)] at S
      exact Road.ret 85 bXsc_d85 rfl (by decide) (by decide) (fun σ' m => ⟨rfl, KT, S⟩)
    · skip
      rw [show (2 : Int32) = Nat.toInt32 2 from rfl, Road.lt32 (by omega) (by omega)] at hc7
      exact absurd hc7 (by omega)
  have J1 : ∀ (h : Heap) (τ : Addr → Prop) (w4 : Slot), Road.W1 w4 → Keep h0 h [q, b] → Road.Str Z h s sd hs → Road.Sb Z h q b (cs ++ escL (hs.take 1)) N → τ q → τ b → 1 ≤ hs.length → Road.Go l Z a0 consts_1 n0 false bXsc D (fun v h2 s2 => v = none ∧ Keep h0 h2 [q, b] ∧ Road.Sb Z h2 q b (cs ++ escL hs) N) h τ 2 12 2 #[.val (.ref s), .val (.int (0 : Int32)), .val (.ref q), .val (.int (1 : Int32)), w4] [] := by
    intro h τ w4 hw4 KT T S sq sb_ hk
    refine Road.iloadN 2 bXsc_d2 rfl ?_
    refine Road.aloadN 3 bXsc_d3 rfl ?_
    refine Road.callV (B' := bLen) (a := s) 4 (argsL := []) (rest := [(.int (1 : Int32))]) "java/lang/String" 1 bXsc_d4 (hw _ (List.mem_of_getElem? (i := 132) rfl)) (hw _ (List.mem_of_getElem? (i := 78) rfl)) (fun vm hz => Road.notFace_sib (args := #[]) (mv (s := D.s.setVm vm) hz (hw _ (List.mem_of_getElem? (i := 80) rfl))) rfl) (hw _ (List.mem_of_getElem? (i := 80) rfl)) (hw _ (List.mem_of_getElem? (i := 79) rfl)) (hw _ (List.mem_of_getElem? (i := 6) rfl)) (hw _ (List.mem_of_getElem? (i := 81) rfl)) (by decide) T.1 (cLen l Z a0 hw n0 hEW s sd _ h τ T cp Hc hcp) (lenOf bLen_pd rfl) rfl rfl rfl (by decide) (by decide) (ce' := 2) (sl' := 12) rfl rfl (by decide) (by decide) ?_
    rintro _ h_5 σ_6 m_7 ⟨rfl, rfl⟩
    refine Road.Go.weaken (σ' := τ) m_7 (Nat.le_refl _) (Nat.le_refl _) ?_
    refine Road.icmp_ge 7 85 bXsc_d7 rfl (fun hc7 => ?_) (fun hc7 => ?_)
    · skip
      rw [show (1 : Int32) = Nat.toInt32 1 from rfl, Road.lt32 (by omega) (by omega)] at hc7
      rw [List.take_of_length_le (by omega)] at S
      exact Road.ret 85 bXsc_d85 rfl (by decide) (by decide) (fun σ' m => ⟨rfl, KT, S⟩)
    · skip
      rw [show (1 : Int32) = Nat.toInt32 1 from rfl, Road.lt32 (by omega) (by omega)] at hc7
      have hlen := escL_len (hs.take 1)
      have htk : (hs.take 1).length ≤ 1 := by rw [List.length_take]; omega
      refine Road.aloadN 10 bXsc_d10 rfl ?_
      refine Road.iloadN 11 bXsc_d11 rfl ?_
      refine Road.callV (B' := bChA) (a := s) 12 (argsL := [(.int (1 : Int32))]) (rest := []) "java/lang/String" 0 bXsc_d12 (hw _ (List.mem_of_getElem? (i := 222) rfl)) (hw _ (List.mem_of_getElem? (i := 202) rfl)) (fun vm hz => Road.notFace_sib (args := #[]) (mv (s := D.s.setVm vm) hz (hw _ (List.mem_of_getElem? (i := 80) rfl))) rfl) (hw _ (List.mem_of_getElem? (i := 204) rfl)) (hw _ (List.mem_of_getElem? (i := 203) rfl)) (hw _ (List.mem_of_getElem? (i := 6) rfl)) (hw _ (List.mem_of_getElem? (i := 205) rfl)) (by decide) T.1 (cChA l Z a0 hw n0 hEW s sd hs (1 : Int32) 1 h τ T rfl hc7 cp Hc hcp fm hfm Hf) (lenOf bChA_pd rfl) rfl rfl rfl (by decide) (by decide) (ce' := 2) (sl' := 12) rfl rfl (by decide) (by decide) ?_
      rintro _ h_9 σ_10 m_11 ⟨rfl, rfl⟩
      refine Road.Go.weaken (σ' := τ) m_11 (Nat.le_refl _) (Nat.le_refl _) ?_
      refine Road.nameI ?_
      intro c hc
      have hcl := T.2.2.2.2 _ (List.getElem_mem hc7)
      rw [← hc] at hcl
      have ht : escL (hs.take 2) = escL (hs.take 1) ++ escC c := by rw [hc]; exact escL_next hs 1 hc7
      refine Road.istore 15 #[.val (.ref s), .val (.int (0 : Int32)), .val (.ref q), .val (.int (1 : Int32)), .val (.int c)] bXsc_d15 (by rcases hw4 with rfl | ⟨x, rfl⟩ <;> rfl) ?_
      refine Road.iload 17 bXsc_d17 rfl ?_
      refine Road.bipush 19 (92 : Int32) bXsc_d19 rfl ?_
      refine Road.icmp_ne 21 34 bXsc_d21 rfl (fun e1 => ?_) (fun e1 => ?_)
      · skip
        refine Road.iload 34 bXsc_d34 rfl ?_
        refine Road.bipush 36 (10 : Int32) bXsc_d36 rfl ?_
        refine Road.icmp_ne 38 51 bXsc_d38 rfl (fun e2 => ?_) (fun e2 => ?_)
        · skip
          refine Road.iload 51 bXsc_d51 rfl ?_
          refine Road.bipush 53 (34 : Int32) bXsc_d53 rfl ?_
          refine Road.icmp_ne 55 72 bXsc_d55 rfl (fun e3 => ?_) (fun e3 => ?_)
          · skip
            refine Road.aloadN 72 bXsc_d72 rfl ?_
            refine Road.iload 73 bXsc_d73 rfl ?_
            refine Road.callV (B' := bSc0) (a := q) 75 (argsL := [(.int c)]) (rest := []) "java/lang/StringBuilder" 0 bXsc_d75 (hw _ (List.mem_of_getElem? (i := 114) rfl)) (hw _ (List.mem_of_getElem? (i := 115) rfl)) (fun vm hz => Road.notFace_sib (args := #[]) (mv (s := D.s.setVm vm) hz (hw _ (List.mem_of_getElem? (i := 70) rfl))) rfl) (hw _ (List.mem_of_getElem? (i := 117) rfl)) (hw _ (List.mem_of_getElem? (i := 116) rfl)) (hw _ (List.mem_of_getElem? (i := 24) rfl)) (hw _ (List.mem_of_getElem? (i := 118) rfl)) (by decide) S.1 (cSc0 l Z a0 hw n0 hEW q b _ N c h τ S hcl (by rw [List.length_append]; omega) sb_ sq cp Hc hcp) (lenOf bSc0_pd rfl) rfl rfl rfl (by decide) (by decide) (ce' := 2) (sl' := 12) rfl rfl (by decide) (by decide) ?_
            rintro _ h_13 σ_14 m_15 ⟨rfl, K_16, S⟩
            replace KT := KT.trans K_16 (by intro z hz; simp only [List.mem_cons, List.not_mem_nil, or_false] at hz; rcases hz with rfl | rfl <;> first | (exact Or.inr (by assumption)) | (simp; done))
            replace T := T.keep K_16 (ninS nsq (ninS nsb nin0)) (ninS ndq (ninS ndb nin0))
            replace sq := m_15 _ sq
            replace sb_ := m_15 _ sb_
            rw [List.append_assoc, ← show escC c = [c] from (by unfold escC; rw [if_neg e1, if_neg e2]), ← ht] at S
            refine Road.pop 78 bXsc_d78 ?_
            refine Road.iinc 79 (1) #[.val (.ref s), .val (.int (0 : Int32)), .val (.ref q), .val (.int ((1 : Int32) + 1)), .val (.int c)] bXsc_d79 rfl rfl rfl ?_
            refine Road.goto 82 2 bXsc_d82 rfl ?_
            rw [show (1 : Int32) + 1 = 2 from by decide]
            exact Road.Go.weaken (σ' := σ_14) (fun _ q => q) (ce' := 4) (sl' := 24) (by decide) (by decide) (J2 h_13 σ_14 (.val (.int c)) (Or.inr ⟨_, rfl⟩) KT T S sq sb_ (by omega))
          · skip
            refine Road.iloadN 58 bXsc_d58 rfl ?_
            refine Road.if_eq 59 72 bXsc_d59 rfl (fun hc59 => ?_) (fun q => absurd q (by decide))
            refine Road.aloadN 72 bXsc_d72 rfl ?_
            refine Road.iload 73 bXsc_d73 rfl ?_
            refine Road.callV (B' := bSc0) (a := q) 75 (argsL := [(.int c)]) (rest := []) "java/lang/StringBuilder" 0 bXsc_d75 (hw _ (List.mem_of_getElem? (i := 114) rfl)) (hw _ (List.mem_of_getElem? (i := 115) rfl)) (fun vm hz => Road.notFace_sib (args := #[]) (mv (s := D.s.setVm vm) hz (hw _ (List.mem_of_getElem? (i := 70) rfl))) rfl) (hw _ (List.mem_of_getElem? (i := 117) rfl)) (hw _ (List.mem_of_getElem? (i := 116) rfl)) (hw _ (List.mem_of_getElem? (i := 24) rfl)) (hw _ (List.mem_of_getElem? (i := 118) rfl)) (by decide) S.1 (cSc0 l Z a0 hw n0 hEW q b _ N c h τ S hcl (by rw [List.length_append]; omega) sb_ sq cp Hc hcp) (lenOf bSc0_pd rfl) rfl rfl rfl (by decide) (by decide) (ce' := 2) (sl' := 12) rfl rfl (by decide) (by decide) ?_
            rintro _ h_17 σ_18 m_19 ⟨rfl, K_20, S⟩
            replace KT := KT.trans K_20 (by intro z hz; simp only [List.mem_cons, List.not_mem_nil, or_false] at hz; rcases hz with rfl | rfl <;> first | (exact Or.inr (by assumption)) | (simp; done))
            replace T := T.keep K_20 (ninS nsq (ninS nsb nin0)) (ninS ndq (ninS ndb nin0))
            replace sq := m_19 _ sq
            replace sb_ := m_19 _ sb_
            rw [List.append_assoc, ← show escC c = [c] from (by unfold escC; rw [if_neg e1, if_neg e2]), ← ht] at S
            refine Road.pop 78 bXsc_d78 ?_
            refine Road.iinc 79 (1) #[.val (.ref s), .val (.int (0 : Int32)), .val (.ref q), .val (.int ((1 : Int32) + 1)), .val (.int c)] bXsc_d79 rfl rfl rfl ?_
            refine Road.goto 82 2 bXsc_d82 rfl ?_
            rw [show (1 : Int32) + 1 = 2 from by decide]
            exact Road.Go.weaken (σ' := σ_18) (fun _ q => q) (ce' := 4) (sl' := 24) (by decide) (by decide) (J2 h_17 σ_18 (.val (.int c)) (Or.inr ⟨_, rfl⟩) KT T S sq sb_ (by omega))
        · skip
          refine Road.aloadN 41 bXsc_d41 rfl ?_
          refine Road.ldcS 42 "\\n" [(92 : Int32), (110 : Int32)] 8 bXsc_d42 (hw _ (List.mem_of_getElem? (i := 244) rfl)) wS (List.mem_of_getElem? (i := 3) rfl) (by decide) (by decide +kernel) (by decide) (by decide) (by decide) (ce' := 4) (sl' := 24) rfl rfl (by decide) (by decide) ?_
          intro a1 b1 h_21 σ_22 K_23 m_24 S1 q_25
          replace KT := KT.trans K_23 (by simp)
          replace T := T.keep K_23 nin0 nin0
          replace S := S.keep K_23 nin0 nin0
          replace sq := m_24 _ sq
          replace sb_ := m_24 _ sb_
          have ne_q_a1 : q ≠ a1 := (q_25 q sq).1
          have ne_q_b1 : q ≠ b1 := (q_25 q sq).2
          have ne_b_a1 : b ≠ a1 := (q_25 b sb_).1
          have ne_b_b1 : b ≠ b1 := (q_25 b sb_).2
          refine Road.callV (B' := bSp0) (a := q) 44 (argsL := [(.ref a1)]) (rest := []) "java/lang/StringBuilder" 0 bXsc_d44 (hw _ (List.mem_of_getElem? (i := 67) rfl)) (hw _ (List.mem_of_getElem? (i := 68) rfl)) (fun vm hz => Road.notFace_sib (args := #[]) (mv (s := D.s.setVm vm) hz (hw _ (List.mem_of_getElem? (i := 70) rfl))) rfl) (hw _ (List.mem_of_getElem? (i := 70) rfl)) (hw _ (List.mem_of_getElem? (i := 69) rfl)) (hw _ (List.mem_of_getElem? (i := 24) rfl)) (hw _ (List.mem_of_getElem? (i := 71) rfl)) (by decide) S.1 (cSp0 l Z a0 hw n0 hEW q b _ N a1 b1 [92, 110] h_21 σ_22 S S1 (by rw [List.length_append]; show _ + 2 ≤ _; omega) sb_ sq cp Hc hcp) (lenOf bSp0_pd rfl) rfl rfl rfl (by decide) (by decide) (ce' := 4) (sl' := 24) rfl rfl (by decide) (by decide) ?_
          rintro _ h_26 σ_27 m_28 ⟨rfl, K_29, S⟩
          replace KT := KT.trans K_29 (by intro z hz; simp only [List.mem_cons, List.not_mem_nil, or_false] at hz; rcases hz with rfl | rfl <;> first | (exact Or.inr (by assumption)) | (simp; done))
          replace T := T.keep K_29 (ninS nsq (ninS nsb nin0)) (ninS ndq (ninS ndb nin0))
          replace sq := m_28 _ sq
          replace sb_ := m_28 _ sb_
          rw [List.append_assoc, ← show escC c = [92, 110] from (by unfold escC; rw [if_neg e1, if_pos e2]), ← ht] at S
          refine Road.pop 47 bXsc_d47 ?_
          refine Road.goto 48 79 bXsc_d48 rfl ?_
          refine Road.iinc 79 (1) #[.val (.ref s), .val (.int (0 : Int32)), .val (.ref q), .val (.int ((1 : Int32) + 1)), .val (.int c)] bXsc_d79 rfl rfl rfl ?_
          refine Road.goto 82 2 bXsc_d82 rfl ?_
          rw [show (1 : Int32) + 1 = 2 from by decide]
          exact Road.Go.weaken (σ' := σ_27) (fun _ q => q) (ce' := 4) (sl' := 24) (by decide) (by decide) (J2 h_26 σ_27 (.val (.int c)) (Or.inr ⟨_, rfl⟩) KT T S sq sb_ (by omega))
      · skip
        refine Road.aloadN 24 bXsc_d24 rfl ?_
        refine Road.ldcS 25 "\\\\" [(92 : Int32), (92 : Int32)] 8 bXsc_d25 (hw _ (List.mem_of_getElem? (i := 245) rfl)) wS (List.mem_of_getElem? (i := 2) rfl) (by decide) (by decide +kernel) (by decide) (by decide) (by decide) (ce' := 4) (sl' := 24) rfl rfl (by decide) (by decide) ?_
        intro a1 b1 h_30 σ_31 K_32 m_33 S1 q_34
        replace KT := KT.trans K_32 (by simp)
        replace T := T.keep K_32 nin0 nin0
        replace S := S.keep K_32 nin0 nin0
        replace sq := m_33 _ sq
        replace sb_ := m_33 _ sb_
        have ne_q_a1 : q ≠ a1 := (q_34 q sq).1
        have ne_q_b1 : q ≠ b1 := (q_34 q sq).2
        have ne_b_a1 : b ≠ a1 := (q_34 b sb_).1
        have ne_b_b1 : b ≠ b1 := (q_34 b sb_).2
        refine Road.callV (B' := bSp0) (a := q) 27 (argsL := [(.ref a1)]) (rest := []) "java/lang/StringBuilder" 0 bXsc_d27 (hw _ (List.mem_of_getElem? (i := 67) rfl)) (hw _ (List.mem_of_getElem? (i := 68) rfl)) (fun vm hz => Road.notFace_sib (args := #[]) (mv (s := D.s.setVm vm) hz (hw _ (List.mem_of_getElem? (i := 70) rfl))) rfl) (hw _ (List.mem_of_getElem? (i := 70) rfl)) (hw _ (List.mem_of_getElem? (i := 69) rfl)) (hw _ (List.mem_of_getElem? (i := 24) rfl)) (hw _ (List.mem_of_getElem? (i := 71) rfl)) (by decide) S.1 (cSp0 l Z a0 hw n0 hEW q b _ N a1 b1 [92, 92] h_30 σ_31 S S1 (by rw [List.length_append]; show _ + 2 ≤ _; omega) sb_ sq cp Hc hcp) (lenOf bSp0_pd rfl) rfl rfl rfl (by decide) (by decide) (ce' := 4) (sl' := 24) rfl rfl (by decide) (by decide) ?_
        rintro _ h_35 σ_36 m_37 ⟨rfl, K_38, S⟩
        replace KT := KT.trans K_38 (by intro z hz; simp only [List.mem_cons, List.not_mem_nil, or_false] at hz; rcases hz with rfl | rfl <;> first | (exact Or.inr (by assumption)) | (simp; done))
        replace T := T.keep K_38 (ninS nsq (ninS nsb nin0)) (ninS ndq (ninS ndb nin0))
        replace sq := m_37 _ sq
        replace sb_ := m_37 _ sb_
        rw [List.append_assoc, ← show escC c = [92, 92] from (by unfold escC; rw [if_pos e1]), ← ht] at S
        refine Road.pop 30 bXsc_d30 ?_
        refine Road.goto 31 79 bXsc_d31 rfl ?_
        refine Road.iinc 79 (1) #[.val (.ref s), .val (.int (0 : Int32)), .val (.ref q), .val (.int ((1 : Int32) + 1)), .val (.int c)] bXsc_d79 rfl rfl rfl ?_
        refine Road.goto 82 2 bXsc_d82 rfl ?_
        rw [show (1 : Int32) + 1 = 2 from by decide]
        exact Road.Go.weaken (σ' := σ_36) (fun _ q => q) (ce' := 4) (sl' := 24) (by decide) (by decide) (J2 h_35 σ_36 (.val (.int c)) (Or.inr ⟨_, rfl⟩) KT T S sq sb_ (by omega))
  have J0 : ∀ (h : Heap) (τ : Addr → Prop) (w4 : Slot), Road.W1 w4 → Keep h0 h [q, b] → Road.Str Z h s sd hs → Road.Sb Z h q b (cs ++ escL (hs.take 0)) N → τ q → τ b → 0 ≤ hs.length → Road.Go l Z a0 consts_1 n0 false bXsc D (fun v h2 s2 => v = none ∧ Keep h0 h2 [q, b] ∧ Road.Sb Z h2 q b (cs ++ escL hs) N) h τ 0 0 2 #[.val (.ref s), .val (.int (0 : Int32)), .val (.ref q), .val (.int (0 : Int32)), w4] [] := by
    intro h τ w4 hw4 KT T S sq sb_ hk
    refine Road.iloadN 2 bXsc_d2 rfl ?_
    refine Road.aloadN 3 bXsc_d3 rfl ?_
    refine Road.callV (B' := bLen) (a := s) 4 (argsL := []) (rest := [(.int (0 : Int32))]) "java/lang/String" 1 bXsc_d4 (hw _ (List.mem_of_getElem? (i := 132) rfl)) (hw _ (List.mem_of_getElem? (i := 78) rfl)) (fun vm hz => Road.notFace_sib (args := #[]) (mv (s := D.s.setVm vm) hz (hw _ (List.mem_of_getElem? (i := 80) rfl))) rfl) (hw _ (List.mem_of_getElem? (i := 80) rfl)) (hw _ (List.mem_of_getElem? (i := 79) rfl)) (hw _ (List.mem_of_getElem? (i := 6) rfl)) (hw _ (List.mem_of_getElem? (i := 81) rfl)) (by decide) T.1 (cLen l Z a0 hw n0 hEW s sd _ h τ T cp Hc hcp) (lenOf bLen_pd rfl) rfl rfl rfl (by decide) (by decide) (ce' := 0) (sl' := 0) rfl rfl (by decide) (by decide) ?_
    rintro _ h_39 σ_40 m_41 ⟨rfl, rfl⟩
    refine Road.Go.weaken (σ' := τ) m_41 (Nat.le_refl _) (Nat.le_refl _) ?_
    refine Road.icmp_ge 7 85 bXsc_d7 rfl (fun hc7 => ?_) (fun hc7 => ?_)
    · skip
      rw [show (0 : Int32) = Nat.toInt32 0 from rfl, Road.lt32 (by omega) (by omega)] at hc7
      rw [List.take_of_length_le (by omega)] at S
      exact Road.ret 85 bXsc_d85 rfl (by decide) (by decide) (fun σ' m => ⟨rfl, KT, S⟩)
    · skip
      rw [show (0 : Int32) = Nat.toInt32 0 from rfl, Road.lt32 (by omega) (by omega)] at hc7
      have hlen := escL_len (hs.take 0)
      have htk : (hs.take 0).length ≤ 0 := by rw [List.length_take]; omega
      refine Road.aloadN 10 bXsc_d10 rfl ?_
      refine Road.iloadN 11 bXsc_d11 rfl ?_
      refine Road.callV (B' := bChA) (a := s) 12 (argsL := [(.int (0 : Int32))]) (rest := []) "java/lang/String" 0 bXsc_d12 (hw _ (List.mem_of_getElem? (i := 222) rfl)) (hw _ (List.mem_of_getElem? (i := 202) rfl)) (fun vm hz => Road.notFace_sib (args := #[]) (mv (s := D.s.setVm vm) hz (hw _ (List.mem_of_getElem? (i := 80) rfl))) rfl) (hw _ (List.mem_of_getElem? (i := 204) rfl)) (hw _ (List.mem_of_getElem? (i := 203) rfl)) (hw _ (List.mem_of_getElem? (i := 6) rfl)) (hw _ (List.mem_of_getElem? (i := 205) rfl)) (by decide) T.1 (cChA l Z a0 hw n0 hEW s sd hs (0 : Int32) 0 h τ T rfl hc7 cp Hc hcp fm hfm Hf) (lenOf bChA_pd rfl) rfl rfl rfl (by decide) (by decide) (ce' := 0) (sl' := 0) rfl rfl (by decide) (by decide) ?_
      rintro _ h_43 σ_44 m_45 ⟨rfl, rfl⟩
      refine Road.Go.weaken (σ' := τ) m_45 (Nat.le_refl _) (Nat.le_refl _) ?_
      refine Road.nameI ?_
      intro c hc
      have hcl := T.2.2.2.2 _ (List.getElem_mem hc7)
      rw [← hc] at hcl
      have ht : escL (hs.take 1) = escL (hs.take 0) ++ escC c := by rw [hc]; exact escL_next hs 0 hc7
      refine Road.istore 15 #[.val (.ref s), .val (.int (0 : Int32)), .val (.ref q), .val (.int (0 : Int32)), .val (.int c)] bXsc_d15 (by rcases hw4 with rfl | ⟨x, rfl⟩ <;> rfl) ?_
      refine Road.iload 17 bXsc_d17 rfl ?_
      refine Road.bipush 19 (92 : Int32) bXsc_d19 rfl ?_
      refine Road.icmp_ne 21 34 bXsc_d21 rfl (fun e1 => ?_) (fun e1 => ?_)
      · skip
        refine Road.iload 34 bXsc_d34 rfl ?_
        refine Road.bipush 36 (10 : Int32) bXsc_d36 rfl ?_
        refine Road.icmp_ne 38 51 bXsc_d38 rfl (fun e2 => ?_) (fun e2 => ?_)
        · skip
          refine Road.iload 51 bXsc_d51 rfl ?_
          refine Road.bipush 53 (34 : Int32) bXsc_d53 rfl ?_
          refine Road.icmp_ne 55 72 bXsc_d55 rfl (fun e3 => ?_) (fun e3 => ?_)
          · skip
            refine Road.aloadN 72 bXsc_d72 rfl ?_
            refine Road.iload 73 bXsc_d73 rfl ?_
            refine Road.callV (B' := bSc0) (a := q) 75 (argsL := [(.int c)]) (rest := []) "java/lang/StringBuilder" 0 bXsc_d75 (hw _ (List.mem_of_getElem? (i := 114) rfl)) (hw _ (List.mem_of_getElem? (i := 115) rfl)) (fun vm hz => Road.notFace_sib (args := #[]) (mv (s := D.s.setVm vm) hz (hw _ (List.mem_of_getElem? (i := 70) rfl))) rfl) (hw _ (List.mem_of_getElem? (i := 117) rfl)) (hw _ (List.mem_of_getElem? (i := 116) rfl)) (hw _ (List.mem_of_getElem? (i := 24) rfl)) (hw _ (List.mem_of_getElem? (i := 118) rfl)) (by decide) S.1 (cSc0 l Z a0 hw n0 hEW q b _ N c h τ S hcl (by rw [List.length_append]; omega) sb_ sq cp Hc hcp) (lenOf bSc0_pd rfl) rfl rfl rfl (by decide) (by decide) (ce' := 0) (sl' := 0) rfl rfl (by decide) (by decide) ?_
            rintro _ h_47 σ_48 m_49 ⟨rfl, K_50, S⟩
            replace KT := KT.trans K_50 (by intro z hz; simp only [List.mem_cons, List.not_mem_nil, or_false] at hz; rcases hz with rfl | rfl <;> first | (exact Or.inr (by assumption)) | (simp; done))
            replace T := T.keep K_50 (ninS nsq (ninS nsb nin0)) (ninS ndq (ninS ndb nin0))
            replace sq := m_49 _ sq
            replace sb_ := m_49 _ sb_
            rw [List.append_assoc, ← show escC c = [c] from (by unfold escC; rw [if_neg e1, if_neg e2]), ← ht] at S
            refine Road.pop 78 bXsc_d78 ?_
            refine Road.iinc 79 (1) #[.val (.ref s), .val (.int (0 : Int32)), .val (.ref q), .val (.int ((0 : Int32) + 1)), .val (.int c)] bXsc_d79 rfl rfl rfl ?_
            refine Road.goto 82 2 bXsc_d82 rfl ?_
            rw [show (0 : Int32) + 1 = 1 from by decide]
            exact Road.Go.weaken (σ' := σ_48) (fun _ q => q) (ce' := 2) (sl' := 12) (by decide) (by decide) (J1 h_47 σ_48 (.val (.int c)) (Or.inr ⟨_, rfl⟩) KT T S sq sb_ (by omega))
          · skip
            refine Road.iloadN 58 bXsc_d58 rfl ?_
            refine Road.if_eq 59 72 bXsc_d59 rfl (fun hc59 => ?_) (fun q => absurd q (by decide))
            refine Road.aloadN 72 bXsc_d72 rfl ?_
            refine Road.iload 73 bXsc_d73 rfl ?_
            refine Road.callV (B' := bSc0) (a := q) 75 (argsL := [(.int c)]) (rest := []) "java/lang/StringBuilder" 0 bXsc_d75 (hw _ (List.mem_of_getElem? (i := 114) rfl)) (hw _ (List.mem_of_getElem? (i := 115) rfl)) (fun vm hz => Road.notFace_sib (args := #[]) (mv (s := D.s.setVm vm) hz (hw _ (List.mem_of_getElem? (i := 70) rfl))) rfl) (hw _ (List.mem_of_getElem? (i := 117) rfl)) (hw _ (List.mem_of_getElem? (i := 116) rfl)) (hw _ (List.mem_of_getElem? (i := 24) rfl)) (hw _ (List.mem_of_getElem? (i := 118) rfl)) (by decide) S.1 (cSc0 l Z a0 hw n0 hEW q b _ N c h τ S hcl (by rw [List.length_append]; omega) sb_ sq cp Hc hcp) (lenOf bSc0_pd rfl) rfl rfl rfl (by decide) (by decide) (ce' := 0) (sl' := 0) rfl rfl (by decide) (by decide) ?_
            rintro _ h_51 σ_52 m_53 ⟨rfl, K_54, S⟩
            replace KT := KT.trans K_54 (by intro z hz; simp only [List.mem_cons, List.not_mem_nil, or_false] at hz; rcases hz with rfl | rfl <;> first | (exact Or.inr (by assumption)) | (simp; done))
            replace T := T.keep K_54 (ninS nsq (ninS nsb nin0)) (ninS ndq (ninS ndb nin0))
            replace sq := m_53 _ sq
            replace sb_ := m_53 _ sb_
            rw [List.append_assoc, ← show escC c = [c] from (by unfold escC; rw [if_neg e1, if_neg e2]), ← ht] at S
            refine Road.pop 78 bXsc_d78 ?_
            refine Road.iinc 79 (1) #[.val (.ref s), .val (.int (0 : Int32)), .val (.ref q), .val (.int ((0 : Int32) + 1)), .val (.int c)] bXsc_d79 rfl rfl rfl ?_
            refine Road.goto 82 2 bXsc_d82 rfl ?_
            rw [show (0 : Int32) + 1 = 1 from by decide]
            exact Road.Go.weaken (σ' := σ_52) (fun _ q => q) (ce' := 2) (sl' := 12) (by decide) (by decide) (J1 h_51 σ_52 (.val (.int c)) (Or.inr ⟨_, rfl⟩) KT T S sq sb_ (by omega))
        · skip
          refine Road.aloadN 41 bXsc_d41 rfl ?_
          refine Road.ldcS 42 "\\n" [(92 : Int32), (110 : Int32)] 8 bXsc_d42 (hw _ (List.mem_of_getElem? (i := 244) rfl)) wS (List.mem_of_getElem? (i := 3) rfl) (by decide) (by decide +kernel) (by decide) (by decide) (by decide) (ce' := 2) (sl' := 12) rfl rfl (by decide) (by decide) ?_
          intro a1 b1 h_55 σ_56 K_57 m_58 S1 q_59
          replace KT := KT.trans K_57 (by simp)
          replace T := T.keep K_57 nin0 nin0
          replace S := S.keep K_57 nin0 nin0
          replace sq := m_58 _ sq
          replace sb_ := m_58 _ sb_
          have ne_q_a1 : q ≠ a1 := (q_59 q sq).1
          have ne_q_b1 : q ≠ b1 := (q_59 q sq).2
          have ne_b_a1 : b ≠ a1 := (q_59 b sb_).1
          have ne_b_b1 : b ≠ b1 := (q_59 b sb_).2
          refine Road.callV (B' := bSp0) (a := q) 44 (argsL := [(.ref a1)]) (rest := []) "java/lang/StringBuilder" 0 bXsc_d44 (hw _ (List.mem_of_getElem? (i := 67) rfl)) (hw _ (List.mem_of_getElem? (i := 68) rfl)) (fun vm hz => Road.notFace_sib (args := #[]) (mv (s := D.s.setVm vm) hz (hw _ (List.mem_of_getElem? (i := 70) rfl))) rfl) (hw _ (List.mem_of_getElem? (i := 70) rfl)) (hw _ (List.mem_of_getElem? (i := 69) rfl)) (hw _ (List.mem_of_getElem? (i := 24) rfl)) (hw _ (List.mem_of_getElem? (i := 71) rfl)) (by decide) S.1 (cSp0 l Z a0 hw n0 hEW q b _ N a1 b1 [92, 110] h_55 σ_56 S S1 (by rw [List.length_append]; show _ + 2 ≤ _; omega) sb_ sq cp Hc hcp) (lenOf bSp0_pd rfl) rfl rfl rfl (by decide) (by decide) (ce' := 2) (sl' := 12) rfl rfl (by decide) (by decide) ?_
          rintro _ h_60 σ_61 m_62 ⟨rfl, K_63, S⟩
          replace KT := KT.trans K_63 (by intro z hz; simp only [List.mem_cons, List.not_mem_nil, or_false] at hz; rcases hz with rfl | rfl <;> first | (exact Or.inr (by assumption)) | (simp; done))
          replace T := T.keep K_63 (ninS nsq (ninS nsb nin0)) (ninS ndq (ninS ndb nin0))
          replace sq := m_62 _ sq
          replace sb_ := m_62 _ sb_
          rw [List.append_assoc, ← show escC c = [92, 110] from (by unfold escC; rw [if_neg e1, if_pos e2]), ← ht] at S
          refine Road.pop 47 bXsc_d47 ?_
          refine Road.goto 48 79 bXsc_d48 rfl ?_
          refine Road.iinc 79 (1) #[.val (.ref s), .val (.int (0 : Int32)), .val (.ref q), .val (.int ((0 : Int32) + 1)), .val (.int c)] bXsc_d79 rfl rfl rfl ?_
          refine Road.goto 82 2 bXsc_d82 rfl ?_
          rw [show (0 : Int32) + 1 = 1 from by decide]
          exact Road.Go.weaken (σ' := σ_61) (fun _ q => q) (ce' := 2) (sl' := 12) (by decide) (by decide) (J1 h_60 σ_61 (.val (.int c)) (Or.inr ⟨_, rfl⟩) KT T S sq sb_ (by omega))
      · skip
        refine Road.aloadN 24 bXsc_d24 rfl ?_
        refine Road.ldcS 25 "\\\\" [(92 : Int32), (92 : Int32)] 8 bXsc_d25 (hw _ (List.mem_of_getElem? (i := 245) rfl)) wS (List.mem_of_getElem? (i := 2) rfl) (by decide) (by decide +kernel) (by decide) (by decide) (by decide) (ce' := 2) (sl' := 12) rfl rfl (by decide) (by decide) ?_
        intro a1 b1 h_64 σ_65 K_66 m_67 S1 q_68
        replace KT := KT.trans K_66 (by simp)
        replace T := T.keep K_66 nin0 nin0
        replace S := S.keep K_66 nin0 nin0
        replace sq := m_67 _ sq
        replace sb_ := m_67 _ sb_
        have ne_q_a1 : q ≠ a1 := (q_68 q sq).1
        have ne_q_b1 : q ≠ b1 := (q_68 q sq).2
        have ne_b_a1 : b ≠ a1 := (q_68 b sb_).1
        have ne_b_b1 : b ≠ b1 := (q_68 b sb_).2
        refine Road.callV (B' := bSp0) (a := q) 27 (argsL := [(.ref a1)]) (rest := []) "java/lang/StringBuilder" 0 bXsc_d27 (hw _ (List.mem_of_getElem? (i := 67) rfl)) (hw _ (List.mem_of_getElem? (i := 68) rfl)) (fun vm hz => Road.notFace_sib (args := #[]) (mv (s := D.s.setVm vm) hz (hw _ (List.mem_of_getElem? (i := 70) rfl))) rfl) (hw _ (List.mem_of_getElem? (i := 70) rfl)) (hw _ (List.mem_of_getElem? (i := 69) rfl)) (hw _ (List.mem_of_getElem? (i := 24) rfl)) (hw _ (List.mem_of_getElem? (i := 71) rfl)) (by decide) S.1 (cSp0 l Z a0 hw n0 hEW q b _ N a1 b1 [92, 92] h_64 σ_65 S S1 (by rw [List.length_append]; show _ + 2 ≤ _; omega) sb_ sq cp Hc hcp) (lenOf bSp0_pd rfl) rfl rfl rfl (by decide) (by decide) (ce' := 2) (sl' := 12) rfl rfl (by decide) (by decide) ?_
        rintro _ h_69 σ_70 m_71 ⟨rfl, K_72, S⟩
        replace KT := KT.trans K_72 (by intro z hz; simp only [List.mem_cons, List.not_mem_nil, or_false] at hz; rcases hz with rfl | rfl <;> first | (exact Or.inr (by assumption)) | (simp; done))
        replace T := T.keep K_72 (ninS nsq (ninS nsb nin0)) (ninS ndq (ninS ndb nin0))
        replace sq := m_71 _ sq
        replace sb_ := m_71 _ sb_
        rw [List.append_assoc, ← show escC c = [92, 92] from (by unfold escC; rw [if_pos e1]), ← ht] at S
        refine Road.pop 30 bXsc_d30 ?_
        refine Road.goto 31 79 bXsc_d31 rfl ?_
        refine Road.iinc 79 (1) #[.val (.ref s), .val (.int (0 : Int32)), .val (.ref q), .val (.int ((0 : Int32) + 1)), .val (.int c)] bXsc_d79 rfl rfl rfl ?_
        refine Road.goto 82 2 bXsc_d82 rfl ?_
        rw [show (0 : Int32) + 1 = 1 from by decide]
        exact Road.Go.weaken (σ' := σ_70) (fun _ q => q) (ce' := 2) (sl' := 12) (by decide) (by decide) (J1 h_69 σ_70 (.val (.int c)) (Or.inr ⟨_, rfl⟩) KT T S sq sb_ (by omega))
  exact J0 h0 σ .unset (Or.inl rfl) KT T (by simpa [escL] using S) sq sb_ (by omega)
def bExI : Road.Bdy := (⟨"com/example/meerkat/meerkat/metrics/Exposition", "<init>", "()V"⟩, prog_10_method_1_code, 1, none, { frames := 3, cells := 2, slots := 20, locals := 41 })
theorem bExI_d0 : decode bExI.bs 0 = .ok (.aload_n 0, 1) := by decide +kernel
theorem bExI_d1 : decode bExI.bs 1 = .ok (.invokespecial 1, 3) := by decide +kernel
theorem bExI_d4 : decode bExI.bs 4 = .ok (.aload_n 0, 1) := by decide +kernel
theorem bExI_d5 : decode bExI.bs 5 = .ok (.new 7, 3) := by decide +kernel
theorem bExI_d8 : decode bExI.bs 8 = .ok (.dup, 1) := by decide +kernel
theorem bExI_d9 : decode bExI.bs 9 = .ok (.invokespecial 9, 3) := by decide +kernel
theorem bExI_d12 : decode bExI.bs 12 = .ok (.putfield 10, 3) := by decide +kernel
theorem bExI_d15 : decode bExI.bs 15 = .ok (.return_, 1) := by decide +kernel
theorem bExI_pd : parseMethodDescriptor "()V" = some ⟨[], none⟩ := by decide +kernel
theorem bExI_pn : plainFor bExI.y = true := plainFor_of_name (show plainName "com/example/meerkat/meerkat/metrics/Exposition" = true from by first | (simp [plainName, overriddenIn]; done) | decide +kernel)
theorem cExI (l : Launch) (Z : State) (a0 : Array Value) (hw : ∀ d ∈ tables_1, d.before a0 Z = true) (n0 : Nat) (hEW : EW Z a0 consts_1) (x : Addr) (h0 : Heap) (σ : Addr → Prop) (E : Exa Z h0 x "com/example/meerkat/meerkat/metrics/Exposition") (F : Fld Z h0 x "com/example/meerkat/meerkat/metrics/Exposition" "text" "Ljava/lang/StringBuilder;" .null) (sx : σ x) (cp : Int32) (Hc : Sta Z Z.heap Road.SN "COMPACT_STRINGS" "Z" (.int cp)) (hcp : ¬ cp = 0) :
    Road.Con l Z consts_1 n0 false bExI [] σ #[(.ref x)] h0 (fun v h2 s2 => v = none ∧ Keep h0 h2 [x] ∧ ∃ q b, Fld Z h2 x "com/example/meerkat/meerkat/metrics/Exposition" "text" "Ljava/lang/StringBuilder;" (.ref q) ∧ Road.Sb Z h2 q b [] 16 ∧ h0.size ≤ q ∧ h0.size ≤ b ∧ s2 q ∧ s2 b) := by
  refine Road.Con.of bExI_pn hEW #[.val (.ref x)] (fun m => Road.ent (Road.laid1 rfl Road.laid0) (k := 0) rfl rfl) ?_
  intro D hD
  have hx0 := E.lt
  refine Road.aloadN 0 bExI_d0 rfl ?_
  refine Road.initObj 1 bExI_d1 (hw _ (List.mem_of_getElem? (i := 19) rfl)) (hw _ (List.mem_of_getElem? (i := 20) rfl)) (hw _ (List.mem_of_getElem? (i := 21) rfl)) 0 rfl rfl (by decide) (by decide) ?_
  refine Road.aloadN 4 bExI_d4 rfl ?_
  refine Road.new 5 "java/lang/StringBuilder" bExI_d5 (hw _ (List.mem_of_getElem? (i := 22) rfl)) (hw _ (List.mem_of_getElem? (i := 23) rfl)) (hw _ (List.mem_of_getElem? (i := 24) rfl)) (ce' := 1) (sl' := 4) rfl rfl (by decide) (by decide) ?_
  intro q h_1 σ_2 g_3 K_4 lt_5 m_6 s_7 Eq D_8 M_9
  have ne_x_q : x ≠ q := Nat.ne_of_lt (Nat.lt_of_lt_of_le E.lt (Nat.le_of_eq g_3.symm))
  replace E := E.keep K_4
  replace F := F.keep K_4 nin0
  replace sx := m_6 _ sx
  have Fc := D_8 (Or.inl (hw _ (List.mem_of_getElem? (i := 39) rfl))) (ty := .byte) (by decide)
  have Fv := D_8 (Or.inl (hw _ (List.mem_of_getElem? (i := 37) rfl))) (ty := (.array .byte)) (by decide)
  have Fn := D_8 (Or.inl (hw _ (List.mem_of_getElem? (i := 88) rfl))) (ty := .int) (by decide)
  refine Road.dup 8 bExI_d8 ?_
  refine Road.callI (B' := bSbI) (a := q) 9 (argsL := []) (rest := [(.ref q), (.ref x)]) 2 bExI_d9 (hw _ (List.mem_of_getElem? (i := 25) rfl)) (hw _ (List.mem_of_getElem? (i := 26) rfl)) (hw _ (List.mem_of_getElem? (i := 24) rfl)) (hw _ (List.mem_of_getElem? (i := 27) rfl)) rfl rfl (by decide) (cSbI l Z a0 hw n0 hEW q h_1 σ_2 Eq Fc Fv Fn s_7 cp Hc hcp) (lenOf bSbI_pd rfl) rfl rfl rfl (by decide) (by decide) (ce' := 2) (sl' := 20) rfl rfl (by decide) (by decide) ?_
  rintro _ h_10 σ_11 m_12 ⟨rfl, K_13, b, S, gb, sb⟩
  replace E := E.keep K_13
  replace F := F.keep K_13 (ninS ne_x_q nin0)
  replace sx := m_12 _ sx
  replace s_7 := m_12 _ s_7
  have nbx : b ≠ x := Ne.symm (Nat.ne_of_lt (Nat.lt_of_lt_of_le hx0 (Nat.le_trans K_4.1 gb)))
  refine Road.putfield 12 bExI_d12 (hw _ (List.mem_of_getElem? (i := 40) rfl)) Via.refl F E (Or.inr ⟨(hw _ (List.mem_of_getElem? (i := 41) rfl)), rfl, rfl⟩) (hw _ (List.mem_of_getElem? (i := 14) rfl)) (ty := (.object "java/lang/StringBuilder")) (by decide) rfl rfl sx ?_
  intro h_16 W_14 K_15
  replace F := F.same W_14
  replace E := E.keep K_15
  replace S := S.keep K_15 (ninS (Ne.symm ne_x_q) nin0) (ninS nbx nin0)
  exact Road.ret 15 bExI_d15 rfl (by decide) (by decide) (fun σ' m => ⟨rfl, ((Road.keep_more (ws := [x]) K_4).trans K_13 (by intro z hz; cases List.mem_singleton.mp hz; exact Or.inr (Nat.le_of_eq g_3.symm))).trans K_15 (by simp), q, b, F, S, Nat.le_of_eq g_3.symm, Nat.le_trans K_4.1 gb, m _ s_7, m _ sb⟩)
def bFam : Road.Bdy := (⟨"com/example/meerkat/meerkat/metrics/Exposition", "family", "(Ljava/lang/String;Ljava/lang/String;Ljava/lang/String;)V"⟩, prog_10_method_2_code, 4, none, { frames := 6, cells := 9, slots := 126, locals := 91 })
theorem bFam_d0 : decode bFam.bs 0 = .ok (.aload_n 0, 1) := by decide +kernel
theorem bFam_d1 : decode bFam.bs 1 = .ok (.getfield 10, 3) := by decide +kernel
theorem bFam_d4 : decode bFam.bs 4 = .ok (.ldc 16, 2) := by decide +kernel
theorem bFam_d6 : decode bFam.bs 6 = .ok (.invokevirtual 18, 3) := by decide +kernel
theorem bFam_d9 : decode bFam.bs 9 = .ok (.aload_n 1, 1) := by decide +kernel
theorem bFam_d10 : decode bFam.bs 10 = .ok (.invokevirtual 18, 3) := by decide +kernel
theorem bFam_d13 : decode bFam.bs 13 = .ok (.bipush 32, 2) := by decide +kernel
theorem bFam_d15 : decode bFam.bs 15 = .ok (.invokevirtual 22, 3) := by decide +kernel
theorem bFam_d18 : decode bFam.bs 18 = .ok (.pop, 1) := by decide +kernel
theorem bFam_d19 : decode bFam.bs 19 = .ok (.aload_n 3, 1) := by decide +kernel
theorem bFam_d20 : decode bFam.bs 20 = .ok (.iconst 0, 1) := by decide +kernel
theorem bFam_d21 : decode bFam.bs 21 = .ok (.aload_n 0, 1) := by decide +kernel
theorem bFam_d22 : decode bFam.bs 22 = .ok (.getfield 10, 3) := by decide +kernel
theorem bFam_d25 : decode bFam.bs 25 = .ok (.invokestatic 25, 3) := by decide +kernel
theorem bFam_d28 : decode bFam.bs 28 = .ok (.aload_n 0, 1) := by decide +kernel
theorem bFam_d29 : decode bFam.bs 29 = .ok (.getfield 10, 3) := by decide +kernel
theorem bFam_d32 : decode bFam.bs 32 = .ok (.ldc 29, 2) := by decide +kernel
theorem bFam_d34 : decode bFam.bs 34 = .ok (.invokevirtual 18, 3) := by decide +kernel
theorem bFam_d37 : decode bFam.bs 37 = .ok (.aload_n 1, 1) := by decide +kernel
theorem bFam_d38 : decode bFam.bs 38 = .ok (.invokevirtual 18, 3) := by decide +kernel
theorem bFam_d41 : decode bFam.bs 41 = .ok (.bipush 32, 2) := by decide +kernel
theorem bFam_d43 : decode bFam.bs 43 = .ok (.invokevirtual 22, 3) := by decide +kernel
theorem bFam_d46 : decode bFam.bs 46 = .ok (.aload_n 2, 1) := by decide +kernel
theorem bFam_d47 : decode bFam.bs 47 = .ok (.invokevirtual 18, 3) := by decide +kernel
theorem bFam_d50 : decode bFam.bs 50 = .ok (.bipush 10, 2) := by decide +kernel
theorem bFam_d52 : decode bFam.bs 52 = .ok (.invokevirtual 22, 3) := by decide +kernel
theorem bFam_d55 : decode bFam.bs 55 = .ok (.pop, 1) := by decide +kernel
theorem bFam_d56 : decode bFam.bs 56 = .ok (.return_, 1) := by decide +kernel
theorem bFam_pd : parseMethodDescriptor "(Ljava/lang/String;Ljava/lang/String;Ljava/lang/String;)V" = some ⟨[(.object "java/lang/String"), (.object "java/lang/String"), (.object "java/lang/String")], none⟩ := by decide +kernel
theorem bFam_pn : plainFor bFam.y = true := plainFor_of_name (show plainName "com/example/meerkat/meerkat/metrics/Exposition" = true from by first | (simp [plainName, overriddenIn]; done) | decide +kernel)
theorem cFam (l : Launch) (Z : State) (a0 : Array Value) (hw : ∀ d ∈ tables_1, d.before a0 Z = true) (n0 : Nat) (hEW : EW Z a0 consts_1) (x q b n nd t td p pd : Addr) (c0 c1 : Int32) (hs : List Int32) (h0 : Heap) (σ : Addr → Prop) (F : Fld Z h0 x "com/example/meerkat/meerkat/metrics/Exposition" "text" "Ljava/lang/StringBuilder;" (.ref q)) (S : Road.Sb Z h0 q b [] 16) (Tn : Road.Str Z h0 n nd [c0]) (Tt : Road.Str Z h0 t td [c1]) (Tp : Road.Str Z h0 p pd hs) (hl : hs.length ≤ 2) (nxq : x ≠ q) (nxb : x ≠ b) (n_n_q : n ≠ q) (n_n_b : n ≠ b) (n_nd_q : nd ≠ q) (n_nd_b : nd ≠ b) (n_t_q : t ≠ q) (n_t_b : t ≠ b) (n_td_q : td ≠ q) (n_td_b : td ≠ b) (n_p_q : p ≠ q) (n_p_b : p ≠ b) (n_pd_q : pd ≠ q) (n_pd_b : pd ≠ b) (sq : σ q) (sb_ : σ b) (cp : Int32) (Hc : Sta Z Z.heap Road.SN "COMPACT_STRINGS" "Z" (.int cp)) (hcp : ¬ cp = 0) (fm : Value) (hfm : fm.isRef = true) (Hf : Sta Z Z.heap "jdk/internal/util/Preconditions" "SIOOBE_FORMATTER" "Ljava/util/function/BiFunction;" fm) :
    Road.Con l Z consts_1 n0 false bFam [] σ #[(.ref x), (.ref n), (.ref t), (.ref p)] h0 (fun v h2 s2 => v = none ∧ Keep h0 h2 [q, b] ∧ ∃ d, Road.Sb Z h2 q d (([35, 32, 72, 69, 76, 80, 32] : List Int32) ++ [c0] ++ [32] ++ escL hs ++ ([10, 35, 32, 84, 89, 80, 69, 32] : List Int32) ++ [c0] ++ [32] ++ [c1] ++ [10]) 34 ∧ h0.size ≤ d ∧ s2 d) := by
  have wS : ∀ d ∈ Bundle.stringAtoms, d.before a0 Z = true := fun d hd => hw d ((by decide +kernel : ∀ d ∈ Bundle.stringAtoms, d ∈ tables_1) d hd)
  have hel := escL_len hs
  refine Road.Con.of bFam_pn hEW #[.val (.ref x), .val (.ref n), .val (.ref t), .val (.ref p)] (fun m => Road.ent (Road.laid1 rfl (Road.laid1 rfl (Road.laid1 rfl (Road.laid1 rfl Road.laid0)))) (k := 0) rfl rfl) ?_
  intro D hD
  have KT := Keep.refl h0 [q, b]
  refine Road.aloadN 0 bFam_d0 rfl ?_
  refine Road.getfield 1 bFam_d1 (hw _ (List.mem_of_getElem? (i := 40) rfl)) Via.refl F ?_
  refine Road.ldcS 4 "# HELP " [(35 : Int32), (32 : Int32), (72 : Int32), (69 : Int32), (76 : Int32), (80 : Int32), (32 : Int32)] 28 bFam_d4 (hw _ (List.mem_of_getElem? (i := 66) rfl)) wS (List.mem_of_getElem? (i := 0) rfl) (by decide) (by decide +kernel) (by decide) (by decide) (by decide) (ce' := 2) (sl' := 32) rfl rfl (by decide) (by decide) ?_
  intro a1 b1 h_1 σ_2 K_3 m_4 S1 q_5
  replace KT := KT.trans K_3 (by simp)
  replace F := F.keep K_3 nin0
  replace Tn := Tn.keep K_3 nin0 nin0
  replace Tt := Tt.keep K_3 nin0 nin0
  replace Tp := Tp.keep K_3 nin0 nin0
  replace S := S.keep K_3 nin0 nin0
  replace sq := m_4 _ sq
  replace sb_ := m_4 _ sb_
  have ne_q_a1 : q ≠ a1 := (q_5 q sq).1
  have ne_q_b1 : q ≠ b1 := (q_5 q sq).2
  have ne_b_a1 : b ≠ a1 := (q_5 b sb_).1
  have ne_b_b1 : b ≠ b1 := (q_5 b sb_).2
  refine Road.callV (B' := bSp0) (a := q) 6 (argsL := [(.ref a1)]) (rest := []) "java/lang/StringBuilder" 0 bFam_d6 (hw _ (List.mem_of_getElem? (i := 67) rfl)) (hw _ (List.mem_of_getElem? (i := 68) rfl)) (fun vm hz => Road.notFace_sib (args := #[]) (mv (s := D.s.setVm vm) hz (hw _ (List.mem_of_getElem? (i := 70) rfl))) rfl) (hw _ (List.mem_of_getElem? (i := 70) rfl)) (hw _ (List.mem_of_getElem? (i := 69) rfl)) (hw _ (List.mem_of_getElem? (i := 24) rfl)) (hw _ (List.mem_of_getElem? (i := 71) rfl)) (by decide) S.1 (cSp0 l Z a0 hw n0 hEW q b [] 16 a1 b1 ([35, 32, 72, 69, 76, 80, 32] : List Int32) h_1 σ_2 S S1 (by simp only [List.length_append, List.length_cons, List.length_nil]; omega) sb_ sq cp Hc hcp) (lenOf bSp0_pd rfl) rfl rfl rfl (by decide) (by decide) (ce' := 2) (sl' := 32) rfl rfl (by decide) (by decide) ?_
  rintro _ h_6 σ_7 m_8 ⟨rfl, K_9, S⟩
  replace KT := KT.trans K_9 (by intro z hz; simp only [List.mem_cons, List.not_mem_nil, or_false] at hz; rcases hz with rfl | rfl <;> first | (exact Or.inr (by assumption)) | (simp; done))
  replace F := F.keep K_9 (ninS nxq (ninS nxb nin0))
  replace Tn := Tn.keep K_9 (ninS n_n_q (ninS n_n_b nin0)) (ninS n_nd_q (ninS n_nd_b nin0))
  replace Tt := Tt.keep K_9 (ninS n_t_q (ninS n_t_b nin0)) (ninS n_td_q (ninS n_td_b nin0))
  replace Tp := Tp.keep K_9 (ninS n_p_q (ninS n_p_b nin0)) (ninS n_pd_q (ninS n_pd_b nin0))
  replace S1 := S1.keep K_9 (ninS (Ne.symm ne_q_a1) (ninS (Ne.symm ne_b_a1) nin0)) (ninS (Ne.symm ne_q_b1) (ninS (Ne.symm ne_b_b1) nin0))
  replace sq := m_8 _ sq
  replace sb_ := m_8 _ sb_
  refine Road.aloadN 9 bFam_d9 rfl ?_
  refine Road.callV (B' := bSp0) (a := q) 10 (argsL := [(.ref n)]) (rest := []) "java/lang/StringBuilder" 0 bFam_d10 (hw _ (List.mem_of_getElem? (i := 67) rfl)) (hw _ (List.mem_of_getElem? (i := 68) rfl)) (fun vm hz => Road.notFace_sib (args := #[]) (mv (s := D.s.setVm vm) hz (hw _ (List.mem_of_getElem? (i := 70) rfl))) rfl) (hw _ (List.mem_of_getElem? (i := 70) rfl)) (hw _ (List.mem_of_getElem? (i := 69) rfl)) (hw _ (List.mem_of_getElem? (i := 24) rfl)) (hw _ (List.mem_of_getElem? (i := 71) rfl)) (by decide) S.1 (cSp0 l Z a0 hw n0 hEW q b ([] ++ ([35, 32, 72, 69, 76, 80, 32] : List Int32)) 16 n nd [c0] h_6 σ_7 S Tn (by simp only [List.length_append, List.length_cons, List.length_nil]; omega) sb_ sq cp Hc hcp) (lenOf bSp0_pd rfl) rfl rfl rfl (by decide) (by decide) (ce' := 2) (sl' := 32) rfl rfl (by decide) (by decide) ?_
  rintro _ h_10 σ_11 m_12 ⟨rfl, K_13, S⟩
  replace KT := KT.trans K_13 (by intro z hz; simp only [List.mem_cons, List.not_mem_nil, or_false] at hz; rcases hz with rfl | rfl <;> first | (exact Or.inr (by assumption)) | (simp; done))
  replace F := F.keep K_13 (ninS nxq (ninS nxb nin0))
  replace Tn := Tn.keep K_13 (ninS n_n_q (ninS n_n_b nin0)) (ninS n_nd_q (ninS n_nd_b nin0))
  replace Tt := Tt.keep K_13 (ninS n_t_q (ninS n_t_b nin0)) (ninS n_td_q (ninS n_td_b nin0))
  replace Tp := Tp.keep K_13 (ninS n_p_q (ninS n_p_b nin0)) (ninS n_pd_q (ninS n_pd_b nin0))
  replace sq := m_12 _ sq
  replace sb_ := m_12 _ sb_
  refine Road.bipush 13 (32 : Int32) bFam_d13 rfl ?_
  refine Road.callV (B' := bSc0) (a := q) 15 (argsL := [(.int (32 : Int32))]) (rest := []) "java/lang/StringBuilder" 0 bFam_d15 (hw _ (List.mem_of_getElem? (i := 114) rfl)) (hw _ (List.mem_of_getElem? (i := 115) rfl)) (fun vm hz => Road.notFace_sib (args := #[]) (mv (s := D.s.setVm vm) hz (hw _ (List.mem_of_getElem? (i := 70) rfl))) rfl) (hw _ (List.mem_of_getElem? (i := 117) rfl)) (hw _ (List.mem_of_getElem? (i := 116) rfl)) (hw _ (List.mem_of_getElem? (i := 24) rfl)) (hw _ (List.mem_of_getElem? (i := 118) rfl)) (by decide) S.1 (cSc0 l Z a0 hw n0 hEW q b (([] ++ ([35, 32, 72, 69, 76, 80, 32] : List Int32)) ++ [c0]) 16 32 h_10 σ_11 S (by decide) (by simp only [List.length_append, List.length_cons, List.length_nil]; omega) sb_ sq cp Hc hcp) (lenOf bSc0_pd rfl) rfl rfl rfl (by decide) (by decide) (ce' := 2) (sl' := 32) rfl rfl (by decide) (by decide) ?_
  rintro _ h_14 σ_15 m_16 ⟨rfl, K_17, S⟩
  replace KT := KT.trans K_17 (by intro z hz; simp only [List.mem_cons, List.not_mem_nil, or_false] at hz; rcases hz with rfl | rfl <;> first | (exact Or.inr (by assumption)) | (simp; done))
  replace F := F.keep K_17 (ninS nxq (ninS nxb nin0))
  replace Tn := Tn.keep K_17 (ninS n_n_q (ninS n_n_b nin0)) (ninS n_nd_q (ninS n_nd_b nin0))
  replace Tt := Tt.keep K_17 (ninS n_t_q (ninS n_t_b nin0)) (ninS n_td_q (ninS n_td_b nin0))
  replace Tp := Tp.keep K_17 (ninS n_p_q (ninS n_p_b nin0)) (ninS n_pd_q (ninS n_pd_b nin0))
  replace sq := m_16 _ sq
  replace sb_ := m_16 _ sb_
  refine Road.pop 18 bFam_d18 ?_
  refine Road.aloadN 19 bFam_d19 rfl ?_
  refine Road.iconst 20 (0 : Int32) bFam_d20 rfl ?_
  refine Road.aloadN 21 bFam_d21 rfl ?_
  refine Road.getfield 22 bFam_d22 (hw _ (List.mem_of_getElem? (i := 40) rfl)) Via.refl F ?_
  refine Road.callS (B' := bXsc) 25 (argsL := [(.ref p), (.int (0 : Int32)), (.ref q)]) (rest := []) 0 bFam_d25 (hw _ (List.mem_of_getElem? (i := 129) rfl)) (hw _ (List.mem_of_getElem? (i := 130) rfl)) (hw _ (List.mem_of_getElem? (i := 15) rfl)) (hw _ (List.mem_of_getElem? (i := 131) rfl)) (by decide) (cXsc l Z a0 hw n0 hEW q b ((([] ++ ([35, 32, 72, 69, 76, 80, 32] : List Int32)) ++ [c0]) ++ [32]) 16 p pd hs h_14 σ_15 S Tp hl (by simp) sq sb_ n_p_q n_p_b n_pd_q n_pd_b cp Hc hcp fm hfm Hf) (lenOf bXsc_pd rfl) rfl rfl rfl (by decide) (by decide) (ce' := 6) (sl' := 56) rfl rfl (by decide) (by decide) ?_
  rintro _ h_18 σ_19 m_20 ⟨rfl, K_21, S⟩
  replace KT := KT.trans K_21 (by intro z hz; simp only [List.mem_cons, List.not_mem_nil, or_false] at hz; rcases hz with rfl | rfl <;> first | (exact Or.inr (by assumption)) | (simp; done))
  replace F := F.keep K_21 (ninS nxq (ninS nxb nin0))
  replace Tn := Tn.keep K_21 (ninS n_n_q (ninS n_n_b nin0)) (ninS n_nd_q (ninS n_nd_b nin0))
  replace Tt := Tt.keep K_21 (ninS n_t_q (ninS n_t_b nin0)) (ninS n_td_q (ninS n_td_b nin0))
  replace Tp := Tp.keep K_21 (ninS n_p_q (ninS n_p_b nin0)) (ninS n_pd_q (ninS n_pd_b nin0))
  replace sq := m_20 _ sq
  replace sb_ := m_20 _ sb_
  refine Road.aloadN 28 bFam_d28 rfl ?_
  refine Road.getfield 29 bFam_d29 (hw _ (List.mem_of_getElem? (i := 40) rfl)) Via.refl F ?_
  refine Road.ldcS 32 "\n# TYPE " [(10 : Int32), (35 : Int32), (32 : Int32), (84 : Int32), (89 : Int32), (80 : Int32), (69 : Int32), (32 : Int32)] 32 bFam_d32 (hw _ (List.mem_of_getElem? (i := 133) rfl)) wS (List.mem_of_getElem? (i := 1) rfl) (by decide) (by decide +kernel) (by decide) (by decide) (by decide) (ce' := 8) (sl' := 92) rfl rfl (by decide) (by decide) ?_
  intro a2 b2 h_22 σ_23 K_24 m_25 S2 q_26
  replace KT := KT.trans K_24 (by simp)
  replace F := F.keep K_24 nin0
  replace Tn := Tn.keep K_24 nin0 nin0
  replace Tt := Tt.keep K_24 nin0 nin0
  replace Tp := Tp.keep K_24 nin0 nin0
  replace S := S.keep K_24 nin0 nin0
  replace sq := m_25 _ sq
  replace sb_ := m_25 _ sb_
  have ne_q_a2 : q ≠ a2 := (q_26 q sq).1
  have ne_q_b2 : q ≠ b2 := (q_26 q sq).2
  have ne_b_a2 : b ≠ a2 := (q_26 b sb_).1
  have ne_b_b2 : b ≠ b2 := (q_26 b sb_).2
  have hmx : max ((((([] ++ ([35, 32, 72, 69, 76, 80, 32] : List Int32)) ++ [c0]) ++ [32]) ++ escL hs).length + ([10, 35, 32, 84, 89, 80, 69, 32] : List Int32).length) (2 * 16 + 2) = 34 := by simp only [List.length_append, List.length_cons, List.length_nil]; omega
  refine Road.callV (B' := bSpG) (a := q) 34 (argsL := [(.ref a2)]) (rest := []) "java/lang/StringBuilder" 0 bFam_d34 (hw _ (List.mem_of_getElem? (i := 67) rfl)) (hw _ (List.mem_of_getElem? (i := 68) rfl)) (fun vm hz => Road.notFace_sib (args := #[]) (mv (s := D.s.setVm vm) hz (hw _ (List.mem_of_getElem? (i := 70) rfl))) rfl) (hw _ (List.mem_of_getElem? (i := 70) rfl)) (hw _ (List.mem_of_getElem? (i := 69) rfl)) (hw _ (List.mem_of_getElem? (i := 24) rfl)) (hw _ (List.mem_of_getElem? (i := 71) rfl)) (by decide) S.1 (cSpG l Z a0 hw n0 hEW q b (((([] ++ ([35, 32, 72, 69, 76, 80, 32] : List Int32)) ++ [c0]) ++ [32]) ++ escL hs) 16 a2 b2 ([10, 35, 32, 84, 89, 80, 69, 32] : List Int32) h_22 σ_23 S S2 (by simp only [List.length_append, List.length_cons, List.length_nil]; omega) (by rw [hmx]; decide) (Ne.symm ne_q_a2) (Ne.symm ne_q_b2) sq cp Hc hcp) (lenOf bSpG_pd rfl) rfl rfl rfl (by decide) (by decide) (ce' := 9) (sl' := 126) rfl rfl (by decide) (by decide) ?_
  rintro _ h_27 σ_28 m_29 ⟨rfl, K_30, d, S, gd, sd⟩
  have gk_d := Nat.le_trans KT.1 gd
  have ne_x_d : x ≠ d := Nat.ne_of_lt (Nat.lt_of_lt_of_le F.lt gd)
  have ne_n_d : n ≠ d := Nat.ne_of_lt (Nat.lt_of_lt_of_le Tn.lt gd)
  have ne_nd_d : nd ≠ d := Nat.ne_of_lt (Nat.lt_of_lt_of_le Tn.ltb gd)
  have ne_t_d : t ≠ d := Nat.ne_of_lt (Nat.lt_of_lt_of_le Tt.lt gd)
  have ne_td_d : td ≠ d := Nat.ne_of_lt (Nat.lt_of_lt_of_le Tt.ltb gd)
  have ne_p_d : p ≠ d := Nat.ne_of_lt (Nat.lt_of_lt_of_le Tp.lt gd)
  have ne_pd_d : pd ≠ d := Nat.ne_of_lt (Nat.lt_of_lt_of_le Tp.ltb gd)
  replace KT := KT.trans K_30 (by intro z hz; simp only [List.mem_cons, List.not_mem_nil, or_false] at hz; rcases hz with rfl <;> first | (exact Or.inr (by assumption)) | (simp; done))
  replace F := F.keep K_30 (ninS nxq nin0)
  replace Tn := Tn.keep K_30 (ninS n_n_q nin0) (ninS n_nd_q nin0)
  replace Tt := Tt.keep K_30 (ninS n_t_q nin0) (ninS n_td_q nin0)
  replace Tp := Tp.keep K_30 (ninS n_p_q nin0) (ninS n_pd_q nin0)
  replace sq := m_29 _ sq
  replace sb_ := m_29 _ sb_
  rw [hmx] at S
  refine Road.aloadN 37 bFam_d37 rfl ?_
  refine Road.callV (B' := bSp0) (a := q) 38 (argsL := [(.ref n)]) (rest := []) "java/lang/StringBuilder" 0 bFam_d38 (hw _ (List.mem_of_getElem? (i := 67) rfl)) (hw _ (List.mem_of_getElem? (i := 68) rfl)) (fun vm hz => Road.notFace_sib (args := #[]) (mv (s := D.s.setVm vm) hz (hw _ (List.mem_of_getElem? (i := 70) rfl))) rfl) (hw _ (List.mem_of_getElem? (i := 70) rfl)) (hw _ (List.mem_of_getElem? (i := 69) rfl)) (hw _ (List.mem_of_getElem? (i := 24) rfl)) (hw _ (List.mem_of_getElem? (i := 71) rfl)) (by decide) S.1 (cSp0 l Z a0 hw n0 hEW q d ((((([] ++ ([35, 32, 72, 69, 76, 80, 32] : List Int32)) ++ [c0]) ++ [32]) ++ escL hs) ++ ([10, 35, 32, 84, 89, 80, 69, 32] : List Int32)) 34 n nd [c0] h_27 σ_28 S Tn (by simp only [List.length_append, List.length_cons, List.length_nil]; omega) sd sq cp Hc hcp) (lenOf bSp0_pd rfl) rfl rfl rfl (by decide) (by decide) (ce' := 9) (sl' := 126) rfl rfl (by decide) (by decide) ?_
  rintro _ h_31 σ_32 m_33 ⟨rfl, K_34, S⟩
  replace KT := KT.trans K_34 (by intro z hz; simp only [List.mem_cons, List.not_mem_nil, or_false] at hz; rcases hz with rfl | rfl <;> first | (exact Or.inr (by assumption)) | (simp; done))
  replace F := F.keep K_34 (ninS nxq (ninS ne_x_d nin0))
  replace Tn := Tn.keep K_34 (ninS n_n_q (ninS ne_n_d nin0)) (ninS n_nd_q (ninS ne_nd_d nin0))
  replace Tt := Tt.keep K_34 (ninS n_t_q (ninS ne_t_d nin0)) (ninS n_td_q (ninS ne_td_d nin0))
  replace Tp := Tp.keep K_34 (ninS n_p_q (ninS ne_p_d nin0)) (ninS n_pd_q (ninS ne_pd_d nin0))
  replace sq := m_33 _ sq
  replace sd := m_33 _ sd
  refine Road.bipush 41 (32 : Int32) bFam_d41 rfl ?_
  refine Road.callV (B' := bSc0) (a := q) 43 (argsL := [(.int (32 : Int32))]) (rest := []) "java/lang/StringBuilder" 0 bFam_d43 (hw _ (List.mem_of_getElem? (i := 114) rfl)) (hw _ (List.mem_of_getElem? (i := 115) rfl)) (fun vm hz => Road.notFace_sib (args := #[]) (mv (s := D.s.setVm vm) hz (hw _ (List.mem_of_getElem? (i := 70) rfl))) rfl) (hw _ (List.mem_of_getElem? (i := 117) rfl)) (hw _ (List.mem_of_getElem? (i := 116) rfl)) (hw _ (List.mem_of_getElem? (i := 24) rfl)) (hw _ (List.mem_of_getElem? (i := 118) rfl)) (by decide) S.1 (cSc0 l Z a0 hw n0 hEW q d (((((([] ++ ([35, 32, 72, 69, 76, 80, 32] : List Int32)) ++ [c0]) ++ [32]) ++ escL hs) ++ ([10, 35, 32, 84, 89, 80, 69, 32] : List Int32)) ++ [c0]) 34 32 h_31 σ_32 S (by decide) (by simp only [List.length_append, List.length_cons, List.length_nil]; omega) sd sq cp Hc hcp) (lenOf bSc0_pd rfl) rfl rfl rfl (by decide) (by decide) (ce' := 9) (sl' := 126) rfl rfl (by decide) (by decide) ?_
  rintro _ h_35 σ_36 m_37 ⟨rfl, K_38, S⟩
  replace KT := KT.trans K_38 (by intro z hz; simp only [List.mem_cons, List.not_mem_nil, or_false] at hz; rcases hz with rfl | rfl <;> first | (exact Or.inr (by assumption)) | (simp; done))
  replace F := F.keep K_38 (ninS nxq (ninS ne_x_d nin0))
  replace Tn := Tn.keep K_38 (ninS n_n_q (ninS ne_n_d nin0)) (ninS n_nd_q (ninS ne_nd_d nin0))
  replace Tt := Tt.keep K_38 (ninS n_t_q (ninS ne_t_d nin0)) (ninS n_td_q (ninS ne_td_d nin0))
  replace Tp := Tp.keep K_38 (ninS n_p_q (ninS ne_p_d nin0)) (ninS n_pd_q (ninS ne_pd_d nin0))
  replace sq := m_37 _ sq
  replace sd := m_37 _ sd
  refine Road.aloadN 46 bFam_d46 rfl ?_
  refine Road.callV (B' := bSp0) (a := q) 47 (argsL := [(.ref t)]) (rest := []) "java/lang/StringBuilder" 0 bFam_d47 (hw _ (List.mem_of_getElem? (i := 67) rfl)) (hw _ (List.mem_of_getElem? (i := 68) rfl)) (fun vm hz => Road.notFace_sib (args := #[]) (mv (s := D.s.setVm vm) hz (hw _ (List.mem_of_getElem? (i := 70) rfl))) rfl) (hw _ (List.mem_of_getElem? (i := 70) rfl)) (hw _ (List.mem_of_getElem? (i := 69) rfl)) (hw _ (List.mem_of_getElem? (i := 24) rfl)) (hw _ (List.mem_of_getElem? (i := 71) rfl)) (by decide) S.1 (cSp0 l Z a0 hw n0 hEW q d ((((((([] ++ ([35, 32, 72, 69, 76, 80, 32] : List Int32)) ++ [c0]) ++ [32]) ++ escL hs) ++ ([10, 35, 32, 84, 89, 80, 69, 32] : List Int32)) ++ [c0]) ++ [32]) 34 t td [c1] h_35 σ_36 S Tt (by simp only [List.length_append, List.length_cons, List.length_nil]; omega) sd sq cp Hc hcp) (lenOf bSp0_pd rfl) rfl rfl rfl (by decide) (by decide) (ce' := 9) (sl' := 126) rfl rfl (by decide) (by decide) ?_
  rintro _ h_39 σ_40 m_41 ⟨rfl, K_42, S⟩
  replace KT := KT.trans K_42 (by intro z hz; simp only [List.mem_cons, List.not_mem_nil, or_false] at hz; rcases hz with rfl | rfl <;> first | (exact Or.inr (by assumption)) | (simp; done))
  replace F := F.keep K_42 (ninS nxq (ninS ne_x_d nin0))
  replace Tn := Tn.keep K_42 (ninS n_n_q (ninS ne_n_d nin0)) (ninS n_nd_q (ninS ne_nd_d nin0))
  replace Tt := Tt.keep K_42 (ninS n_t_q (ninS ne_t_d nin0)) (ninS n_td_q (ninS ne_td_d nin0))
  replace Tp := Tp.keep K_42 (ninS n_p_q (ninS ne_p_d nin0)) (ninS n_pd_q (ninS ne_pd_d nin0))
  replace sq := m_41 _ sq
  replace sd := m_41 _ sd
  refine Road.bipush 50 (10 : Int32) bFam_d50 rfl ?_
  refine Road.callV (B' := bSc0) (a := q) 52 (argsL := [(.int (10 : Int32))]) (rest := []) "java/lang/StringBuilder" 0 bFam_d52 (hw _ (List.mem_of_getElem? (i := 114) rfl)) (hw _ (List.mem_of_getElem? (i := 115) rfl)) (fun vm hz => Road.notFace_sib (args := #[]) (mv (s := D.s.setVm vm) hz (hw _ (List.mem_of_getElem? (i := 70) rfl))) rfl) (hw _ (List.mem_of_getElem? (i := 117) rfl)) (hw _ (List.mem_of_getElem? (i := 116) rfl)) (hw _ (List.mem_of_getElem? (i := 24) rfl)) (hw _ (List.mem_of_getElem? (i := 118) rfl)) (by decide) S.1 (cSc0 l Z a0 hw n0 hEW q d (((((((([] ++ ([35, 32, 72, 69, 76, 80, 32] : List Int32)) ++ [c0]) ++ [32]) ++ escL hs) ++ ([10, 35, 32, 84, 89, 80, 69, 32] : List Int32)) ++ [c0]) ++ [32]) ++ [c1]) 34 10 h_39 σ_40 S (by decide) (by simp only [List.length_append, List.length_cons, List.length_nil]; omega) sd sq cp Hc hcp) (lenOf bSc0_pd rfl) rfl rfl rfl (by decide) (by decide) (ce' := 9) (sl' := 126) rfl rfl (by decide) (by decide) ?_
  rintro _ h_43 σ_44 m_45 ⟨rfl, K_46, S⟩
  replace KT := KT.trans K_46 (by intro z hz; simp only [List.mem_cons, List.not_mem_nil, or_false] at hz; rcases hz with rfl | rfl <;> first | (exact Or.inr (by assumption)) | (simp; done))
  replace F := F.keep K_46 (ninS nxq (ninS ne_x_d nin0))
  replace Tn := Tn.keep K_46 (ninS n_n_q (ninS ne_n_d nin0)) (ninS n_nd_q (ninS ne_nd_d nin0))
  replace Tt := Tt.keep K_46 (ninS n_t_q (ninS ne_t_d nin0)) (ninS n_td_q (ninS ne_td_d nin0))
  replace Tp := Tp.keep K_46 (ninS n_p_q (ninS ne_p_d nin0)) (ninS n_pd_q (ninS ne_pd_d nin0))
  replace sq := m_45 _ sq
  replace sd := m_45 _ sd
  refine Road.pop 55 bFam_d55 ?_
  exact Road.ret 56 bFam_d56 rfl (by decide) (by decide) (fun σ' m => ⟨rfl, KT, d, S, gk_d, m _ sd⟩)
def bTxt : Road.Bdy := (⟨"com/example/meerkat/meerkat/metrics/Exposition", "text", "()Ljava/lang/String;"⟩, prog_10_method_4_code, 1, (some (.object "java/lang/String")), { frames := 6, cells := 2, slots := 29, locals := 95 })
theorem bTxt_d0 : decode bTxt.bs 0 = .ok (.aload_n 0, 1) := by decide +kernel
theorem bTxt_d1 : decode bTxt.bs 1 = .ok (.getfield 10, 3) := by decide +kernel
theorem bTxt_d4 : decode bTxt.bs 4 = .ok (.invokevirtual 37, 3) := by decide +kernel
theorem bTxt_d7 : decode bTxt.bs 7 = .ok (.areturn, 1) := by decide +kernel
theorem bTxt_pd : parseMethodDescriptor "()Ljava/lang/String;" = some ⟨[], (some (.object "java/lang/String"))⟩ := by decide +kernel
theorem bTxt_pn : plainFor bTxt.y = true := plainFor_of_name (show plainName "com/example/meerkat/meerkat/metrics/Exposition" = true from by first | (simp [plainName, overriddenIn]; done) | decide +kernel)
theorem cTxt (l : Launch) (Z : State) (a0 : Array Value) (hw : ∀ d ∈ tables_1, d.before a0 Z = true) (n0 : Nat) (hEW : EW Z a0 consts_1) (x : Addr) (q b : Addr) (cs : List Int32) (N : Nat) (h0 : Heap) (σ : Addr → Prop) (F : Fld Z h0 x "com/example/meerkat/meerkat/metrics/Exposition" "text" "Ljava/lang/StringBuilder;" (.ref q)) (S : Road.Sb Z h0 q b cs N) (hn : cs.length < N) (hcap : cs.length ≤ 25) (cp : Int32) (Hc : Sta Z Z.heap Road.SN "COMPACT_STRINGS" "Z" (.int cp)) (hcp : ¬ cp = 0) :
    Road.Con l Z consts_1 n0 false bTxt [] σ #[(.ref x)] h0 (fun v h2 s2 => ∃ a d, v = some (.ref a) ∧ Road.Str Z h2 a d cs) := by
  refine Road.Con.of bTxt_pn hEW #[.val (.ref x)] (fun m => Road.ent (Road.laid1 rfl Road.laid0) (k := 0) rfl rfl) ?_
  intro D hD
  refine Road.aloadN 0 bTxt_d0 rfl ?_
  refine Road.getfield 1 bTxt_d1 (hw _ (List.mem_of_getElem? (i := 40) rfl)) Via.refl F ?_
  refine Road.callV (B' := bToS) (a := q) 4 (argsL := []) (rest := []) "java/lang/StringBuilder" 0 bTxt_d4 (hw _ (List.mem_of_getElem? (i := 162) rfl)) (hw _ (List.mem_of_getElem? (i := 163) rfl)) (fun vm hz => Road.notFace_sib (args := #[]) (mv (s := D.s.setVm vm) hz (hw _ (List.mem_of_getElem? (i := 70) rfl))) rfl) (hw _ (List.mem_of_getElem? (i := 165) rfl)) (hw _ (List.mem_of_getElem? (i := 164) rfl)) (hw _ (List.mem_of_getElem? (i := 24) rfl)) (hw _ (List.mem_of_getElem? (i := 166) rfl)) (by decide) S.1 (cToS l Z a0 hw n0 hEW q b cs N h0 σ S hn hcap cp Hc hcp) (lenOf bToS_pd rfl) rfl rfl rfl (by decide) (by decide) (ce' := 2) (sl' := 29) rfl rfl (by decide) (by decide) ?_
  rintro _ h_1 σ_2 m_3 ⟨a, d, rfl, ga, gd, K_4, T⟩
  exact Road.aret 7 bTxt_d7 (t := (.object "java/lang/String")) rfl rfl rfl (by decide) (by decide) (fun σ' m => ⟨a, d, rfl, T⟩)
def b0 : Road.Bdy := (x, code, maxLocals, ret, room_1)
theorem b0_d0 : decode b0.bs 0 = .ok (.iload_n 0, 1) := at_0
theorem b0_d1 : decode b0.bs 1 = .ok (.invokestatic 23, 3) := at_1
theorem b0_d4 : decode b0.bs 4 = .ok (.istore 5, 2) := at_4
theorem b0_d6 : decode b0.bs 6 = .ok (.iload_n 1, 1) := at_6
theorem b0_d7 : decode b0.bs 7 = .ok (.invokestatic 23, 3) := at_7
theorem b0_d10 : decode b0.bs 10 = .ok (.istore 6, 2) := at_10
theorem b0_d12 : decode b0.bs 12 = .ok (.iload_n 2, 1) := at_12
theorem b0_d13 : decode b0.bs 13 = .ok (.invokestatic 23, 3) := at_13
theorem b0_d16 : decode b0.bs 16 = .ok (.istore 7, 2) := at_16
theorem b0_d18 : decode b0.bs 18 = .ok (.iload_n 3, 1) := at_18
theorem b0_d19 : decode b0.bs 19 = .ok (.invokestatic 23, 3) := at_19
theorem b0_d22 : decode b0.bs 22 = .ok (.istore 8, 2) := at_22
theorem b0_d24 : decode b0.bs 24 = .ok (.iload 4, 2) := at_24
theorem b0_d26 : decode b0.bs 26 = .ok (.ldc 26, 2) := at_26
theorem b0_d28 : decode b0.bs 28 = .ok (.iand, 1) := at_28
theorem b0_d29 : decode b0.bs 29 = .ok (.iconst 3, 1) := at_29
theorem b0_d30 : decode b0.bs 30 = .ok (.irem, 1) := at_30
theorem b0_d31 : decode b0.bs 31 = .ok (.istore 9, 2) := at_31
theorem b0_d33 : decode b0.bs 33 = .ok (.iload 9, 2) := at_33
theorem b0_d35 : decode b0.bs 35 = .ok (.ifCond .ne 10, 3) := at_35
theorem b0_d38 : decode b0.bs 38 = .ok (.ldc 27, 2) := at_38
theorem b0_d40 : decode b0.bs 40 = .ok (.astore 10, 2) := at_40
theorem b0_d42 : decode b0.bs 42 = .ok (.goto 47, 3) := at_42
theorem b0_d45 : decode b0.bs 45 = .ok (.iload 9, 2) := at_45
theorem b0_d47 : decode b0.bs 47 = .ok (.iconst 1, 1) := at_47
theorem b0_d48 : decode b0.bs 48 = .ok (.if_icmp .ne 13, 3) := at_48
theorem b0_d51 : decode b0.bs 51 = .ok (.iload 7, 2) := at_51
theorem b0_d53 : decode b0.bs 53 = .ok (.invokestatic 29, 3) := at_53
theorem b0_d56 : decode b0.bs 56 = .ok (.astore 10, 2) := at_56
theorem b0_d58 : decode b0.bs 58 = .ok (.goto 31, 3) := at_58
theorem b0_d61 : decode b0.bs 61 = .ok (.iconst 2, 1) := at_61
theorem b0_d62 : decode b0.bs 62 = .ok (.newarray .char, 2) := at_62
theorem b0_d64 : decode b0.bs 64 = .ok (.astore 11, 2) := at_64
theorem b0_d66 : decode b0.bs 66 = .ok (.aload 11, 2) := at_66
theorem b0_d68 : decode b0.bs 68 = .ok (.iconst 0, 1) := at_68
theorem b0_d69 : decode b0.bs 69 = .ok (.iload 7, 2) := at_69
theorem b0_d71 : decode b0.bs 71 = .ok (.castore, 1) := at_71
theorem b0_d72 : decode b0.bs 72 = .ok (.aload 11, 2) := at_72
theorem b0_d74 : decode b0.bs 74 = .ok (.iconst 1, 1) := at_74
theorem b0_d75 : decode b0.bs 75 = .ok (.iload 8, 2) := at_75
theorem b0_d77 : decode b0.bs 77 = .ok (.castore, 1) := at_77
theorem b0_d78 : decode b0.bs 78 = .ok (.new 8, 3) := at_78
theorem b0_d81 : decode b0.bs 81 = .ok (.dup, 1) := at_81
theorem b0_d82 : decode b0.bs 82 = .ok (.aload 11, 2) := at_82
theorem b0_d84 : decode b0.bs 84 = .ok (.invokespecial 33, 3) := at_84
theorem b0_d87 : decode b0.bs 87 = .ok (.astore 10, 2) := at_87
theorem b0_d89 : decode b0.bs 89 = .ok (.new 36, 3) := at_89
theorem b0_d92 : decode b0.bs 92 = .ok (.dup, 1) := at_92
theorem b0_d93 : decode b0.bs 93 = .ok (.invokespecial 38, 3) := at_93
theorem b0_d96 : decode b0.bs 96 = .ok (.astore 11, 2) := at_96
theorem b0_d98 : decode b0.bs 98 = .ok (.aload 11, 2) := at_98
theorem b0_d100 : decode b0.bs 100 = .ok (.iload 5, 2) := at_100
theorem b0_d102 : decode b0.bs 102 = .ok (.invokestatic 29, 3) := at_102
theorem b0_d105 : decode b0.bs 105 = .ok (.iload 6, 2) := at_105
theorem b0_d107 : decode b0.bs 107 = .ok (.invokestatic 29, 3) := at_107
theorem b0_d110 : decode b0.bs 110 = .ok (.aload 10, 2) := at_110
theorem b0_d112 : decode b0.bs 112 = .ok (.invokevirtual 39, 3) := at_112
theorem b0_d115 : decode b0.bs 115 = .ok (.aload 11, 2) := at_115
theorem b0_d117 : decode b0.bs 117 = .ok (.invokevirtual 43, 3) := at_117
theorem b0_d120 : decode b0.bs 120 = .ok (.astore 12, 2) := at_120
theorem b0_d122 : decode b0.bs 122 = .ok (.iconst 0, 1) := at_122
theorem b0_d123 : decode b0.bs 123 = .ok (.istore 13, 2) := at_123
theorem b0_d125 : decode b0.bs 125 = .ok (.aload 12, 2) := at_125
theorem b0_d127 : decode b0.bs 127 = .ok (.iload 13, 2) := at_127
theorem b0_d129 : decode b0.bs 129 = .ok (.bipush 35, 2) := at_129
theorem b0_d131 : decode b0.bs 131 = .ok (.invokestatic 17, 3) := at_131
theorem b0_d134 : decode b0.bs 134 = .ok (.istore 13, 2) := at_134
theorem b0_d136 : decode b0.bs 136 = .ok (.aload 12, 2) := at_136
theorem b0_d138 : decode b0.bs 138 = .ok (.iload 13, 2) := at_138
theorem b0_d140 : decode b0.bs 140 = .ok (.bipush 32, 2) := at_140
theorem b0_d142 : decode b0.bs 142 = .ok (.invokestatic 17, 3) := at_142
theorem b0_d145 : decode b0.bs 145 = .ok (.istore 13, 2) := at_145
theorem b0_d147 : decode b0.bs 147 = .ok (.aload 12, 2) := at_147
theorem b0_d149 : decode b0.bs 149 = .ok (.iload 13, 2) := at_149
theorem b0_d151 : decode b0.bs 151 = .ok (.bipush 72, 2) := at_151
theorem b0_d153 : decode b0.bs 153 = .ok (.invokestatic 17, 3) := at_153
theorem b0_d156 : decode b0.bs 156 = .ok (.istore 13, 2) := at_156
theorem b0_d158 : decode b0.bs 158 = .ok (.aload 12, 2) := at_158
theorem b0_d160 : decode b0.bs 160 = .ok (.iload 13, 2) := at_160
theorem b0_d162 : decode b0.bs 162 = .ok (.bipush 69, 2) := at_162
theorem b0_d164 : decode b0.bs 164 = .ok (.invokestatic 17, 3) := at_164
theorem b0_d167 : decode b0.bs 167 = .ok (.istore 13, 2) := at_167
theorem b0_d169 : decode b0.bs 169 = .ok (.aload 12, 2) := at_169
theorem b0_d171 : decode b0.bs 171 = .ok (.iload 13, 2) := at_171
theorem b0_d173 : decode b0.bs 173 = .ok (.bipush 76, 2) := at_173
theorem b0_d175 : decode b0.bs 175 = .ok (.invokestatic 17, 3) := at_175
theorem b0_d178 : decode b0.bs 178 = .ok (.istore 13, 2) := at_178
theorem b0_d180 : decode b0.bs 180 = .ok (.aload 12, 2) := at_180
theorem b0_d182 : decode b0.bs 182 = .ok (.iload 13, 2) := at_182
theorem b0_d184 : decode b0.bs 184 = .ok (.bipush 80, 2) := at_184
theorem b0_d186 : decode b0.bs 186 = .ok (.invokestatic 17, 3) := at_186
theorem b0_d189 : decode b0.bs 189 = .ok (.istore 13, 2) := at_189
theorem b0_d191 : decode b0.bs 191 = .ok (.aload 12, 2) := at_191
theorem b0_d193 : decode b0.bs 193 = .ok (.iload 13, 2) := at_193
theorem b0_d195 : decode b0.bs 195 = .ok (.bipush 32, 2) := at_195
theorem b0_d197 : decode b0.bs 197 = .ok (.invokestatic 17, 3) := at_197
theorem b0_d200 : decode b0.bs 200 = .ok (.istore 13, 2) := at_200
theorem b0_d202 : decode b0.bs 202 = .ok (.aload 12, 2) := at_202
theorem b0_d204 : decode b0.bs 204 = .ok (.iload 13, 2) := at_204
theorem b0_d206 : decode b0.bs 206 = .ok (.iload 5, 2) := at_206
theorem b0_d208 : decode b0.bs 208 = .ok (.invokestatic 17, 3) := at_208
theorem b0_d211 : decode b0.bs 211 = .ok (.istore 13, 2) := at_211
theorem b0_d213 : decode b0.bs 213 = .ok (.aload 12, 2) := at_213
theorem b0_d215 : decode b0.bs 215 = .ok (.iload 13, 2) := at_215
theorem b0_d217 : decode b0.bs 217 = .ok (.bipush 32, 2) := at_217
theorem b0_d219 : decode b0.bs 219 = .ok (.invokestatic 17, 3) := at_219
theorem b0_d222 : decode b0.bs 222 = .ok (.istore 13, 2) := at_222
theorem b0_d224 : decode b0.bs 224 = .ok (.iload 9, 2) := at_224
theorem b0_d226 : decode b0.bs 226 = .ok (.iconst 1, 1) := at_226
theorem b0_d227 : decode b0.bs 227 = .ok (.if_icmp .lt 14, 3) := at_227
theorem b0_d230 : decode b0.bs 230 = .ok (.aload 12, 2) := at_230
theorem b0_d232 : decode b0.bs 232 = .ok (.iload 13, 2) := at_232
theorem b0_d234 : decode b0.bs 234 = .ok (.iload 7, 2) := at_234
theorem b0_d236 : decode b0.bs 236 = .ok (.invokestatic 47, 3) := at_236
theorem b0_d239 : decode b0.bs 239 = .ok (.istore 13, 2) := at_239
theorem b0_d241 : decode b0.bs 241 = .ok (.iload 9, 2) := at_241
theorem b0_d243 : decode b0.bs 243 = .ok (.iconst 2, 1) := at_243
theorem b0_d244 : decode b0.bs 244 = .ok (.if_icmp .ne 14, 3) := at_244
theorem b0_d247 : decode b0.bs 247 = .ok (.aload 12, 2) := at_247
theorem b0_d249 : decode b0.bs 249 = .ok (.iload 13, 2) := at_249
theorem b0_d251 : decode b0.bs 251 = .ok (.iload 8, 2) := at_251
theorem b0_d253 : decode b0.bs 253 = .ok (.invokestatic 47, 3) := at_253
theorem b0_d256 : decode b0.bs 256 = .ok (.istore 13, 2) := at_256
theorem b0_d258 : decode b0.bs 258 = .ok (.aload 12, 2) := at_258
theorem b0_d260 : decode b0.bs 260 = .ok (.iload 13, 2) := at_260
theorem b0_d262 : decode b0.bs 262 = .ok (.bipush 10, 2) := at_262
theorem b0_d264 : decode b0.bs 264 = .ok (.invokestatic 17, 3) := at_264
theorem b0_d267 : decode b0.bs 267 = .ok (.istore 13, 2) := at_267
theorem b0_d269 : decode b0.bs 269 = .ok (.aload 12, 2) := at_269
theorem b0_d271 : decode b0.bs 271 = .ok (.iload 13, 2) := at_271
theorem b0_d273 : decode b0.bs 273 = .ok (.bipush 35, 2) := at_273
theorem b0_d275 : decode b0.bs 275 = .ok (.invokestatic 17, 3) := at_275
theorem b0_d278 : decode b0.bs 278 = .ok (.istore 13, 2) := at_278
theorem b0_d280 : decode b0.bs 280 = .ok (.aload 12, 2) := at_280
theorem b0_d282 : decode b0.bs 282 = .ok (.iload 13, 2) := at_282
theorem b0_d284 : decode b0.bs 284 = .ok (.bipush 32, 2) := at_284
theorem b0_d286 : decode b0.bs 286 = .ok (.invokestatic 17, 3) := at_286
theorem b0_d289 : decode b0.bs 289 = .ok (.istore 13, 2) := at_289
theorem b0_d291 : decode b0.bs 291 = .ok (.aload 12, 2) := at_291
theorem b0_d293 : decode b0.bs 293 = .ok (.iload 13, 2) := at_293
theorem b0_d295 : decode b0.bs 295 = .ok (.bipush 84, 2) := at_295
theorem b0_d297 : decode b0.bs 297 = .ok (.invokestatic 17, 3) := at_297
theorem b0_d300 : decode b0.bs 300 = .ok (.istore 13, 2) := at_300
theorem b0_d302 : decode b0.bs 302 = .ok (.aload 12, 2) := at_302
theorem b0_d304 : decode b0.bs 304 = .ok (.iload 13, 2) := at_304
theorem b0_d306 : decode b0.bs 306 = .ok (.bipush 89, 2) := at_306
theorem b0_d308 : decode b0.bs 308 = .ok (.invokestatic 17, 3) := at_308
theorem b0_d311 : decode b0.bs 311 = .ok (.istore 13, 2) := at_311
theorem b0_d313 : decode b0.bs 313 = .ok (.aload 12, 2) := at_313
theorem b0_d315 : decode b0.bs 315 = .ok (.iload 13, 2) := at_315
theorem b0_d317 : decode b0.bs 317 = .ok (.bipush 80, 2) := at_317
theorem b0_d319 : decode b0.bs 319 = .ok (.invokestatic 17, 3) := at_319
theorem b0_d322 : decode b0.bs 322 = .ok (.istore 13, 2) := at_322
theorem b0_d324 : decode b0.bs 324 = .ok (.aload 12, 2) := at_324
theorem b0_d326 : decode b0.bs 326 = .ok (.iload 13, 2) := at_326
theorem b0_d328 : decode b0.bs 328 = .ok (.bipush 69, 2) := at_328
theorem b0_d330 : decode b0.bs 330 = .ok (.invokestatic 17, 3) := at_330
theorem b0_d333 : decode b0.bs 333 = .ok (.istore 13, 2) := at_333
theorem b0_d335 : decode b0.bs 335 = .ok (.aload 12, 2) := at_335
theorem b0_d337 : decode b0.bs 337 = .ok (.iload 13, 2) := at_337
theorem b0_d339 : decode b0.bs 339 = .ok (.bipush 32, 2) := at_339
theorem b0_d341 : decode b0.bs 341 = .ok (.invokestatic 17, 3) := at_341
theorem b0_d344 : decode b0.bs 344 = .ok (.istore 13, 2) := at_344
theorem b0_d346 : decode b0.bs 346 = .ok (.aload 12, 2) := at_346
theorem b0_d348 : decode b0.bs 348 = .ok (.iload 13, 2) := at_348
theorem b0_d350 : decode b0.bs 350 = .ok (.iload 5, 2) := at_350
theorem b0_d352 : decode b0.bs 352 = .ok (.invokestatic 17, 3) := at_352
theorem b0_d355 : decode b0.bs 355 = .ok (.istore 13, 2) := at_355
theorem b0_d357 : decode b0.bs 357 = .ok (.aload 12, 2) := at_357
theorem b0_d359 : decode b0.bs 359 = .ok (.iload 13, 2) := at_359
theorem b0_d361 : decode b0.bs 361 = .ok (.bipush 32, 2) := at_361
theorem b0_d363 : decode b0.bs 363 = .ok (.invokestatic 17, 3) := at_363
theorem b0_d366 : decode b0.bs 366 = .ok (.istore 13, 2) := at_366
theorem b0_d368 : decode b0.bs 368 = .ok (.aload 12, 2) := at_368
theorem b0_d370 : decode b0.bs 370 = .ok (.iload 13, 2) := at_370
theorem b0_d372 : decode b0.bs 372 = .ok (.iload 6, 2) := at_372
theorem b0_d374 : decode b0.bs 374 = .ok (.invokestatic 17, 3) := at_374
theorem b0_d377 : decode b0.bs 377 = .ok (.istore 13, 2) := at_377
theorem b0_d379 : decode b0.bs 379 = .ok (.aload 12, 2) := at_379
theorem b0_d381 : decode b0.bs 381 = .ok (.iload 13, 2) := at_381
theorem b0_d383 : decode b0.bs 383 = .ok (.bipush 10, 2) := at_383
theorem b0_d385 : decode b0.bs 385 = .ok (.invokestatic 17, 3) := at_385
theorem b0_d388 : decode b0.bs 388 = .ok (.istore 13, 2) := at_388
theorem b0_d390 : decode b0.bs 390 = .ok (.iload 13, 2) := at_390
theorem b0_d392 : decode b0.bs 392 = .ok (.aload 12, 2) := at_392
theorem b0_d394 : decode b0.bs 394 = .ok (.invokevirtual 7, 3) := at_394
theorem b0_d397 : decode b0.bs 397 = .ok (.if_icmp .ne 7, 3) := at_397
theorem b0_d400 : decode b0.bs 400 = .ok (.iconst 1, 1) := at_400
theorem b0_d401 : decode b0.bs 401 = .ok (.goto 4, 3) := at_401
theorem b0_d404 : decode b0.bs 404 = .ok (.iconst 0, 1) := at_404
theorem b0_d405 : decode b0.bs 405 = .ok (.ireturn, 1) := at_405
theorem b0_pd : parseMethodDescriptor "(IIIII)Z" = some ⟨[.int, .int, .int, .int, .int], (some .boolean)⟩ := by decide +kernel
theorem b0_pn : plainFor b0.y = true := plainFor_of_name (show plainName "com/example/meerkat/meerkat/metrics/ExpositionFamilyPinLaw" = true from by first | (simp [plainName, overriddenIn]; done) | decide +kernel)
set_option maxHeartbeats 4000000 in
theorem law (l : Launch) (Z : State) (a0 : Array Value) (hw : ∀ d ∈ tables_1, d.before a0 Z = true) (n0 : Nat) (hEW : EW Z a0 consts_1) (p0 p1 p2 p3 p4 : Int32) (h0 : Heap) (σ : Addr → Prop) (cp : Int32) (Hc : Sta Z Z.heap Road.SN "COMPACT_STRINGS" "Z" (.int cp)) (hcp : ¬ cp = 0) (fm : Value) (hfm : fm.isRef = true) (Hf : Sta Z Z.heap "jdk/internal/util/Preconditions" "SIOOBE_FORMATTER" "Ljava/util/function/BiFunction;" fm) (ws : List Jvm.Cond) :
    Road.Con l Z consts_1 n0 false b0 ws σ #[(.int p0), (.int p1), (.int p2), (.int p3), (.int p4)] h0 (fun v h2 _ => v = some (.int 1)) := by
  refine Road.Con.of b0_pn hEW #[.val (.int p0), .val (.int p1), .val (.int p2), .val (.int p3), .val (.int p4), .unset, .unset, .unset, .unset, .unset, .unset, .unset, .unset, .unset] (fun m => Road.ent (Road.laid1 rfl (Road.laid1 rfl (Road.laid1 rfl (Road.laid1 rfl (Road.laid1 rfl Road.laid0))))) (k := 9) rfl rfl) ?_
  intro D hD
  have wS : ∀ d ∈ Bundle.stringAtoms, d.before a0 Z = true := fun d hd => hw d ((by decide +kernel : ∀ d ∈ Bundle.stringAtoms, d ∈ tables_1) d hd)
  refine Road.iloadN 0 b0_d0 rfl ?_
  refine Road.callS (B' := bPick) 1 (argsL := [(.int p0)]) (rest := []) 0 b0_d1 (hw _ (List.mem_of_getElem? (i := 0) rfl)) (hw _ (List.mem_of_getElem? (i := 1) rfl)) (hw _ (List.mem_of_getElem? (i := 2) rfl)) (hw _ (List.mem_of_getElem? (i := 3) rfl)) (by decide) (cPick l Z a0 hw n0 hEW p0 h0 σ) (lenOf bPick_pd rfl) rfl rfl rfl (by decide) (by decide) (ce' := 0) (sl' := 0) rfl rfl (by decide) (by decide) ?_
  rintro _ h_1 σ_2 m_3 ⟨cn, rfl, lcn, rfl⟩
  refine Road.Go.weaken (σ' := σ) m_3 (Nat.le_refl _) (Nat.le_refl _) ?_
  refine Road.istore 4 #[.val (.int p0), .val (.int p1), .val (.int p2), .val (.int p3), .val (.int p4), .val (.int cn), .unset, .unset, .unset, .unset, .unset, .unset, .unset, .unset] b0_d4 rfl ?_
  refine Road.iloadN 6 b0_d6 rfl ?_
  refine Road.callS (B' := bPick) 7 (argsL := [(.int p1)]) (rest := []) 0 b0_d7 (hw _ (List.mem_of_getElem? (i := 0) rfl)) (hw _ (List.mem_of_getElem? (i := 1) rfl)) (hw _ (List.mem_of_getElem? (i := 2) rfl)) (hw _ (List.mem_of_getElem? (i := 3) rfl)) (by decide) (cPick l Z a0 hw n0 hEW p1 h0 σ) (lenOf bPick_pd rfl) rfl rfl rfl (by decide) (by decide) (ce' := 0) (sl' := 0) rfl rfl (by decide) (by decide) ?_
  rintro _ h_5 σ_6 m_7 ⟨ct, rfl, lct, rfl⟩
  refine Road.Go.weaken (σ' := σ) m_7 (Nat.le_refl _) (Nat.le_refl _) ?_
  refine Road.istore 10 #[.val (.int p0), .val (.int p1), .val (.int p2), .val (.int p3), .val (.int p4), .val (.int cn), .val (.int ct), .unset, .unset, .unset, .unset, .unset, .unset, .unset] b0_d10 rfl ?_
  refine Road.iloadN 12 b0_d12 rfl ?_
  refine Road.callS (B' := bPick) 13 (argsL := [(.int p2)]) (rest := []) 0 b0_d13 (hw _ (List.mem_of_getElem? (i := 0) rfl)) (hw _ (List.mem_of_getElem? (i := 1) rfl)) (hw _ (List.mem_of_getElem? (i := 2) rfl)) (hw _ (List.mem_of_getElem? (i := 3) rfl)) (by decide) (cPick l Z a0 hw n0 hEW p2 h0 σ) (lenOf bPick_pd rfl) rfl rfl rfl (by decide) (by decide) (ce' := 0) (sl' := 0) rfl rfl (by decide) (by decide) ?_
  rintro _ h_9 σ_10 m_11 ⟨c0, rfl, lc0, rfl⟩
  refine Road.Go.weaken (σ' := σ) m_11 (Nat.le_refl _) (Nat.le_refl _) ?_
  refine Road.istore 16 #[.val (.int p0), .val (.int p1), .val (.int p2), .val (.int p3), .val (.int p4), .val (.int cn), .val (.int ct), .val (.int c0), .unset, .unset, .unset, .unset, .unset, .unset] b0_d16 rfl ?_
  refine Road.iloadN 18 b0_d18 rfl ?_
  refine Road.callS (B' := bPick) 19 (argsL := [(.int p3)]) (rest := []) 0 b0_d19 (hw _ (List.mem_of_getElem? (i := 0) rfl)) (hw _ (List.mem_of_getElem? (i := 1) rfl)) (hw _ (List.mem_of_getElem? (i := 2) rfl)) (hw _ (List.mem_of_getElem? (i := 3) rfl)) (by decide) (cPick l Z a0 hw n0 hEW p3 h0 σ) (lenOf bPick_pd rfl) rfl rfl rfl (by decide) (by decide) (ce' := 0) (sl' := 0) rfl rfl (by decide) (by decide) ?_
  rintro _ h_13 σ_14 m_15 ⟨c1, rfl, lc1, rfl⟩
  refine Road.Go.weaken (σ' := σ) m_15 (Nat.le_refl _) (Nat.le_refl _) ?_
  refine Road.istore 22 #[.val (.int p0), .val (.int p1), .val (.int p2), .val (.int p3), .val (.int p4), .val (.int cn), .val (.int ct), .val (.int c0), .val (.int c1), .unset, .unset, .unset, .unset, .unset] b0_d22 rfl ?_
  refine Road.iload 24 b0_d24 rfl ?_
  refine Road.ldcI 26 b0_d26 (hw _ (List.mem_of_getElem? (i := 4) rfl)) ?_
  refine Road.iand 28 b0_d28 ?_
  refine Road.iconst 29 (3 : Int32) b0_d29 rfl ?_
  refine Road.irem 30 b0_d30 (by decide) ?_
  refine Road.nameI ?_
  intro m hm
  have hm3 : m = 0 ∨ m = 1 ∨ m = 2 := by
    obtain ⟨i, hi⟩ : ∃ i : Fin 3, m = Int32.ofInt (i.1 : Int) := by rw [hm]; exact Road.small_of (Road.rem_pos (n := 3) (by rw [Road.u32_mask31]; omega) rfl (by omega)) (by omega)
    subst hi; exact (by decide +kernel : ∀ i : Fin 3, Int32.ofInt (i.1 : Int) = 0 ∨ Int32.ofInt (i.1 : Int) = 1 ∨ Int32.ofInt (i.1 : Int) = 2) i
  clear hm
  rcases hm3 with rfl | rfl | rfl
  · skip
    refine Road.istore 31 #[.val (.int p0), .val (.int p1), .val (.int p2), .val (.int p3), .val (.int p4), .val (.int cn), .val (.int ct), .val (.int c0), .val (.int c1), .val (.int (0 : Int32)), .unset, .unset, .unset, .unset] b0_d31 rfl ?_
    refine Road.iload 33 b0_d33 rfl ?_
    refine Road.if_ne 35 45 b0_d35 rfl (fun q => absurd q (by decide)) (fun hc35 => ?_)
    refine Road.ldcS 38 "" [] 0 b0_d38 (hw _ (List.mem_of_getElem? (i := 5) rfl)) wS (List.mem_of_getElem? (i := 4) rfl) (by decide) (by decide +kernel) (by decide) (by decide) (by decide) (ce' := 2) (sl' := 4) rfl rfl (by decide) (by decide) ?_
    intro hp hd h_17 σ_18 K_19 m_20 Tp q_21
    refine Road.astore 40 #[.val (.int p0), .val (.int p1), .val (.int p2), .val (.int p3), .val (.int p4), .val (.int cn), .val (.int ct), .val (.int c0), .val (.int c1), .val (.int (0 : Int32)), .val (.ref hp), .unset, .unset, .unset] b0_d40 rfl ?_
    refine Road.goto 42 89 b0_d42 rfl ?_
    refine Road.new 89 "com/example/meerkat/meerkat/metrics/Exposition" b0_d89 (hw _ (List.mem_of_getElem? (i := 13) rfl)) (hw _ (List.mem_of_getElem? (i := 14) rfl)) (hw _ (List.mem_of_getElem? (i := 15) rfl)) (ce' := 3) (sl' := 5) rfl rfl (by decide) (by decide) ?_
    intro x h_22 σ_23 g_24 K_25 lt_26 m_27 s_28 Ex D_29 M_30
    have ne_hp_x : hp ≠ x := Nat.ne_of_lt (Nat.lt_of_lt_of_le Tp.lt (Nat.le_of_eq g_24.symm))
    have ne_hd_x : hd ≠ x := Nat.ne_of_lt (Nat.lt_of_lt_of_le Tp.ltb (Nat.le_of_eq g_24.symm))
    replace Tp := Tp.keep K_25 nin0 nin0
    have Fx := D_29 (Or.inr (hw _ (List.mem_of_getElem? (i := 41) rfl))) (ty := (.object "java/lang/StringBuilder")) (by decide)
    refine Road.dup 92 b0_d92 ?_
    refine Road.callI (B' := bExI) (a := x) 93 (argsL := []) (rest := [(.ref x)]) 1 b0_d93 (hw _ (List.mem_of_getElem? (i := 16) rfl)) (hw _ (List.mem_of_getElem? (i := 17) rfl)) (hw _ (List.mem_of_getElem? (i := 15) rfl)) (hw _ (List.mem_of_getElem? (i := 18) rfl)) rfl rfl (by decide) (cExI l Z a0 hw n0 hEW x h_22 σ_23 Ex Fx s_28 cp Hc hcp) (lenOf bExI_pd rfl) rfl rfl rfl (by decide) (by decide) (ce' := 5) (sl' := 25) rfl rfl (by decide) (by decide) ?_
    rintro _ h_31 σ_32 m_33 ⟨rfl, K_34, q, b, F, S, gq, gb, sq, sb⟩
    have ne_hp_q : hp ≠ q := Nat.ne_of_lt (Nat.lt_of_lt_of_le Tp.lt gq)
    have ne_hd_q : hd ≠ q := Nat.ne_of_lt (Nat.lt_of_lt_of_le Tp.ltb gq)
    have ne_x_q : x ≠ q := Nat.ne_of_lt (Nat.lt_of_lt_of_le Ex.lt gq)
    have ne_hp_b : hp ≠ b := Nat.ne_of_lt (Nat.lt_of_lt_of_le Tp.lt gb)
    have ne_hd_b : hd ≠ b := Nat.ne_of_lt (Nat.lt_of_lt_of_le Tp.ltb gb)
    have ne_x_b : x ≠ b := Nat.ne_of_lt (Nat.lt_of_lt_of_le Ex.lt gb)
    replace Tp := Tp.keep K_34 (ninS ne_hp_x nin0) (ninS ne_hd_x nin0)
    replace Ex := Ex.keep K_34
    replace s_28 := m_33 _ s_28
    refine Road.astore 96 #[.val (.int p0), .val (.int p1), .val (.int p2), .val (.int p3), .val (.int p4), .val (.int cn), .val (.int ct), .val (.int c0), .val (.int c1), .val (.int (0 : Int32)), .val (.ref hp), .val (.ref x), .unset, .unset] b0_d96 rfl ?_
    refine Road.aload 98 b0_d98 rfl ?_
    refine Road.iload 100 b0_d100 rfl ?_
    refine Road.callS (B' := bVal) 102 (argsL := [(.int cn)]) (rest := [(.ref x)]) 1 b0_d102 (hw _ (List.mem_of_getElem? (i := 42) rfl)) (hw _ (List.mem_of_getElem? (i := 43) rfl)) (hw _ (List.mem_of_getElem? (i := 6) rfl)) (hw _ (List.mem_of_getElem? (i := 44) rfl)) (by decide) (cVal l Z a0 hw n0 hEW cn h_31 σ_32 lcn cp Hc hcp) (lenOf bVal_pd rfl) rfl rfl rfl (by decide) (by decide) (ce' := 7) (sl' := 30) rfl rfl (by decide) (by decide) ?_
    rintro _ h_35 σ_36 m_37 ⟨n, nd, rfl, gn, gnd, K_38, Tn⟩
    have ne_hp_n : hp ≠ n := Nat.ne_of_lt (Nat.lt_of_lt_of_le Tp.lt gn)
    have ne_hd_n : hd ≠ n := Nat.ne_of_lt (Nat.lt_of_lt_of_le Tp.ltb gn)
    have ne_x_n : x ≠ n := Nat.ne_of_lt (Nat.lt_of_lt_of_le Ex.lt gn)
    have ne_q_n : q ≠ n := Nat.ne_of_lt (Nat.lt_of_lt_of_le S.lt gn)
    have ne_b_n : b ≠ n := Nat.ne_of_lt (Nat.lt_of_lt_of_le S.ltb gn)
    have ne_hp_nd : hp ≠ nd := Nat.ne_of_lt (Nat.lt_of_lt_of_le Tp.lt gnd)
    have ne_hd_nd : hd ≠ nd := Nat.ne_of_lt (Nat.lt_of_lt_of_le Tp.ltb gnd)
    have ne_x_nd : x ≠ nd := Nat.ne_of_lt (Nat.lt_of_lt_of_le Ex.lt gnd)
    have ne_q_nd : q ≠ nd := Nat.ne_of_lt (Nat.lt_of_lt_of_le S.lt gnd)
    have ne_b_nd : b ≠ nd := Nat.ne_of_lt (Nat.lt_of_lt_of_le S.ltb gnd)
    replace Tp := Tp.keep K_38 nin0 nin0
    replace Ex := Ex.keep K_38
    replace F := F.keep K_38 nin0
    replace S := S.keep K_38 nin0 nin0
    replace s_28 := m_37 _ s_28
    replace sq := m_37 _ sq
    replace sb := m_37 _ sb
    refine Road.iload 105 b0_d105 rfl ?_
    refine Road.callS (B' := bVal) 107 (argsL := [(.int ct)]) (rest := [(.ref n), (.ref x)]) 2 b0_d107 (hw _ (List.mem_of_getElem? (i := 42) rfl)) (hw _ (List.mem_of_getElem? (i := 43) rfl)) (hw _ (List.mem_of_getElem? (i := 6) rfl)) (hw _ (List.mem_of_getElem? (i := 44) rfl)) (by decide) (cVal l Z a0 hw n0 hEW ct h_35 σ_36 lct cp Hc hcp) (lenOf bVal_pd rfl) rfl rfl rfl (by decide) (by decide) (ce' := 9) (sl' := 35) rfl rfl (by decide) (by decide) ?_
    rintro _ h_39 σ_40 m_41 ⟨t, td, rfl, gt, gtd, K_42, Tt⟩
    have ne_hp_t : hp ≠ t := Nat.ne_of_lt (Nat.lt_of_lt_of_le Tp.lt gt)
    have ne_hd_t : hd ≠ t := Nat.ne_of_lt (Nat.lt_of_lt_of_le Tp.ltb gt)
    have ne_x_t : x ≠ t := Nat.ne_of_lt (Nat.lt_of_lt_of_le Ex.lt gt)
    have ne_q_t : q ≠ t := Nat.ne_of_lt (Nat.lt_of_lt_of_le S.lt gt)
    have ne_b_t : b ≠ t := Nat.ne_of_lt (Nat.lt_of_lt_of_le S.ltb gt)
    have ne_n_t : n ≠ t := Nat.ne_of_lt (Nat.lt_of_lt_of_le Tn.lt gt)
    have ne_nd_t : nd ≠ t := Nat.ne_of_lt (Nat.lt_of_lt_of_le Tn.ltb gt)
    have ne_hp_td : hp ≠ td := Nat.ne_of_lt (Nat.lt_of_lt_of_le Tp.lt gtd)
    have ne_hd_td : hd ≠ td := Nat.ne_of_lt (Nat.lt_of_lt_of_le Tp.ltb gtd)
    have ne_x_td : x ≠ td := Nat.ne_of_lt (Nat.lt_of_lt_of_le Ex.lt gtd)
    have ne_q_td : q ≠ td := Nat.ne_of_lt (Nat.lt_of_lt_of_le S.lt gtd)
    have ne_b_td : b ≠ td := Nat.ne_of_lt (Nat.lt_of_lt_of_le S.ltb gtd)
    have ne_n_td : n ≠ td := Nat.ne_of_lt (Nat.lt_of_lt_of_le Tn.lt gtd)
    have ne_nd_td : nd ≠ td := Nat.ne_of_lt (Nat.lt_of_lt_of_le Tn.ltb gtd)
    replace Tp := Tp.keep K_42 nin0 nin0
    replace Ex := Ex.keep K_42
    replace F := F.keep K_42 nin0
    replace S := S.keep K_42 nin0 nin0
    replace Tn := Tn.keep K_42 nin0 nin0
    replace s_28 := m_41 _ s_28
    replace sq := m_41 _ sq
    replace sb := m_41 _ sb
    refine Road.aload 110 b0_d110 rfl ?_
    refine Road.callV (B' := bFam) (a := x) 112 (argsL := [(.ref n), (.ref t), (.ref hp)]) (rest := []) "com/example/meerkat/meerkat/metrics/Exposition" 0 b0_d112 (hw _ (List.mem_of_getElem? (i := 61) rfl)) (hw _ (List.mem_of_getElem? (i := 62) rfl)) (fun vm hz => Road.notFace_sib (args := #[]) (mv (s := D.s.setVm vm) hz (hw _ (List.mem_of_getElem? (i := 64) rfl))) rfl) (hw _ (List.mem_of_getElem? (i := 64) rfl)) (hw _ (List.mem_of_getElem? (i := 63) rfl)) (hw _ (List.mem_of_getElem? (i := 15) rfl)) (hw _ (List.mem_of_getElem? (i := 65) rfl)) (by decide) Ex (cFam l Z a0 hw n0 hEW x q b n nd t td hp hd cn ct [] h_39 σ_40 F S Tn Tt Tp (by simp) ne_x_q ne_x_b (Ne.symm ne_q_n) (Ne.symm ne_b_n) (Ne.symm ne_q_nd) (Ne.symm ne_b_nd) (Ne.symm ne_q_t) (Ne.symm ne_b_t) (Ne.symm ne_q_td) (Ne.symm ne_b_td) ne_hp_q ne_hp_b ne_hd_q ne_hd_b sq sb cp Hc hcp fm hfm Hf) (lenOf bFam_pd rfl) rfl rfl rfl (by decide) (by decide) (ce' := 18) (sl' := 161) rfl rfl (by decide) (by decide) ?_
    rintro _ h_43 σ_44 m_45 ⟨rfl, K_46, d, S, gd, sd⟩
    replace Tp := Tp.keep K_46 (ninS ne_hp_q (ninS ne_hp_b nin0)) (ninS ne_hd_q (ninS ne_hd_b nin0))
    replace Ex := Ex.keep K_46
    replace F := F.keep K_46 (ninS ne_x_q (ninS ne_x_b nin0))
    replace Tn := Tn.keep K_46 (ninS (Ne.symm ne_q_n) (ninS (Ne.symm ne_b_n) nin0)) (ninS (Ne.symm ne_q_nd) (ninS (Ne.symm ne_b_nd) nin0))
    replace Tt := Tt.keep K_46 (ninS (Ne.symm ne_q_t) (ninS (Ne.symm ne_b_t) nin0)) (ninS (Ne.symm ne_q_td) (ninS (Ne.symm ne_b_td) nin0))
    replace s_28 := m_45 _ s_28
    replace sq := m_45 _ sq
    replace sb := m_45 _ sb
    refine Road.aload 115 b0_d115 rfl ?_
    have hel := escL_len []
    simp only [List.length_cons, List.length_nil] at hel
    refine Road.callV (B' := bTxt) (a := x) 117 (argsL := []) (rest := []) "com/example/meerkat/meerkat/metrics/Exposition" 0 b0_d117 (hw _ (List.mem_of_getElem? (i := 157) rfl)) (hw _ (List.mem_of_getElem? (i := 158) rfl)) (fun vm hz => Road.notFace_sib (args := #[]) (mv (s := D.s.setVm vm) hz (hw _ (List.mem_of_getElem? (i := 64) rfl))) rfl) (hw _ (List.mem_of_getElem? (i := 160) rfl)) (hw _ (List.mem_of_getElem? (i := 159) rfl)) (hw _ (List.mem_of_getElem? (i := 15) rfl)) (hw _ (List.mem_of_getElem? (i := 161) rfl)) (by decide) Ex (cTxt l Z a0 hw n0 hEW x q d (([35, 32, 72, 69, 76, 80, 32] : List Int32) ++ [cn] ++ [32] ++ escL [] ++ ([10, 35, 32, 84, 89, 80, 69, 32] : List Int32) ++ [cn] ++ [32] ++ [ct] ++ [10]) 34 h_43 σ_44 F S (by simp only [List.length_append, List.length_cons, List.length_nil]; omega) (by simp only [List.length_append, List.length_cons, List.length_nil]; omega) cp Hc hcp) (lenOf bTxt_pd rfl) rfl rfl rfl (by decide) (by decide) (ce' := 20) (sl' := 190) rfl rfl (by decide) (by decide) ?_
    rintro _ h_47 σ_48 m_49 ⟨ta, tb, rfl, T⟩
    replace s_28 := m_49 _ s_28
    replace sq := m_49 _ sq
    replace sb := m_49 _ sb
    refine Road.astore 120 #[.val (.int p0), .val (.int p1), .val (.int p2), .val (.int p3), .val (.int p4), .val (.int cn), .val (.int ct), .val (.int c0), .val (.int c1), .val (.int (0 : Int32)), .val (.ref hp), .val (.ref x), .val (.ref ta), .unset] b0_d120 rfl ?_
    refine Road.iconst 122 (0 : Int32) b0_d122 rfl ?_
    refine Road.istore 123 #[.val (.int p0), .val (.int p1), .val (.int p2), .val (.int p3), .val (.int p4), .val (.int cn), .val (.int ct), .val (.int c0), .val (.int c1), .val (.int (0 : Int32)), .val (.ref hp), .val (.ref x), .val (.ref ta), .val (.int (0 : Int32))] b0_d123 rfl ?_
    refine Road.aload 125 b0_d125 rfl ?_
    refine Road.iload 127 b0_d127 rfl ?_
    refine Road.bipush 129 (35 : Int32) b0_d129 rfl ?_
    have eT : (([35, 32, 72, 69, 76, 80, 32] : List Int32) ++ [cn] ++ [32] ++ escL [] ++ ([10, 35, 32, 84, 89, 80, 69, 32] : List Int32) ++ [cn] ++ [32] ++ [ct] ++ [10]) = [] ++ (35 :: (32 :: (72 :: (69 :: (76 :: (80 :: (32 :: (cn :: (32 :: (10 :: (35 :: (32 :: (84 :: (89 :: (80 :: (69 :: (32 :: (cn :: (32 :: (ct :: (10 :: ([] : List Int32)))))))))))))))))))))) := by simp [escL]
    rw [eT] at T
    clear eT hel
    refine Road.callS (B' := bOne) 131 (argsL := [(.ref ta), (.int (Nat.toInt32 ([] : List Int32).length)), (.int (35 : Int32))]) (rest := []) 0 b0_d131 (hw _ (List.mem_of_getElem? (i := 197) rfl)) (hw _ (List.mem_of_getElem? (i := 198) rfl)) (hw _ (List.mem_of_getElem? (i := 2) rfl)) (hw _ (List.mem_of_getElem? (i := 199) rfl)) (by decide) (cOne l Z a0 hw n0 hEW ta tb ([] : List Int32) _ 35 h_47 σ_48 T cp Hc hcp fm hfm Hf) (lenOf bOne_pd rfl) rfl rfl rfl (by decide) (by decide) (ce' := 20) (sl' := 190) rfl rfl (by decide) (by decide) ?_
    rintro _ h_51 σ_52 m_53 ⟨rfl, rfl⟩
    refine Road.Go.weaken (σ' := σ_48) m_53 (Nat.le_refl _) (Nat.le_refl _) ?_
    obtain ⟨r0, hr0⟩ : ∃ r, r = ([] : List Int32) ++ [(35 : Int32)] := ⟨_, rfl⟩
    rw [← hr0]
    rw [List.append_cons, ← hr0] at T
    clear hr0
    refine Road.istore 134 #[.val (.int p0), .val (.int p1), .val (.int p2), .val (.int p3), .val (.int p4), .val (.int cn), .val (.int ct), .val (.int c0), .val (.int c1), .val (.int (0 : Int32)), .val (.ref hp), .val (.ref x), .val (.ref ta), .val (.int (Nat.toInt32 r0.length))] b0_d134 rfl ?_
    refine Road.aload 136 b0_d136 rfl ?_
    refine Road.iload 138 b0_d138 rfl ?_
    refine Road.bipush 140 (32 : Int32) b0_d140 rfl ?_
    refine Road.callS (B' := bOne) 142 (argsL := [(.ref ta), (.int (Nat.toInt32 r0.length)), (.int (32 : Int32))]) (rest := []) 0 b0_d142 (hw _ (List.mem_of_getElem? (i := 197) rfl)) (hw _ (List.mem_of_getElem? (i := 198) rfl)) (hw _ (List.mem_of_getElem? (i := 2) rfl)) (hw _ (List.mem_of_getElem? (i := 199) rfl)) (by decide) (cOne l Z a0 hw n0 hEW ta tb r0 _ 32 h_47 σ_48 T cp Hc hcp fm hfm Hf) (lenOf bOne_pd rfl) rfl rfl rfl (by decide) (by decide) (ce' := 20) (sl' := 190) rfl rfl (by decide) (by decide) ?_
    rintro _ h_55 σ_56 m_57 ⟨rfl, rfl⟩
    refine Road.Go.weaken (σ' := σ_48) m_57 (Nat.le_refl _) (Nat.le_refl _) ?_
    obtain ⟨r1, hr1⟩ : ∃ r, r = r0 ++ [(32 : Int32)] := ⟨_, rfl⟩
    rw [← hr1]
    rw [List.append_cons, ← hr1] at T
    clear hr1
    refine Road.istore 145 #[.val (.int p0), .val (.int p1), .val (.int p2), .val (.int p3), .val (.int p4), .val (.int cn), .val (.int ct), .val (.int c0), .val (.int c1), .val (.int (0 : Int32)), .val (.ref hp), .val (.ref x), .val (.ref ta), .val (.int (Nat.toInt32 r1.length))] b0_d145 rfl ?_
    refine Road.aload 147 b0_d147 rfl ?_
    refine Road.iload 149 b0_d149 rfl ?_
    refine Road.bipush 151 (72 : Int32) b0_d151 rfl ?_
    refine Road.callS (B' := bOne) 153 (argsL := [(.ref ta), (.int (Nat.toInt32 r1.length)), (.int (72 : Int32))]) (rest := []) 0 b0_d153 (hw _ (List.mem_of_getElem? (i := 197) rfl)) (hw _ (List.mem_of_getElem? (i := 198) rfl)) (hw _ (List.mem_of_getElem? (i := 2) rfl)) (hw _ (List.mem_of_getElem? (i := 199) rfl)) (by decide) (cOne l Z a0 hw n0 hEW ta tb r1 _ 72 h_47 σ_48 T cp Hc hcp fm hfm Hf) (lenOf bOne_pd rfl) rfl rfl rfl (by decide) (by decide) (ce' := 20) (sl' := 190) rfl rfl (by decide) (by decide) ?_
    rintro _ h_59 σ_60 m_61 ⟨rfl, rfl⟩
    refine Road.Go.weaken (σ' := σ_48) m_61 (Nat.le_refl _) (Nat.le_refl _) ?_
    obtain ⟨r2, hr2⟩ : ∃ r, r = r1 ++ [(72 : Int32)] := ⟨_, rfl⟩
    rw [← hr2]
    rw [List.append_cons, ← hr2] at T
    clear hr2
    refine Road.istore 156 #[.val (.int p0), .val (.int p1), .val (.int p2), .val (.int p3), .val (.int p4), .val (.int cn), .val (.int ct), .val (.int c0), .val (.int c1), .val (.int (0 : Int32)), .val (.ref hp), .val (.ref x), .val (.ref ta), .val (.int (Nat.toInt32 r2.length))] b0_d156 rfl ?_
    refine Road.aload 158 b0_d158 rfl ?_
    refine Road.iload 160 b0_d160 rfl ?_
    refine Road.bipush 162 (69 : Int32) b0_d162 rfl ?_
    refine Road.callS (B' := bOne) 164 (argsL := [(.ref ta), (.int (Nat.toInt32 r2.length)), (.int (69 : Int32))]) (rest := []) 0 b0_d164 (hw _ (List.mem_of_getElem? (i := 197) rfl)) (hw _ (List.mem_of_getElem? (i := 198) rfl)) (hw _ (List.mem_of_getElem? (i := 2) rfl)) (hw _ (List.mem_of_getElem? (i := 199) rfl)) (by decide) (cOne l Z a0 hw n0 hEW ta tb r2 _ 69 h_47 σ_48 T cp Hc hcp fm hfm Hf) (lenOf bOne_pd rfl) rfl rfl rfl (by decide) (by decide) (ce' := 20) (sl' := 190) rfl rfl (by decide) (by decide) ?_
    rintro _ h_63 σ_64 m_65 ⟨rfl, rfl⟩
    refine Road.Go.weaken (σ' := σ_48) m_65 (Nat.le_refl _) (Nat.le_refl _) ?_
    obtain ⟨r3, hr3⟩ : ∃ r, r = r2 ++ [(69 : Int32)] := ⟨_, rfl⟩
    rw [← hr3]
    rw [List.append_cons, ← hr3] at T
    clear hr3
    refine Road.istore 167 #[.val (.int p0), .val (.int p1), .val (.int p2), .val (.int p3), .val (.int p4), .val (.int cn), .val (.int ct), .val (.int c0), .val (.int c1), .val (.int (0 : Int32)), .val (.ref hp), .val (.ref x), .val (.ref ta), .val (.int (Nat.toInt32 r3.length))] b0_d167 rfl ?_
    refine Road.aload 169 b0_d169 rfl ?_
    refine Road.iload 171 b0_d171 rfl ?_
    refine Road.bipush 173 (76 : Int32) b0_d173 rfl ?_
    refine Road.callS (B' := bOne) 175 (argsL := [(.ref ta), (.int (Nat.toInt32 r3.length)), (.int (76 : Int32))]) (rest := []) 0 b0_d175 (hw _ (List.mem_of_getElem? (i := 197) rfl)) (hw _ (List.mem_of_getElem? (i := 198) rfl)) (hw _ (List.mem_of_getElem? (i := 2) rfl)) (hw _ (List.mem_of_getElem? (i := 199) rfl)) (by decide) (cOne l Z a0 hw n0 hEW ta tb r3 _ 76 h_47 σ_48 T cp Hc hcp fm hfm Hf) (lenOf bOne_pd rfl) rfl rfl rfl (by decide) (by decide) (ce' := 20) (sl' := 190) rfl rfl (by decide) (by decide) ?_
    rintro _ h_67 σ_68 m_69 ⟨rfl, rfl⟩
    refine Road.Go.weaken (σ' := σ_48) m_69 (Nat.le_refl _) (Nat.le_refl _) ?_
    obtain ⟨r4, hr4⟩ : ∃ r, r = r3 ++ [(76 : Int32)] := ⟨_, rfl⟩
    rw [← hr4]
    rw [List.append_cons, ← hr4] at T
    clear hr4
    refine Road.istore 178 #[.val (.int p0), .val (.int p1), .val (.int p2), .val (.int p3), .val (.int p4), .val (.int cn), .val (.int ct), .val (.int c0), .val (.int c1), .val (.int (0 : Int32)), .val (.ref hp), .val (.ref x), .val (.ref ta), .val (.int (Nat.toInt32 r4.length))] b0_d178 rfl ?_
    refine Road.aload 180 b0_d180 rfl ?_
    refine Road.iload 182 b0_d182 rfl ?_
    refine Road.bipush 184 (80 : Int32) b0_d184 rfl ?_
    refine Road.callS (B' := bOne) 186 (argsL := [(.ref ta), (.int (Nat.toInt32 r4.length)), (.int (80 : Int32))]) (rest := []) 0 b0_d186 (hw _ (List.mem_of_getElem? (i := 197) rfl)) (hw _ (List.mem_of_getElem? (i := 198) rfl)) (hw _ (List.mem_of_getElem? (i := 2) rfl)) (hw _ (List.mem_of_getElem? (i := 199) rfl)) (by decide) (cOne l Z a0 hw n0 hEW ta tb r4 _ 80 h_47 σ_48 T cp Hc hcp fm hfm Hf) (lenOf bOne_pd rfl) rfl rfl rfl (by decide) (by decide) (ce' := 20) (sl' := 190) rfl rfl (by decide) (by decide) ?_
    rintro _ h_71 σ_72 m_73 ⟨rfl, rfl⟩
    refine Road.Go.weaken (σ' := σ_48) m_73 (Nat.le_refl _) (Nat.le_refl _) ?_
    obtain ⟨r5, hr5⟩ : ∃ r, r = r4 ++ [(80 : Int32)] := ⟨_, rfl⟩
    rw [← hr5]
    rw [List.append_cons, ← hr5] at T
    clear hr5
    refine Road.istore 189 #[.val (.int p0), .val (.int p1), .val (.int p2), .val (.int p3), .val (.int p4), .val (.int cn), .val (.int ct), .val (.int c0), .val (.int c1), .val (.int (0 : Int32)), .val (.ref hp), .val (.ref x), .val (.ref ta), .val (.int (Nat.toInt32 r5.length))] b0_d189 rfl ?_
    refine Road.aload 191 b0_d191 rfl ?_
    refine Road.iload 193 b0_d193 rfl ?_
    refine Road.bipush 195 (32 : Int32) b0_d195 rfl ?_
    refine Road.callS (B' := bOne) 197 (argsL := [(.ref ta), (.int (Nat.toInt32 r5.length)), (.int (32 : Int32))]) (rest := []) 0 b0_d197 (hw _ (List.mem_of_getElem? (i := 197) rfl)) (hw _ (List.mem_of_getElem? (i := 198) rfl)) (hw _ (List.mem_of_getElem? (i := 2) rfl)) (hw _ (List.mem_of_getElem? (i := 199) rfl)) (by decide) (cOne l Z a0 hw n0 hEW ta tb r5 _ 32 h_47 σ_48 T cp Hc hcp fm hfm Hf) (lenOf bOne_pd rfl) rfl rfl rfl (by decide) (by decide) (ce' := 20) (sl' := 190) rfl rfl (by decide) (by decide) ?_
    rintro _ h_75 σ_76 m_77 ⟨rfl, rfl⟩
    refine Road.Go.weaken (σ' := σ_48) m_77 (Nat.le_refl _) (Nat.le_refl _) ?_
    obtain ⟨r6, hr6⟩ : ∃ r, r = r5 ++ [(32 : Int32)] := ⟨_, rfl⟩
    rw [← hr6]
    rw [List.append_cons, ← hr6] at T
    clear hr6
    refine Road.istore 200 #[.val (.int p0), .val (.int p1), .val (.int p2), .val (.int p3), .val (.int p4), .val (.int cn), .val (.int ct), .val (.int c0), .val (.int c1), .val (.int (0 : Int32)), .val (.ref hp), .val (.ref x), .val (.ref ta), .val (.int (Nat.toInt32 r6.length))] b0_d200 rfl ?_
    refine Road.aload 202 b0_d202 rfl ?_
    refine Road.iload 204 b0_d204 rfl ?_
    refine Road.iload 206 b0_d206 rfl ?_
    refine Road.callS (B' := bOne) 208 (argsL := [(.ref ta), (.int (Nat.toInt32 r6.length)), (.int cn)]) (rest := []) 0 b0_d208 (hw _ (List.mem_of_getElem? (i := 197) rfl)) (hw _ (List.mem_of_getElem? (i := 198) rfl)) (hw _ (List.mem_of_getElem? (i := 2) rfl)) (hw _ (List.mem_of_getElem? (i := 199) rfl)) (by decide) (cOne l Z a0 hw n0 hEW ta tb r6 _ cn h_47 σ_48 T cp Hc hcp fm hfm Hf) (lenOf bOne_pd rfl) rfl rfl rfl (by decide) (by decide) (ce' := 20) (sl' := 190) rfl rfl (by decide) (by decide) ?_
    rintro _ h_79 σ_80 m_81 ⟨rfl, rfl⟩
    refine Road.Go.weaken (σ' := σ_48) m_81 (Nat.le_refl _) (Nat.le_refl _) ?_
    obtain ⟨r7, hr7⟩ : ∃ r, r = r6 ++ [(cn : Int32)] := ⟨_, rfl⟩
    rw [← hr7]
    rw [List.append_cons, ← hr7] at T
    clear hr7
    refine Road.istore 211 #[.val (.int p0), .val (.int p1), .val (.int p2), .val (.int p3), .val (.int p4), .val (.int cn), .val (.int ct), .val (.int c0), .val (.int c1), .val (.int (0 : Int32)), .val (.ref hp), .val (.ref x), .val (.ref ta), .val (.int (Nat.toInt32 r7.length))] b0_d211 rfl ?_
    refine Road.aload 213 b0_d213 rfl ?_
    refine Road.iload 215 b0_d215 rfl ?_
    refine Road.bipush 217 (32 : Int32) b0_d217 rfl ?_
    refine Road.callS (B' := bOne) 219 (argsL := [(.ref ta), (.int (Nat.toInt32 r7.length)), (.int (32 : Int32))]) (rest := []) 0 b0_d219 (hw _ (List.mem_of_getElem? (i := 197) rfl)) (hw _ (List.mem_of_getElem? (i := 198) rfl)) (hw _ (List.mem_of_getElem? (i := 2) rfl)) (hw _ (List.mem_of_getElem? (i := 199) rfl)) (by decide) (cOne l Z a0 hw n0 hEW ta tb r7 _ 32 h_47 σ_48 T cp Hc hcp fm hfm Hf) (lenOf bOne_pd rfl) rfl rfl rfl (by decide) (by decide) (ce' := 20) (sl' := 190) rfl rfl (by decide) (by decide) ?_
    rintro _ h_83 σ_84 m_85 ⟨rfl, rfl⟩
    refine Road.Go.weaken (σ' := σ_48) m_85 (Nat.le_refl _) (Nat.le_refl _) ?_
    obtain ⟨r8, hr8⟩ : ∃ r, r = r7 ++ [(32 : Int32)] := ⟨_, rfl⟩
    rw [← hr8]
    rw [List.append_cons, ← hr8] at T
    clear hr8
    refine Road.istore 222 #[.val (.int p0), .val (.int p1), .val (.int p2), .val (.int p3), .val (.int p4), .val (.int cn), .val (.int ct), .val (.int c0), .val (.int c1), .val (.int (0 : Int32)), .val (.ref hp), .val (.ref x), .val (.ref ta), .val (.int (Nat.toInt32 r8.length))] b0_d222 rfl ?_
    refine Road.iload 224 b0_d224 rfl ?_
    refine Road.iconst 226 (1 : Int32) b0_d226 rfl ?_
    refine Road.icmp_lt 227 241 b0_d227 rfl (fun hc227 => ?_) (fun q => absurd q (by decide))
    refine Road.iload 241 b0_d241 rfl ?_
    refine Road.iconst 243 (2 : Int32) b0_d243 rfl ?_
    refine Road.icmp_ne 244 258 b0_d244 rfl (fun hc244 => ?_) (fun q => absurd q (by decide))
    refine Road.aload 258 b0_d258 rfl ?_
    refine Road.iload 260 b0_d260 rfl ?_
    refine Road.bipush 262 (10 : Int32) b0_d262 rfl ?_
    refine Road.callS (B' := bOne) 264 (argsL := [(.ref ta), (.int (Nat.toInt32 r8.length)), (.int (10 : Int32))]) (rest := []) 0 b0_d264 (hw _ (List.mem_of_getElem? (i := 197) rfl)) (hw _ (List.mem_of_getElem? (i := 198) rfl)) (hw _ (List.mem_of_getElem? (i := 2) rfl)) (hw _ (List.mem_of_getElem? (i := 199) rfl)) (by decide) (cOne l Z a0 hw n0 hEW ta tb r8 _ 10 h_47 σ_48 T cp Hc hcp fm hfm Hf) (lenOf bOne_pd rfl) rfl rfl rfl (by decide) (by decide) (ce' := 20) (sl' := 190) rfl rfl (by decide) (by decide) ?_
    rintro _ h_87 σ_88 m_89 ⟨rfl, rfl⟩
    refine Road.Go.weaken (σ' := σ_48) m_89 (Nat.le_refl _) (Nat.le_refl _) ?_
    obtain ⟨r9, hr9⟩ : ∃ r, r = r8 ++ [(10 : Int32)] := ⟨_, rfl⟩
    rw [← hr9]
    rw [List.append_cons, ← hr9] at T
    clear hr9
    refine Road.istore 267 #[.val (.int p0), .val (.int p1), .val (.int p2), .val (.int p3), .val (.int p4), .val (.int cn), .val (.int ct), .val (.int c0), .val (.int c1), .val (.int (0 : Int32)), .val (.ref hp), .val (.ref x), .val (.ref ta), .val (.int (Nat.toInt32 r9.length))] b0_d267 rfl ?_
    refine Road.aload 269 b0_d269 rfl ?_
    refine Road.iload 271 b0_d271 rfl ?_
    refine Road.bipush 273 (35 : Int32) b0_d273 rfl ?_
    refine Road.callS (B' := bOne) 275 (argsL := [(.ref ta), (.int (Nat.toInt32 r9.length)), (.int (35 : Int32))]) (rest := []) 0 b0_d275 (hw _ (List.mem_of_getElem? (i := 197) rfl)) (hw _ (List.mem_of_getElem? (i := 198) rfl)) (hw _ (List.mem_of_getElem? (i := 2) rfl)) (hw _ (List.mem_of_getElem? (i := 199) rfl)) (by decide) (cOne l Z a0 hw n0 hEW ta tb r9 _ 35 h_47 σ_48 T cp Hc hcp fm hfm Hf) (lenOf bOne_pd rfl) rfl rfl rfl (by decide) (by decide) (ce' := 20) (sl' := 190) rfl rfl (by decide) (by decide) ?_
    rintro _ h_91 σ_92 m_93 ⟨rfl, rfl⟩
    refine Road.Go.weaken (σ' := σ_48) m_93 (Nat.le_refl _) (Nat.le_refl _) ?_
    obtain ⟨r10, hr10⟩ : ∃ r, r = r9 ++ [(35 : Int32)] := ⟨_, rfl⟩
    rw [← hr10]
    rw [List.append_cons, ← hr10] at T
    clear hr10
    refine Road.istore 278 #[.val (.int p0), .val (.int p1), .val (.int p2), .val (.int p3), .val (.int p4), .val (.int cn), .val (.int ct), .val (.int c0), .val (.int c1), .val (.int (0 : Int32)), .val (.ref hp), .val (.ref x), .val (.ref ta), .val (.int (Nat.toInt32 r10.length))] b0_d278 rfl ?_
    refine Road.aload 280 b0_d280 rfl ?_
    refine Road.iload 282 b0_d282 rfl ?_
    refine Road.bipush 284 (32 : Int32) b0_d284 rfl ?_
    refine Road.callS (B' := bOne) 286 (argsL := [(.ref ta), (.int (Nat.toInt32 r10.length)), (.int (32 : Int32))]) (rest := []) 0 b0_d286 (hw _ (List.mem_of_getElem? (i := 197) rfl)) (hw _ (List.mem_of_getElem? (i := 198) rfl)) (hw _ (List.mem_of_getElem? (i := 2) rfl)) (hw _ (List.mem_of_getElem? (i := 199) rfl)) (by decide) (cOne l Z a0 hw n0 hEW ta tb r10 _ 32 h_47 σ_48 T cp Hc hcp fm hfm Hf) (lenOf bOne_pd rfl) rfl rfl rfl (by decide) (by decide) (ce' := 20) (sl' := 190) rfl rfl (by decide) (by decide) ?_
    rintro _ h_95 σ_96 m_97 ⟨rfl, rfl⟩
    refine Road.Go.weaken (σ' := σ_48) m_97 (Nat.le_refl _) (Nat.le_refl _) ?_
    obtain ⟨r11, hr11⟩ : ∃ r, r = r10 ++ [(32 : Int32)] := ⟨_, rfl⟩
    rw [← hr11]
    rw [List.append_cons, ← hr11] at T
    clear hr11
    refine Road.istore 289 #[.val (.int p0), .val (.int p1), .val (.int p2), .val (.int p3), .val (.int p4), .val (.int cn), .val (.int ct), .val (.int c0), .val (.int c1), .val (.int (0 : Int32)), .val (.ref hp), .val (.ref x), .val (.ref ta), .val (.int (Nat.toInt32 r11.length))] b0_d289 rfl ?_
    refine Road.aload 291 b0_d291 rfl ?_
    refine Road.iload 293 b0_d293 rfl ?_
    refine Road.bipush 295 (84 : Int32) b0_d295 rfl ?_
    refine Road.callS (B' := bOne) 297 (argsL := [(.ref ta), (.int (Nat.toInt32 r11.length)), (.int (84 : Int32))]) (rest := []) 0 b0_d297 (hw _ (List.mem_of_getElem? (i := 197) rfl)) (hw _ (List.mem_of_getElem? (i := 198) rfl)) (hw _ (List.mem_of_getElem? (i := 2) rfl)) (hw _ (List.mem_of_getElem? (i := 199) rfl)) (by decide) (cOne l Z a0 hw n0 hEW ta tb r11 _ 84 h_47 σ_48 T cp Hc hcp fm hfm Hf) (lenOf bOne_pd rfl) rfl rfl rfl (by decide) (by decide) (ce' := 20) (sl' := 190) rfl rfl (by decide) (by decide) ?_
    rintro _ h_99 σ_100 m_101 ⟨rfl, rfl⟩
    refine Road.Go.weaken (σ' := σ_48) m_101 (Nat.le_refl _) (Nat.le_refl _) ?_
    obtain ⟨r12, hr12⟩ : ∃ r, r = r11 ++ [(84 : Int32)] := ⟨_, rfl⟩
    rw [← hr12]
    rw [List.append_cons, ← hr12] at T
    clear hr12
    refine Road.istore 300 #[.val (.int p0), .val (.int p1), .val (.int p2), .val (.int p3), .val (.int p4), .val (.int cn), .val (.int ct), .val (.int c0), .val (.int c1), .val (.int (0 : Int32)), .val (.ref hp), .val (.ref x), .val (.ref ta), .val (.int (Nat.toInt32 r12.length))] b0_d300 rfl ?_
    refine Road.aload 302 b0_d302 rfl ?_
    refine Road.iload 304 b0_d304 rfl ?_
    refine Road.bipush 306 (89 : Int32) b0_d306 rfl ?_
    refine Road.callS (B' := bOne) 308 (argsL := [(.ref ta), (.int (Nat.toInt32 r12.length)), (.int (89 : Int32))]) (rest := []) 0 b0_d308 (hw _ (List.mem_of_getElem? (i := 197) rfl)) (hw _ (List.mem_of_getElem? (i := 198) rfl)) (hw _ (List.mem_of_getElem? (i := 2) rfl)) (hw _ (List.mem_of_getElem? (i := 199) rfl)) (by decide) (cOne l Z a0 hw n0 hEW ta tb r12 _ 89 h_47 σ_48 T cp Hc hcp fm hfm Hf) (lenOf bOne_pd rfl) rfl rfl rfl (by decide) (by decide) (ce' := 20) (sl' := 190) rfl rfl (by decide) (by decide) ?_
    rintro _ h_103 σ_104 m_105 ⟨rfl, rfl⟩
    refine Road.Go.weaken (σ' := σ_48) m_105 (Nat.le_refl _) (Nat.le_refl _) ?_
    obtain ⟨r13, hr13⟩ : ∃ r, r = r12 ++ [(89 : Int32)] := ⟨_, rfl⟩
    rw [← hr13]
    rw [List.append_cons, ← hr13] at T
    clear hr13
    refine Road.istore 311 #[.val (.int p0), .val (.int p1), .val (.int p2), .val (.int p3), .val (.int p4), .val (.int cn), .val (.int ct), .val (.int c0), .val (.int c1), .val (.int (0 : Int32)), .val (.ref hp), .val (.ref x), .val (.ref ta), .val (.int (Nat.toInt32 r13.length))] b0_d311 rfl ?_
    refine Road.aload 313 b0_d313 rfl ?_
    refine Road.iload 315 b0_d315 rfl ?_
    refine Road.bipush 317 (80 : Int32) b0_d317 rfl ?_
    refine Road.callS (B' := bOne) 319 (argsL := [(.ref ta), (.int (Nat.toInt32 r13.length)), (.int (80 : Int32))]) (rest := []) 0 b0_d319 (hw _ (List.mem_of_getElem? (i := 197) rfl)) (hw _ (List.mem_of_getElem? (i := 198) rfl)) (hw _ (List.mem_of_getElem? (i := 2) rfl)) (hw _ (List.mem_of_getElem? (i := 199) rfl)) (by decide) (cOne l Z a0 hw n0 hEW ta tb r13 _ 80 h_47 σ_48 T cp Hc hcp fm hfm Hf) (lenOf bOne_pd rfl) rfl rfl rfl (by decide) (by decide) (ce' := 20) (sl' := 190) rfl rfl (by decide) (by decide) ?_
    rintro _ h_107 σ_108 m_109 ⟨rfl, rfl⟩
    refine Road.Go.weaken (σ' := σ_48) m_109 (Nat.le_refl _) (Nat.le_refl _) ?_
    obtain ⟨r14, hr14⟩ : ∃ r, r = r13 ++ [(80 : Int32)] := ⟨_, rfl⟩
    rw [← hr14]
    rw [List.append_cons, ← hr14] at T
    clear hr14
    refine Road.istore 322 #[.val (.int p0), .val (.int p1), .val (.int p2), .val (.int p3), .val (.int p4), .val (.int cn), .val (.int ct), .val (.int c0), .val (.int c1), .val (.int (0 : Int32)), .val (.ref hp), .val (.ref x), .val (.ref ta), .val (.int (Nat.toInt32 r14.length))] b0_d322 rfl ?_
    refine Road.aload 324 b0_d324 rfl ?_
    refine Road.iload 326 b0_d326 rfl ?_
    refine Road.bipush 328 (69 : Int32) b0_d328 rfl ?_
    refine Road.callS (B' := bOne) 330 (argsL := [(.ref ta), (.int (Nat.toInt32 r14.length)), (.int (69 : Int32))]) (rest := []) 0 b0_d330 (hw _ (List.mem_of_getElem? (i := 197) rfl)) (hw _ (List.mem_of_getElem? (i := 198) rfl)) (hw _ (List.mem_of_getElem? (i := 2) rfl)) (hw _ (List.mem_of_getElem? (i := 199) rfl)) (by decide) (cOne l Z a0 hw n0 hEW ta tb r14 _ 69 h_47 σ_48 T cp Hc hcp fm hfm Hf) (lenOf bOne_pd rfl) rfl rfl rfl (by decide) (by decide) (ce' := 20) (sl' := 190) rfl rfl (by decide) (by decide) ?_
    rintro _ h_111 σ_112 m_113 ⟨rfl, rfl⟩
    refine Road.Go.weaken (σ' := σ_48) m_113 (Nat.le_refl _) (Nat.le_refl _) ?_
    obtain ⟨r15, hr15⟩ : ∃ r, r = r14 ++ [(69 : Int32)] := ⟨_, rfl⟩
    rw [← hr15]
    rw [List.append_cons, ← hr15] at T
    clear hr15
    refine Road.istore 333 #[.val (.int p0), .val (.int p1), .val (.int p2), .val (.int p3), .val (.int p4), .val (.int cn), .val (.int ct), .val (.int c0), .val (.int c1), .val (.int (0 : Int32)), .val (.ref hp), .val (.ref x), .val (.ref ta), .val (.int (Nat.toInt32 r15.length))] b0_d333 rfl ?_
    refine Road.aload 335 b0_d335 rfl ?_
    refine Road.iload 337 b0_d337 rfl ?_
    refine Road.bipush 339 (32 : Int32) b0_d339 rfl ?_
    refine Road.callS (B' := bOne) 341 (argsL := [(.ref ta), (.int (Nat.toInt32 r15.length)), (.int (32 : Int32))]) (rest := []) 0 b0_d341 (hw _ (List.mem_of_getElem? (i := 197) rfl)) (hw _ (List.mem_of_getElem? (i := 198) rfl)) (hw _ (List.mem_of_getElem? (i := 2) rfl)) (hw _ (List.mem_of_getElem? (i := 199) rfl)) (by decide) (cOne l Z a0 hw n0 hEW ta tb r15 _ 32 h_47 σ_48 T cp Hc hcp fm hfm Hf) (lenOf bOne_pd rfl) rfl rfl rfl (by decide) (by decide) (ce' := 20) (sl' := 190) rfl rfl (by decide) (by decide) ?_
    rintro _ h_115 σ_116 m_117 ⟨rfl, rfl⟩
    refine Road.Go.weaken (σ' := σ_48) m_117 (Nat.le_refl _) (Nat.le_refl _) ?_
    obtain ⟨r16, hr16⟩ : ∃ r, r = r15 ++ [(32 : Int32)] := ⟨_, rfl⟩
    rw [← hr16]
    rw [List.append_cons, ← hr16] at T
    clear hr16
    refine Road.istore 344 #[.val (.int p0), .val (.int p1), .val (.int p2), .val (.int p3), .val (.int p4), .val (.int cn), .val (.int ct), .val (.int c0), .val (.int c1), .val (.int (0 : Int32)), .val (.ref hp), .val (.ref x), .val (.ref ta), .val (.int (Nat.toInt32 r16.length))] b0_d344 rfl ?_
    refine Road.aload 346 b0_d346 rfl ?_
    refine Road.iload 348 b0_d348 rfl ?_
    refine Road.iload 350 b0_d350 rfl ?_
    refine Road.callS (B' := bOne) 352 (argsL := [(.ref ta), (.int (Nat.toInt32 r16.length)), (.int cn)]) (rest := []) 0 b0_d352 (hw _ (List.mem_of_getElem? (i := 197) rfl)) (hw _ (List.mem_of_getElem? (i := 198) rfl)) (hw _ (List.mem_of_getElem? (i := 2) rfl)) (hw _ (List.mem_of_getElem? (i := 199) rfl)) (by decide) (cOne l Z a0 hw n0 hEW ta tb r16 _ cn h_47 σ_48 T cp Hc hcp fm hfm Hf) (lenOf bOne_pd rfl) rfl rfl rfl (by decide) (by decide) (ce' := 20) (sl' := 190) rfl rfl (by decide) (by decide) ?_
    rintro _ h_119 σ_120 m_121 ⟨rfl, rfl⟩
    refine Road.Go.weaken (σ' := σ_48) m_121 (Nat.le_refl _) (Nat.le_refl _) ?_
    obtain ⟨r17, hr17⟩ : ∃ r, r = r16 ++ [(cn : Int32)] := ⟨_, rfl⟩
    rw [← hr17]
    rw [List.append_cons, ← hr17] at T
    clear hr17
    refine Road.istore 355 #[.val (.int p0), .val (.int p1), .val (.int p2), .val (.int p3), .val (.int p4), .val (.int cn), .val (.int ct), .val (.int c0), .val (.int c1), .val (.int (0 : Int32)), .val (.ref hp), .val (.ref x), .val (.ref ta), .val (.int (Nat.toInt32 r17.length))] b0_d355 rfl ?_
    refine Road.aload 357 b0_d357 rfl ?_
    refine Road.iload 359 b0_d359 rfl ?_
    refine Road.bipush 361 (32 : Int32) b0_d361 rfl ?_
    refine Road.callS (B' := bOne) 363 (argsL := [(.ref ta), (.int (Nat.toInt32 r17.length)), (.int (32 : Int32))]) (rest := []) 0 b0_d363 (hw _ (List.mem_of_getElem? (i := 197) rfl)) (hw _ (List.mem_of_getElem? (i := 198) rfl)) (hw _ (List.mem_of_getElem? (i := 2) rfl)) (hw _ (List.mem_of_getElem? (i := 199) rfl)) (by decide) (cOne l Z a0 hw n0 hEW ta tb r17 _ 32 h_47 σ_48 T cp Hc hcp fm hfm Hf) (lenOf bOne_pd rfl) rfl rfl rfl (by decide) (by decide) (ce' := 20) (sl' := 190) rfl rfl (by decide) (by decide) ?_
    rintro _ h_123 σ_124 m_125 ⟨rfl, rfl⟩
    refine Road.Go.weaken (σ' := σ_48) m_125 (Nat.le_refl _) (Nat.le_refl _) ?_
    obtain ⟨r18, hr18⟩ : ∃ r, r = r17 ++ [(32 : Int32)] := ⟨_, rfl⟩
    rw [← hr18]
    rw [List.append_cons, ← hr18] at T
    clear hr18
    refine Road.istore 366 #[.val (.int p0), .val (.int p1), .val (.int p2), .val (.int p3), .val (.int p4), .val (.int cn), .val (.int ct), .val (.int c0), .val (.int c1), .val (.int (0 : Int32)), .val (.ref hp), .val (.ref x), .val (.ref ta), .val (.int (Nat.toInt32 r18.length))] b0_d366 rfl ?_
    refine Road.aload 368 b0_d368 rfl ?_
    refine Road.iload 370 b0_d370 rfl ?_
    refine Road.iload 372 b0_d372 rfl ?_
    refine Road.callS (B' := bOne) 374 (argsL := [(.ref ta), (.int (Nat.toInt32 r18.length)), (.int ct)]) (rest := []) 0 b0_d374 (hw _ (List.mem_of_getElem? (i := 197) rfl)) (hw _ (List.mem_of_getElem? (i := 198) rfl)) (hw _ (List.mem_of_getElem? (i := 2) rfl)) (hw _ (List.mem_of_getElem? (i := 199) rfl)) (by decide) (cOne l Z a0 hw n0 hEW ta tb r18 _ ct h_47 σ_48 T cp Hc hcp fm hfm Hf) (lenOf bOne_pd rfl) rfl rfl rfl (by decide) (by decide) (ce' := 20) (sl' := 190) rfl rfl (by decide) (by decide) ?_
    rintro _ h_127 σ_128 m_129 ⟨rfl, rfl⟩
    refine Road.Go.weaken (σ' := σ_48) m_129 (Nat.le_refl _) (Nat.le_refl _) ?_
    obtain ⟨r19, hr19⟩ : ∃ r, r = r18 ++ [(ct : Int32)] := ⟨_, rfl⟩
    rw [← hr19]
    rw [List.append_cons, ← hr19] at T
    clear hr19
    refine Road.istore 377 #[.val (.int p0), .val (.int p1), .val (.int p2), .val (.int p3), .val (.int p4), .val (.int cn), .val (.int ct), .val (.int c0), .val (.int c1), .val (.int (0 : Int32)), .val (.ref hp), .val (.ref x), .val (.ref ta), .val (.int (Nat.toInt32 r19.length))] b0_d377 rfl ?_
    refine Road.aload 379 b0_d379 rfl ?_
    refine Road.iload 381 b0_d381 rfl ?_
    refine Road.bipush 383 (10 : Int32) b0_d383 rfl ?_
    refine Road.callS (B' := bOne) 385 (argsL := [(.ref ta), (.int (Nat.toInt32 r19.length)), (.int (10 : Int32))]) (rest := []) 0 b0_d385 (hw _ (List.mem_of_getElem? (i := 197) rfl)) (hw _ (List.mem_of_getElem? (i := 198) rfl)) (hw _ (List.mem_of_getElem? (i := 2) rfl)) (hw _ (List.mem_of_getElem? (i := 199) rfl)) (by decide) (cOne l Z a0 hw n0 hEW ta tb r19 _ 10 h_47 σ_48 T cp Hc hcp fm hfm Hf) (lenOf bOne_pd rfl) rfl rfl rfl (by decide) (by decide) (ce' := 20) (sl' := 190) rfl rfl (by decide) (by decide) ?_
    rintro _ h_131 σ_132 m_133 ⟨rfl, rfl⟩
    refine Road.Go.weaken (σ' := σ_48) m_133 (Nat.le_refl _) (Nat.le_refl _) ?_
    obtain ⟨r20, hr20⟩ : ∃ r, r = r19 ++ [(10 : Int32)] := ⟨_, rfl⟩
    rw [← hr20]
    rw [List.append_cons, ← hr20] at T
    clear hr20
    refine Road.istore 388 #[.val (.int p0), .val (.int p1), .val (.int p2), .val (.int p3), .val (.int p4), .val (.int cn), .val (.int ct), .val (.int c0), .val (.int c1), .val (.int (0 : Int32)), .val (.ref hp), .val (.ref x), .val (.ref ta), .val (.int (Nat.toInt32 r20.length))] b0_d388 rfl ?_
    refine Road.iload 390 b0_d390 rfl ?_
    refine Road.aload 392 b0_d392 rfl ?_
    refine Road.callV (B' := bLen) (a := ta) 394 (argsL := []) (rest := [(.int (Nat.toInt32 r20.length))]) "java/lang/String" 1 b0_d394 (hw _ (List.mem_of_getElem? (i := 200) rfl)) (hw _ (List.mem_of_getElem? (i := 78) rfl)) (fun vm hz => Road.notFace_sib (args := #[]) (mv (s := D.s.setVm vm) hz (hw _ (List.mem_of_getElem? (i := 80) rfl))) rfl) (hw _ (List.mem_of_getElem? (i := 80) rfl)) (hw _ (List.mem_of_getElem? (i := 79) rfl)) (hw _ (List.mem_of_getElem? (i := 6) rfl)) (hw _ (List.mem_of_getElem? (i := 81) rfl)) (by decide) T.1 (cLen l Z a0 hw n0 hEW ta tb _ h_47 σ_48 T cp Hc hcp) (lenOf bLen_pd rfl) rfl rfl rfl (by decide) (by decide) (ce' := 20) (sl' := 190) rfl rfl (by decide) (by decide) ?_
    rintro _ h_135 σ_136 m_137 ⟨rfl, rfl⟩
    refine Road.Go.weaken (σ' := σ_48) m_137 (Nat.le_refl _) (Nat.le_refl _) ?_
    refine Road.nameI ?_
    intro z hz
    refine Road.icmp_ne 397 404 b0_d397 rfl (fun q => absurd q (by rw [Decidable.not_not, hz]; congr 1; simp)) (fun hc397 => ?_)
    refine Road.iconst 400 (1 : Int32) b0_d400 rfl ?_
    refine Road.goto 401 405 b0_d401 rfl ?_
    exact Road.iret 405 1 b0_d405 (t := .boolean) rfl (by simp) rfl (by decide) (by decide) (fun σ' m => rfl)
  · skip
    refine Road.istore 31 #[.val (.int p0), .val (.int p1), .val (.int p2), .val (.int p3), .val (.int p4), .val (.int cn), .val (.int ct), .val (.int c0), .val (.int c1), .val (.int (1 : Int32)), .unset, .unset, .unset, .unset] b0_d31 rfl ?_
    refine Road.iload 33 b0_d33 rfl ?_
    refine Road.if_ne 35 45 b0_d35 rfl (fun hc35 => ?_) (fun q => absurd q (by decide))
    refine Road.iload 45 b0_d45 rfl ?_
    refine Road.iconst 47 (1 : Int32) b0_d47 rfl ?_
    refine Road.icmp_ne 48 61 b0_d48 rfl (fun q => absurd q (by decide)) (fun hc48 => ?_)
    refine Road.iload 51 b0_d51 rfl ?_
    refine Road.callS (B' := bVal) 53 (argsL := [(.int c0)]) (rest := []) 0 b0_d53 (hw _ (List.mem_of_getElem? (i := 42) rfl)) (hw _ (List.mem_of_getElem? (i := 43) rfl)) (hw _ (List.mem_of_getElem? (i := 6) rfl)) (hw _ (List.mem_of_getElem? (i := 44) rfl)) (by decide) (cVal l Z a0 hw n0 hEW c0 h0 σ lc0 cp Hc hcp) (lenOf bVal_pd rfl) rfl rfl rfl (by decide) (by decide) (ce' := 2) (sl' := 5) rfl rfl (by decide) (by decide) ?_
    rintro _ h_139 σ_140 m_141 ⟨hp, hd, rfl, ghp, ghd, K_142, Tp⟩
    refine Road.astore 56 #[.val (.int p0), .val (.int p1), .val (.int p2), .val (.int p3), .val (.int p4), .val (.int cn), .val (.int ct), .val (.int c0), .val (.int c1), .val (.int (1 : Int32)), .val (.ref hp), .unset, .unset, .unset] b0_d56 rfl ?_
    refine Road.goto 58 89 b0_d58 rfl ?_
    refine Road.new 89 "com/example/meerkat/meerkat/metrics/Exposition" b0_d89 (hw _ (List.mem_of_getElem? (i := 13) rfl)) (hw _ (List.mem_of_getElem? (i := 14) rfl)) (hw _ (List.mem_of_getElem? (i := 15) rfl)) (ce' := 3) (sl' := 6) rfl rfl (by decide) (by decide) ?_
    intro x h_143 σ_144 g_145 K_146 lt_147 m_148 s_149 Ex D_150 M_151
    have ne_hp_x : hp ≠ x := Nat.ne_of_lt (Nat.lt_of_lt_of_le Tp.lt (Nat.le_of_eq g_145.symm))
    have ne_hd_x : hd ≠ x := Nat.ne_of_lt (Nat.lt_of_lt_of_le Tp.ltb (Nat.le_of_eq g_145.symm))
    replace Tp := Tp.keep K_146 nin0 nin0
    have Fx := D_150 (Or.inr (hw _ (List.mem_of_getElem? (i := 41) rfl))) (ty := (.object "java/lang/StringBuilder")) (by decide)
    refine Road.dup 92 b0_d92 ?_
    refine Road.callI (B' := bExI) (a := x) 93 (argsL := []) (rest := [(.ref x)]) 1 b0_d93 (hw _ (List.mem_of_getElem? (i := 16) rfl)) (hw _ (List.mem_of_getElem? (i := 17) rfl)) (hw _ (List.mem_of_getElem? (i := 15) rfl)) (hw _ (List.mem_of_getElem? (i := 18) rfl)) rfl rfl (by decide) (cExI l Z a0 hw n0 hEW x h_143 σ_144 Ex Fx s_149 cp Hc hcp) (lenOf bExI_pd rfl) rfl rfl rfl (by decide) (by decide) (ce' := 5) (sl' := 26) rfl rfl (by decide) (by decide) ?_
    rintro _ h_152 σ_153 m_154 ⟨rfl, K_155, q, b, F, S, gq, gb, sq, sb⟩
    have ne_hp_q : hp ≠ q := Nat.ne_of_lt (Nat.lt_of_lt_of_le Tp.lt gq)
    have ne_hd_q : hd ≠ q := Nat.ne_of_lt (Nat.lt_of_lt_of_le Tp.ltb gq)
    have ne_x_q : x ≠ q := Nat.ne_of_lt (Nat.lt_of_lt_of_le Ex.lt gq)
    have ne_hp_b : hp ≠ b := Nat.ne_of_lt (Nat.lt_of_lt_of_le Tp.lt gb)
    have ne_hd_b : hd ≠ b := Nat.ne_of_lt (Nat.lt_of_lt_of_le Tp.ltb gb)
    have ne_x_b : x ≠ b := Nat.ne_of_lt (Nat.lt_of_lt_of_le Ex.lt gb)
    replace Tp := Tp.keep K_155 (ninS ne_hp_x nin0) (ninS ne_hd_x nin0)
    replace Ex := Ex.keep K_155
    replace s_149 := m_154 _ s_149
    refine Road.astore 96 #[.val (.int p0), .val (.int p1), .val (.int p2), .val (.int p3), .val (.int p4), .val (.int cn), .val (.int ct), .val (.int c0), .val (.int c1), .val (.int (1 : Int32)), .val (.ref hp), .val (.ref x), .unset, .unset] b0_d96 rfl ?_
    refine Road.aload 98 b0_d98 rfl ?_
    refine Road.iload 100 b0_d100 rfl ?_
    refine Road.callS (B' := bVal) 102 (argsL := [(.int cn)]) (rest := [(.ref x)]) 1 b0_d102 (hw _ (List.mem_of_getElem? (i := 42) rfl)) (hw _ (List.mem_of_getElem? (i := 43) rfl)) (hw _ (List.mem_of_getElem? (i := 6) rfl)) (hw _ (List.mem_of_getElem? (i := 44) rfl)) (by decide) (cVal l Z a0 hw n0 hEW cn h_152 σ_153 lcn cp Hc hcp) (lenOf bVal_pd rfl) rfl rfl rfl (by decide) (by decide) (ce' := 7) (sl' := 31) rfl rfl (by decide) (by decide) ?_
    rintro _ h_156 σ_157 m_158 ⟨n, nd, rfl, gn, gnd, K_159, Tn⟩
    have ne_hp_n : hp ≠ n := Nat.ne_of_lt (Nat.lt_of_lt_of_le Tp.lt gn)
    have ne_hd_n : hd ≠ n := Nat.ne_of_lt (Nat.lt_of_lt_of_le Tp.ltb gn)
    have ne_x_n : x ≠ n := Nat.ne_of_lt (Nat.lt_of_lt_of_le Ex.lt gn)
    have ne_q_n : q ≠ n := Nat.ne_of_lt (Nat.lt_of_lt_of_le S.lt gn)
    have ne_b_n : b ≠ n := Nat.ne_of_lt (Nat.lt_of_lt_of_le S.ltb gn)
    have ne_hp_nd : hp ≠ nd := Nat.ne_of_lt (Nat.lt_of_lt_of_le Tp.lt gnd)
    have ne_hd_nd : hd ≠ nd := Nat.ne_of_lt (Nat.lt_of_lt_of_le Tp.ltb gnd)
    have ne_x_nd : x ≠ nd := Nat.ne_of_lt (Nat.lt_of_lt_of_le Ex.lt gnd)
    have ne_q_nd : q ≠ nd := Nat.ne_of_lt (Nat.lt_of_lt_of_le S.lt gnd)
    have ne_b_nd : b ≠ nd := Nat.ne_of_lt (Nat.lt_of_lt_of_le S.ltb gnd)
    replace Tp := Tp.keep K_159 nin0 nin0
    replace Ex := Ex.keep K_159
    replace F := F.keep K_159 nin0
    replace S := S.keep K_159 nin0 nin0
    replace s_149 := m_158 _ s_149
    replace sq := m_158 _ sq
    replace sb := m_158 _ sb
    refine Road.iload 105 b0_d105 rfl ?_
    refine Road.callS (B' := bVal) 107 (argsL := [(.int ct)]) (rest := [(.ref n), (.ref x)]) 2 b0_d107 (hw _ (List.mem_of_getElem? (i := 42) rfl)) (hw _ (List.mem_of_getElem? (i := 43) rfl)) (hw _ (List.mem_of_getElem? (i := 6) rfl)) (hw _ (List.mem_of_getElem? (i := 44) rfl)) (by decide) (cVal l Z a0 hw n0 hEW ct h_156 σ_157 lct cp Hc hcp) (lenOf bVal_pd rfl) rfl rfl rfl (by decide) (by decide) (ce' := 9) (sl' := 36) rfl rfl (by decide) (by decide) ?_
    rintro _ h_160 σ_161 m_162 ⟨t, td, rfl, gt, gtd, K_163, Tt⟩
    have ne_hp_t : hp ≠ t := Nat.ne_of_lt (Nat.lt_of_lt_of_le Tp.lt gt)
    have ne_hd_t : hd ≠ t := Nat.ne_of_lt (Nat.lt_of_lt_of_le Tp.ltb gt)
    have ne_x_t : x ≠ t := Nat.ne_of_lt (Nat.lt_of_lt_of_le Ex.lt gt)
    have ne_q_t : q ≠ t := Nat.ne_of_lt (Nat.lt_of_lt_of_le S.lt gt)
    have ne_b_t : b ≠ t := Nat.ne_of_lt (Nat.lt_of_lt_of_le S.ltb gt)
    have ne_n_t : n ≠ t := Nat.ne_of_lt (Nat.lt_of_lt_of_le Tn.lt gt)
    have ne_nd_t : nd ≠ t := Nat.ne_of_lt (Nat.lt_of_lt_of_le Tn.ltb gt)
    have ne_hp_td : hp ≠ td := Nat.ne_of_lt (Nat.lt_of_lt_of_le Tp.lt gtd)
    have ne_hd_td : hd ≠ td := Nat.ne_of_lt (Nat.lt_of_lt_of_le Tp.ltb gtd)
    have ne_x_td : x ≠ td := Nat.ne_of_lt (Nat.lt_of_lt_of_le Ex.lt gtd)
    have ne_q_td : q ≠ td := Nat.ne_of_lt (Nat.lt_of_lt_of_le S.lt gtd)
    have ne_b_td : b ≠ td := Nat.ne_of_lt (Nat.lt_of_lt_of_le S.ltb gtd)
    have ne_n_td : n ≠ td := Nat.ne_of_lt (Nat.lt_of_lt_of_le Tn.lt gtd)
    have ne_nd_td : nd ≠ td := Nat.ne_of_lt (Nat.lt_of_lt_of_le Tn.ltb gtd)
    replace Tp := Tp.keep K_163 nin0 nin0
    replace Ex := Ex.keep K_163
    replace F := F.keep K_163 nin0
    replace S := S.keep K_163 nin0 nin0
    replace Tn := Tn.keep K_163 nin0 nin0
    replace s_149 := m_162 _ s_149
    replace sq := m_162 _ sq
    replace sb := m_162 _ sb
    refine Road.aload 110 b0_d110 rfl ?_
    refine Road.callV (B' := bFam) (a := x) 112 (argsL := [(.ref n), (.ref t), (.ref hp)]) (rest := []) "com/example/meerkat/meerkat/metrics/Exposition" 0 b0_d112 (hw _ (List.mem_of_getElem? (i := 61) rfl)) (hw _ (List.mem_of_getElem? (i := 62) rfl)) (fun vm hz => Road.notFace_sib (args := #[]) (mv (s := D.s.setVm vm) hz (hw _ (List.mem_of_getElem? (i := 64) rfl))) rfl) (hw _ (List.mem_of_getElem? (i := 64) rfl)) (hw _ (List.mem_of_getElem? (i := 63) rfl)) (hw _ (List.mem_of_getElem? (i := 15) rfl)) (hw _ (List.mem_of_getElem? (i := 65) rfl)) (by decide) Ex (cFam l Z a0 hw n0 hEW x q b n nd t td hp hd cn ct [c0] h_160 σ_161 F S Tn Tt Tp (by simp) ne_x_q ne_x_b (Ne.symm ne_q_n) (Ne.symm ne_b_n) (Ne.symm ne_q_nd) (Ne.symm ne_b_nd) (Ne.symm ne_q_t) (Ne.symm ne_b_t) (Ne.symm ne_q_td) (Ne.symm ne_b_td) ne_hp_q ne_hp_b ne_hd_q ne_hd_b sq sb cp Hc hcp fm hfm Hf) (lenOf bFam_pd rfl) rfl rfl rfl (by decide) (by decide) (ce' := 18) (sl' := 162) rfl rfl (by decide) (by decide) ?_
    rintro _ h_164 σ_165 m_166 ⟨rfl, K_167, d, S, gd, sd⟩
    replace Tp := Tp.keep K_167 (ninS ne_hp_q (ninS ne_hp_b nin0)) (ninS ne_hd_q (ninS ne_hd_b nin0))
    replace Ex := Ex.keep K_167
    replace F := F.keep K_167 (ninS ne_x_q (ninS ne_x_b nin0))
    replace Tn := Tn.keep K_167 (ninS (Ne.symm ne_q_n) (ninS (Ne.symm ne_b_n) nin0)) (ninS (Ne.symm ne_q_nd) (ninS (Ne.symm ne_b_nd) nin0))
    replace Tt := Tt.keep K_167 (ninS (Ne.symm ne_q_t) (ninS (Ne.symm ne_b_t) nin0)) (ninS (Ne.symm ne_q_td) (ninS (Ne.symm ne_b_td) nin0))
    replace s_149 := m_166 _ s_149
    replace sq := m_166 _ sq
    replace sb := m_166 _ sb
    refine Road.aload 115 b0_d115 rfl ?_
    have hel := escL_len [c0]
    simp only [List.length_cons, List.length_nil] at hel
    refine Road.callV (B' := bTxt) (a := x) 117 (argsL := []) (rest := []) "com/example/meerkat/meerkat/metrics/Exposition" 0 b0_d117 (hw _ (List.mem_of_getElem? (i := 157) rfl)) (hw _ (List.mem_of_getElem? (i := 158) rfl)) (fun vm hz => Road.notFace_sib (args := #[]) (mv (s := D.s.setVm vm) hz (hw _ (List.mem_of_getElem? (i := 64) rfl))) rfl) (hw _ (List.mem_of_getElem? (i := 160) rfl)) (hw _ (List.mem_of_getElem? (i := 159) rfl)) (hw _ (List.mem_of_getElem? (i := 15) rfl)) (hw _ (List.mem_of_getElem? (i := 161) rfl)) (by decide) Ex (cTxt l Z a0 hw n0 hEW x q d (([35, 32, 72, 69, 76, 80, 32] : List Int32) ++ [cn] ++ [32] ++ escL [c0] ++ ([10, 35, 32, 84, 89, 80, 69, 32] : List Int32) ++ [cn] ++ [32] ++ [ct] ++ [10]) 34 h_164 σ_165 F S (by simp only [List.length_append, List.length_cons, List.length_nil]; omega) (by simp only [List.length_append, List.length_cons, List.length_nil]; omega) cp Hc hcp) (lenOf bTxt_pd rfl) rfl rfl rfl (by decide) (by decide) (ce' := 20) (sl' := 191) rfl rfl (by decide) (by decide) ?_
    rintro _ h_168 σ_169 m_170 ⟨ta, tb, rfl, T⟩
    replace s_149 := m_170 _ s_149
    replace sq := m_170 _ sq
    replace sb := m_170 _ sb
    refine Road.astore 120 #[.val (.int p0), .val (.int p1), .val (.int p2), .val (.int p3), .val (.int p4), .val (.int cn), .val (.int ct), .val (.int c0), .val (.int c1), .val (.int (1 : Int32)), .val (.ref hp), .val (.ref x), .val (.ref ta), .unset] b0_d120 rfl ?_
    refine Road.iconst 122 (0 : Int32) b0_d122 rfl ?_
    refine Road.istore 123 #[.val (.int p0), .val (.int p1), .val (.int p2), .val (.int p3), .val (.int p4), .val (.int cn), .val (.int ct), .val (.int c0), .val (.int c1), .val (.int (1 : Int32)), .val (.ref hp), .val (.ref x), .val (.ref ta), .val (.int (0 : Int32))] b0_d123 rfl ?_
    refine Road.aload 125 b0_d125 rfl ?_
    refine Road.iload 127 b0_d127 rfl ?_
    refine Road.bipush 129 (35 : Int32) b0_d129 rfl ?_
    have eT : (([35, 32, 72, 69, 76, 80, 32] : List Int32) ++ [cn] ++ [32] ++ escL [c0] ++ ([10, 35, 32, 84, 89, 80, 69, 32] : List Int32) ++ [cn] ++ [32] ++ [ct] ++ [10]) = [] ++ (35 :: (32 :: (72 :: (69 :: (76 :: (80 :: (32 :: (cn :: (32 :: (escC c0 ++ (10 :: (35 :: (32 :: (84 :: (89 :: (80 :: (69 :: (32 :: (cn :: (32 :: (ct :: (10 :: ([] : List Int32))))))))))))))))))))))) := by simp [escL]
    rw [eT] at T
    clear eT hel
    refine Road.callS (B' := bOne) 131 (argsL := [(.ref ta), (.int (Nat.toInt32 ([] : List Int32).length)), (.int (35 : Int32))]) (rest := []) 0 b0_d131 (hw _ (List.mem_of_getElem? (i := 197) rfl)) (hw _ (List.mem_of_getElem? (i := 198) rfl)) (hw _ (List.mem_of_getElem? (i := 2) rfl)) (hw _ (List.mem_of_getElem? (i := 199) rfl)) (by decide) (cOne l Z a0 hw n0 hEW ta tb ([] : List Int32) _ 35 h_168 σ_169 T cp Hc hcp fm hfm Hf) (lenOf bOne_pd rfl) rfl rfl rfl (by decide) (by decide) (ce' := 20) (sl' := 191) rfl rfl (by decide) (by decide) ?_
    rintro _ h_172 σ_173 m_174 ⟨rfl, rfl⟩
    refine Road.Go.weaken (σ' := σ_169) m_174 (Nat.le_refl _) (Nat.le_refl _) ?_
    obtain ⟨r0, hr0⟩ : ∃ r, r = ([] : List Int32) ++ [(35 : Int32)] := ⟨_, rfl⟩
    rw [← hr0]
    rw [List.append_cons, ← hr0] at T
    clear hr0
    refine Road.istore 134 #[.val (.int p0), .val (.int p1), .val (.int p2), .val (.int p3), .val (.int p4), .val (.int cn), .val (.int ct), .val (.int c0), .val (.int c1), .val (.int (1 : Int32)), .val (.ref hp), .val (.ref x), .val (.ref ta), .val (.int (Nat.toInt32 r0.length))] b0_d134 rfl ?_
    refine Road.aload 136 b0_d136 rfl ?_
    refine Road.iload 138 b0_d138 rfl ?_
    refine Road.bipush 140 (32 : Int32) b0_d140 rfl ?_
    refine Road.callS (B' := bOne) 142 (argsL := [(.ref ta), (.int (Nat.toInt32 r0.length)), (.int (32 : Int32))]) (rest := []) 0 b0_d142 (hw _ (List.mem_of_getElem? (i := 197) rfl)) (hw _ (List.mem_of_getElem? (i := 198) rfl)) (hw _ (List.mem_of_getElem? (i := 2) rfl)) (hw _ (List.mem_of_getElem? (i := 199) rfl)) (by decide) (cOne l Z a0 hw n0 hEW ta tb r0 _ 32 h_168 σ_169 T cp Hc hcp fm hfm Hf) (lenOf bOne_pd rfl) rfl rfl rfl (by decide) (by decide) (ce' := 20) (sl' := 191) rfl rfl (by decide) (by decide) ?_
    rintro _ h_176 σ_177 m_178 ⟨rfl, rfl⟩
    refine Road.Go.weaken (σ' := σ_169) m_178 (Nat.le_refl _) (Nat.le_refl _) ?_
    obtain ⟨r1, hr1⟩ : ∃ r, r = r0 ++ [(32 : Int32)] := ⟨_, rfl⟩
    rw [← hr1]
    rw [List.append_cons, ← hr1] at T
    clear hr1
    refine Road.istore 145 #[.val (.int p0), .val (.int p1), .val (.int p2), .val (.int p3), .val (.int p4), .val (.int cn), .val (.int ct), .val (.int c0), .val (.int c1), .val (.int (1 : Int32)), .val (.ref hp), .val (.ref x), .val (.ref ta), .val (.int (Nat.toInt32 r1.length))] b0_d145 rfl ?_
    refine Road.aload 147 b0_d147 rfl ?_
    refine Road.iload 149 b0_d149 rfl ?_
    refine Road.bipush 151 (72 : Int32) b0_d151 rfl ?_
    refine Road.callS (B' := bOne) 153 (argsL := [(.ref ta), (.int (Nat.toInt32 r1.length)), (.int (72 : Int32))]) (rest := []) 0 b0_d153 (hw _ (List.mem_of_getElem? (i := 197) rfl)) (hw _ (List.mem_of_getElem? (i := 198) rfl)) (hw _ (List.mem_of_getElem? (i := 2) rfl)) (hw _ (List.mem_of_getElem? (i := 199) rfl)) (by decide) (cOne l Z a0 hw n0 hEW ta tb r1 _ 72 h_168 σ_169 T cp Hc hcp fm hfm Hf) (lenOf bOne_pd rfl) rfl rfl rfl (by decide) (by decide) (ce' := 20) (sl' := 191) rfl rfl (by decide) (by decide) ?_
    rintro _ h_180 σ_181 m_182 ⟨rfl, rfl⟩
    refine Road.Go.weaken (σ' := σ_169) m_182 (Nat.le_refl _) (Nat.le_refl _) ?_
    obtain ⟨r2, hr2⟩ : ∃ r, r = r1 ++ [(72 : Int32)] := ⟨_, rfl⟩
    rw [← hr2]
    rw [List.append_cons, ← hr2] at T
    clear hr2
    refine Road.istore 156 #[.val (.int p0), .val (.int p1), .val (.int p2), .val (.int p3), .val (.int p4), .val (.int cn), .val (.int ct), .val (.int c0), .val (.int c1), .val (.int (1 : Int32)), .val (.ref hp), .val (.ref x), .val (.ref ta), .val (.int (Nat.toInt32 r2.length))] b0_d156 rfl ?_
    refine Road.aload 158 b0_d158 rfl ?_
    refine Road.iload 160 b0_d160 rfl ?_
    refine Road.bipush 162 (69 : Int32) b0_d162 rfl ?_
    refine Road.callS (B' := bOne) 164 (argsL := [(.ref ta), (.int (Nat.toInt32 r2.length)), (.int (69 : Int32))]) (rest := []) 0 b0_d164 (hw _ (List.mem_of_getElem? (i := 197) rfl)) (hw _ (List.mem_of_getElem? (i := 198) rfl)) (hw _ (List.mem_of_getElem? (i := 2) rfl)) (hw _ (List.mem_of_getElem? (i := 199) rfl)) (by decide) (cOne l Z a0 hw n0 hEW ta tb r2 _ 69 h_168 σ_169 T cp Hc hcp fm hfm Hf) (lenOf bOne_pd rfl) rfl rfl rfl (by decide) (by decide) (ce' := 20) (sl' := 191) rfl rfl (by decide) (by decide) ?_
    rintro _ h_184 σ_185 m_186 ⟨rfl, rfl⟩
    refine Road.Go.weaken (σ' := σ_169) m_186 (Nat.le_refl _) (Nat.le_refl _) ?_
    obtain ⟨r3, hr3⟩ : ∃ r, r = r2 ++ [(69 : Int32)] := ⟨_, rfl⟩
    rw [← hr3]
    rw [List.append_cons, ← hr3] at T
    clear hr3
    refine Road.istore 167 #[.val (.int p0), .val (.int p1), .val (.int p2), .val (.int p3), .val (.int p4), .val (.int cn), .val (.int ct), .val (.int c0), .val (.int c1), .val (.int (1 : Int32)), .val (.ref hp), .val (.ref x), .val (.ref ta), .val (.int (Nat.toInt32 r3.length))] b0_d167 rfl ?_
    refine Road.aload 169 b0_d169 rfl ?_
    refine Road.iload 171 b0_d171 rfl ?_
    refine Road.bipush 173 (76 : Int32) b0_d173 rfl ?_
    refine Road.callS (B' := bOne) 175 (argsL := [(.ref ta), (.int (Nat.toInt32 r3.length)), (.int (76 : Int32))]) (rest := []) 0 b0_d175 (hw _ (List.mem_of_getElem? (i := 197) rfl)) (hw _ (List.mem_of_getElem? (i := 198) rfl)) (hw _ (List.mem_of_getElem? (i := 2) rfl)) (hw _ (List.mem_of_getElem? (i := 199) rfl)) (by decide) (cOne l Z a0 hw n0 hEW ta tb r3 _ 76 h_168 σ_169 T cp Hc hcp fm hfm Hf) (lenOf bOne_pd rfl) rfl rfl rfl (by decide) (by decide) (ce' := 20) (sl' := 191) rfl rfl (by decide) (by decide) ?_
    rintro _ h_188 σ_189 m_190 ⟨rfl, rfl⟩
    refine Road.Go.weaken (σ' := σ_169) m_190 (Nat.le_refl _) (Nat.le_refl _) ?_
    obtain ⟨r4, hr4⟩ : ∃ r, r = r3 ++ [(76 : Int32)] := ⟨_, rfl⟩
    rw [← hr4]
    rw [List.append_cons, ← hr4] at T
    clear hr4
    refine Road.istore 178 #[.val (.int p0), .val (.int p1), .val (.int p2), .val (.int p3), .val (.int p4), .val (.int cn), .val (.int ct), .val (.int c0), .val (.int c1), .val (.int (1 : Int32)), .val (.ref hp), .val (.ref x), .val (.ref ta), .val (.int (Nat.toInt32 r4.length))] b0_d178 rfl ?_
    refine Road.aload 180 b0_d180 rfl ?_
    refine Road.iload 182 b0_d182 rfl ?_
    refine Road.bipush 184 (80 : Int32) b0_d184 rfl ?_
    refine Road.callS (B' := bOne) 186 (argsL := [(.ref ta), (.int (Nat.toInt32 r4.length)), (.int (80 : Int32))]) (rest := []) 0 b0_d186 (hw _ (List.mem_of_getElem? (i := 197) rfl)) (hw _ (List.mem_of_getElem? (i := 198) rfl)) (hw _ (List.mem_of_getElem? (i := 2) rfl)) (hw _ (List.mem_of_getElem? (i := 199) rfl)) (by decide) (cOne l Z a0 hw n0 hEW ta tb r4 _ 80 h_168 σ_169 T cp Hc hcp fm hfm Hf) (lenOf bOne_pd rfl) rfl rfl rfl (by decide) (by decide) (ce' := 20) (sl' := 191) rfl rfl (by decide) (by decide) ?_
    rintro _ h_192 σ_193 m_194 ⟨rfl, rfl⟩
    refine Road.Go.weaken (σ' := σ_169) m_194 (Nat.le_refl _) (Nat.le_refl _) ?_
    obtain ⟨r5, hr5⟩ : ∃ r, r = r4 ++ [(80 : Int32)] := ⟨_, rfl⟩
    rw [← hr5]
    rw [List.append_cons, ← hr5] at T
    clear hr5
    refine Road.istore 189 #[.val (.int p0), .val (.int p1), .val (.int p2), .val (.int p3), .val (.int p4), .val (.int cn), .val (.int ct), .val (.int c0), .val (.int c1), .val (.int (1 : Int32)), .val (.ref hp), .val (.ref x), .val (.ref ta), .val (.int (Nat.toInt32 r5.length))] b0_d189 rfl ?_
    refine Road.aload 191 b0_d191 rfl ?_
    refine Road.iload 193 b0_d193 rfl ?_
    refine Road.bipush 195 (32 : Int32) b0_d195 rfl ?_
    refine Road.callS (B' := bOne) 197 (argsL := [(.ref ta), (.int (Nat.toInt32 r5.length)), (.int (32 : Int32))]) (rest := []) 0 b0_d197 (hw _ (List.mem_of_getElem? (i := 197) rfl)) (hw _ (List.mem_of_getElem? (i := 198) rfl)) (hw _ (List.mem_of_getElem? (i := 2) rfl)) (hw _ (List.mem_of_getElem? (i := 199) rfl)) (by decide) (cOne l Z a0 hw n0 hEW ta tb r5 _ 32 h_168 σ_169 T cp Hc hcp fm hfm Hf) (lenOf bOne_pd rfl) rfl rfl rfl (by decide) (by decide) (ce' := 20) (sl' := 191) rfl rfl (by decide) (by decide) ?_
    rintro _ h_196 σ_197 m_198 ⟨rfl, rfl⟩
    refine Road.Go.weaken (σ' := σ_169) m_198 (Nat.le_refl _) (Nat.le_refl _) ?_
    obtain ⟨r6, hr6⟩ : ∃ r, r = r5 ++ [(32 : Int32)] := ⟨_, rfl⟩
    rw [← hr6]
    rw [List.append_cons, ← hr6] at T
    clear hr6
    refine Road.istore 200 #[.val (.int p0), .val (.int p1), .val (.int p2), .val (.int p3), .val (.int p4), .val (.int cn), .val (.int ct), .val (.int c0), .val (.int c1), .val (.int (1 : Int32)), .val (.ref hp), .val (.ref x), .val (.ref ta), .val (.int (Nat.toInt32 r6.length))] b0_d200 rfl ?_
    refine Road.aload 202 b0_d202 rfl ?_
    refine Road.iload 204 b0_d204 rfl ?_
    refine Road.iload 206 b0_d206 rfl ?_
    refine Road.callS (B' := bOne) 208 (argsL := [(.ref ta), (.int (Nat.toInt32 r6.length)), (.int cn)]) (rest := []) 0 b0_d208 (hw _ (List.mem_of_getElem? (i := 197) rfl)) (hw _ (List.mem_of_getElem? (i := 198) rfl)) (hw _ (List.mem_of_getElem? (i := 2) rfl)) (hw _ (List.mem_of_getElem? (i := 199) rfl)) (by decide) (cOne l Z a0 hw n0 hEW ta tb r6 _ cn h_168 σ_169 T cp Hc hcp fm hfm Hf) (lenOf bOne_pd rfl) rfl rfl rfl (by decide) (by decide) (ce' := 20) (sl' := 191) rfl rfl (by decide) (by decide) ?_
    rintro _ h_200 σ_201 m_202 ⟨rfl, rfl⟩
    refine Road.Go.weaken (σ' := σ_169) m_202 (Nat.le_refl _) (Nat.le_refl _) ?_
    obtain ⟨r7, hr7⟩ : ∃ r, r = r6 ++ [(cn : Int32)] := ⟨_, rfl⟩
    rw [← hr7]
    rw [List.append_cons, ← hr7] at T
    clear hr7
    refine Road.istore 211 #[.val (.int p0), .val (.int p1), .val (.int p2), .val (.int p3), .val (.int p4), .val (.int cn), .val (.int ct), .val (.int c0), .val (.int c1), .val (.int (1 : Int32)), .val (.ref hp), .val (.ref x), .val (.ref ta), .val (.int (Nat.toInt32 r7.length))] b0_d211 rfl ?_
    refine Road.aload 213 b0_d213 rfl ?_
    refine Road.iload 215 b0_d215 rfl ?_
    refine Road.bipush 217 (32 : Int32) b0_d217 rfl ?_
    refine Road.callS (B' := bOne) 219 (argsL := [(.ref ta), (.int (Nat.toInt32 r7.length)), (.int (32 : Int32))]) (rest := []) 0 b0_d219 (hw _ (List.mem_of_getElem? (i := 197) rfl)) (hw _ (List.mem_of_getElem? (i := 198) rfl)) (hw _ (List.mem_of_getElem? (i := 2) rfl)) (hw _ (List.mem_of_getElem? (i := 199) rfl)) (by decide) (cOne l Z a0 hw n0 hEW ta tb r7 _ 32 h_168 σ_169 T cp Hc hcp fm hfm Hf) (lenOf bOne_pd rfl) rfl rfl rfl (by decide) (by decide) (ce' := 20) (sl' := 191) rfl rfl (by decide) (by decide) ?_
    rintro _ h_204 σ_205 m_206 ⟨rfl, rfl⟩
    refine Road.Go.weaken (σ' := σ_169) m_206 (Nat.le_refl _) (Nat.le_refl _) ?_
    obtain ⟨r8, hr8⟩ : ∃ r, r = r7 ++ [(32 : Int32)] := ⟨_, rfl⟩
    rw [← hr8]
    rw [List.append_cons, ← hr8] at T
    clear hr8
    refine Road.istore 222 #[.val (.int p0), .val (.int p1), .val (.int p2), .val (.int p3), .val (.int p4), .val (.int cn), .val (.int ct), .val (.int c0), .val (.int c1), .val (.int (1 : Int32)), .val (.ref hp), .val (.ref x), .val (.ref ta), .val (.int (Nat.toInt32 r8.length))] b0_d222 rfl ?_
    refine Road.iload 224 b0_d224 rfl ?_
    refine Road.iconst 226 (1 : Int32) b0_d226 rfl ?_
    refine Road.icmp_lt 227 241 b0_d227 rfl (fun q => absurd q (by decide)) (fun hc227 => ?_)
    refine Road.aload 230 b0_d230 rfl ?_
    refine Road.iload 232 b0_d232 rfl ?_
    refine Road.iload 234 b0_d234 rfl ?_
    refine Road.callS (B' := bEsc) 236 (argsL := [(.ref ta), (.int (Nat.toInt32 r8.length)), (.int c0)]) (rest := []) 0 b0_d236 (hw _ (List.mem_of_getElem? (i := 223) rfl)) (hw _ (List.mem_of_getElem? (i := 224) rfl)) (hw _ (List.mem_of_getElem? (i := 2) rfl)) (hw _ (List.mem_of_getElem? (i := 225) rfl)) (by decide) (cEsc l Z a0 hw n0 hEW ta tb r8 _ c0 h_168 σ_169 T cp Hc hcp fm hfm Hf) (lenOf bEsc_pd rfl) rfl rfl rfl (by decide) (by decide) (ce' := 20) (sl' := 191) rfl rfl (by decide) (by decide) ?_
    rintro _ h_208 σ_209 m_210 ⟨rfl, rfl⟩
    refine Road.Go.weaken (σ' := σ_169) m_210 (Nat.le_refl _) (Nat.le_refl _) ?_
    obtain ⟨r9, hr9⟩ : ∃ r, r = r8 ++ escC c0 := ⟨_, rfl⟩
    rw [← hr9]
    rw [← List.append_assoc, ← hr9] at T
    clear hr9
    refine Road.istore 239 #[.val (.int p0), .val (.int p1), .val (.int p2), .val (.int p3), .val (.int p4), .val (.int cn), .val (.int ct), .val (.int c0), .val (.int c1), .val (.int (1 : Int32)), .val (.ref hp), .val (.ref x), .val (.ref ta), .val (.int (Nat.toInt32 r9.length))] b0_d239 rfl ?_
    refine Road.iload 241 b0_d241 rfl ?_
    refine Road.iconst 243 (2 : Int32) b0_d243 rfl ?_
    refine Road.icmp_ne 244 258 b0_d244 rfl (fun hc244 => ?_) (fun q => absurd q (by decide))
    refine Road.aload 258 b0_d258 rfl ?_
    refine Road.iload 260 b0_d260 rfl ?_
    refine Road.bipush 262 (10 : Int32) b0_d262 rfl ?_
    refine Road.callS (B' := bOne) 264 (argsL := [(.ref ta), (.int (Nat.toInt32 r9.length)), (.int (10 : Int32))]) (rest := []) 0 b0_d264 (hw _ (List.mem_of_getElem? (i := 197) rfl)) (hw _ (List.mem_of_getElem? (i := 198) rfl)) (hw _ (List.mem_of_getElem? (i := 2) rfl)) (hw _ (List.mem_of_getElem? (i := 199) rfl)) (by decide) (cOne l Z a0 hw n0 hEW ta tb r9 _ 10 h_168 σ_169 T cp Hc hcp fm hfm Hf) (lenOf bOne_pd rfl) rfl rfl rfl (by decide) (by decide) (ce' := 20) (sl' := 191) rfl rfl (by decide) (by decide) ?_
    rintro _ h_212 σ_213 m_214 ⟨rfl, rfl⟩
    refine Road.Go.weaken (σ' := σ_169) m_214 (Nat.le_refl _) (Nat.le_refl _) ?_
    obtain ⟨r10, hr10⟩ : ∃ r, r = r9 ++ [(10 : Int32)] := ⟨_, rfl⟩
    rw [← hr10]
    rw [List.append_cons, ← hr10] at T
    clear hr10
    refine Road.istore 267 #[.val (.int p0), .val (.int p1), .val (.int p2), .val (.int p3), .val (.int p4), .val (.int cn), .val (.int ct), .val (.int c0), .val (.int c1), .val (.int (1 : Int32)), .val (.ref hp), .val (.ref x), .val (.ref ta), .val (.int (Nat.toInt32 r10.length))] b0_d267 rfl ?_
    refine Road.aload 269 b0_d269 rfl ?_
    refine Road.iload 271 b0_d271 rfl ?_
    refine Road.bipush 273 (35 : Int32) b0_d273 rfl ?_
    refine Road.callS (B' := bOne) 275 (argsL := [(.ref ta), (.int (Nat.toInt32 r10.length)), (.int (35 : Int32))]) (rest := []) 0 b0_d275 (hw _ (List.mem_of_getElem? (i := 197) rfl)) (hw _ (List.mem_of_getElem? (i := 198) rfl)) (hw _ (List.mem_of_getElem? (i := 2) rfl)) (hw _ (List.mem_of_getElem? (i := 199) rfl)) (by decide) (cOne l Z a0 hw n0 hEW ta tb r10 _ 35 h_168 σ_169 T cp Hc hcp fm hfm Hf) (lenOf bOne_pd rfl) rfl rfl rfl (by decide) (by decide) (ce' := 20) (sl' := 191) rfl rfl (by decide) (by decide) ?_
    rintro _ h_216 σ_217 m_218 ⟨rfl, rfl⟩
    refine Road.Go.weaken (σ' := σ_169) m_218 (Nat.le_refl _) (Nat.le_refl _) ?_
    obtain ⟨r11, hr11⟩ : ∃ r, r = r10 ++ [(35 : Int32)] := ⟨_, rfl⟩
    rw [← hr11]
    rw [List.append_cons, ← hr11] at T
    clear hr11
    refine Road.istore 278 #[.val (.int p0), .val (.int p1), .val (.int p2), .val (.int p3), .val (.int p4), .val (.int cn), .val (.int ct), .val (.int c0), .val (.int c1), .val (.int (1 : Int32)), .val (.ref hp), .val (.ref x), .val (.ref ta), .val (.int (Nat.toInt32 r11.length))] b0_d278 rfl ?_
    refine Road.aload 280 b0_d280 rfl ?_
    refine Road.iload 282 b0_d282 rfl ?_
    refine Road.bipush 284 (32 : Int32) b0_d284 rfl ?_
    refine Road.callS (B' := bOne) 286 (argsL := [(.ref ta), (.int (Nat.toInt32 r11.length)), (.int (32 : Int32))]) (rest := []) 0 b0_d286 (hw _ (List.mem_of_getElem? (i := 197) rfl)) (hw _ (List.mem_of_getElem? (i := 198) rfl)) (hw _ (List.mem_of_getElem? (i := 2) rfl)) (hw _ (List.mem_of_getElem? (i := 199) rfl)) (by decide) (cOne l Z a0 hw n0 hEW ta tb r11 _ 32 h_168 σ_169 T cp Hc hcp fm hfm Hf) (lenOf bOne_pd rfl) rfl rfl rfl (by decide) (by decide) (ce' := 20) (sl' := 191) rfl rfl (by decide) (by decide) ?_
    rintro _ h_220 σ_221 m_222 ⟨rfl, rfl⟩
    refine Road.Go.weaken (σ' := σ_169) m_222 (Nat.le_refl _) (Nat.le_refl _) ?_
    obtain ⟨r12, hr12⟩ : ∃ r, r = r11 ++ [(32 : Int32)] := ⟨_, rfl⟩
    rw [← hr12]
    rw [List.append_cons, ← hr12] at T
    clear hr12
    refine Road.istore 289 #[.val (.int p0), .val (.int p1), .val (.int p2), .val (.int p3), .val (.int p4), .val (.int cn), .val (.int ct), .val (.int c0), .val (.int c1), .val (.int (1 : Int32)), .val (.ref hp), .val (.ref x), .val (.ref ta), .val (.int (Nat.toInt32 r12.length))] b0_d289 rfl ?_
    refine Road.aload 291 b0_d291 rfl ?_
    refine Road.iload 293 b0_d293 rfl ?_
    refine Road.bipush 295 (84 : Int32) b0_d295 rfl ?_
    refine Road.callS (B' := bOne) 297 (argsL := [(.ref ta), (.int (Nat.toInt32 r12.length)), (.int (84 : Int32))]) (rest := []) 0 b0_d297 (hw _ (List.mem_of_getElem? (i := 197) rfl)) (hw _ (List.mem_of_getElem? (i := 198) rfl)) (hw _ (List.mem_of_getElem? (i := 2) rfl)) (hw _ (List.mem_of_getElem? (i := 199) rfl)) (by decide) (cOne l Z a0 hw n0 hEW ta tb r12 _ 84 h_168 σ_169 T cp Hc hcp fm hfm Hf) (lenOf bOne_pd rfl) rfl rfl rfl (by decide) (by decide) (ce' := 20) (sl' := 191) rfl rfl (by decide) (by decide) ?_
    rintro _ h_224 σ_225 m_226 ⟨rfl, rfl⟩
    refine Road.Go.weaken (σ' := σ_169) m_226 (Nat.le_refl _) (Nat.le_refl _) ?_
    obtain ⟨r13, hr13⟩ : ∃ r, r = r12 ++ [(84 : Int32)] := ⟨_, rfl⟩
    rw [← hr13]
    rw [List.append_cons, ← hr13] at T
    clear hr13
    refine Road.istore 300 #[.val (.int p0), .val (.int p1), .val (.int p2), .val (.int p3), .val (.int p4), .val (.int cn), .val (.int ct), .val (.int c0), .val (.int c1), .val (.int (1 : Int32)), .val (.ref hp), .val (.ref x), .val (.ref ta), .val (.int (Nat.toInt32 r13.length))] b0_d300 rfl ?_
    refine Road.aload 302 b0_d302 rfl ?_
    refine Road.iload 304 b0_d304 rfl ?_
    refine Road.bipush 306 (89 : Int32) b0_d306 rfl ?_
    refine Road.callS (B' := bOne) 308 (argsL := [(.ref ta), (.int (Nat.toInt32 r13.length)), (.int (89 : Int32))]) (rest := []) 0 b0_d308 (hw _ (List.mem_of_getElem? (i := 197) rfl)) (hw _ (List.mem_of_getElem? (i := 198) rfl)) (hw _ (List.mem_of_getElem? (i := 2) rfl)) (hw _ (List.mem_of_getElem? (i := 199) rfl)) (by decide) (cOne l Z a0 hw n0 hEW ta tb r13 _ 89 h_168 σ_169 T cp Hc hcp fm hfm Hf) (lenOf bOne_pd rfl) rfl rfl rfl (by decide) (by decide) (ce' := 20) (sl' := 191) rfl rfl (by decide) (by decide) ?_
    rintro _ h_228 σ_229 m_230 ⟨rfl, rfl⟩
    refine Road.Go.weaken (σ' := σ_169) m_230 (Nat.le_refl _) (Nat.le_refl _) ?_
    obtain ⟨r14, hr14⟩ : ∃ r, r = r13 ++ [(89 : Int32)] := ⟨_, rfl⟩
    rw [← hr14]
    rw [List.append_cons, ← hr14] at T
    clear hr14
    refine Road.istore 311 #[.val (.int p0), .val (.int p1), .val (.int p2), .val (.int p3), .val (.int p4), .val (.int cn), .val (.int ct), .val (.int c0), .val (.int c1), .val (.int (1 : Int32)), .val (.ref hp), .val (.ref x), .val (.ref ta), .val (.int (Nat.toInt32 r14.length))] b0_d311 rfl ?_
    refine Road.aload 313 b0_d313 rfl ?_
    refine Road.iload 315 b0_d315 rfl ?_
    refine Road.bipush 317 (80 : Int32) b0_d317 rfl ?_
    refine Road.callS (B' := bOne) 319 (argsL := [(.ref ta), (.int (Nat.toInt32 r14.length)), (.int (80 : Int32))]) (rest := []) 0 b0_d319 (hw _ (List.mem_of_getElem? (i := 197) rfl)) (hw _ (List.mem_of_getElem? (i := 198) rfl)) (hw _ (List.mem_of_getElem? (i := 2) rfl)) (hw _ (List.mem_of_getElem? (i := 199) rfl)) (by decide) (cOne l Z a0 hw n0 hEW ta tb r14 _ 80 h_168 σ_169 T cp Hc hcp fm hfm Hf) (lenOf bOne_pd rfl) rfl rfl rfl (by decide) (by decide) (ce' := 20) (sl' := 191) rfl rfl (by decide) (by decide) ?_
    rintro _ h_232 σ_233 m_234 ⟨rfl, rfl⟩
    refine Road.Go.weaken (σ' := σ_169) m_234 (Nat.le_refl _) (Nat.le_refl _) ?_
    obtain ⟨r15, hr15⟩ : ∃ r, r = r14 ++ [(80 : Int32)] := ⟨_, rfl⟩
    rw [← hr15]
    rw [List.append_cons, ← hr15] at T
    clear hr15
    refine Road.istore 322 #[.val (.int p0), .val (.int p1), .val (.int p2), .val (.int p3), .val (.int p4), .val (.int cn), .val (.int ct), .val (.int c0), .val (.int c1), .val (.int (1 : Int32)), .val (.ref hp), .val (.ref x), .val (.ref ta), .val (.int (Nat.toInt32 r15.length))] b0_d322 rfl ?_
    refine Road.aload 324 b0_d324 rfl ?_
    refine Road.iload 326 b0_d326 rfl ?_
    refine Road.bipush 328 (69 : Int32) b0_d328 rfl ?_
    refine Road.callS (B' := bOne) 330 (argsL := [(.ref ta), (.int (Nat.toInt32 r15.length)), (.int (69 : Int32))]) (rest := []) 0 b0_d330 (hw _ (List.mem_of_getElem? (i := 197) rfl)) (hw _ (List.mem_of_getElem? (i := 198) rfl)) (hw _ (List.mem_of_getElem? (i := 2) rfl)) (hw _ (List.mem_of_getElem? (i := 199) rfl)) (by decide) (cOne l Z a0 hw n0 hEW ta tb r15 _ 69 h_168 σ_169 T cp Hc hcp fm hfm Hf) (lenOf bOne_pd rfl) rfl rfl rfl (by decide) (by decide) (ce' := 20) (sl' := 191) rfl rfl (by decide) (by decide) ?_
    rintro _ h_236 σ_237 m_238 ⟨rfl, rfl⟩
    refine Road.Go.weaken (σ' := σ_169) m_238 (Nat.le_refl _) (Nat.le_refl _) ?_
    obtain ⟨r16, hr16⟩ : ∃ r, r = r15 ++ [(69 : Int32)] := ⟨_, rfl⟩
    rw [← hr16]
    rw [List.append_cons, ← hr16] at T
    clear hr16
    refine Road.istore 333 #[.val (.int p0), .val (.int p1), .val (.int p2), .val (.int p3), .val (.int p4), .val (.int cn), .val (.int ct), .val (.int c0), .val (.int c1), .val (.int (1 : Int32)), .val (.ref hp), .val (.ref x), .val (.ref ta), .val (.int (Nat.toInt32 r16.length))] b0_d333 rfl ?_
    refine Road.aload 335 b0_d335 rfl ?_
    refine Road.iload 337 b0_d337 rfl ?_
    refine Road.bipush 339 (32 : Int32) b0_d339 rfl ?_
    refine Road.callS (B' := bOne) 341 (argsL := [(.ref ta), (.int (Nat.toInt32 r16.length)), (.int (32 : Int32))]) (rest := []) 0 b0_d341 (hw _ (List.mem_of_getElem? (i := 197) rfl)) (hw _ (List.mem_of_getElem? (i := 198) rfl)) (hw _ (List.mem_of_getElem? (i := 2) rfl)) (hw _ (List.mem_of_getElem? (i := 199) rfl)) (by decide) (cOne l Z a0 hw n0 hEW ta tb r16 _ 32 h_168 σ_169 T cp Hc hcp fm hfm Hf) (lenOf bOne_pd rfl) rfl rfl rfl (by decide) (by decide) (ce' := 20) (sl' := 191) rfl rfl (by decide) (by decide) ?_
    rintro _ h_240 σ_241 m_242 ⟨rfl, rfl⟩
    refine Road.Go.weaken (σ' := σ_169) m_242 (Nat.le_refl _) (Nat.le_refl _) ?_
    obtain ⟨r17, hr17⟩ : ∃ r, r = r16 ++ [(32 : Int32)] := ⟨_, rfl⟩
    rw [← hr17]
    rw [List.append_cons, ← hr17] at T
    clear hr17
    refine Road.istore 344 #[.val (.int p0), .val (.int p1), .val (.int p2), .val (.int p3), .val (.int p4), .val (.int cn), .val (.int ct), .val (.int c0), .val (.int c1), .val (.int (1 : Int32)), .val (.ref hp), .val (.ref x), .val (.ref ta), .val (.int (Nat.toInt32 r17.length))] b0_d344 rfl ?_
    refine Road.aload 346 b0_d346 rfl ?_
    refine Road.iload 348 b0_d348 rfl ?_
    refine Road.iload 350 b0_d350 rfl ?_
    refine Road.callS (B' := bOne) 352 (argsL := [(.ref ta), (.int (Nat.toInt32 r17.length)), (.int cn)]) (rest := []) 0 b0_d352 (hw _ (List.mem_of_getElem? (i := 197) rfl)) (hw _ (List.mem_of_getElem? (i := 198) rfl)) (hw _ (List.mem_of_getElem? (i := 2) rfl)) (hw _ (List.mem_of_getElem? (i := 199) rfl)) (by decide) (cOne l Z a0 hw n0 hEW ta tb r17 _ cn h_168 σ_169 T cp Hc hcp fm hfm Hf) (lenOf bOne_pd rfl) rfl rfl rfl (by decide) (by decide) (ce' := 20) (sl' := 191) rfl rfl (by decide) (by decide) ?_
    rintro _ h_244 σ_245 m_246 ⟨rfl, rfl⟩
    refine Road.Go.weaken (σ' := σ_169) m_246 (Nat.le_refl _) (Nat.le_refl _) ?_
    obtain ⟨r18, hr18⟩ : ∃ r, r = r17 ++ [(cn : Int32)] := ⟨_, rfl⟩
    rw [← hr18]
    rw [List.append_cons, ← hr18] at T
    clear hr18
    refine Road.istore 355 #[.val (.int p0), .val (.int p1), .val (.int p2), .val (.int p3), .val (.int p4), .val (.int cn), .val (.int ct), .val (.int c0), .val (.int c1), .val (.int (1 : Int32)), .val (.ref hp), .val (.ref x), .val (.ref ta), .val (.int (Nat.toInt32 r18.length))] b0_d355 rfl ?_
    refine Road.aload 357 b0_d357 rfl ?_
    refine Road.iload 359 b0_d359 rfl ?_
    refine Road.bipush 361 (32 : Int32) b0_d361 rfl ?_
    refine Road.callS (B' := bOne) 363 (argsL := [(.ref ta), (.int (Nat.toInt32 r18.length)), (.int (32 : Int32))]) (rest := []) 0 b0_d363 (hw _ (List.mem_of_getElem? (i := 197) rfl)) (hw _ (List.mem_of_getElem? (i := 198) rfl)) (hw _ (List.mem_of_getElem? (i := 2) rfl)) (hw _ (List.mem_of_getElem? (i := 199) rfl)) (by decide) (cOne l Z a0 hw n0 hEW ta tb r18 _ 32 h_168 σ_169 T cp Hc hcp fm hfm Hf) (lenOf bOne_pd rfl) rfl rfl rfl (by decide) (by decide) (ce' := 20) (sl' := 191) rfl rfl (by decide) (by decide) ?_
    rintro _ h_248 σ_249 m_250 ⟨rfl, rfl⟩
    refine Road.Go.weaken (σ' := σ_169) m_250 (Nat.le_refl _) (Nat.le_refl _) ?_
    obtain ⟨r19, hr19⟩ : ∃ r, r = r18 ++ [(32 : Int32)] := ⟨_, rfl⟩
    rw [← hr19]
    rw [List.append_cons, ← hr19] at T
    clear hr19
    refine Road.istore 366 #[.val (.int p0), .val (.int p1), .val (.int p2), .val (.int p3), .val (.int p4), .val (.int cn), .val (.int ct), .val (.int c0), .val (.int c1), .val (.int (1 : Int32)), .val (.ref hp), .val (.ref x), .val (.ref ta), .val (.int (Nat.toInt32 r19.length))] b0_d366 rfl ?_
    refine Road.aload 368 b0_d368 rfl ?_
    refine Road.iload 370 b0_d370 rfl ?_
    refine Road.iload 372 b0_d372 rfl ?_
    refine Road.callS (B' := bOne) 374 (argsL := [(.ref ta), (.int (Nat.toInt32 r19.length)), (.int ct)]) (rest := []) 0 b0_d374 (hw _ (List.mem_of_getElem? (i := 197) rfl)) (hw _ (List.mem_of_getElem? (i := 198) rfl)) (hw _ (List.mem_of_getElem? (i := 2) rfl)) (hw _ (List.mem_of_getElem? (i := 199) rfl)) (by decide) (cOne l Z a0 hw n0 hEW ta tb r19 _ ct h_168 σ_169 T cp Hc hcp fm hfm Hf) (lenOf bOne_pd rfl) rfl rfl rfl (by decide) (by decide) (ce' := 20) (sl' := 191) rfl rfl (by decide) (by decide) ?_
    rintro _ h_252 σ_253 m_254 ⟨rfl, rfl⟩
    refine Road.Go.weaken (σ' := σ_169) m_254 (Nat.le_refl _) (Nat.le_refl _) ?_
    obtain ⟨r20, hr20⟩ : ∃ r, r = r19 ++ [(ct : Int32)] := ⟨_, rfl⟩
    rw [← hr20]
    rw [List.append_cons, ← hr20] at T
    clear hr20
    refine Road.istore 377 #[.val (.int p0), .val (.int p1), .val (.int p2), .val (.int p3), .val (.int p4), .val (.int cn), .val (.int ct), .val (.int c0), .val (.int c1), .val (.int (1 : Int32)), .val (.ref hp), .val (.ref x), .val (.ref ta), .val (.int (Nat.toInt32 r20.length))] b0_d377 rfl ?_
    refine Road.aload 379 b0_d379 rfl ?_
    refine Road.iload 381 b0_d381 rfl ?_
    refine Road.bipush 383 (10 : Int32) b0_d383 rfl ?_
    refine Road.callS (B' := bOne) 385 (argsL := [(.ref ta), (.int (Nat.toInt32 r20.length)), (.int (10 : Int32))]) (rest := []) 0 b0_d385 (hw _ (List.mem_of_getElem? (i := 197) rfl)) (hw _ (List.mem_of_getElem? (i := 198) rfl)) (hw _ (List.mem_of_getElem? (i := 2) rfl)) (hw _ (List.mem_of_getElem? (i := 199) rfl)) (by decide) (cOne l Z a0 hw n0 hEW ta tb r20 _ 10 h_168 σ_169 T cp Hc hcp fm hfm Hf) (lenOf bOne_pd rfl) rfl rfl rfl (by decide) (by decide) (ce' := 20) (sl' := 191) rfl rfl (by decide) (by decide) ?_
    rintro _ h_256 σ_257 m_258 ⟨rfl, rfl⟩
    refine Road.Go.weaken (σ' := σ_169) m_258 (Nat.le_refl _) (Nat.le_refl _) ?_
    obtain ⟨r21, hr21⟩ : ∃ r, r = r20 ++ [(10 : Int32)] := ⟨_, rfl⟩
    rw [← hr21]
    rw [List.append_cons, ← hr21] at T
    clear hr21
    refine Road.istore 388 #[.val (.int p0), .val (.int p1), .val (.int p2), .val (.int p3), .val (.int p4), .val (.int cn), .val (.int ct), .val (.int c0), .val (.int c1), .val (.int (1 : Int32)), .val (.ref hp), .val (.ref x), .val (.ref ta), .val (.int (Nat.toInt32 r21.length))] b0_d388 rfl ?_
    refine Road.iload 390 b0_d390 rfl ?_
    refine Road.aload 392 b0_d392 rfl ?_
    refine Road.callV (B' := bLen) (a := ta) 394 (argsL := []) (rest := [(.int (Nat.toInt32 r21.length))]) "java/lang/String" 1 b0_d394 (hw _ (List.mem_of_getElem? (i := 200) rfl)) (hw _ (List.mem_of_getElem? (i := 78) rfl)) (fun vm hz => Road.notFace_sib (args := #[]) (mv (s := D.s.setVm vm) hz (hw _ (List.mem_of_getElem? (i := 80) rfl))) rfl) (hw _ (List.mem_of_getElem? (i := 80) rfl)) (hw _ (List.mem_of_getElem? (i := 79) rfl)) (hw _ (List.mem_of_getElem? (i := 6) rfl)) (hw _ (List.mem_of_getElem? (i := 81) rfl)) (by decide) T.1 (cLen l Z a0 hw n0 hEW ta tb _ h_168 σ_169 T cp Hc hcp) (lenOf bLen_pd rfl) rfl rfl rfl (by decide) (by decide) (ce' := 20) (sl' := 191) rfl rfl (by decide) (by decide) ?_
    rintro _ h_260 σ_261 m_262 ⟨rfl, rfl⟩
    refine Road.Go.weaken (σ' := σ_169) m_262 (Nat.le_refl _) (Nat.le_refl _) ?_
    refine Road.nameI ?_
    intro z hz
    refine Road.icmp_ne 397 404 b0_d397 rfl (fun q => absurd q (by rw [Decidable.not_not, hz]; congr 1; simp)) (fun hc397 => ?_)
    refine Road.iconst 400 (1 : Int32) b0_d400 rfl ?_
    refine Road.goto 401 405 b0_d401 rfl ?_
    exact Road.iret 405 1 b0_d405 (t := .boolean) rfl (by simp) rfl (by decide) (by decide) (fun σ' m => rfl)
  · skip
    refine Road.istore 31 #[.val (.int p0), .val (.int p1), .val (.int p2), .val (.int p3), .val (.int p4), .val (.int cn), .val (.int ct), .val (.int c0), .val (.int c1), .val (.int (2 : Int32)), .unset, .unset, .unset, .unset] b0_d31 rfl ?_
    refine Road.iload 33 b0_d33 rfl ?_
    refine Road.if_ne 35 45 b0_d35 rfl (fun hc35 => ?_) (fun q => absurd q (by decide))
    refine Road.iload 45 b0_d45 rfl ?_
    refine Road.iconst 47 (1 : Int32) b0_d47 rfl ?_
    refine Road.icmp_ne 48 61 b0_d48 rfl (fun hc48 => ?_) (fun q => absurd q (by decide))
    refine Road.iconst 61 (2 : Int32) b0_d61 rfl ?_
    refine Road.newarray 62 .char 2 2 b0_d62 rfl (hw _ (List.mem_of_getElem? (i := 226) rfl)) (by decide) (by decide) (by decide) (ce' := 1) (sl' := 2) rfl rfl (by decide) (by decide) ?_
    intro ar h_264 σ_265 g_266 K_267 lt_268 m_269 s_270 Ar
    refine Road.astore 64 #[.val (.int p0), .val (.int p1), .val (.int p2), .val (.int p3), .val (.int p4), .val (.int cn), .val (.int ct), .val (.int c0), .val (.int c1), .val (.int (2 : Int32)), .unset, .val (.ref ar), .unset, .unset] b0_d64 rfl ?_
    refine Road.aload 66 b0_d66 rfl ?_
    refine Road.iconst 68 (0 : Int32) b0_d68 rfl ?_
    refine Road.iload 69 b0_d69 rfl ?_
    refine Road.castore 71 0 c0 b0_d71 Ar (by decide) (by simp) (Road.nar_lat lc0) s_270 ?_
    intro h_271 K_272 A_273
    replace Ar := A_273
    refine Road.aload 72 b0_d72 rfl ?_
    refine Road.iconst 74 (1 : Int32) b0_d74 rfl ?_
    refine Road.iload 75 b0_d75 rfl ?_
    refine Road.castore 77 1 c1 b0_d77 Ar (by decide) (by simp) (Road.nar_lat lc1) s_270 ?_
    intro h_274 K_275 A_276
    replace Ar := A_276
    refine Road.new 78 "java/lang/String" b0_d78 (hw _ (List.mem_of_getElem? (i := 227) rfl)) (hw _ (List.mem_of_getElem? (i := 7) rfl)) (hw _ (List.mem_of_getElem? (i := 6) rfl)) (ce' := 2) (sl' := 6) rfl rfl (by decide) (by decide) ?_
    intro hp h_277 σ_278 g_279 K_280 lt_281 m_282 s_283 Ehp D_284 M_285
    have ne_ar_hp : ar ≠ hp := Nat.ne_of_lt (Nat.lt_of_lt_of_le Ar.lt (Nat.le_of_eq g_279.symm))
    replace Ar := Ar.keep K_280 nin0
    replace s_270 := m_282 _ s_270
    have Chp := D_284 (Or.inr (hw _ (List.mem_of_getElem? (i := 10) rfl))) (ty := .byte) (by decide)
    have Vhp := D_284 (Or.inr (hw _ (List.mem_of_getElem? (i := 9) rfl))) (ty := (.array .byte)) (by decide)
    refine Road.dup 81 b0_d81 ?_
    refine Road.aload 82 b0_d82 rfl ?_
    replace Ar : Road.Ary Z h_277 ar .char (([c0, c1] : List Int32).map .int) := Ar
    refine Road.callI (B' := bStr1) (a := hp) 84 (argsL := [(.ref ar)]) (rest := [(.ref hp)]) 1 b0_d84 (hw _ (List.mem_of_getElem? (i := 228) rfl)) (hw _ (List.mem_of_getElem? (i := 229) rfl)) (hw _ (List.mem_of_getElem? (i := 6) rfl)) (hw _ (List.mem_of_getElem? (i := 230) rfl)) rfl rfl (by decide) (cStr1 l Z a0 hw n0 hEW hp ar [c0, c1] h_277 σ_278 Ehp Chp Vhp Ar (by simp) (by intro c hc; simp only [List.mem_cons, List.not_mem_nil, or_false] at hc; rcases hc with rfl | rfl <;> assumption) s_283 cp Hc hcp (by simp)) (lenOf bStr1_pd rfl) rfl rfl rfl (by decide) (by decide) (ce' := 3) (sl' := 8) rfl rfl (by decide) (by decide) ?_
    rintro _ h_286 σ_287 m_288 ⟨rfl, K_289, dhp, Shp, Nhp⟩
    replace s_270 := m_288 _ s_270
    replace s_283 := m_288 _ s_283
    have Tp := Shp
    refine Road.astore 87 #[.val (.int p0), .val (.int p1), .val (.int p2), .val (.int p3), .val (.int p4), .val (.int cn), .val (.int ct), .val (.int c0), .val (.int c1), .val (.int (2 : Int32)), .val (.ref hp), .val (.ref ar), .unset, .unset] b0_d87 rfl ?_
    refine Road.new 89 "com/example/meerkat/meerkat/metrics/Exposition" b0_d89 (hw _ (List.mem_of_getElem? (i := 13) rfl)) (hw _ (List.mem_of_getElem? (i := 14) rfl)) (hw _ (List.mem_of_getElem? (i := 15) rfl)) (ce' := 4) (sl' := 9) rfl rfl (by decide) (by decide) ?_
    intro x h_290 σ_291 g_292 K_293 lt_294 m_295 s_296 Ex D_297 M_298
    have ne_hp_x : hp ≠ x := Nat.ne_of_lt (Nat.lt_of_lt_of_le Tp.lt (Nat.le_of_eq g_292.symm))
    have ne_dhp_x : dhp ≠ x := Nat.ne_of_lt (Nat.lt_of_lt_of_le Tp.ltb (Nat.le_of_eq g_292.symm))
    replace Tp := Tp.keep K_293 nin0 nin0
    replace s_270 := m_295 _ s_270
    replace s_283 := m_295 _ s_283
    have Fx := D_297 (Or.inr (hw _ (List.mem_of_getElem? (i := 41) rfl))) (ty := (.object "java/lang/StringBuilder")) (by decide)
    refine Road.dup 92 b0_d92 ?_
    refine Road.callI (B' := bExI) (a := x) 93 (argsL := []) (rest := [(.ref x)]) 1 b0_d93 (hw _ (List.mem_of_getElem? (i := 16) rfl)) (hw _ (List.mem_of_getElem? (i := 17) rfl)) (hw _ (List.mem_of_getElem? (i := 15) rfl)) (hw _ (List.mem_of_getElem? (i := 18) rfl)) rfl rfl (by decide) (cExI l Z a0 hw n0 hEW x h_290 σ_291 Ex Fx s_296 cp Hc hcp) (lenOf bExI_pd rfl) rfl rfl rfl (by decide) (by decide) (ce' := 6) (sl' := 29) rfl rfl (by decide) (by decide) ?_
    rintro _ h_299 σ_300 m_301 ⟨rfl, K_302, q, b, F, S, gq, gb, sq, sb⟩
    have ne_hp_q : hp ≠ q := Nat.ne_of_lt (Nat.lt_of_lt_of_le Tp.lt gq)
    have ne_dhp_q : dhp ≠ q := Nat.ne_of_lt (Nat.lt_of_lt_of_le Tp.ltb gq)
    have ne_x_q : x ≠ q := Nat.ne_of_lt (Nat.lt_of_lt_of_le Ex.lt gq)
    have ne_hp_b : hp ≠ b := Nat.ne_of_lt (Nat.lt_of_lt_of_le Tp.lt gb)
    have ne_dhp_b : dhp ≠ b := Nat.ne_of_lt (Nat.lt_of_lt_of_le Tp.ltb gb)
    have ne_x_b : x ≠ b := Nat.ne_of_lt (Nat.lt_of_lt_of_le Ex.lt gb)
    replace Tp := Tp.keep K_302 (ninS ne_hp_x nin0) (ninS ne_dhp_x nin0)
    replace Ex := Ex.keep K_302
    replace s_270 := m_301 _ s_270
    replace s_283 := m_301 _ s_283
    replace s_296 := m_301 _ s_296
    refine Road.astore 96 #[.val (.int p0), .val (.int p1), .val (.int p2), .val (.int p3), .val (.int p4), .val (.int cn), .val (.int ct), .val (.int c0), .val (.int c1), .val (.int (2 : Int32)), .val (.ref hp), .val (.ref x), .unset, .unset] b0_d96 rfl ?_
    refine Road.aload 98 b0_d98 rfl ?_
    refine Road.iload 100 b0_d100 rfl ?_
    refine Road.callS (B' := bVal) 102 (argsL := [(.int cn)]) (rest := [(.ref x)]) 1 b0_d102 (hw _ (List.mem_of_getElem? (i := 42) rfl)) (hw _ (List.mem_of_getElem? (i := 43) rfl)) (hw _ (List.mem_of_getElem? (i := 6) rfl)) (hw _ (List.mem_of_getElem? (i := 44) rfl)) (by decide) (cVal l Z a0 hw n0 hEW cn h_299 σ_300 lcn cp Hc hcp) (lenOf bVal_pd rfl) rfl rfl rfl (by decide) (by decide) (ce' := 8) (sl' := 34) rfl rfl (by decide) (by decide) ?_
    rintro _ h_303 σ_304 m_305 ⟨n, nd, rfl, gn, gnd, K_306, Tn⟩
    have ne_hp_n : hp ≠ n := Nat.ne_of_lt (Nat.lt_of_lt_of_le Tp.lt gn)
    have ne_dhp_n : dhp ≠ n := Nat.ne_of_lt (Nat.lt_of_lt_of_le Tp.ltb gn)
    have ne_x_n : x ≠ n := Nat.ne_of_lt (Nat.lt_of_lt_of_le Ex.lt gn)
    have ne_q_n : q ≠ n := Nat.ne_of_lt (Nat.lt_of_lt_of_le S.lt gn)
    have ne_b_n : b ≠ n := Nat.ne_of_lt (Nat.lt_of_lt_of_le S.ltb gn)
    have ne_hp_nd : hp ≠ nd := Nat.ne_of_lt (Nat.lt_of_lt_of_le Tp.lt gnd)
    have ne_dhp_nd : dhp ≠ nd := Nat.ne_of_lt (Nat.lt_of_lt_of_le Tp.ltb gnd)
    have ne_x_nd : x ≠ nd := Nat.ne_of_lt (Nat.lt_of_lt_of_le Ex.lt gnd)
    have ne_q_nd : q ≠ nd := Nat.ne_of_lt (Nat.lt_of_lt_of_le S.lt gnd)
    have ne_b_nd : b ≠ nd := Nat.ne_of_lt (Nat.lt_of_lt_of_le S.ltb gnd)
    replace Tp := Tp.keep K_306 nin0 nin0
    replace Ex := Ex.keep K_306
    replace F := F.keep K_306 nin0
    replace S := S.keep K_306 nin0 nin0
    replace s_270 := m_305 _ s_270
    replace s_283 := m_305 _ s_283
    replace s_296 := m_305 _ s_296
    replace sq := m_305 _ sq
    replace sb := m_305 _ sb
    refine Road.iload 105 b0_d105 rfl ?_
    refine Road.callS (B' := bVal) 107 (argsL := [(.int ct)]) (rest := [(.ref n), (.ref x)]) 2 b0_d107 (hw _ (List.mem_of_getElem? (i := 42) rfl)) (hw _ (List.mem_of_getElem? (i := 43) rfl)) (hw _ (List.mem_of_getElem? (i := 6) rfl)) (hw _ (List.mem_of_getElem? (i := 44) rfl)) (by decide) (cVal l Z a0 hw n0 hEW ct h_303 σ_304 lct cp Hc hcp) (lenOf bVal_pd rfl) rfl rfl rfl (by decide) (by decide) (ce' := 10) (sl' := 39) rfl rfl (by decide) (by decide) ?_
    rintro _ h_307 σ_308 m_309 ⟨t, td, rfl, gt, gtd, K_310, Tt⟩
    have ne_hp_t : hp ≠ t := Nat.ne_of_lt (Nat.lt_of_lt_of_le Tp.lt gt)
    have ne_dhp_t : dhp ≠ t := Nat.ne_of_lt (Nat.lt_of_lt_of_le Tp.ltb gt)
    have ne_x_t : x ≠ t := Nat.ne_of_lt (Nat.lt_of_lt_of_le Ex.lt gt)
    have ne_q_t : q ≠ t := Nat.ne_of_lt (Nat.lt_of_lt_of_le S.lt gt)
    have ne_b_t : b ≠ t := Nat.ne_of_lt (Nat.lt_of_lt_of_le S.ltb gt)
    have ne_n_t : n ≠ t := Nat.ne_of_lt (Nat.lt_of_lt_of_le Tn.lt gt)
    have ne_nd_t : nd ≠ t := Nat.ne_of_lt (Nat.lt_of_lt_of_le Tn.ltb gt)
    have ne_hp_td : hp ≠ td := Nat.ne_of_lt (Nat.lt_of_lt_of_le Tp.lt gtd)
    have ne_dhp_td : dhp ≠ td := Nat.ne_of_lt (Nat.lt_of_lt_of_le Tp.ltb gtd)
    have ne_x_td : x ≠ td := Nat.ne_of_lt (Nat.lt_of_lt_of_le Ex.lt gtd)
    have ne_q_td : q ≠ td := Nat.ne_of_lt (Nat.lt_of_lt_of_le S.lt gtd)
    have ne_b_td : b ≠ td := Nat.ne_of_lt (Nat.lt_of_lt_of_le S.ltb gtd)
    have ne_n_td : n ≠ td := Nat.ne_of_lt (Nat.lt_of_lt_of_le Tn.lt gtd)
    have ne_nd_td : nd ≠ td := Nat.ne_of_lt (Nat.lt_of_lt_of_le Tn.ltb gtd)
    replace Tp := Tp.keep K_310 nin0 nin0
    replace Ex := Ex.keep K_310
    replace F := F.keep K_310 nin0
    replace S := S.keep K_310 nin0 nin0
    replace Tn := Tn.keep K_310 nin0 nin0
    replace s_270 := m_309 _ s_270
    replace s_283 := m_309 _ s_283
    replace s_296 := m_309 _ s_296
    replace sq := m_309 _ sq
    replace sb := m_309 _ sb
    refine Road.aload 110 b0_d110 rfl ?_
    refine Road.callV (B' := bFam) (a := x) 112 (argsL := [(.ref n), (.ref t), (.ref hp)]) (rest := []) "com/example/meerkat/meerkat/metrics/Exposition" 0 b0_d112 (hw _ (List.mem_of_getElem? (i := 61) rfl)) (hw _ (List.mem_of_getElem? (i := 62) rfl)) (fun vm hz => Road.notFace_sib (args := #[]) (mv (s := D.s.setVm vm) hz (hw _ (List.mem_of_getElem? (i := 64) rfl))) rfl) (hw _ (List.mem_of_getElem? (i := 64) rfl)) (hw _ (List.mem_of_getElem? (i := 63) rfl)) (hw _ (List.mem_of_getElem? (i := 15) rfl)) (hw _ (List.mem_of_getElem? (i := 65) rfl)) (by decide) Ex (cFam l Z a0 hw n0 hEW x q b n nd t td hp dhp cn ct [c0, c1] h_307 σ_308 F S Tn Tt Tp (by simp) ne_x_q ne_x_b (Ne.symm ne_q_n) (Ne.symm ne_b_n) (Ne.symm ne_q_nd) (Ne.symm ne_b_nd) (Ne.symm ne_q_t) (Ne.symm ne_b_t) (Ne.symm ne_q_td) (Ne.symm ne_b_td) ne_hp_q ne_hp_b ne_dhp_q ne_dhp_b sq sb cp Hc hcp fm hfm Hf) (lenOf bFam_pd rfl) rfl rfl rfl (by decide) (by decide) (ce' := 19) (sl' := 165) rfl rfl (by decide) (by decide) ?_
    rintro _ h_311 σ_312 m_313 ⟨rfl, K_314, d, S, gd, sd⟩
    replace Tp := Tp.keep K_314 (ninS ne_hp_q (ninS ne_hp_b nin0)) (ninS ne_dhp_q (ninS ne_dhp_b nin0))
    replace Ex := Ex.keep K_314
    replace F := F.keep K_314 (ninS ne_x_q (ninS ne_x_b nin0))
    replace Tn := Tn.keep K_314 (ninS (Ne.symm ne_q_n) (ninS (Ne.symm ne_b_n) nin0)) (ninS (Ne.symm ne_q_nd) (ninS (Ne.symm ne_b_nd) nin0))
    replace Tt := Tt.keep K_314 (ninS (Ne.symm ne_q_t) (ninS (Ne.symm ne_b_t) nin0)) (ninS (Ne.symm ne_q_td) (ninS (Ne.symm ne_b_td) nin0))
    replace s_270 := m_313 _ s_270
    replace s_283 := m_313 _ s_283
    replace s_296 := m_313 _ s_296
    replace sq := m_313 _ sq
    replace sb := m_313 _ sb
    refine Road.aload 115 b0_d115 rfl ?_
    have hel := escL_len [c0, c1]
    simp only [List.length_cons, List.length_nil] at hel
    refine Road.callV (B' := bTxt) (a := x) 117 (argsL := []) (rest := []) "com/example/meerkat/meerkat/metrics/Exposition" 0 b0_d117 (hw _ (List.mem_of_getElem? (i := 157) rfl)) (hw _ (List.mem_of_getElem? (i := 158) rfl)) (fun vm hz => Road.notFace_sib (args := #[]) (mv (s := D.s.setVm vm) hz (hw _ (List.mem_of_getElem? (i := 64) rfl))) rfl) (hw _ (List.mem_of_getElem? (i := 160) rfl)) (hw _ (List.mem_of_getElem? (i := 159) rfl)) (hw _ (List.mem_of_getElem? (i := 15) rfl)) (hw _ (List.mem_of_getElem? (i := 161) rfl)) (by decide) Ex (cTxt l Z a0 hw n0 hEW x q d (([35, 32, 72, 69, 76, 80, 32] : List Int32) ++ [cn] ++ [32] ++ escL [c0, c1] ++ ([10, 35, 32, 84, 89, 80, 69, 32] : List Int32) ++ [cn] ++ [32] ++ [ct] ++ [10]) 34 h_311 σ_312 F S (by simp only [List.length_append, List.length_cons, List.length_nil]; omega) (by simp only [List.length_append, List.length_cons, List.length_nil]; omega) cp Hc hcp) (lenOf bTxt_pd rfl) rfl rfl rfl (by decide) (by decide) (ce' := 21) (sl' := 194) rfl rfl (by decide) (by decide) ?_
    rintro _ h_315 σ_316 m_317 ⟨ta, tb, rfl, T⟩
    replace s_270 := m_317 _ s_270
    replace s_283 := m_317 _ s_283
    replace s_296 := m_317 _ s_296
    replace sq := m_317 _ sq
    replace sb := m_317 _ sb
    refine Road.astore 120 #[.val (.int p0), .val (.int p1), .val (.int p2), .val (.int p3), .val (.int p4), .val (.int cn), .val (.int ct), .val (.int c0), .val (.int c1), .val (.int (2 : Int32)), .val (.ref hp), .val (.ref x), .val (.ref ta), .unset] b0_d120 rfl ?_
    refine Road.iconst 122 (0 : Int32) b0_d122 rfl ?_
    refine Road.istore 123 #[.val (.int p0), .val (.int p1), .val (.int p2), .val (.int p3), .val (.int p4), .val (.int cn), .val (.int ct), .val (.int c0), .val (.int c1), .val (.int (2 : Int32)), .val (.ref hp), .val (.ref x), .val (.ref ta), .val (.int (0 : Int32))] b0_d123 rfl ?_
    refine Road.aload 125 b0_d125 rfl ?_
    refine Road.iload 127 b0_d127 rfl ?_
    refine Road.bipush 129 (35 : Int32) b0_d129 rfl ?_
    have eT : (([35, 32, 72, 69, 76, 80, 32] : List Int32) ++ [cn] ++ [32] ++ escL [c0, c1] ++ ([10, 35, 32, 84, 89, 80, 69, 32] : List Int32) ++ [cn] ++ [32] ++ [ct] ++ [10]) = [] ++ (35 :: (32 :: (72 :: (69 :: (76 :: (80 :: (32 :: (cn :: (32 :: (escC c0 ++ (escC c1 ++ (10 :: (35 :: (32 :: (84 :: (89 :: (80 :: (69 :: (32 :: (cn :: (32 :: (ct :: (10 :: ([] : List Int32)))))))))))))))))))))))) := by simp [escL]
    rw [eT] at T
    clear eT hel
    refine Road.callS (B' := bOne) 131 (argsL := [(.ref ta), (.int (Nat.toInt32 ([] : List Int32).length)), (.int (35 : Int32))]) (rest := []) 0 b0_d131 (hw _ (List.mem_of_getElem? (i := 197) rfl)) (hw _ (List.mem_of_getElem? (i := 198) rfl)) (hw _ (List.mem_of_getElem? (i := 2) rfl)) (hw _ (List.mem_of_getElem? (i := 199) rfl)) (by decide) (cOne l Z a0 hw n0 hEW ta tb ([] : List Int32) _ 35 h_315 σ_316 T cp Hc hcp fm hfm Hf) (lenOf bOne_pd rfl) rfl rfl rfl (by decide) (by decide) (ce' := 21) (sl' := 194) rfl rfl (by decide) (by decide) ?_
    rintro _ h_319 σ_320 m_321 ⟨rfl, rfl⟩
    refine Road.Go.weaken (σ' := σ_316) m_321 (Nat.le_refl _) (Nat.le_refl _) ?_
    obtain ⟨r0, hr0⟩ : ∃ r, r = ([] : List Int32) ++ [(35 : Int32)] := ⟨_, rfl⟩
    rw [← hr0]
    rw [List.append_cons, ← hr0] at T
    clear hr0
    refine Road.istore 134 #[.val (.int p0), .val (.int p1), .val (.int p2), .val (.int p3), .val (.int p4), .val (.int cn), .val (.int ct), .val (.int c0), .val (.int c1), .val (.int (2 : Int32)), .val (.ref hp), .val (.ref x), .val (.ref ta), .val (.int (Nat.toInt32 r0.length))] b0_d134 rfl ?_
    refine Road.aload 136 b0_d136 rfl ?_
    refine Road.iload 138 b0_d138 rfl ?_
    refine Road.bipush 140 (32 : Int32) b0_d140 rfl ?_
    refine Road.callS (B' := bOne) 142 (argsL := [(.ref ta), (.int (Nat.toInt32 r0.length)), (.int (32 : Int32))]) (rest := []) 0 b0_d142 (hw _ (List.mem_of_getElem? (i := 197) rfl)) (hw _ (List.mem_of_getElem? (i := 198) rfl)) (hw _ (List.mem_of_getElem? (i := 2) rfl)) (hw _ (List.mem_of_getElem? (i := 199) rfl)) (by decide) (cOne l Z a0 hw n0 hEW ta tb r0 _ 32 h_315 σ_316 T cp Hc hcp fm hfm Hf) (lenOf bOne_pd rfl) rfl rfl rfl (by decide) (by decide) (ce' := 21) (sl' := 194) rfl rfl (by decide) (by decide) ?_
    rintro _ h_323 σ_324 m_325 ⟨rfl, rfl⟩
    refine Road.Go.weaken (σ' := σ_316) m_325 (Nat.le_refl _) (Nat.le_refl _) ?_
    obtain ⟨r1, hr1⟩ : ∃ r, r = r0 ++ [(32 : Int32)] := ⟨_, rfl⟩
    rw [← hr1]
    rw [List.append_cons, ← hr1] at T
    clear hr1
    refine Road.istore 145 #[.val (.int p0), .val (.int p1), .val (.int p2), .val (.int p3), .val (.int p4), .val (.int cn), .val (.int ct), .val (.int c0), .val (.int c1), .val (.int (2 : Int32)), .val (.ref hp), .val (.ref x), .val (.ref ta), .val (.int (Nat.toInt32 r1.length))] b0_d145 rfl ?_
    refine Road.aload 147 b0_d147 rfl ?_
    refine Road.iload 149 b0_d149 rfl ?_
    refine Road.bipush 151 (72 : Int32) b0_d151 rfl ?_
    refine Road.callS (B' := bOne) 153 (argsL := [(.ref ta), (.int (Nat.toInt32 r1.length)), (.int (72 : Int32))]) (rest := []) 0 b0_d153 (hw _ (List.mem_of_getElem? (i := 197) rfl)) (hw _ (List.mem_of_getElem? (i := 198) rfl)) (hw _ (List.mem_of_getElem? (i := 2) rfl)) (hw _ (List.mem_of_getElem? (i := 199) rfl)) (by decide) (cOne l Z a0 hw n0 hEW ta tb r1 _ 72 h_315 σ_316 T cp Hc hcp fm hfm Hf) (lenOf bOne_pd rfl) rfl rfl rfl (by decide) (by decide) (ce' := 21) (sl' := 194) rfl rfl (by decide) (by decide) ?_
    rintro _ h_327 σ_328 m_329 ⟨rfl, rfl⟩
    refine Road.Go.weaken (σ' := σ_316) m_329 (Nat.le_refl _) (Nat.le_refl _) ?_
    obtain ⟨r2, hr2⟩ : ∃ r, r = r1 ++ [(72 : Int32)] := ⟨_, rfl⟩
    rw [← hr2]
    rw [List.append_cons, ← hr2] at T
    clear hr2
    refine Road.istore 156 #[.val (.int p0), .val (.int p1), .val (.int p2), .val (.int p3), .val (.int p4), .val (.int cn), .val (.int ct), .val (.int c0), .val (.int c1), .val (.int (2 : Int32)), .val (.ref hp), .val (.ref x), .val (.ref ta), .val (.int (Nat.toInt32 r2.length))] b0_d156 rfl ?_
    refine Road.aload 158 b0_d158 rfl ?_
    refine Road.iload 160 b0_d160 rfl ?_
    refine Road.bipush 162 (69 : Int32) b0_d162 rfl ?_
    refine Road.callS (B' := bOne) 164 (argsL := [(.ref ta), (.int (Nat.toInt32 r2.length)), (.int (69 : Int32))]) (rest := []) 0 b0_d164 (hw _ (List.mem_of_getElem? (i := 197) rfl)) (hw _ (List.mem_of_getElem? (i := 198) rfl)) (hw _ (List.mem_of_getElem? (i := 2) rfl)) (hw _ (List.mem_of_getElem? (i := 199) rfl)) (by decide) (cOne l Z a0 hw n0 hEW ta tb r2 _ 69 h_315 σ_316 T cp Hc hcp fm hfm Hf) (lenOf bOne_pd rfl) rfl rfl rfl (by decide) (by decide) (ce' := 21) (sl' := 194) rfl rfl (by decide) (by decide) ?_
    rintro _ h_331 σ_332 m_333 ⟨rfl, rfl⟩
    refine Road.Go.weaken (σ' := σ_316) m_333 (Nat.le_refl _) (Nat.le_refl _) ?_
    obtain ⟨r3, hr3⟩ : ∃ r, r = r2 ++ [(69 : Int32)] := ⟨_, rfl⟩
    rw [← hr3]
    rw [List.append_cons, ← hr3] at T
    clear hr3
    refine Road.istore 167 #[.val (.int p0), .val (.int p1), .val (.int p2), .val (.int p3), .val (.int p4), .val (.int cn), .val (.int ct), .val (.int c0), .val (.int c1), .val (.int (2 : Int32)), .val (.ref hp), .val (.ref x), .val (.ref ta), .val (.int (Nat.toInt32 r3.length))] b0_d167 rfl ?_
    refine Road.aload 169 b0_d169 rfl ?_
    refine Road.iload 171 b0_d171 rfl ?_
    refine Road.bipush 173 (76 : Int32) b0_d173 rfl ?_
    refine Road.callS (B' := bOne) 175 (argsL := [(.ref ta), (.int (Nat.toInt32 r3.length)), (.int (76 : Int32))]) (rest := []) 0 b0_d175 (hw _ (List.mem_of_getElem? (i := 197) rfl)) (hw _ (List.mem_of_getElem? (i := 198) rfl)) (hw _ (List.mem_of_getElem? (i := 2) rfl)) (hw _ (List.mem_of_getElem? (i := 199) rfl)) (by decide) (cOne l Z a0 hw n0 hEW ta tb r3 _ 76 h_315 σ_316 T cp Hc hcp fm hfm Hf) (lenOf bOne_pd rfl) rfl rfl rfl (by decide) (by decide) (ce' := 21) (sl' := 194) rfl rfl (by decide) (by decide) ?_
    rintro _ h_335 σ_336 m_337 ⟨rfl, rfl⟩
    refine Road.Go.weaken (σ' := σ_316) m_337 (Nat.le_refl _) (Nat.le_refl _) ?_
    obtain ⟨r4, hr4⟩ : ∃ r, r = r3 ++ [(76 : Int32)] := ⟨_, rfl⟩
    rw [← hr4]
    rw [List.append_cons, ← hr4] at T
    clear hr4
    refine Road.istore 178 #[.val (.int p0), .val (.int p1), .val (.int p2), .val (.int p3), .val (.int p4), .val (.int cn), .val (.int ct), .val (.int c0), .val (.int c1), .val (.int (2 : Int32)), .val (.ref hp), .val (.ref x), .val (.ref ta), .val (.int (Nat.toInt32 r4.length))] b0_d178 rfl ?_
    refine Road.aload 180 b0_d180 rfl ?_
    refine Road.iload 182 b0_d182 rfl ?_
    refine Road.bipush 184 (80 : Int32) b0_d184 rfl ?_
    refine Road.callS (B' := bOne) 186 (argsL := [(.ref ta), (.int (Nat.toInt32 r4.length)), (.int (80 : Int32))]) (rest := []) 0 b0_d186 (hw _ (List.mem_of_getElem? (i := 197) rfl)) (hw _ (List.mem_of_getElem? (i := 198) rfl)) (hw _ (List.mem_of_getElem? (i := 2) rfl)) (hw _ (List.mem_of_getElem? (i := 199) rfl)) (by decide) (cOne l Z a0 hw n0 hEW ta tb r4 _ 80 h_315 σ_316 T cp Hc hcp fm hfm Hf) (lenOf bOne_pd rfl) rfl rfl rfl (by decide) (by decide) (ce' := 21) (sl' := 194) rfl rfl (by decide) (by decide) ?_
    rintro _ h_339 σ_340 m_341 ⟨rfl, rfl⟩
    refine Road.Go.weaken (σ' := σ_316) m_341 (Nat.le_refl _) (Nat.le_refl _) ?_
    obtain ⟨r5, hr5⟩ : ∃ r, r = r4 ++ [(80 : Int32)] := ⟨_, rfl⟩
    rw [← hr5]
    rw [List.append_cons, ← hr5] at T
    clear hr5
    refine Road.istore 189 #[.val (.int p0), .val (.int p1), .val (.int p2), .val (.int p3), .val (.int p4), .val (.int cn), .val (.int ct), .val (.int c0), .val (.int c1), .val (.int (2 : Int32)), .val (.ref hp), .val (.ref x), .val (.ref ta), .val (.int (Nat.toInt32 r5.length))] b0_d189 rfl ?_
    refine Road.aload 191 b0_d191 rfl ?_
    refine Road.iload 193 b0_d193 rfl ?_
    refine Road.bipush 195 (32 : Int32) b0_d195 rfl ?_
    refine Road.callS (B' := bOne) 197 (argsL := [(.ref ta), (.int (Nat.toInt32 r5.length)), (.int (32 : Int32))]) (rest := []) 0 b0_d197 (hw _ (List.mem_of_getElem? (i := 197) rfl)) (hw _ (List.mem_of_getElem? (i := 198) rfl)) (hw _ (List.mem_of_getElem? (i := 2) rfl)) (hw _ (List.mem_of_getElem? (i := 199) rfl)) (by decide) (cOne l Z a0 hw n0 hEW ta tb r5 _ 32 h_315 σ_316 T cp Hc hcp fm hfm Hf) (lenOf bOne_pd rfl) rfl rfl rfl (by decide) (by decide) (ce' := 21) (sl' := 194) rfl rfl (by decide) (by decide) ?_
    rintro _ h_343 σ_344 m_345 ⟨rfl, rfl⟩
    refine Road.Go.weaken (σ' := σ_316) m_345 (Nat.le_refl _) (Nat.le_refl _) ?_
    obtain ⟨r6, hr6⟩ : ∃ r, r = r5 ++ [(32 : Int32)] := ⟨_, rfl⟩
    rw [← hr6]
    rw [List.append_cons, ← hr6] at T
    clear hr6
    refine Road.istore 200 #[.val (.int p0), .val (.int p1), .val (.int p2), .val (.int p3), .val (.int p4), .val (.int cn), .val (.int ct), .val (.int c0), .val (.int c1), .val (.int (2 : Int32)), .val (.ref hp), .val (.ref x), .val (.ref ta), .val (.int (Nat.toInt32 r6.length))] b0_d200 rfl ?_
    refine Road.aload 202 b0_d202 rfl ?_
    refine Road.iload 204 b0_d204 rfl ?_
    refine Road.iload 206 b0_d206 rfl ?_
    refine Road.callS (B' := bOne) 208 (argsL := [(.ref ta), (.int (Nat.toInt32 r6.length)), (.int cn)]) (rest := []) 0 b0_d208 (hw _ (List.mem_of_getElem? (i := 197) rfl)) (hw _ (List.mem_of_getElem? (i := 198) rfl)) (hw _ (List.mem_of_getElem? (i := 2) rfl)) (hw _ (List.mem_of_getElem? (i := 199) rfl)) (by decide) (cOne l Z a0 hw n0 hEW ta tb r6 _ cn h_315 σ_316 T cp Hc hcp fm hfm Hf) (lenOf bOne_pd rfl) rfl rfl rfl (by decide) (by decide) (ce' := 21) (sl' := 194) rfl rfl (by decide) (by decide) ?_
    rintro _ h_347 σ_348 m_349 ⟨rfl, rfl⟩
    refine Road.Go.weaken (σ' := σ_316) m_349 (Nat.le_refl _) (Nat.le_refl _) ?_
    obtain ⟨r7, hr7⟩ : ∃ r, r = r6 ++ [(cn : Int32)] := ⟨_, rfl⟩
    rw [← hr7]
    rw [List.append_cons, ← hr7] at T
    clear hr7
    refine Road.istore 211 #[.val (.int p0), .val (.int p1), .val (.int p2), .val (.int p3), .val (.int p4), .val (.int cn), .val (.int ct), .val (.int c0), .val (.int c1), .val (.int (2 : Int32)), .val (.ref hp), .val (.ref x), .val (.ref ta), .val (.int (Nat.toInt32 r7.length))] b0_d211 rfl ?_
    refine Road.aload 213 b0_d213 rfl ?_
    refine Road.iload 215 b0_d215 rfl ?_
    refine Road.bipush 217 (32 : Int32) b0_d217 rfl ?_
    refine Road.callS (B' := bOne) 219 (argsL := [(.ref ta), (.int (Nat.toInt32 r7.length)), (.int (32 : Int32))]) (rest := []) 0 b0_d219 (hw _ (List.mem_of_getElem? (i := 197) rfl)) (hw _ (List.mem_of_getElem? (i := 198) rfl)) (hw _ (List.mem_of_getElem? (i := 2) rfl)) (hw _ (List.mem_of_getElem? (i := 199) rfl)) (by decide) (cOne l Z a0 hw n0 hEW ta tb r7 _ 32 h_315 σ_316 T cp Hc hcp fm hfm Hf) (lenOf bOne_pd rfl) rfl rfl rfl (by decide) (by decide) (ce' := 21) (sl' := 194) rfl rfl (by decide) (by decide) ?_
    rintro _ h_351 σ_352 m_353 ⟨rfl, rfl⟩
    refine Road.Go.weaken (σ' := σ_316) m_353 (Nat.le_refl _) (Nat.le_refl _) ?_
    obtain ⟨r8, hr8⟩ : ∃ r, r = r7 ++ [(32 : Int32)] := ⟨_, rfl⟩
    rw [← hr8]
    rw [List.append_cons, ← hr8] at T
    clear hr8
    refine Road.istore 222 #[.val (.int p0), .val (.int p1), .val (.int p2), .val (.int p3), .val (.int p4), .val (.int cn), .val (.int ct), .val (.int c0), .val (.int c1), .val (.int (2 : Int32)), .val (.ref hp), .val (.ref x), .val (.ref ta), .val (.int (Nat.toInt32 r8.length))] b0_d222 rfl ?_
    refine Road.iload 224 b0_d224 rfl ?_
    refine Road.iconst 226 (1 : Int32) b0_d226 rfl ?_
    refine Road.icmp_lt 227 241 b0_d227 rfl (fun q => absurd q (by decide)) (fun hc227 => ?_)
    refine Road.aload 230 b0_d230 rfl ?_
    refine Road.iload 232 b0_d232 rfl ?_
    refine Road.iload 234 b0_d234 rfl ?_
    refine Road.callS (B' := bEsc) 236 (argsL := [(.ref ta), (.int (Nat.toInt32 r8.length)), (.int c0)]) (rest := []) 0 b0_d236 (hw _ (List.mem_of_getElem? (i := 223) rfl)) (hw _ (List.mem_of_getElem? (i := 224) rfl)) (hw _ (List.mem_of_getElem? (i := 2) rfl)) (hw _ (List.mem_of_getElem? (i := 225) rfl)) (by decide) (cEsc l Z a0 hw n0 hEW ta tb r8 _ c0 h_315 σ_316 T cp Hc hcp fm hfm Hf) (lenOf bEsc_pd rfl) rfl rfl rfl (by decide) (by decide) (ce' := 21) (sl' := 194) rfl rfl (by decide) (by decide) ?_
    rintro _ h_355 σ_356 m_357 ⟨rfl, rfl⟩
    refine Road.Go.weaken (σ' := σ_316) m_357 (Nat.le_refl _) (Nat.le_refl _) ?_
    obtain ⟨r9, hr9⟩ : ∃ r, r = r8 ++ escC c0 := ⟨_, rfl⟩
    rw [← hr9]
    rw [← List.append_assoc, ← hr9] at T
    clear hr9
    refine Road.istore 239 #[.val (.int p0), .val (.int p1), .val (.int p2), .val (.int p3), .val (.int p4), .val (.int cn), .val (.int ct), .val (.int c0), .val (.int c1), .val (.int (2 : Int32)), .val (.ref hp), .val (.ref x), .val (.ref ta), .val (.int (Nat.toInt32 r9.length))] b0_d239 rfl ?_
    refine Road.iload 241 b0_d241 rfl ?_
    refine Road.iconst 243 (2 : Int32) b0_d243 rfl ?_
    refine Road.icmp_ne 244 258 b0_d244 rfl (fun q => absurd q (by decide)) (fun hc244 => ?_)
    refine Road.aload 247 b0_d247 rfl ?_
    refine Road.iload 249 b0_d249 rfl ?_
    refine Road.iload 251 b0_d251 rfl ?_
    refine Road.callS (B' := bEsc) 253 (argsL := [(.ref ta), (.int (Nat.toInt32 r9.length)), (.int c1)]) (rest := []) 0 b0_d253 (hw _ (List.mem_of_getElem? (i := 223) rfl)) (hw _ (List.mem_of_getElem? (i := 224) rfl)) (hw _ (List.mem_of_getElem? (i := 2) rfl)) (hw _ (List.mem_of_getElem? (i := 225) rfl)) (by decide) (cEsc l Z a0 hw n0 hEW ta tb r9 _ c1 h_315 σ_316 T cp Hc hcp fm hfm Hf) (lenOf bEsc_pd rfl) rfl rfl rfl (by decide) (by decide) (ce' := 21) (sl' := 194) rfl rfl (by decide) (by decide) ?_
    rintro _ h_359 σ_360 m_361 ⟨rfl, rfl⟩
    refine Road.Go.weaken (σ' := σ_316) m_361 (Nat.le_refl _) (Nat.le_refl _) ?_
    obtain ⟨r10, hr10⟩ : ∃ r, r = r9 ++ escC c1 := ⟨_, rfl⟩
    rw [← hr10]
    rw [← List.append_assoc, ← hr10] at T
    clear hr10
    refine Road.istore 256 #[.val (.int p0), .val (.int p1), .val (.int p2), .val (.int p3), .val (.int p4), .val (.int cn), .val (.int ct), .val (.int c0), .val (.int c1), .val (.int (2 : Int32)), .val (.ref hp), .val (.ref x), .val (.ref ta), .val (.int (Nat.toInt32 r10.length))] b0_d256 rfl ?_
    refine Road.aload 258 b0_d258 rfl ?_
    refine Road.iload 260 b0_d260 rfl ?_
    refine Road.bipush 262 (10 : Int32) b0_d262 rfl ?_
    refine Road.callS (B' := bOne) 264 (argsL := [(.ref ta), (.int (Nat.toInt32 r10.length)), (.int (10 : Int32))]) (rest := []) 0 b0_d264 (hw _ (List.mem_of_getElem? (i := 197) rfl)) (hw _ (List.mem_of_getElem? (i := 198) rfl)) (hw _ (List.mem_of_getElem? (i := 2) rfl)) (hw _ (List.mem_of_getElem? (i := 199) rfl)) (by decide) (cOne l Z a0 hw n0 hEW ta tb r10 _ 10 h_315 σ_316 T cp Hc hcp fm hfm Hf) (lenOf bOne_pd rfl) rfl rfl rfl (by decide) (by decide) (ce' := 21) (sl' := 194) rfl rfl (by decide) (by decide) ?_
    rintro _ h_363 σ_364 m_365 ⟨rfl, rfl⟩
    refine Road.Go.weaken (σ' := σ_316) m_365 (Nat.le_refl _) (Nat.le_refl _) ?_
    obtain ⟨r11, hr11⟩ : ∃ r, r = r10 ++ [(10 : Int32)] := ⟨_, rfl⟩
    rw [← hr11]
    rw [List.append_cons, ← hr11] at T
    clear hr11
    refine Road.istore 267 #[.val (.int p0), .val (.int p1), .val (.int p2), .val (.int p3), .val (.int p4), .val (.int cn), .val (.int ct), .val (.int c0), .val (.int c1), .val (.int (2 : Int32)), .val (.ref hp), .val (.ref x), .val (.ref ta), .val (.int (Nat.toInt32 r11.length))] b0_d267 rfl ?_
    refine Road.aload 269 b0_d269 rfl ?_
    refine Road.iload 271 b0_d271 rfl ?_
    refine Road.bipush 273 (35 : Int32) b0_d273 rfl ?_
    refine Road.callS (B' := bOne) 275 (argsL := [(.ref ta), (.int (Nat.toInt32 r11.length)), (.int (35 : Int32))]) (rest := []) 0 b0_d275 (hw _ (List.mem_of_getElem? (i := 197) rfl)) (hw _ (List.mem_of_getElem? (i := 198) rfl)) (hw _ (List.mem_of_getElem? (i := 2) rfl)) (hw _ (List.mem_of_getElem? (i := 199) rfl)) (by decide) (cOne l Z a0 hw n0 hEW ta tb r11 _ 35 h_315 σ_316 T cp Hc hcp fm hfm Hf) (lenOf bOne_pd rfl) rfl rfl rfl (by decide) (by decide) (ce' := 21) (sl' := 194) rfl rfl (by decide) (by decide) ?_
    rintro _ h_367 σ_368 m_369 ⟨rfl, rfl⟩
    refine Road.Go.weaken (σ' := σ_316) m_369 (Nat.le_refl _) (Nat.le_refl _) ?_
    obtain ⟨r12, hr12⟩ : ∃ r, r = r11 ++ [(35 : Int32)] := ⟨_, rfl⟩
    rw [← hr12]
    rw [List.append_cons, ← hr12] at T
    clear hr12
    refine Road.istore 278 #[.val (.int p0), .val (.int p1), .val (.int p2), .val (.int p3), .val (.int p4), .val (.int cn), .val (.int ct), .val (.int c0), .val (.int c1), .val (.int (2 : Int32)), .val (.ref hp), .val (.ref x), .val (.ref ta), .val (.int (Nat.toInt32 r12.length))] b0_d278 rfl ?_
    refine Road.aload 280 b0_d280 rfl ?_
    refine Road.iload 282 b0_d282 rfl ?_
    refine Road.bipush 284 (32 : Int32) b0_d284 rfl ?_
    refine Road.callS (B' := bOne) 286 (argsL := [(.ref ta), (.int (Nat.toInt32 r12.length)), (.int (32 : Int32))]) (rest := []) 0 b0_d286 (hw _ (List.mem_of_getElem? (i := 197) rfl)) (hw _ (List.mem_of_getElem? (i := 198) rfl)) (hw _ (List.mem_of_getElem? (i := 2) rfl)) (hw _ (List.mem_of_getElem? (i := 199) rfl)) (by decide) (cOne l Z a0 hw n0 hEW ta tb r12 _ 32 h_315 σ_316 T cp Hc hcp fm hfm Hf) (lenOf bOne_pd rfl) rfl rfl rfl (by decide) (by decide) (ce' := 21) (sl' := 194) rfl rfl (by decide) (by decide) ?_
    rintro _ h_371 σ_372 m_373 ⟨rfl, rfl⟩
    refine Road.Go.weaken (σ' := σ_316) m_373 (Nat.le_refl _) (Nat.le_refl _) ?_
    obtain ⟨r13, hr13⟩ : ∃ r, r = r12 ++ [(32 : Int32)] := ⟨_, rfl⟩
    rw [← hr13]
    rw [List.append_cons, ← hr13] at T
    clear hr13
    refine Road.istore 289 #[.val (.int p0), .val (.int p1), .val (.int p2), .val (.int p3), .val (.int p4), .val (.int cn), .val (.int ct), .val (.int c0), .val (.int c1), .val (.int (2 : Int32)), .val (.ref hp), .val (.ref x), .val (.ref ta), .val (.int (Nat.toInt32 r13.length))] b0_d289 rfl ?_
    refine Road.aload 291 b0_d291 rfl ?_
    refine Road.iload 293 b0_d293 rfl ?_
    refine Road.bipush 295 (84 : Int32) b0_d295 rfl ?_
    refine Road.callS (B' := bOne) 297 (argsL := [(.ref ta), (.int (Nat.toInt32 r13.length)), (.int (84 : Int32))]) (rest := []) 0 b0_d297 (hw _ (List.mem_of_getElem? (i := 197) rfl)) (hw _ (List.mem_of_getElem? (i := 198) rfl)) (hw _ (List.mem_of_getElem? (i := 2) rfl)) (hw _ (List.mem_of_getElem? (i := 199) rfl)) (by decide) (cOne l Z a0 hw n0 hEW ta tb r13 _ 84 h_315 σ_316 T cp Hc hcp fm hfm Hf) (lenOf bOne_pd rfl) rfl rfl rfl (by decide) (by decide) (ce' := 21) (sl' := 194) rfl rfl (by decide) (by decide) ?_
    rintro _ h_375 σ_376 m_377 ⟨rfl, rfl⟩
    refine Road.Go.weaken (σ' := σ_316) m_377 (Nat.le_refl _) (Nat.le_refl _) ?_
    obtain ⟨r14, hr14⟩ : ∃ r, r = r13 ++ [(84 : Int32)] := ⟨_, rfl⟩
    rw [← hr14]
    rw [List.append_cons, ← hr14] at T
    clear hr14
    refine Road.istore 300 #[.val (.int p0), .val (.int p1), .val (.int p2), .val (.int p3), .val (.int p4), .val (.int cn), .val (.int ct), .val (.int c0), .val (.int c1), .val (.int (2 : Int32)), .val (.ref hp), .val (.ref x), .val (.ref ta), .val (.int (Nat.toInt32 r14.length))] b0_d300 rfl ?_
    refine Road.aload 302 b0_d302 rfl ?_
    refine Road.iload 304 b0_d304 rfl ?_
    refine Road.bipush 306 (89 : Int32) b0_d306 rfl ?_
    refine Road.callS (B' := bOne) 308 (argsL := [(.ref ta), (.int (Nat.toInt32 r14.length)), (.int (89 : Int32))]) (rest := []) 0 b0_d308 (hw _ (List.mem_of_getElem? (i := 197) rfl)) (hw _ (List.mem_of_getElem? (i := 198) rfl)) (hw _ (List.mem_of_getElem? (i := 2) rfl)) (hw _ (List.mem_of_getElem? (i := 199) rfl)) (by decide) (cOne l Z a0 hw n0 hEW ta tb r14 _ 89 h_315 σ_316 T cp Hc hcp fm hfm Hf) (lenOf bOne_pd rfl) rfl rfl rfl (by decide) (by decide) (ce' := 21) (sl' := 194) rfl rfl (by decide) (by decide) ?_
    rintro _ h_379 σ_380 m_381 ⟨rfl, rfl⟩
    refine Road.Go.weaken (σ' := σ_316) m_381 (Nat.le_refl _) (Nat.le_refl _) ?_
    obtain ⟨r15, hr15⟩ : ∃ r, r = r14 ++ [(89 : Int32)] := ⟨_, rfl⟩
    rw [← hr15]
    rw [List.append_cons, ← hr15] at T
    clear hr15
    refine Road.istore 311 #[.val (.int p0), .val (.int p1), .val (.int p2), .val (.int p3), .val (.int p4), .val (.int cn), .val (.int ct), .val (.int c0), .val (.int c1), .val (.int (2 : Int32)), .val (.ref hp), .val (.ref x), .val (.ref ta), .val (.int (Nat.toInt32 r15.length))] b0_d311 rfl ?_
    refine Road.aload 313 b0_d313 rfl ?_
    refine Road.iload 315 b0_d315 rfl ?_
    refine Road.bipush 317 (80 : Int32) b0_d317 rfl ?_
    refine Road.callS (B' := bOne) 319 (argsL := [(.ref ta), (.int (Nat.toInt32 r15.length)), (.int (80 : Int32))]) (rest := []) 0 b0_d319 (hw _ (List.mem_of_getElem? (i := 197) rfl)) (hw _ (List.mem_of_getElem? (i := 198) rfl)) (hw _ (List.mem_of_getElem? (i := 2) rfl)) (hw _ (List.mem_of_getElem? (i := 199) rfl)) (by decide) (cOne l Z a0 hw n0 hEW ta tb r15 _ 80 h_315 σ_316 T cp Hc hcp fm hfm Hf) (lenOf bOne_pd rfl) rfl rfl rfl (by decide) (by decide) (ce' := 21) (sl' := 194) rfl rfl (by decide) (by decide) ?_
    rintro _ h_383 σ_384 m_385 ⟨rfl, rfl⟩
    refine Road.Go.weaken (σ' := σ_316) m_385 (Nat.le_refl _) (Nat.le_refl _) ?_
    obtain ⟨r16, hr16⟩ : ∃ r, r = r15 ++ [(80 : Int32)] := ⟨_, rfl⟩
    rw [← hr16]
    rw [List.append_cons, ← hr16] at T
    clear hr16
    refine Road.istore 322 #[.val (.int p0), .val (.int p1), .val (.int p2), .val (.int p3), .val (.int p4), .val (.int cn), .val (.int ct), .val (.int c0), .val (.int c1), .val (.int (2 : Int32)), .val (.ref hp), .val (.ref x), .val (.ref ta), .val (.int (Nat.toInt32 r16.length))] b0_d322 rfl ?_
    refine Road.aload 324 b0_d324 rfl ?_
    refine Road.iload 326 b0_d326 rfl ?_
    refine Road.bipush 328 (69 : Int32) b0_d328 rfl ?_
    refine Road.callS (B' := bOne) 330 (argsL := [(.ref ta), (.int (Nat.toInt32 r16.length)), (.int (69 : Int32))]) (rest := []) 0 b0_d330 (hw _ (List.mem_of_getElem? (i := 197) rfl)) (hw _ (List.mem_of_getElem? (i := 198) rfl)) (hw _ (List.mem_of_getElem? (i := 2) rfl)) (hw _ (List.mem_of_getElem? (i := 199) rfl)) (by decide) (cOne l Z a0 hw n0 hEW ta tb r16 _ 69 h_315 σ_316 T cp Hc hcp fm hfm Hf) (lenOf bOne_pd rfl) rfl rfl rfl (by decide) (by decide) (ce' := 21) (sl' := 194) rfl rfl (by decide) (by decide) ?_
    rintro _ h_387 σ_388 m_389 ⟨rfl, rfl⟩
    refine Road.Go.weaken (σ' := σ_316) m_389 (Nat.le_refl _) (Nat.le_refl _) ?_
    obtain ⟨r17, hr17⟩ : ∃ r, r = r16 ++ [(69 : Int32)] := ⟨_, rfl⟩
    rw [← hr17]
    rw [List.append_cons, ← hr17] at T
    clear hr17
    refine Road.istore 333 #[.val (.int p0), .val (.int p1), .val (.int p2), .val (.int p3), .val (.int p4), .val (.int cn), .val (.int ct), .val (.int c0), .val (.int c1), .val (.int (2 : Int32)), .val (.ref hp), .val (.ref x), .val (.ref ta), .val (.int (Nat.toInt32 r17.length))] b0_d333 rfl ?_
    refine Road.aload 335 b0_d335 rfl ?_
    refine Road.iload 337 b0_d337 rfl ?_
    refine Road.bipush 339 (32 : Int32) b0_d339 rfl ?_
    refine Road.callS (B' := bOne) 341 (argsL := [(.ref ta), (.int (Nat.toInt32 r17.length)), (.int (32 : Int32))]) (rest := []) 0 b0_d341 (hw _ (List.mem_of_getElem? (i := 197) rfl)) (hw _ (List.mem_of_getElem? (i := 198) rfl)) (hw _ (List.mem_of_getElem? (i := 2) rfl)) (hw _ (List.mem_of_getElem? (i := 199) rfl)) (by decide) (cOne l Z a0 hw n0 hEW ta tb r17 _ 32 h_315 σ_316 T cp Hc hcp fm hfm Hf) (lenOf bOne_pd rfl) rfl rfl rfl (by decide) (by decide) (ce' := 21) (sl' := 194) rfl rfl (by decide) (by decide) ?_
    rintro _ h_391 σ_392 m_393 ⟨rfl, rfl⟩
    refine Road.Go.weaken (σ' := σ_316) m_393 (Nat.le_refl _) (Nat.le_refl _) ?_
    obtain ⟨r18, hr18⟩ : ∃ r, r = r17 ++ [(32 : Int32)] := ⟨_, rfl⟩
    rw [← hr18]
    rw [List.append_cons, ← hr18] at T
    clear hr18
    refine Road.istore 344 #[.val (.int p0), .val (.int p1), .val (.int p2), .val (.int p3), .val (.int p4), .val (.int cn), .val (.int ct), .val (.int c0), .val (.int c1), .val (.int (2 : Int32)), .val (.ref hp), .val (.ref x), .val (.ref ta), .val (.int (Nat.toInt32 r18.length))] b0_d344 rfl ?_
    refine Road.aload 346 b0_d346 rfl ?_
    refine Road.iload 348 b0_d348 rfl ?_
    refine Road.iload 350 b0_d350 rfl ?_
    refine Road.callS (B' := bOne) 352 (argsL := [(.ref ta), (.int (Nat.toInt32 r18.length)), (.int cn)]) (rest := []) 0 b0_d352 (hw _ (List.mem_of_getElem? (i := 197) rfl)) (hw _ (List.mem_of_getElem? (i := 198) rfl)) (hw _ (List.mem_of_getElem? (i := 2) rfl)) (hw _ (List.mem_of_getElem? (i := 199) rfl)) (by decide) (cOne l Z a0 hw n0 hEW ta tb r18 _ cn h_315 σ_316 T cp Hc hcp fm hfm Hf) (lenOf bOne_pd rfl) rfl rfl rfl (by decide) (by decide) (ce' := 21) (sl' := 194) rfl rfl (by decide) (by decide) ?_
    rintro _ h_395 σ_396 m_397 ⟨rfl, rfl⟩
    refine Road.Go.weaken (σ' := σ_316) m_397 (Nat.le_refl _) (Nat.le_refl _) ?_
    obtain ⟨r19, hr19⟩ : ∃ r, r = r18 ++ [(cn : Int32)] := ⟨_, rfl⟩
    rw [← hr19]
    rw [List.append_cons, ← hr19] at T
    clear hr19
    refine Road.istore 355 #[.val (.int p0), .val (.int p1), .val (.int p2), .val (.int p3), .val (.int p4), .val (.int cn), .val (.int ct), .val (.int c0), .val (.int c1), .val (.int (2 : Int32)), .val (.ref hp), .val (.ref x), .val (.ref ta), .val (.int (Nat.toInt32 r19.length))] b0_d355 rfl ?_
    refine Road.aload 357 b0_d357 rfl ?_
    refine Road.iload 359 b0_d359 rfl ?_
    refine Road.bipush 361 (32 : Int32) b0_d361 rfl ?_
    refine Road.callS (B' := bOne) 363 (argsL := [(.ref ta), (.int (Nat.toInt32 r19.length)), (.int (32 : Int32))]) (rest := []) 0 b0_d363 (hw _ (List.mem_of_getElem? (i := 197) rfl)) (hw _ (List.mem_of_getElem? (i := 198) rfl)) (hw _ (List.mem_of_getElem? (i := 2) rfl)) (hw _ (List.mem_of_getElem? (i := 199) rfl)) (by decide) (cOne l Z a0 hw n0 hEW ta tb r19 _ 32 h_315 σ_316 T cp Hc hcp fm hfm Hf) (lenOf bOne_pd rfl) rfl rfl rfl (by decide) (by decide) (ce' := 21) (sl' := 194) rfl rfl (by decide) (by decide) ?_
    rintro _ h_399 σ_400 m_401 ⟨rfl, rfl⟩
    refine Road.Go.weaken (σ' := σ_316) m_401 (Nat.le_refl _) (Nat.le_refl _) ?_
    obtain ⟨r20, hr20⟩ : ∃ r, r = r19 ++ [(32 : Int32)] := ⟨_, rfl⟩
    rw [← hr20]
    rw [List.append_cons, ← hr20] at T
    clear hr20
    refine Road.istore 366 #[.val (.int p0), .val (.int p1), .val (.int p2), .val (.int p3), .val (.int p4), .val (.int cn), .val (.int ct), .val (.int c0), .val (.int c1), .val (.int (2 : Int32)), .val (.ref hp), .val (.ref x), .val (.ref ta), .val (.int (Nat.toInt32 r20.length))] b0_d366 rfl ?_
    refine Road.aload 368 b0_d368 rfl ?_
    refine Road.iload 370 b0_d370 rfl ?_
    refine Road.iload 372 b0_d372 rfl ?_
    refine Road.callS (B' := bOne) 374 (argsL := [(.ref ta), (.int (Nat.toInt32 r20.length)), (.int ct)]) (rest := []) 0 b0_d374 (hw _ (List.mem_of_getElem? (i := 197) rfl)) (hw _ (List.mem_of_getElem? (i := 198) rfl)) (hw _ (List.mem_of_getElem? (i := 2) rfl)) (hw _ (List.mem_of_getElem? (i := 199) rfl)) (by decide) (cOne l Z a0 hw n0 hEW ta tb r20 _ ct h_315 σ_316 T cp Hc hcp fm hfm Hf) (lenOf bOne_pd rfl) rfl rfl rfl (by decide) (by decide) (ce' := 21) (sl' := 194) rfl rfl (by decide) (by decide) ?_
    rintro _ h_403 σ_404 m_405 ⟨rfl, rfl⟩
    refine Road.Go.weaken (σ' := σ_316) m_405 (Nat.le_refl _) (Nat.le_refl _) ?_
    obtain ⟨r21, hr21⟩ : ∃ r, r = r20 ++ [(ct : Int32)] := ⟨_, rfl⟩
    rw [← hr21]
    rw [List.append_cons, ← hr21] at T
    clear hr21
    refine Road.istore 377 #[.val (.int p0), .val (.int p1), .val (.int p2), .val (.int p3), .val (.int p4), .val (.int cn), .val (.int ct), .val (.int c0), .val (.int c1), .val (.int (2 : Int32)), .val (.ref hp), .val (.ref x), .val (.ref ta), .val (.int (Nat.toInt32 r21.length))] b0_d377 rfl ?_
    refine Road.aload 379 b0_d379 rfl ?_
    refine Road.iload 381 b0_d381 rfl ?_
    refine Road.bipush 383 (10 : Int32) b0_d383 rfl ?_
    refine Road.callS (B' := bOne) 385 (argsL := [(.ref ta), (.int (Nat.toInt32 r21.length)), (.int (10 : Int32))]) (rest := []) 0 b0_d385 (hw _ (List.mem_of_getElem? (i := 197) rfl)) (hw _ (List.mem_of_getElem? (i := 198) rfl)) (hw _ (List.mem_of_getElem? (i := 2) rfl)) (hw _ (List.mem_of_getElem? (i := 199) rfl)) (by decide) (cOne l Z a0 hw n0 hEW ta tb r21 _ 10 h_315 σ_316 T cp Hc hcp fm hfm Hf) (lenOf bOne_pd rfl) rfl rfl rfl (by decide) (by decide) (ce' := 21) (sl' := 194) rfl rfl (by decide) (by decide) ?_
    rintro _ h_407 σ_408 m_409 ⟨rfl, rfl⟩
    refine Road.Go.weaken (σ' := σ_316) m_409 (Nat.le_refl _) (Nat.le_refl _) ?_
    obtain ⟨r22, hr22⟩ : ∃ r, r = r21 ++ [(10 : Int32)] := ⟨_, rfl⟩
    rw [← hr22]
    rw [List.append_cons, ← hr22] at T
    clear hr22
    refine Road.istore 388 #[.val (.int p0), .val (.int p1), .val (.int p2), .val (.int p3), .val (.int p4), .val (.int cn), .val (.int ct), .val (.int c0), .val (.int c1), .val (.int (2 : Int32)), .val (.ref hp), .val (.ref x), .val (.ref ta), .val (.int (Nat.toInt32 r22.length))] b0_d388 rfl ?_
    refine Road.iload 390 b0_d390 rfl ?_
    refine Road.aload 392 b0_d392 rfl ?_
    refine Road.callV (B' := bLen) (a := ta) 394 (argsL := []) (rest := [(.int (Nat.toInt32 r22.length))]) "java/lang/String" 1 b0_d394 (hw _ (List.mem_of_getElem? (i := 200) rfl)) (hw _ (List.mem_of_getElem? (i := 78) rfl)) (fun vm hz => Road.notFace_sib (args := #[]) (mv (s := D.s.setVm vm) hz (hw _ (List.mem_of_getElem? (i := 80) rfl))) rfl) (hw _ (List.mem_of_getElem? (i := 80) rfl)) (hw _ (List.mem_of_getElem? (i := 79) rfl)) (hw _ (List.mem_of_getElem? (i := 6) rfl)) (hw _ (List.mem_of_getElem? (i := 81) rfl)) (by decide) T.1 (cLen l Z a0 hw n0 hEW ta tb _ h_315 σ_316 T cp Hc hcp) (lenOf bLen_pd rfl) rfl rfl rfl (by decide) (by decide) (ce' := 21) (sl' := 194) rfl rfl (by decide) (by decide) ?_
    rintro _ h_411 σ_412 m_413 ⟨rfl, rfl⟩
    refine Road.Go.weaken (σ' := σ_316) m_413 (Nat.le_refl _) (Nat.le_refl _) ?_
    refine Road.nameI ?_
    intro z hz
    refine Road.icmp_ne 397 404 b0_d397 rfl (fun q => absurd q (by rw [Decidable.not_not, hz]; congr 1; simp)) (fun hc397 => ?_)
    refine Road.iconst 400 (1 : Int32) b0_d400 rfl ?_
    refine Road.goto 401 405 b0_d401 rfl ?_
    exact Road.iret 405 1 b0_d405 (t := .boolean) rfl (by simp) rfl (by decide) (by decide) (fun σ' m => rfl)
set_option maxHeartbeats 40000000 in
theorem comes_1 {Post : Tables → Env → Array Value → State → Outcome → State → Prop} (hpost : ∀ tb e args s v u, (limb_1_1.after args s (.returned v) u = true ∧ limb_1_2.after args s (.returned v) u = true ∧ True) → ReturnedEndW s (.returned v) u (Jvm.fieldLocs frame_1_writes args s ++ Jvm.arrayLocs frame_1_arrays args s ++ Jvm.staticLocs frame_1_statics s) 48 5440 → Post tb e args s (.returned v) u) :
    ArmFor flags0 classFile x code maxLocals ret World_1 tables_1 room_1 Calls_1 rest_1 Pre_1 Post := by
  intro l hfl _ _ p e ha hc hk s m args below hf hA hF happ hP
  obtain ⟨hcalls, hrest, hpre⟩ := hP
  obtain ⟨-, -, -, hnamed, -, -, -, hat⟩ := (Spec.applies_iff hf).mp happ
  obtain ⟨hg, hn⟩ := and_e (Cond.before_iff.mp (show (Jvm.Cond.and given_1 narrow_1).before args s = true from hpre))
  obtain ⟨h1, hr1⟩ := and_e hg
  obtain ⟨g0, hr2⟩ := and_e hr1
  obtain ⟨g1, hr3⟩ := and_e hr2
  obtain ⟨g2, hr4⟩ := and_e hr3
  obtain ⟨g3, hr5⟩ := and_e hr4
  have g4 := hr5
  obtain ⟨w0, w1, w2, w3, w4, rfl⟩ : ∃ w0 w1 w2 w3 w4 : Value, args = #[w0, w1, w2, w3, w4] := by
    have hs : args.size = 5 := by simpa [Cond.value, given_1] using h1
    obtain ⟨L⟩ := args
    match L, hs with
    | [w0, w1, w2, w3, w4], _ => exact ⟨w0, w1, w2, w3, w4, rfl⟩
  obtain ⟨p0, ev0⟩ := is_v g0
  obtain rfl : w0 = (.int p0) := Option.some.inj ev0
  obtain ⟨p1, ev1⟩ := is_v g1
  obtain rfl : w1 = (.int p1) := Option.some.inj ev1
  obtain ⟨p2, ev2⟩ := is_v g2
  obtain rfl : w2 = (.int p2) := Option.some.inj ev2
  obtain ⟨p3, ev3⟩ := is_v g3
  obtain rfl : w3 = (.int p3) := Option.some.inj ev3
  obtain ⟨p4, ev4⟩ := is_v g4
  obtain rfl : w4 = (.int p4) := Option.some.inj ev4
  have hw := fun d (hd : d ∈ tables_1) => atoms_spec (ws := Jvm.Cond.code x code maxLocals ret :: tables_1) hat d (List.mem_cons_of_mem _ hd)
  obtain ⟨hsets, hown0⟩ := atoms_of _ (rest_1_c_eq ▸ (show rest_1_c.before _ s = true from hrest))
  have hfit : Fit s := fun {y c} hc i hi => by
    obtain ⟨ha, rfl⟩ := Array.getElem?_eq_some_iff.mp hc
    have q := List.all_eq_true.mp ((Array.all_eq_true_iff_forall_mem.mp hF) _ (Array.getElem_mem ha)) i (List.mem_range.mpr hi)
    simpa [Array.getElem?_eq_getElem hi] using q
  have hcw := hsets _ (List.mem_of_getElem? (i := 2) rfl)
  have n5 := not_v (Cond.before_iff.mp hcw)
  obtain ⟨cp, e10⟩ := is_v (Cond.before_iff.mp (hsets _ (List.mem_of_getElem? (i := 1) rfl)))
  have Hc : Sta s s.heap "java/lang/String" "COMPACT_STRINGS" "Z" (.int cp) := Sta.start e10 (Or.inl (hsets _ (List.mem_of_getElem? (i := 0) rfl)))
  have hcp : ¬ (cp = (0 : Int32)) := gotF (Cond.eq_ints e10 (Term.int_eval (0))) n5
  have hEW : EW s _ consts_1 := (EW.cons (hw _ (List.mem_of_getElem? (i := 66) rfl)) (by decide) (EW.cons (hw _ (List.mem_of_getElem? (i := 133) rfl)) (by decide) (EW.cons (hw _ (List.mem_of_getElem? (i := 245) rfl)) (by decide) (EW.cons (hw _ (List.mem_of_getElem? (i := 244) rfl)) (by decide) (EW.cons (hw _ (List.mem_of_getElem? (i := 5) rfl)) (by decide) EW.nil)))))
  have hCH : CHv s consts_1 s.vm s.heap := CHv.start hEW (fun q hq => hcalls.1 q hq) hcw (hw _ (List.mem_of_getElem? (i := 8) rfl)) (hw _ (List.mem_of_getElem? (i := 7) rfl))
  obtain ⟨fm, efm, hfm⟩ := isR_v (Cond.before_iff.mp (hsets _ (List.mem_of_getElem? (i := 8) rfl)))
  have Hf : Sta s s.heap "jdk/internal/util/Preconditions" "SIOOBE_FORMATTER" "Ljava/util/function/BiFunction;" fm := Sta.start efm (Or.inl (hsets _ (List.mem_of_getElem? (i := 7) rfl)))
  obtain ⟨n, o, z1, z2, z3, v, L, rfl, hQ, N, -, -, hE⟩ := law l s _ hw s.heap.size hEW p0 p1 p2 p3 p4 s.heap (fun _ => False) cp Hc hcp fm hfm Hf tables_1 p e ha hc hk s m _ below hf ((Spec.applies_iff_loose hf).mp happ).1 ⟨rfl, State.Warmed39.refl s, rfl, hCH, Old.start s, fun _ q => q.elim⟩ (fun q => nomatch q)
  have hQ : v = some (.int 1) := hQ
  subst hQ
  refine ⟨n, _, z1, z2, z3, hpost _ _ _ _ _ _ ⟨Cond.after_iff.mpr rfl, Cond.after_iff.mpr (eq_i res_at (Term.int_eval (1)) rfl), trivial⟩ ⟨hE.1, hE.2.1, hE.2.2.1, (hE.2.2.2.sift fun y hy => Or.inr (N y hy)).mono (by decide) (by decide)⟩⟩
theorem main_1_1 : Claimed_1_1 := comes_1 fun _ _ _ _ _ _ h hF => ⟨h.1, hF⟩
theorem main_1_2 : Claimed_1_2 := comes_1 fun _ _ _ _ _ _ h hF => ⟨h.2.1, hF⟩
end Jvm.Pilot.@@N@@
namespace Jvm.Pilot.@@N@@
open Jvm Jvm.ClassFile Sem Op Lib Jvm.Free Jvm.Stand Jvm.Pilot.@@N@@.Jvm.D
/-! MADE BY PROGRAM (witnessworld.py) out of the Statement's table words and the real class files: 26 classes; the members and pool entries that the words name. The judged class is class 1, her method 4. -/
namespace start1
open Jvm.ClassFile
def u (s : String) : CpInfo := .utf8 (stringToUtf16 s)
/-- a pool by its gaps: so many unusable entries, then the entry; so many at the end -/
def gap : Nat → List CpInfo → List CpInfo
  | 0, r => r
  | n + 1, r => .unusable :: gap n r
def poolList (es : List (Nat × CpInfo)) (last : Nat) : List CpInfo := es.foldr (fun e r => gap e.1 (e.2 :: r)) (gap last [])
def pool (es : List (Nat × CpInfo)) (last : Nat) : Array CpInfo := ⟨poolList es last⟩
def fileOf (pool : Array CpInfo) (this : Nat) (attrs : Array Attribute := #[]) (ms : Array MethodInfo := #[]) (fl : Nat := 33) (sup : Nat := 0) (ifs : Array Nat := #[]) (fds : Array FieldInfo := #[]) : ClassFile where
  minorVersion := 0
  majorVersion := 65
  constantPool := pool
  accessFlags := fl
  thisClass := this
  superClass := sup
  interfaces := ifs
  fields := fds
  methods := ms
  attributes := attrs
def plain (name : String) (sup : Option ClassId) : Class where
  name := name
  kind := .ordinary
  loader := none
  accessFlags := 33
  super := sup
  interfaces := #[]
  cf := none
  fields := #[]
  methods := #[]
  instanceTypes := #[]
  staticTypes := #[]
  resolved := #[]
  callSites := []
  init := .initialized
  statics := none
  mirror := none

def pool0 : Array CpInfo := pool [(5, u "<init>"), (0, u "()V"), (1, .class_ 10), (1, u "java/lang/Object")] 113

def k0c0 : Code := { maxStack := 0, maxLocals := 1, code := object_method_1_code, exceptionTable := #[], attributes := #[] }
def k0m0 : Method := { name := "<init>", desc := "()V", sig := { parameters := [], returnType := none }, accessFlags := 1, code := some k0c0 }
/-- java/lang/Object -/
def k0 : Class := { plain "java/lang/Object" none with
  accessFlags := 33
  interfaces := #[]
  cf := some (fileOf pool0 8 #[] #[{ accessFlags := 1, nameIndex := 5, descriptorIndex := 6, attributes := #[] }] 33 0 #[] #[])
  fields := #[]
  methods := #[k0m0]
  instanceTypes := #[]
  staticTypes := #[]
  resolved := Array.replicate 124 none
  statics := none }

def pool1 : Array CpInfo := pool [(2, .class_ 4), (0, .nameAndType 5 6), (0, u "java/lang/Object"), (0, u "<init>"), (0, u "()V"), (0, .methodref 8 9), (0, .class_ 10), (0, .nameAndType 11 12), (0, u "java/lang/String"), (0, u "length"), (0, u "()I"), (0, .methodref 8 14), (0, .nameAndType 15 16), (0, u "charAt"), (0, u "(I)C"), (0, .methodref 18 19), (0, .class_ 20), (0, .nameAndType 21 22), (0, u "com/example/meerkat/meerkat/metrics/ExpositionFamilyPinLaw"), (0, u "one"), (0, u "(Ljava/lang/String;IC)I"), (0, .methodref 18 24), (0, .nameAndType 25 16), (0, u "pick"), (0, .integer 2147483647), (0, .string 28), (0, u ""), (0, .methodref 8 30), (0, .nameAndType 31 32), (0, u "valueOf"), (0, u "(C)Ljava/lang/String;"), (0, .methodref 8 34), (0, .nameAndType 5 35), (0, u "([C)V"), (0, .class_ 37), (0, u "com/example/meerkat/meerkat/metrics/Exposition"), (0, .methodref 36 3), (0, .methodref 36 40), (0, .nameAndType 41 42), (0, u "family"), (0, u "(Ljava/lang/String;Ljava/lang/String;Ljava/lang/String;)V"), (0, .methodref 36 44), (0, .nameAndType 45 46), (0, u "text"), (0, u "()Ljava/lang/String;"), (0, .methodref 18 48), (0, .nameAndType 49 22), (0, u "esc"), (3, u "law"), (0, u "(IIIII)Z")] 2

def k1m0 : Method := { name := "<init>", desc := "()V", sig := { parameters := [], returnType := none }, accessFlags := 1, code := none }
def k1c1 : Code := { maxStack := 2, maxLocals := 2, code := method_2_code, exceptionTable := #[], attributes := #[] }
def k1m1 : Method := { name := "pick", desc := "(I)C", sig := { parameters := [.int], returnType := some .char }, accessFlags := 10, code := some k1c1 }
def k1c2 : Code := { maxStack := 2, maxLocals := 3, code := method_3_code, exceptionTable := #[], attributes := #[] }
def k1m2 : Method := { name := "one", desc := "(Ljava/lang/String;IC)I", sig := { parameters := [(.object "java/lang/String"), .int, .char], returnType := some .int }, accessFlags := 10, code := some k1c2 }
def k1c3 : Code := { maxStack := 4, maxLocals := 3, code := method_4_code, exceptionTable := #[], attributes := #[] }
def k1m3 : Method := { name := "esc", desc := "(Ljava/lang/String;IC)I", sig := { parameters := [(.object "java/lang/String"), .int, .char], returnType := some .int }, accessFlags := 10, code := some k1c3 }
def k1c4 : Code := { maxStack := 4, maxLocals := 14, code := code, exceptionTable := #[], attributes := #[] }
def k1m4 : Method := { name := "law", desc := "(IIIII)Z", sig := { parameters := [.int, .int, .int, .int, .int], returnType := some .boolean }, accessFlags := 9, code := some k1c4 }
/-- com/example/meerkat/meerkat/metrics/ExpositionFamilyPinLaw -/
def k1 : Class := { plain "com/example/meerkat/meerkat/metrics/ExpositionFamilyPinLaw" (some 0) with
  accessFlags := 49
  interfaces := #[]
  cf := some (fileOf pool1 18 #[] #[{ accessFlags := 1, nameIndex := 5, descriptorIndex := 6, attributes := #[] }, { accessFlags := 10, nameIndex := 25, descriptorIndex := 16, attributes := #[] }, { accessFlags := 10, nameIndex := 21, descriptorIndex := 22, attributes := #[] }, { accessFlags := 10, nameIndex := 49, descriptorIndex := 22, attributes := #[] }, { accessFlags := 9, nameIndex := 53, descriptorIndex := 54, attributes := #[] }] 49 2 #[] #[])
  fields := #[]
  methods := #[k1m0, k1m1, k1m2, k1m3, k1m4]
  instanceTypes := #[]
  staticTypes := #[]
  resolved := Array.replicate 57 none
  statics := none }

def pool2 : Array CpInfo := pool [(1, .class_ 2), (0, u "java/io/Serializable"), (0, .class_ 4), (0, u "java/lang/Object")] 2

/-- java/io/Serializable -/
def k2 : Class := { plain "java/io/Serializable" (some 0) with
  accessFlags := 1537
  interfaces := #[]
  cf := some (fileOf pool2 1 #[] #[] 1537 3 #[] #[])
  fields := #[]
  methods := #[]
  instanceTypes := #[]
  staticTypes := #[]
  resolved := Array.replicate 7 none
  statics := none }

def pool3 : Array CpInfo := pool [(1, .class_ 2), (0, u "java/lang/Comparable"), (0, .class_ 4), (0, u "java/lang/Object")] 7

/-- java/lang/Comparable -/
def k3 : Class := { plain "java/lang/Comparable" (some 0) with
  accessFlags := 1537
  interfaces := #[]
  cf := some (fileOf pool3 1 #[] #[] 1537 3 #[] #[])
  fields := #[]
  methods := #[]
  instanceTypes := #[]
  staticTypes := #[]
  resolved := Array.replicate 12 none
  statics := none }

def pool4 : Array CpInfo := pool [(2, .class_ 4), (1, u "java/lang/CharSequence"), (42, .class_ 48), (0, u "java/lang/CharSequence$1CodePointIterator"), (10, .class_ 60), (0, u "java/lang/CharSequence$1CharIterator"), (5, .class_ 67), (0, u "java/lang/Object")] 63

/-- java/lang/CharSequence -/
def k4 : Class := { plain "java/lang/CharSequence" (some 0) with
  accessFlags := 1537
  interfaces := #[]
  cf := some (fileOf pool4 2 #[.nestMembers #[47, 59]] #[] 1537 66 #[] #[])
  fields := #[]
  methods := #[]
  instanceTypes := #[]
  staticTypes := #[]
  resolved := Array.replicate 131 none
  statics := none }

def pool5 : Array CpInfo := pool [(1, .class_ 2), (0, u "java/lang/constant/Constable"), (0, .class_ 4), (0, u "java/lang/Object")] 6

/-- java/lang/constant/Constable -/
def k5 : Class := { plain "java/lang/constant/Constable" (some 0) with
  accessFlags := 1537
  interfaces := #[]
  cf := some (fileOf pool5 1 #[] #[] 1537 3 #[] #[])
  fields := #[]
  methods := #[]
  instanceTypes := #[]
  staticTypes := #[]
  resolved := Array.replicate 11 none
  statics := none }

def pool6 : Array CpInfo := pool [(1, .class_ 2), (0, u "java/lang/constant/ConstantDesc"), (0, .class_ 4), (0, u "java/lang/Object")] 32

/-- java/lang/constant/ConstantDesc -/
def k6 : Class := { plain "java/lang/constant/ConstantDesc" (some 0) with
  accessFlags := 1537
  interfaces := #[]
  cf := some (fileOf pool6 1 #[] #[] 1537 3 #[] #[])
  fields := #[]
  methods := #[]
  instanceTypes := #[]
  staticTypes := #[]
  resolved := Array.replicate 37 none
  statics := none }

def pool7 : Array CpInfo := pool [(1, .methodref 2 3), (0, .class_ 4), (0, .nameAndType 5 6), (0, u "java/lang/Object"), (0, u "<init>"), (0, u "()V"), (2, .fieldref 10 11), (0, .class_ 12), (0, .nameAndType 13 14), (0, u "java/lang/String"), (0, u "value"), (0, u "[B"), (0, .fieldref 10 16), (0, .nameAndType 17 18), (0, u "coder"), (0, u "B"), (2, u "hash"), (0, u "I"), (2, u "hashIsZero"), (0, u "Z"), (0, .methodref 10 28), (0, .nameAndType 5 29), (0, u "([CIILjava/lang/Void;)V"), (8, .fieldref 10 39), (0, .nameAndType 40 26), (0, u "COMPACT_STRINGS"), (1, .class_ 44), (1, u "java/lang/StringUTF16"), (0, u "compress"), (1, .methodref 42 48), (0, .nameAndType 49 50), (0, u "coderFromArrayLen"), (0, u "([BI)B"), (2, u "toBytes"), (0, .methodref 55 56), (0, .class_ 57), (0, .nameAndType 58 59), (0, u "java/util/Arrays"), (0, u "copyOfRange"), (0, u "([BII)[B"), (47, .class_ 109), (1, u "java/lang/StringLatin1"), (32, u "()Z"), (34, .methodref 42 178), (0, .nameAndType 45 179), (0, u "([CII)[B"), (13, .class_ 195), (1, u "java/lang/System"), (13, .methodref 10 210), (0, .nameAndType 5 211), (0, u "([BB)V"), (0, .methodref 193 213), (0, .nameAndType 214 215), (0, u "arraycopy"), (0, u "(Ljava/lang/Object;ILjava/lang/Object;II)V"), (118, u "()I"), (0, .methodref 10 336), (0, .nameAndType 17 337), (0, u "()B"), (2, u "()[B"), (22, u "([BI)C"), (5, u "(C)Z"), (21, u "(II)V"), (35, u "(I)C"), (61, .methodref 10 490), (0, .nameAndType 5 491), (0, u "(Ljava/lang/AbstractStringBuilder;Ljava/lang/Void;)V"), (0, .methodref 10 493), (0, .nameAndType 494 142), (0, u "isLatin1"), (0, .methodref 107 496), (0, .nameAndType 497 363), (0, u "charAt"), (3, u "checkIndex"), (4, .nameAndType 507 334), (0, u "length"), (24, u "getBytes"), (16, .methodref 550 506), (0, .class_ 551), (0, u "java/lang/AbstractStringBuilder"), (0, .methodref 550 553), (0, .nameAndType 554 340), (0, u "getValue"), (20, .class_ 576), (0, u "java/lang/CharSequence"), (22, u "CASE_INSENSITIVE_ORDER"), (0, u "Ljava/util/Comparator;"), (181, u "valueOf"), (0, u "(C)Ljava/lang/String;"), (37, u "([BIB)V"), (188, u "([C)V"), (4, .methodref 107 1016), (0, .nameAndType 1017 369), (0, u "canEncode"), (0, .methodref 107 1019), (0, .nameAndType 53 1020), (0, u "(C)[B"), (26, .methodref 550 493), (5, .fieldref 1054 1055), (0, .class_ 1056), (0, .nameAndType 1057 1058), (0, u "jdk/internal/util/Preconditions"), (0, u "SIOOBE_FORMATTER"), (0, u "Ljava/util/function/BiFunction;"), (0, .methodref 1054 1060), (0, .nameAndType 501 1061), (0, u "(IILjava/util/function/BiFunction;)I"), (39, u "serialPersistentFields"), (0, u "[Ljava/io/ObjectStreamField;"), (0, .class_ 1104), (0, u "java/lang/String$CaseInsensitiveComparator"), (1, .class_ 1107), (0, u "java/io/Serializable"), (0, .class_ 1109), (0, u "java/lang/Comparable"), (0, .class_ 1111), (0, u "java/lang/constant/Constable"), (0, .class_ 1113), (0, u "java/lang/constant/ConstantDesc"), (2, u "serialVersionUID"), (0, u "J"), (3, u "REPL"), (0, u "C"), (2, u "LATIN1"), (1, u "UTF16"), (105, u "(Ljava/lang/StringBuilder;)V")] 217

def k7m0 : Method := { name := "<init>", desc := "()V", sig := { parameters := [], returnType := none }, accessFlags := 1, code := none }
def k7c1 : Code := { maxStack := 5, maxLocals := 2, code := jdk_42_method_3_code, exceptionTable := #[], attributes := #[] }
def k7m1 : Method := { name := "<init>", desc := "([C)V", sig := { parameters := [(.array .char)], returnType := none }, accessFlags := 1, code := some k7c1 }
def k7c2 : Code := { maxStack := 3, maxLocals := 2, code := jdk_42_method_53_code, exceptionTable := #[], attributes := #[] }
def k7m2 : Method := { name := "<init>", desc := "(Ljava/lang/StringBuilder;)V", sig := { parameters := [(.object "java/lang/StringBuilder")], returnType := none }, accessFlags := 1, code := some k7c2 }
def k7c3 : Code := { maxStack := 2, maxLocals := 1, code := jdk_42_method_54_code, exceptionTable := #[], attributes := #[] }
def k7m3 : Method := { name := "length", desc := "()I", sig := { parameters := [], returnType := some .int }, accessFlags := 1, code := some k7c3 }
def k7c4 : Code := { maxStack := 2, maxLocals := 2, code := jdk_42_method_56_code, exceptionTable := #[], attributes := #[] }
def k7m4 : Method := { name := "charAt", desc := "(I)C", sig := { parameters := [.int], returnType := some .char }, accessFlags := 1, code := some k7c4 }
def k7c5 : Code := { maxStack := 4, maxLocals := 1, code := jdk_42_method_139_code, exceptionTable := #[], attributes := #[] }
def k7m5 : Method := { name := "valueOf", desc := "(C)Ljava/lang/String;", sig := { parameters := [.char], returnType := some (.object "java/lang/String") }, accessFlags := 9, code := some k7c5 }
def k7c6 : Code := { maxStack := 5, maxLocals := 4, code := jdk_42_method_147_code, exceptionTable := #[], attributes := #[] }
def k7m6 : Method := { name := "getBytes", desc := "([BIB)V", sig := { parameters := [(.array .byte), .int, .byte], returnType := none }, accessFlags := 0, code := some k7c6 }
def k7c7 : Code := { maxStack := 4, maxLocals := 6, code := jdk_42_method_149_code, exceptionTable := #[], attributes := #[] }
def k7m7 : Method := { name := "<init>", desc := "([CIILjava/lang/Void;)V", sig := { parameters := [(.array .char), .int, .int, (.object "java/lang/Void")], returnType := none }, accessFlags := 2, code := some k7c7 }
def k7c8 : Code := { maxStack := 5, maxLocals := 5, code := jdk_42_method_150_code, exceptionTable := #[], attributes := #[] }
def k7m8 : Method := { name := "<init>", desc := "(Ljava/lang/AbstractStringBuilder;Ljava/lang/Void;)V", sig := { parameters := [(.object "java/lang/AbstractStringBuilder"), (.object "java/lang/Void")], returnType := none }, accessFlags := 0, code := some k7c8 }
def k7c9 : Code := { maxStack := 2, maxLocals := 3, code := jdk_42_method_151_code, exceptionTable := #[], attributes := #[] }
def k7m9 : Method := { name := "<init>", desc := "([BB)V", sig := { parameters := [(.array .byte), .byte], returnType := none }, accessFlags := 0, code := some k7c9 }
def k7c10 : Code := { maxStack := 1, maxLocals := 1, code := jdk_42_method_152_code, exceptionTable := #[], attributes := #[] }
def k7m10 : Method := { name := "coder", desc := "()B", sig := { parameters := [], returnType := some .byte }, accessFlags := 0, code := some k7c10 }
def k7c11 : Code := { maxStack := 1, maxLocals := 1, code := jdk_42_method_154_code, exceptionTable := #[], attributes := #[] }
def k7m11 : Method := { name := "isLatin1", desc := "()Z", sig := { parameters := [], returnType := some .boolean }, accessFlags := 0, code := some k7c11 }
def k7c12 : Code := { maxStack := 3, maxLocals := 2, code := jdk_42_method_155_code, exceptionTable := #[], attributes := #[] }
def k7m12 : Method := { name := "checkIndex", desc := "(II)V", sig := { parameters := [.int, .int], returnType := none }, accessFlags := 8, code := some k7c12 }
/-- java/lang/String -/
def k7 : Class := { plain "java/lang/String" (some 0) with
  accessFlags := 49
  interfaces := #[2, 3, 4, 5, 6]
  cf := some (fileOf pool7 10 #[.nestMembers #[1103]] #[{ accessFlags := 1, nameIndex := 5, descriptorIndex := 6, attributes := #[] }, { accessFlags := 1, nameIndex := 5, descriptorIndex := 1010, attributes := #[] }, { accessFlags := 1, nameIndex := 5, descriptorIndex := 1233, attributes := #[] }, { accessFlags := 1, nameIndex := 507, descriptorIndex := 334, attributes := #[] }, { accessFlags := 1, nameIndex := 497, descriptorIndex := 427, attributes := #[] }, { accessFlags := 9, nameIndex := 782, descriptorIndex := 783, attributes := #[] }, { accessFlags := 0, nameIndex := 532, descriptorIndex := 821, attributes := #[] }, { accessFlags := 2, nameIndex := 5, descriptorIndex := 29, attributes := #[] }, { accessFlags := 0, nameIndex := 5, descriptorIndex := 491, attributes := #[] }, { accessFlags := 0, nameIndex := 5, descriptorIndex := 211, attributes := #[] }, { accessFlags := 0, nameIndex := 17, descriptorIndex := 337, attributes := #[] }, { accessFlags := 0, nameIndex := 494, descriptorIndex := 142, attributes := #[] }, { accessFlags := 8, nameIndex := 501, descriptorIndex := 391, attributes := #[] }] 49 2 #[1106, 1108, 575, 1110, 1112] #[{ accessFlags := 18, nameIndex := 13, descriptorIndex := 14, attributes := #[] }, { accessFlags := 18, nameIndex := 17, descriptorIndex := 18, attributes := #[] }, { accessFlags := 2, nameIndex := 21, descriptorIndex := 22, attributes := #[] }, { accessFlags := 2, nameIndex := 25, descriptorIndex := 26, attributes := #[] }, { accessFlags := 26, nameIndex := 1116, descriptorIndex := 1117, attributes := #[] }, { accessFlags := 24, nameIndex := 40, descriptorIndex := 26, attributes := #[] }, { accessFlags := 26, nameIndex := 1101, descriptorIndex := 1102, attributes := #[] }, { accessFlags := 26, nameIndex := 1121, descriptorIndex := 1122, attributes := #[] }, { accessFlags := 25, nameIndex := 599, descriptorIndex := 600, attributes := #[] }, { accessFlags := 24, nameIndex := 1125, descriptorIndex := 18, attributes := #[] }, { accessFlags := 24, nameIndex := 1127, descriptorIndex := 18, attributes := #[] }])
  fields := #[{ name := "value", type := (.array .byte), accessFlags := 18, slot := 0, constantValue := 0 }, { name := "coder", type := .byte, accessFlags := 18, slot := 1, constantValue := 0 }, { name := "hash", type := .int, accessFlags := 2, slot := 2, constantValue := 0 }, { name := "hashIsZero", type := .boolean, accessFlags := 2, slot := 3, constantValue := 0 }, { name := "serialVersionUID", type := .long, accessFlags := 26, slot := 0, constantValue := 0 }, { name := "COMPACT_STRINGS", type := .boolean, accessFlags := 24, slot := 1, constantValue := 0 }, { name := "serialPersistentFields", type := (.array (.object "java/io/ObjectStreamField")), accessFlags := 26, slot := 2, constantValue := 0 }, { name := "REPL", type := .char, accessFlags := 26, slot := 3, constantValue := 0 }, { name := "CASE_INSENSITIVE_ORDER", type := (.object "java/util/Comparator"), accessFlags := 25, slot := 4, constantValue := 0 }, { name := "LATIN1", type := .byte, accessFlags := 24, slot := 5, constantValue := 0 }, { name := "UTF16", type := .byte, accessFlags := 24, slot := 6, constantValue := 0 }]
  methods := #[k7m0, k7m1, k7m2, k7m3, k7m4, k7m5, k7m6, k7m7, k7m8, k7m9, k7m10, k7m11, k7m12]
  instanceTypes := #[(.array .byte), .byte, .int, .boolean]
  staticTypes := #[.long, .boolean, (.array (.object "java/io/ObjectStreamField")), .char, (.object "java/util/Comparator"), .byte, .byte]
  resolved := Array.replicate 1451 none
  statics := some 0 }

def pool8 : Array CpInfo := pool [(1, .methodref 2 3), (0, .class_ 4), (0, .nameAndType 5 6), (0, u "java/lang/Object"), (0, u "<init>"), (0, u "()V"), (0, .class_ 8), (0, u "java/lang/StringBuilder"), (0, .methodref 7 3), (0, .fieldref 11 12), (0, .class_ 13), (0, .nameAndType 14 15), (0, u "com/example/meerkat/meerkat/metrics/Exposition"), (0, u "text"), (0, u "Ljava/lang/StringBuilder;"), (0, .string 17), (0, u "# HELP "), (0, .methodref 7 19), (0, .nameAndType 20 21), (0, u "append"), (0, u "(Ljava/lang/String;)Ljava/lang/StringBuilder;"), (0, .methodref 7 23), (0, .nameAndType 20 24), (0, u "(C)Ljava/lang/StringBuilder;"), (0, .methodref 11 26), (0, .nameAndType 27 28), (0, u "escape"), (0, u "(Ljava/lang/String;ZLjava/lang/StringBuilder;)V"), (0, .string 30), (0, u "\n# TYPE "), (1, .class_ 34), (1, u "java/lang/String"), (2, .methodref 7 38), (0, .nameAndType 39 40), (0, u "toString"), (0, u "()Ljava/lang/String;"), (5, u "()I"), (38, .methodref 32 86), (0, .nameAndType 87 46), (0, u "length"), (0, .methodref 32 89), (0, .nameAndType 90 91), (0, u "charAt"), (0, u "(I)C"), (0, .string 93), (0, u "\\\\"), (0, .string 95), (0, u "\\n"), (4, u "family"), (0, u "(Ljava/lang/String;Ljava/lang/String;Ljava/lang/String;)V")] 27

def k8c0 : Code := { maxStack := 3, maxLocals := 1, code := prog_10_method_1_code, exceptionTable := #[], attributes := #[] }
def k8m0 : Method := { name := "<init>", desc := "()V", sig := { parameters := [], returnType := none }, accessFlags := 0, code := some k8c0 }
def k8c1 : Code := { maxStack := 3, maxLocals := 4, code := prog_10_method_2_code, exceptionTable := #[], attributes := #[] }
def k8m1 : Method := { name := "family", desc := "(Ljava/lang/String;Ljava/lang/String;Ljava/lang/String;)V", sig := { parameters := [(.object "java/lang/String"), (.object "java/lang/String"), (.object "java/lang/String")], returnType := none }, accessFlags := 0, code := some k8c1 }
def k8c2 : Code := { maxStack := 1, maxLocals := 1, code := prog_10_method_4_code, exceptionTable := #[], attributes := #[] }
def k8m2 : Method := { name := "text", desc := "()Ljava/lang/String;", sig := { parameters := [], returnType := some (.object "java/lang/String") }, accessFlags := 0, code := some k8c2 }
def k8c3 : Code := { maxStack := 2, maxLocals := 5, code := prog_10_method_8_code, exceptionTable := #[], attributes := #[] }
def k8m3 : Method := { name := "escape", desc := "(Ljava/lang/String;ZLjava/lang/StringBuilder;)V", sig := { parameters := [(.object "java/lang/String"), .boolean, (.object "java/lang/StringBuilder")], returnType := none }, accessFlags := 10, code := some k8c3 }
/-- com/example/meerkat/meerkat/metrics/Exposition -/
def k8 : Class := { plain "com/example/meerkat/meerkat/metrics/Exposition" (some 0) with
  accessFlags := 48
  interfaces := #[]
  cf := some (fileOf pool8 11 #[] #[{ accessFlags := 0, nameIndex := 5, descriptorIndex := 6, attributes := #[] }, { accessFlags := 0, nameIndex := 100, descriptorIndex := 101, attributes := #[] }, { accessFlags := 0, nameIndex := 14, descriptorIndex := 40, attributes := #[] }, { accessFlags := 10, nameIndex := 27, descriptorIndex := 28, attributes := #[] }] 48 2 #[] #[{ accessFlags := 18, nameIndex := 14, descriptorIndex := 15, attributes := #[] }])
  fields := #[{ name := "text", type := (.object "java/lang/StringBuilder"), accessFlags := 18, slot := 0, constantValue := 0 }]
  methods := #[k8m0, k8m1, k8m2, k8m3]
  instanceTypes := #[(.object "java/lang/StringBuilder")]
  staticTypes := #[]
  resolved := Array.replicate 129 none
  statics := none }

def pool9 : Array CpInfo := pool [(1, .class_ 2), (0, u "java/lang/Appendable"), (0, .class_ 4), (0, u "java/lang/Object")] 9

/-- java/lang/Appendable -/
def k9 : Class := { plain "java/lang/Appendable" (some 0) with
  accessFlags := 1537
  interfaces := #[]
  cf := some (fileOf pool9 1 #[] #[] 1537 3 #[] #[])
  fields := #[]
  methods := #[]
  instanceTypes := #[]
  staticTypes := #[]
  resolved := Array.replicate 14 none
  statics := none }

def pool10 : Array CpInfo := pool [(1, .class_ 2), (0, u "java/lang/String"), (0, .methodref 4 5), (0, .class_ 6), (0, .nameAndType 7 8), (0, u "java/lang/Object"), (0, u "<init>"), (0, u "()V"), (1, .class_ 12), (1, u "java/lang/AbstractStringBuilder"), (0, u "EMPTYVALUE"), (0, u "[B"), (0, .fieldref 10 16), (0, .nameAndType 17 14), (0, u "value"), (0, .fieldref 1 19), (0, .nameAndType 20 21), (0, u "COMPACT_STRINGS"), (0, u "Z"), (0, .fieldref 10 23), (0, .nameAndType 24 25), (0, u "coder"), (0, u "B"), (6, .methodref 1 33), (0, .nameAndType 34 35), (0, u "length"), (0, u "()I"), (3, .integer 2147483647), (0, .methodref 1 41), (0, .nameAndType 24 42), (0, u "()B"), (2, u "append"), (0, u "(Ljava/lang/String;)Ljava/lang/AbstractStringBuilder;"), (1, .class_ 49), (0, u "java/lang/CharSequence"), (19, u "(Ljava/lang/String;)V"), (5, u "maybeLatin1"), (3, .fieldref 10 80), (0, .nameAndType 81 82), (0, u "count"), (0, u "I"), (0, .methodref 10 84), (0, .nameAndType 85 86), (0, u "isLatin1"), (0, u "()Z"), (1, .class_ 90), (1, u "java/lang/StringLatin1"), (9, .methodref 10 101), (0, .nameAndType 102 103), (0, u "ensureCapacityInternal"), (0, u "(I)V"), (0, .methodref 10 105), (0, .nameAndType 106 107), (0, u "newCapacity"), (0, u "(I)I"), (0, .methodref 109 110), (0, .class_ 111), (0, .nameAndType 112 113), (0, u "java/util/Arrays"), (0, u "copyOf"), (0, u "([BI)[B"), (0, .methodref 115 116), (0, .class_ 117), (0, .nameAndType 118 119), (0, u "jdk/internal/util/ArraysSupport"), (0, u "newLength"), (0, u "(III)I"), (71, .methodref 88 192), (0, .nameAndType 193 194), (0, u "canEncode"), (0, u "(C)Z"), (13, .methodref 10 209), (0, .nameAndType 210 211), (0, u "putStringAt"), (0, u "(ILjava/lang/String;)V"), (5, u "inflateIfNeededFor"), (2, .nameAndType 221 222), (0, u "getBytes"), (0, u "([BIB)V"), (69, u "(C)Ljava/lang/AbstractStringBuilder;"), (104, .methodref 10 398), (0, .nameAndType 217 69), (0, .methodref 1 220), (3, u "()[B"), (40, .class_ 445), (0, u "java/lang/Appendable"), (106, u "getValue")] 56

def k10m0 : Method := { name := "<init>", desc := "()V", sig := { parameters := [], returnType := none }, accessFlags := 0, code := none }
def k10c1 : Code := { maxStack := 2, maxLocals := 2, code := jdk_68_method_2_code, exceptionTable := #[], attributes := #[] }
def k10m1 : Method := { name := "<init>", desc := "(I)V", sig := { parameters := [.int], returnType := none }, accessFlags := 0, code := some k10c1 }
def k10c2 : Code := { maxStack := 1, maxLocals := 1, code := jdk_68_method_6_code, exceptionTable := #[], attributes := #[] }
def k10m2 : Method := { name := "length", desc := "()I", sig := { parameters := [], returnType := some .int }, accessFlags := 1, code := some k10c2 }
def k10c3 : Code := { maxStack := 4, maxLocals := 3, code := jdk_68_method_9_code, exceptionTable := #[], attributes := #[] }
def k10m3 : Method := { name := "ensureCapacityInternal", desc := "(I)V", sig := { parameters := [.int], returnType := none }, accessFlags := 2, code := some k10c3 }
def k10c4 : Code := { maxStack := 5, maxLocals := 6, code := jdk_68_method_10_code, exceptionTable := #[], attributes := #[] }
def k10m4 : Method := { name := "newCapacity", desc := "(I)I", sig := { parameters := [.int], returnType := some .int }, accessFlags := 2, code := some k10c4 }
def k10c5 : Code := { maxStack := 3, maxLocals := 3, code := jdk_68_method_22_code, exceptionTable := #[], attributes := #[] }
def k10m5 : Method := { name := "append", desc := "(Ljava/lang/String;)Ljava/lang/AbstractStringBuilder;", sig := { parameters := [(.object "java/lang/String")], returnType := some (.object "java/lang/AbstractStringBuilder") }, accessFlags := 1, code := some k10c5 }
def k10c6 : Code := { maxStack := 5, maxLocals := 2, code := jdk_68_method_31_code, exceptionTable := #[], attributes := #[] }
def k10m6 : Method := { name := "append", desc := "(C)Ljava/lang/AbstractStringBuilder;", sig := { parameters := [.char], returnType := some (.object "java/lang/AbstractStringBuilder") }, accessFlags := 1, code := some k10c6 }
def k10c7 : Code := { maxStack := 1, maxLocals := 1, code := jdk_68_method_64_code, exceptionTable := #[], attributes := #[] }
def k10m7 : Method := { name := "getValue", desc := "()[B", sig := { parameters := [], returnType := some (.array .byte) }, accessFlags := 16, code := some k10c7 }
def k10c8 : Code := { maxStack := 1, maxLocals := 1, code := jdk_68_method_68_code, exceptionTable := #[], attributes := #[] }
def k10m8 : Method := { name := "isLatin1", desc := "()Z", sig := { parameters := [], returnType := some .boolean }, accessFlags := 16, code := some k10c8 }
def k10c9 : Code := { maxStack := 2, maxLocals := 2, code := jdk_68_method_71_code, exceptionTable := #[], attributes := #[] }
def k10m9 : Method := { name := "inflateIfNeededFor", desc := "(Ljava/lang/String;)V", sig := { parameters := [(.object "java/lang/String")], returnType := none }, accessFlags := 2, code := some k10c9 }
def k10c10 : Code := { maxStack := 4, maxLocals := 3, code := jdk_68_method_73_code, exceptionTable := #[], attributes := #[] }
def k10m10 : Method := { name := "putStringAt", desc := "(ILjava/lang/String;)V", sig := { parameters := [.int, (.object "java/lang/String")], returnType := none }, accessFlags := 2, code := some k10c10 }
/-- java/lang/AbstractStringBuilder -/
def k10 : Class := { plain "java/lang/AbstractStringBuilder" (some 0) with
  accessFlags := 1056
  interfaces := #[9, 4]
  cf := some (fileOf pool10 10 #[] #[{ accessFlags := 0, nameIndex := 7, descriptorIndex := 8, attributes := #[] }, { accessFlags := 0, nameIndex := 7, descriptorIndex := 103, attributes := #[] }, { accessFlags := 1, nameIndex := 34, descriptorIndex := 35, attributes := #[] }, { accessFlags := 2, nameIndex := 102, descriptorIndex := 103, attributes := #[] }, { accessFlags := 2, nameIndex := 106, descriptorIndex := 107, attributes := #[] }, { accessFlags := 1, nameIndex := 45, descriptorIndex := 46, attributes := #[] }, { accessFlags := 1, nameIndex := 45, descriptorIndex := 292, attributes := #[] }, { accessFlags := 16, nameIndex := 552, descriptorIndex := 403, attributes := #[] }, { accessFlags := 16, nameIndex := 85, descriptorIndex := 86, attributes := #[] }, { accessFlags := 2, nameIndex := 217, descriptorIndex := 69, attributes := #[] }, { accessFlags := 2, nameIndex := 210, descriptorIndex := 211, attributes := #[] }] 1056 4 #[444, 48] #[{ accessFlags := 0, nameIndex := 17, descriptorIndex := 14, attributes := #[] }, { accessFlags := 0, nameIndex := 24, descriptorIndex := 25, attributes := #[] }, { accessFlags := 0, nameIndex := 75, descriptorIndex := 21, attributes := #[] }, { accessFlags := 0, nameIndex := 81, descriptorIndex := 82, attributes := #[] }, { accessFlags := 26, nameIndex := 13, descriptorIndex := 14, attributes := #[] }])
  fields := #[{ name := "value", type := (.array .byte), accessFlags := 0, slot := 0, constantValue := 0 }, { name := "coder", type := .byte, accessFlags := 0, slot := 1, constantValue := 0 }, { name := "maybeLatin1", type := .boolean, accessFlags := 0, slot := 2, constantValue := 0 }, { name := "count", type := .int, accessFlags := 0, slot := 3, constantValue := 0 }, { name := "EMPTYVALUE", type := (.array .byte), accessFlags := 26, slot := 0, constantValue := 0 }]
  methods := #[k10m0, k10m1, k10m2, k10m3, k10m4, k10m5, k10m6, k10m7, k10m8, k10m9, k10m10]
  instanceTypes := #[(.array .byte), .byte, .boolean, .int]
  staticTypes := #[(.array .byte)]
  resolved := Array.replicate 609 none
  statics := none }

def pool11 : Array CpInfo := pool [(1, .methodref 2 3), (0, .class_ 4), (0, .nameAndType 5 6), (0, u "java/lang/AbstractStringBuilder"), (0, u "<init>"), (0, u "(I)V"), (11, .class_ 20), (1, u "java/lang/String"), (3, .class_ 26), (1, u "java/lang/StringBuilder"), (0, u "append"), (0, u "(Ljava/lang/String;)Ljava/lang/StringBuilder;"), (0, .methodref 2 30), (0, .nameAndType 27 31), (0, u "(Ljava/lang/String;)Ljava/lang/AbstractStringBuilder;"), (18, .methodref 2 51), (0, .nameAndType 27 52), (0, u "(C)Ljava/lang/AbstractStringBuilder;"), (84, .methodref 18 138), (0, .nameAndType 5 139), (0, u "(Ljava/lang/StringBuilder;)V"), (5, u "()V"), (10, u "()I"), (129, u "(C)Ljava/lang/StringBuilder;"), (56, .methodref 2 344), (0, .nameAndType 345 156), (0, u "length"), (3, .class_ 350), (0, u "java/lang/Appendable"), (0, .class_ 352), (0, u "java/io/Serializable"), (0, .class_ 354), (0, u "java/lang/Comparable"), (0, .class_ 356), (0, u "java/lang/CharSequence"), (0, u "serialVersionUID"), (0, u "J"), (40, u "toString"), (0, u "()Ljava/lang/String;")] 21

def k11c0 : Code := { maxStack := 2, maxLocals := 1, code := jdk_67_method_1_code, exceptionTable := #[], attributes := #[] }
def k11m0 : Method := { name := "<init>", desc := "()V", sig := { parameters := [], returnType := none }, accessFlags := 1, code := some k11c0 }
def k11c1 : Code := { maxStack := 2, maxLocals := 2, code := jdk_67_method_7_code, exceptionTable := #[], attributes := #[] }
def k11m1 : Method := { name := "append", desc := "(Ljava/lang/String;)Ljava/lang/StringBuilder;", sig := { parameters := [(.object "java/lang/String")], returnType := some (.object "java/lang/StringBuilder") }, accessFlags := 1, code := some k11c1 }
def k11c2 : Code := { maxStack := 2, maxLocals := 2, code := jdk_67_method_14_code, exceptionTable := #[], attributes := #[] }
def k11m2 : Method := { name := "append", desc := "(C)Ljava/lang/StringBuilder;", sig := { parameters := [.char], returnType := some (.object "java/lang/StringBuilder") }, accessFlags := 1, code := some k11c2 }
def k11c3 : Code := { maxStack := 3, maxLocals := 1, code := jdk_67_method_42_code, exceptionTable := #[], attributes := #[] }
def k11m3 : Method := { name := "toString", desc := "()Ljava/lang/String;", sig := { parameters := [], returnType := some (.object "java/lang/String") }, accessFlags := 1, code := some k11c3 }
def k11c4 : Code := { maxStack := 1, maxLocals := 1, code := jdk_67_method_93_code, exceptionTable := #[], attributes := #[] }
def k11m4 : Method := { name := "length", desc := "()I", sig := { parameters := [], returnType := some .int }, accessFlags := 4161, code := some k11c4 }
/-- java/lang/StringBuilder -/
def k11 : Class := { plain "java/lang/StringBuilder" (some 10) with
  accessFlags := 49
  interfaces := #[9, 2, 3, 4]
  cf := some (fileOf pool11 24 #[] #[{ accessFlags := 1, nameIndex := 5, descriptorIndex := 145, attributes := #[] }, { accessFlags := 1, nameIndex := 27, descriptorIndex := 28, attributes := #[] }, { accessFlags := 1, nameIndex := 27, descriptorIndex := 286, attributes := #[] }, { accessFlags := 1, nameIndex := 399, descriptorIndex := 400, attributes := #[] }, { accessFlags := 4161, nameIndex := 345, descriptorIndex := 156, attributes := #[] }] 49 2 #[349, 351, 353, 355] #[{ accessFlags := 24, nameIndex := 357, descriptorIndex := 358, attributes := #[] }])
  fields := #[{ name := "serialVersionUID", type := .long, accessFlags := 24, slot := 0, constantValue := 0 }]
  methods := #[k11m0, k11m1, k11m2, k11m3, k11m4]
  instanceTypes := #[(.array .byte), .byte, .boolean, .int]
  staticTypes := #[.long]
  resolved := Array.replicate 422 none
  statics := none }

def pool12 : Array CpInfo := pool [(1, .class_ 2), (0, u "java/lang/String"), (1, .class_ 6), (1, u "java/lang/Object"), (0, u "<init>"), (0, u "()V"), (0, .methodref 1 10), (0, .nameAndType 11 12), (0, u "checkIndex"), (0, u "(II)V"), (1, .class_ 16), (1, u "java/lang/StringLatin1"), (36, u "([BI)C"), (36, u "canEncode"), (14, u "(C)Z"), (15, u "$assertionsDisabled"), (0, u "Z"), (98, .class_ 223), (1, u "java/lang/StringLatin1$LinesSpliterator"), (28, u "charAt"), (127, u "toBytes"), (1, u "(C)[B"), (7, .class_ 391), (0, u "java/lang/StringLatin1$CharsSpliterator")] 3

def k12m0 : Method := { name := "<init>", desc := "()V", sig := { parameters := [], returnType := none }, accessFlags := 0, code := none }
def k12c1 : Code := { maxStack := 2, maxLocals := 2, code := jdk_43_method_2_code, exceptionTable := #[], attributes := #[] }
def k12m1 : Method := { name := "charAt", desc := "([BI)C", sig := { parameters := [(.array .byte), .int], returnType := some .char }, accessFlags := 9, code := some k12c1 }
def k12c2 : Code := { maxStack := 2, maxLocals := 1, code := jdk_43_method_3_code, exceptionTable := #[], attributes := #[] }
def k12m2 : Method := { name := "canEncode", desc := "(C)Z", sig := { parameters := [.char], returnType := some .boolean }, accessFlags := 9, code := some k12c2 }
def k12c3 : Code := { maxStack := 4, maxLocals := 1, code := jdk_43_method_46_code, exceptionTable := #[], attributes := #[] }
def k12m3 : Method := { name := "toBytes", desc := "(C)[B", sig := { parameters := [.char], returnType := some (.array .byte) }, accessFlags := 9, code := some k12c3 }
/-- java/lang/StringLatin1 -/
def k12 : Class := { plain "java/lang/StringLatin1" (some 0) with
  accessFlags := 48
  interfaces := #[]
  cf := some (fileOf pool12 14 #[.nestMembers #[390, 221]] #[{ accessFlags := 0, nameIndex := 7, descriptorIndex := 8, attributes := #[] }, { accessFlags := 9, nameIndex := 252, descriptorIndex := 53, attributes := #[] }, { accessFlags := 9, nameIndex := 90, descriptorIndex := 105, attributes := #[] }, { accessFlags := 9, nameIndex := 380, descriptorIndex := 382, attributes := #[] }] 48 4 #[] #[{ accessFlags := 4120, nameIndex := 121, descriptorIndex := 122, attributes := #[] }])
  fields := #[{ name := "$assertionsDisabled", type := .boolean, accessFlags := 4120, slot := 0, constantValue := 0 }]
  methods := #[k12m0, k12m1, k12m2, k12m3]
  instanceTypes := #[]
  staticTypes := #[.boolean]
  resolved := Array.replicate 395 none
  statics := none }

def pool13 : Array CpInfo := pool [(2, .class_ 4), (1, u "java/lang/Object"), (0, u "<init>"), (0, u "()V"), (1, .class_ 10), (1, u "java/lang/System"), (0, u "allowSecurityManager"), (0, u "I"), (16, u "cons"), (0, u "Ljava/io/Console;"), (77, .class_ 110), (1, u "java/lang/System$CallersHolder"), (43, u "initialErrStream"), (0, u "Ljava/io/PrintStream;"), (19, u "security"), (0, u "Ljava/lang/SecurityManager;"), (31, .class_ 209), (0, u "java/lang/System$1"), (7, u "props"), (0, u "Ljava/util/Properties;"), (2, u "lineSeparator"), (0, u "Ljava/lang/String;"), (96, .class_ 321), (1, u "java/lang/System$LoggerFinder"), (5, .class_ 328), (0, u "java/lang/System$Logger"), (67, u "err"), (2, u "out"), (91, u "notSupportedJnuEncoding"), (15, u "in"), (17, u "initialIn"), (0, u "Ljava/io/InputStream;"), (35, u "bootLayer"), (0, u "Ljava/lang/ModuleLayer;"), (99, .class_ 664), (0, u "java/lang/System$2"), (9, u "NEVER"), (2, u "MAYBE"), (49, u "arraycopy"), (0, u "(Ljava/lang/Object;ILjava/lang/Object;II)V"), (72, .class_ 802), (0, u "java/lang/System$Logger$Level")] 31

def k13m0 : Method := { name := "<init>", desc := "()V", sig := { parameters := [], returnType := none }, accessFlags := 2, code := none }
def k13m1 : Method := { name := "arraycopy", desc := "(Ljava/lang/Object;ILjava/lang/Object;II)V", sig := { parameters := [(.object "java/lang/Object"), .int, (.object "java/lang/Object"), .int, .int], returnType := none }, accessFlags := 265, code := none }
/-- java/lang/System -/
def k13 : Class := { plain "java/lang/System" (some 0) with
  accessFlags := 49
  interfaces := #[]
  cf := some (fileOf pool13 8 #[.nestMembers #[319, 327, 801, 108, 663, 208]] #[{ accessFlags := 2, nameIndex := 5, descriptorIndex := 6, attributes := #[] }, { accessFlags := 265, nameIndex := 727, descriptorIndex := 728, attributes := #[] }] 49 2 #[] #[{ accessFlags := 25, nameIndex := 507, descriptorIndex := 526, attributes := #[] }, { accessFlags := 25, nameIndex := 399, descriptorIndex := 155, attributes := #[] }, { accessFlags := 25, nameIndex := 396, descriptorIndex := 155, attributes := #[] }, { accessFlags := 10, nameIndex := 525, descriptorIndex := 526, attributes := #[] }, { accessFlags := 26, nameIndex := 674, descriptorIndex := 12, attributes := #[] }, { accessFlags := 26, nameIndex := 677, descriptorIndex := 12, attributes := #[] }, { accessFlags := 10, nameIndex := 11, descriptorIndex := 12, attributes := #[] }, { accessFlags := 74, nameIndex := 175, descriptorIndex := 176, attributes := #[] }, { accessFlags := 10, nameIndex := 491, descriptorIndex := 222, attributes := #[] }, { accessFlags := 74, nameIndex := 29, descriptorIndex := 30, attributes := #[] }, { accessFlags := 74, nameIndex := 154, descriptorIndex := 155, attributes := #[] }, { accessFlags := 10, nameIndex := 217, descriptorIndex := 218, attributes := #[] }, { accessFlags := 10, nameIndex := 221, descriptorIndex := 222, attributes := #[] }, { accessFlags := 8, nameIndex := 562, descriptorIndex := 563, attributes := #[] }])
  fields := #[{ name := "in", type := (.object "java/io/InputStream"), accessFlags := 25, slot := 0, constantValue := 0 }, { name := "out", type := (.object "java/io/PrintStream"), accessFlags := 25, slot := 1, constantValue := 0 }, { name := "err", type := (.object "java/io/PrintStream"), accessFlags := 25, slot := 2, constantValue := 0 }, { name := "initialIn", type := (.object "java/io/InputStream"), accessFlags := 10, slot := 3, constantValue := 0 }, { name := "NEVER", type := .int, accessFlags := 26, slot := 4, constantValue := 0 }, { name := "MAYBE", type := .int, accessFlags := 26, slot := 5, constantValue := 0 }, { name := "allowSecurityManager", type := .int, accessFlags := 10, slot := 6, constantValue := 0 }, { name := "security", type := (.object "java/lang/SecurityManager"), accessFlags := 74, slot := 7, constantValue := 0 }, { name := "notSupportedJnuEncoding", type := (.object "java/lang/String"), accessFlags := 10, slot := 8, constantValue := 0 }, { name := "cons", type := (.object "java/io/Console"), accessFlags := 74, slot := 9, constantValue := 0 }, { name := "initialErrStream", type := (.object "java/io/PrintStream"), accessFlags := 74, slot := 10, constantValue := 0 }, { name := "props", type := (.object "java/util/Properties"), accessFlags := 10, slot := 11, constantValue := 0 }, { name := "lineSeparator", type := (.object "java/lang/String"), accessFlags := 10, slot := 12, constantValue := 0 }, { name := "bootLayer", type := (.object "java/lang/ModuleLayer"), accessFlags := 8, slot := 13, constantValue := 0 }]
  methods := #[k13m0, k13m1]
  instanceTypes := #[]
  staticTypes := #[(.object "java/io/InputStream"), (.object "java/io/PrintStream"), (.object "java/io/PrintStream"), (.object "java/io/InputStream"), .int, .int, .int, (.object "java/lang/SecurityManager"), (.object "java/lang/String"), (.object "java/io/Console"), (.object "java/io/PrintStream"), (.object "java/util/Properties"), (.object "java/lang/String"), (.object "java/lang/ModuleLayer")]
  resolved := Array.replicate 834 none
  statics := none }

def pool14 : Array CpInfo := pool [(9, u "<init>"), (6, .class_ 18), (1, u "java/lang/Object"), (0, u "()V"), (1, .class_ 23), (1, u "jdk/internal/util/ArraysSupport"), (0, u "LOG2_ARRAY_LONG_INDEX_SCALE"), (0, u "I"), (2, u "U"), (0, u "Ljdk/internal/misc/Unsafe;"), (8, u "BIG_ENDIAN"), (0, u "Z"), (8, u "LOG2_BYTE_BIT_SIZE"), (4, u "LOG2_ARRAY_INT_INDEX_SCALE"), (54, u "JLA"), (0, u "Ljdk/internal/access/JavaLangAccess;"), (11, u "LOG2_ARRAY_BOOLEAN_INDEX_SCALE"), (9, u "LOG2_ARRAY_BYTE_INDEX_SCALE"), (5, u "LOG2_ARRAY_CHAR_INDEX_SCALE"), (5, u "LOG2_ARRAY_SHORT_INDEX_SCALE"), (18, u "LOG2_ARRAY_FLOAT_INDEX_SCALE"), (24, u "LOG2_ARRAY_DOUBLE_INDEX_SCALE"), (6, .methodref 195 196), (0, .class_ 197), (0, .nameAndType 198 199), (0, u "java/lang/Math"), (0, u "max"), (0, u "(II)I"), (0, .integer 2147483639), (76, u "T_BOOLEAN"), (2, u "T_CHAR"), (1, u "T_FLOAT"), (1, u "T_DOUBLE"), (1, u "T_BYTE"), (1, u "T_SHORT"), (1, u "T_INT"), (1, u "T_LONG"), (1, u "SOFT_MAX_ARRAY_LENGTH"), (56, u "newLength"), (0, u "(III)I")] 25

def k14m0 : Method := { name := "<init>", desc := "()V", sig := { parameters := [], returnType := none }, accessFlags := 2, code := none }
def k14c1 : Code := { maxStack := 3, maxLocals := 4, code := jdk_48_method_27_code, exceptionTable := #[], attributes := #[] }
def k14m1 : Method := { name := "newLength", desc := "(III)I", sig := { parameters := [.int, .int, .int], returnType := some .int }, accessFlags := 9, code := some k14c1 }
/-- jdk/internal/util/ArraysSupport -/
def k14 : Class := { plain "jdk/internal/util/ArraysSupport" (some 0) with
  accessFlags := 33
  interfaces := #[]
  cf := some (fileOf pool14 21 #[] #[{ accessFlags := 2, nameIndex := 9, descriptorIndex := 19, attributes := #[] }, { accessFlags := 9, nameIndex := 351, descriptorIndex := 352, attributes := #[] }] 33 16 #[] #[{ accessFlags := 24, nameIndex := 28, descriptorIndex := 29, attributes := #[] }, { accessFlags := 26, nameIndex := 38, descriptorIndex := 39, attributes := #[] }, { accessFlags := 25, nameIndex := 121, descriptorIndex := 25, attributes := #[] }, { accessFlags := 25, nameIndex := 131, descriptorIndex := 25, attributes := #[] }, { accessFlags := 25, nameIndex := 137, descriptorIndex := 25, attributes := #[] }, { accessFlags := 25, nameIndex := 143, descriptorIndex := 25, attributes := #[] }, { accessFlags := 25, nameIndex := 53, descriptorIndex := 25, attributes := #[] }, { accessFlags := 25, nameIndex := 24, descriptorIndex := 25, attributes := #[] }, { accessFlags := 25, nameIndex := 162, descriptorIndex := 25, attributes := #[] }, { accessFlags := 25, nameIndex := 187, descriptorIndex := 25, attributes := #[] }, { accessFlags := 26, nameIndex := 48, descriptorIndex := 25, attributes := #[] }, { accessFlags := 25, nameIndex := 277, descriptorIndex := 25, attributes := #[] }, { accessFlags := 25, nameIndex := 280, descriptorIndex := 25, attributes := #[] }, { accessFlags := 25, nameIndex := 282, descriptorIndex := 25, attributes := #[] }, { accessFlags := 25, nameIndex := 284, descriptorIndex := 25, attributes := #[] }, { accessFlags := 25, nameIndex := 286, descriptorIndex := 25, attributes := #[] }, { accessFlags := 25, nameIndex := 288, descriptorIndex := 25, attributes := #[] }, { accessFlags := 25, nameIndex := 290, descriptorIndex := 25, attributes := #[] }, { accessFlags := 25, nameIndex := 292, descriptorIndex := 25, attributes := #[] }, { accessFlags := 26, nameIndex := 108, descriptorIndex := 109, attributes := #[] }, { accessFlags := 25, nameIndex := 294, descriptorIndex := 25, attributes := #[] }])
  fields := #[{ name := "U", type := (.object "jdk/internal/misc/Unsafe"), accessFlags := 24, slot := 0, constantValue := 0 }, { name := "BIG_ENDIAN", type := .boolean, accessFlags := 26, slot := 1, constantValue := 0 }, { name := "LOG2_ARRAY_BOOLEAN_INDEX_SCALE", type := .int, accessFlags := 25, slot := 2, constantValue := 0 }, { name := "LOG2_ARRAY_BYTE_INDEX_SCALE", type := .int, accessFlags := 25, slot := 3, constantValue := 0 }, { name := "LOG2_ARRAY_CHAR_INDEX_SCALE", type := .int, accessFlags := 25, slot := 4, constantValue := 0 }, { name := "LOG2_ARRAY_SHORT_INDEX_SCALE", type := .int, accessFlags := 25, slot := 5, constantValue := 0 }, { name := "LOG2_ARRAY_INT_INDEX_SCALE", type := .int, accessFlags := 25, slot := 6, constantValue := 0 }, { name := "LOG2_ARRAY_LONG_INDEX_SCALE", type := .int, accessFlags := 25, slot := 7, constantValue := 0 }, { name := "LOG2_ARRAY_FLOAT_INDEX_SCALE", type := .int, accessFlags := 25, slot := 8, constantValue := 0 }, { name := "LOG2_ARRAY_DOUBLE_INDEX_SCALE", type := .int, accessFlags := 25, slot := 9, constantValue := 0 }, { name := "LOG2_BYTE_BIT_SIZE", type := .int, accessFlags := 26, slot := 10, constantValue := 0 }, { name := "T_BOOLEAN", type := .int, accessFlags := 25, slot := 11, constantValue := 0 }, { name := "T_CHAR", type := .int, accessFlags := 25, slot := 12, constantValue := 0 }, { name := "T_FLOAT", type := .int, accessFlags := 25, slot := 13, constantValue := 0 }, { name := "T_DOUBLE", type := .int, accessFlags := 25, slot := 14, constantValue := 0 }, { name := "T_BYTE", type := .int, accessFlags := 25, slot := 15, constantValue := 0 }, { name := "T_SHORT", type := .int, accessFlags := 25, slot := 16, constantValue := 0 }, { name := "T_INT", type := .int, accessFlags := 25, slot := 17, constantValue := 0 }, { name := "T_LONG", type := .int, accessFlags := 25, slot := 18, constantValue := 0 }, { name := "JLA", type := (.object "jdk/internal/access/JavaLangAccess"), accessFlags := 26, slot := 19, constantValue := 0 }, { name := "SOFT_MAX_ARRAY_LENGTH", type := .int, accessFlags := 25, slot := 20, constantValue := 0 }]
  methods := #[k14m0, k14m1]
  instanceTypes := #[]
  staticTypes := #[(.object "jdk/internal/misc/Unsafe"), .boolean, .int, .int, .int, .int, .int, .int, .int, .int, .int, .int, .int, .int, .int, .int, .int, .int, .int, (.object "jdk/internal/access/JavaLangAccess"), .int]
  resolved := Array.replicate 378 none
  statics := none }

def pool15 : Array CpInfo := pool [(1, .class_ 2), (0, u "java/lang/Math"), (1, .class_ 6), (1, u "java/lang/Object"), (0, u "<init>"), (0, u "()V"), (89, .class_ 100), (1, u "java/lang/Math$RandomNumberGeneratorHolder"), (71, u "negativeZeroFloatBits"), (0, u "J"), (2, u "negativeZeroDoubleBits"), (21, u "max"), (2, u "min"), (43, u "$assertionsDisabled"), (0, u "Z"), (88, u "(II)I"), (2, u "twoToTheDoubleScaleDown"), (0, u "D"), (4, u "twoToTheDoubleScaleUp"), (9, u "E"), (3, u "PI"), (2, u "TAU"), (2, u "DEGREES_TO_RADIANS"), (0, u "RADIANS_TO_DEGREES")] 94

def k15m0 : Method := { name := "<init>", desc := "()V", sig := { parameters := [], returnType := none }, accessFlags := 2, code := none }
def k15c1 : Code := { maxStack := 2, maxLocals := 2, code := jdk_29_method_65_code, exceptionTable := #[], attributes := #[] }
def k15m1 : Method := { name := "max", desc := "(II)I", sig := { parameters := [.int, .int], returnType := some .int }, accessFlags := 9, code := some k15c1 }
def k15c2 : Code := { maxStack := 2, maxLocals := 2, code := jdk_29_method_69_code, exceptionTable := #[], attributes := #[] }
def k15m2 : Method := { name := "min", desc := "(II)I", sig := { parameters := [.int, .int], returnType := some .int }, accessFlags := 9, code := some k15c2 }
/-- java/lang/Math -/
def k15 : Class := { plain "java/lang/Math" (some 0) with
  accessFlags := 49
  interfaces := #[]
  cf := some (fileOf pool15 1 #[.nestMembers #[98]] #[{ accessFlags := 2, nameIndex := 7, descriptorIndex := 8, attributes := #[] }, { accessFlags := 9, nameIndex := 198, descriptorIndex := 335, attributes := #[] }, { accessFlags := 9, nameIndex := 201, descriptorIndex := 335, attributes := #[] }] 49 4 #[] #[{ accessFlags := 25, nameIndex := 354, descriptorIndex := 339, attributes := #[] }, { accessFlags := 25, nameIndex := 358, descriptorIndex := 339, attributes := #[] }, { accessFlags := 25, nameIndex := 361, descriptorIndex := 339, attributes := #[] }, { accessFlags := 26, nameIndex := 364, descriptorIndex := 339, attributes := #[] }, { accessFlags := 26, nameIndex := 365, descriptorIndex := 339, attributes := #[] }, { accessFlags := 26, nameIndex := 172, descriptorIndex := 173, attributes := #[] }, { accessFlags := 26, nameIndex := 176, descriptorIndex := 173, attributes := #[] }, { accessFlags := 8, nameIndex := 344, descriptorIndex := 339, attributes := #[] }, { accessFlags := 8, nameIndex := 338, descriptorIndex := 339, attributes := #[] }, { accessFlags := 4120, nameIndex := 245, descriptorIndex := 246, attributes := #[] }])
  fields := #[{ name := "E", type := .double, accessFlags := 25, slot := 0, constantValue := 0 }, { name := "PI", type := .double, accessFlags := 25, slot := 1, constantValue := 0 }, { name := "TAU", type := .double, accessFlags := 25, slot := 2, constantValue := 0 }, { name := "DEGREES_TO_RADIANS", type := .double, accessFlags := 26, slot := 3, constantValue := 0 }, { name := "RADIANS_TO_DEGREES", type := .double, accessFlags := 26, slot := 4, constantValue := 0 }, { name := "negativeZeroFloatBits", type := .long, accessFlags := 26, slot := 5, constantValue := 0 }, { name := "negativeZeroDoubleBits", type := .long, accessFlags := 26, slot := 6, constantValue := 0 }, { name := "twoToTheDoubleScaleUp", type := .double, accessFlags := 8, slot := 7, constantValue := 0 }, { name := "twoToTheDoubleScaleDown", type := .double, accessFlags := 8, slot := 8, constantValue := 0 }, { name := "$assertionsDisabled", type := .boolean, accessFlags := 4120, slot := 9, constantValue := 0 }]
  methods := #[k15m0, k15m1, k15m2]
  instanceTypes := #[]
  staticTypes := #[.double, .double, .double, .double, .double, .long, .long, .double, .double, .boolean]
  resolved := Array.replicate 460 none
  statics := none }

def pool16 : Array CpInfo := pool [(2, .class_ 4), (1, u "java/lang/Object"), (0, u "<init>"), (0, u "()V"), (7, .class_ 16), (1, u "java/util/Arrays"), (57, .class_ 76), (1, u "java/util/Arrays$NaturalOrder"), (36, .class_ 115), (1, u "java/util/Arrays$LegacyMergeSort"), (1, u "Z"), (21, u "copyOfRange"), (10, .methodref 151 152), (0, .class_ 153), (0, .nameAndType 154 155), (0, u "java/lang/System"), (0, u "arraycopy"), (0, u "(Ljava/lang/Object;ILjava/lang/Object;II)V"), (146, u "copyOf"), (1, .methodref 305 306), (0, .class_ 307), (0, .nameAndType 308 309), (0, u "java/lang/Math"), (0, u "min"), (0, u "(II)I"), (29, .methodref 14 340), (0, .nameAndType 341 342), (0, u "copyOfRangeByte"), (0, u "([BII)[B"), (0, .methodref 14 344), (0, .nameAndType 345 346), (0, u "checkLength"), (0, u "(II)V"), (28, .class_ 376), (0, u "java/util/Arrays$ArrayList"), (68, u "$assertionsDisabled"), (269, u "MIN_ARRAY_SORT_GRAN"), (0, u "I"), (2, u "INSERTIONSORT_THRESHOLD"), (149, u "([BI)[B"), (105, .class_ 976), (0, u "java/util/Arrays$ArrayItr")] 52

def k16m0 : Method := { name := "<init>", desc := "()V", sig := { parameters := [], returnType := none }, accessFlags := 2, code := none }
def k16c1 : Code := { maxStack := 6, maxLocals := 3, code := jdk_65_method_121_code, exceptionTable := #[], attributes := #[] }
def k16m1 : Method := { name := "copyOf", desc := "([BI)[B", sig := { parameters := [(.array .byte), .int], returnType := some (.array .byte) }, accessFlags := 9, code := some k16c1 }
def k16c2 : Code := { maxStack := 4, maxLocals := 2, code := jdk_65_method_131_code, exceptionTable := #[], attributes := #[] }
def k16m2 : Method := { name := "checkLength", desc := "(II)V", sig := { parameters := [.int, .int], returnType := none }, accessFlags := 10, code := some k16c2 }
def k16c3 : Code := { maxStack := 3, maxLocals := 3, code := jdk_65_method_132_code, exceptionTable := #[], attributes := #[] }
def k16m3 : Method := { name := "copyOfRange", desc := "([BII)[B", sig := { parameters := [(.array .byte), .int, .int], returnType := some (.array .byte) }, accessFlags := 9, code := some k16c3 }
def k16c4 : Code := { maxStack := 6, maxLocals := 5, code := jdk_65_method_133_code, exceptionTable := #[], attributes := #[] }
def k16m4 : Method := { name := "copyOfRangeByte", desc := "([BII)[B", sig := { parameters := [(.array .byte), .int, .int], returnType := some (.array .byte) }, accessFlags := 10, code := some k16c4 }
/-- java/util/Arrays -/
def k16 : Class := { plain "java/util/Arrays" (some 0) with
  accessFlags := 49
  interfaces := #[]
  cf := some (fileOf pool16 14 #[.nestMembers #[975, 375, 113, 74]] #[{ accessFlags := 2, nameIndex := 5, descriptorIndex := 6, attributes := #[] }, { accessFlags := 9, nameIndex := 302, descriptorIndex := 869, attributes := #[] }, { accessFlags := 10, nameIndex := 345, descriptorIndex := 346, attributes := #[] }, { accessFlags := 9, nameIndex := 139, descriptorIndex := 342, attributes := #[] }, { accessFlags := 10, nameIndex := 341, descriptorIndex := 342, attributes := #[] }] 49 2 #[] #[{ accessFlags := 26, nameIndex := 715, descriptorIndex := 716, attributes := #[] }, { accessFlags := 26, nameIndex := 719, descriptorIndex := 716, attributes := #[] }, { accessFlags := 4120, nameIndex := 445, descriptorIndex := 117, attributes := #[] }])
  fields := #[{ name := "MIN_ARRAY_SORT_GRAN", type := .int, accessFlags := 26, slot := 0, constantValue := 0 }, { name := "INSERTIONSORT_THRESHOLD", type := .int, accessFlags := 26, slot := 1, constantValue := 0 }, { name := "$assertionsDisabled", type := .boolean, accessFlags := 4120, slot := 2, constantValue := 0 }]
  methods := #[k16m0, k16m1, k16m2, k16m3, k16m4]
  instanceTypes := #[]
  staticTypes := #[.int, .int, .boolean]
  resolved := Array.replicate 1029 none
  statics := none }

def pool17 : Array CpInfo := pool [(2, .class_ 4), (1, u "java/lang/Object"), (0, u "<init>"), (0, u "()V"), (17, .class_ 26), (1, u "jdk/internal/util/Preconditions"), (6, u "checkIndex"), (21, .class_ 56), (0, u "jdk/internal/util/Preconditions$4"), (57, .class_ 115), (0, u "jdk/internal/util/Preconditions$1"), (7, u "SIOOBE_FORMATTER"), (0, u "Ljava/util/function/BiFunction;"), (0, .class_ 126), (0, u "jdk/internal/util/Preconditions$2"), (3, u "AIOOBE_FORMATTER"), (0, .class_ 132), (0, u "jdk/internal/util/Preconditions$3"), (3, u "IOOBE_FORMATTER"), (41, u "(IILjava/util/function/BiFunction;)I")] 15

def k17m0 : Method := { name := "<init>", desc := "()V", sig := { parameters := [], returnType := none }, accessFlags := 1, code := none }
def k17c1 : Code := { maxStack := 3, maxLocals := 3, code := jdk_41_method_11_code, exceptionTable := #[], attributes := #[] }
def k17m1 : Method := { name := "checkIndex", desc := "(IILjava/util/function/BiFunction;)I", sig := { parameters := [.int, .int, (.object "java/util/function/BiFunction")], returnType := some .int }, accessFlags := 9, code := some k17c1 }
/-- jdk/internal/util/Preconditions -/
def k17 : Class := { plain "jdk/internal/util/Preconditions" (some 0) with
  accessFlags := 33
  interfaces := #[]
  cf := some (fileOf pool17 24 #[.nestMembers #[55, 131, 125, 114]] #[{ accessFlags := 1, nameIndex := 5, descriptorIndex := 6, attributes := #[] }, { accessFlags := 9, nameIndex := 33, descriptorIndex := 178, attributes := #[] }] 33 2 #[] #[{ accessFlags := 25, nameIndex := 123, descriptorIndex := 124, attributes := #[] }, { accessFlags := 25, nameIndex := 130, descriptorIndex := 124, attributes := #[] }, { accessFlags := 25, nameIndex := 136, descriptorIndex := 124, attributes := #[] }])
  fields := #[{ name := "SIOOBE_FORMATTER", type := (.object "java/util/function/BiFunction"), accessFlags := 25, slot := 0, constantValue := 0 }, { name := "AIOOBE_FORMATTER", type := (.object "java/util/function/BiFunction"), accessFlags := 25, slot := 1, constantValue := 0 }, { name := "IOOBE_FORMATTER", type := (.object "java/util/function/BiFunction"), accessFlags := 25, slot := 2, constantValue := 0 }]
  methods := #[k17m0, k17m1]
  instanceTypes := #[]
  staticTypes := #[(.object "java/util/function/BiFunction"), (.object "java/util/function/BiFunction"), (.object "java/util/function/BiFunction")]
  resolved := Array.replicate 194 none
  statics := some 1 }

def pool18 : Array CpInfo := pool [(6, .class_ 8), (1, u "java/lang/Object"), (0, u "<init>"), (0, u "()V"), (1, .class_ 14), (1, u "java/lang/StringUTF16"), (31, u "$assertionsDisabled"), (0, u "Z"), (13, u "HI_BYTE_SHIFT"), (0, u "I"), (2, u "LO_BYTE_SHIFT"), (49, .methodref 12 116), (0, .nameAndType 117 118), (0, u "compress"), (0, u "([CI[BII)I"), (3, u "([CII)[B"), (138, u "coderFromArrayLen"), (0, u "([BI)B"), (106, .class_ 371), (1, u "java/lang/StringUTF16$LinesSpliterator"), (58, u "MAX_LENGTH"), (196, .class_ 628), (0, u "java/lang/StringUTF16$CodePointsSpliterator"), (0, .class_ 630), (0, u "java/lang/StringUTF16$CharsSpliterator")] 4

def k18m0 : Method := { name := "<init>", desc := "()V", sig := { parameters := [], returnType := none }, accessFlags := 0, code := none }
def k18c1 : Code := { maxStack := 2, maxLocals := 2, code := jdk_52_method_15_code, exceptionTable := #[], attributes := #[] }
def k18m1 : Method := { name := "coderFromArrayLen", desc := "([BI)B", sig := { parameters := [(.array .byte), .int], returnType := some .byte }, accessFlags := 8, code := some k18c1 }
def k18c2 : Code := { maxStack := 5, maxLocals := 6, code := jdk_52_method_16_code, exceptionTable := #[], attributes := #[] }
def k18m2 : Method := { name := "compress", desc := "([CII)[B", sig := { parameters := [(.array .char), .int, .int], returnType := some (.array .byte) }, accessFlags := 9, code := some k18c2 }
def k18c3 : Code := { maxStack := 3, maxLocals := 7, code := jdk_52_method_21_code, exceptionTable := #[], attributes := #[] }
def k18m3 : Method := { name := "compress", desc := "([CI[BII)I", sig := { parameters := [(.array .char), .int, (.array .byte), .int, .int], returnType := some .int }, accessFlags := 9, code := some k18c3 }
/-- java/lang/StringUTF16 -/
def k18 : Class := { plain "java/lang/StringUTF16" (some 0) with
  accessFlags := 48
  interfaces := #[]
  cf := some (fileOf pool18 12 #[.nestMembers #[627, 629, 369]] #[{ accessFlags := 0, nameIndex := 9, descriptorIndex := 10, attributes := #[] }, { accessFlags := 8, nameIndex := 261, descriptorIndex := 262, attributes := #[] }, { accessFlags := 9, nameIndex := 117, descriptorIndex := 122, attributes := #[] }, { accessFlags := 9, nameIndex := 117, descriptorIndex := 118, attributes := #[] }] 48 6 #[] #[{ accessFlags := 26, nameIndex := 61, descriptorIndex := 62, attributes := #[] }, { accessFlags := 26, nameIndex := 65, descriptorIndex := 62, attributes := #[] }, { accessFlags := 24, nameIndex := 430, descriptorIndex := 62, attributes := #[] }, { accessFlags := 4120, nameIndex := 46, descriptorIndex := 47, attributes := #[] }])
  fields := #[{ name := "HI_BYTE_SHIFT", type := .int, accessFlags := 26, slot := 0, constantValue := 0 }, { name := "LO_BYTE_SHIFT", type := .int, accessFlags := 26, slot := 1, constantValue := 0 }, { name := "MAX_LENGTH", type := .int, accessFlags := 24, slot := 2, constantValue := 0 }, { name := "$assertionsDisabled", type := .boolean, accessFlags := 4120, slot := 3, constantValue := 0 }]
  methods := #[k18m0, k18m1, k18m2, k18m3]
  instanceTypes := #[]
  staticTypes := #[.int, .int, .int, .boolean]
  resolved := Array.replicate 635 none
  statics := none }

def pool19 : Array CpInfo := pool [(1, u "java/lang/Cloneable"), (0, .class_ 1), (0, u "java/lang/Object"), (0, .class_ 3)] 3

/-- java/lang/Cloneable -/
def k19 : Class := { plain "java/lang/Cloneable" (some 0) with
  accessFlags := 1537
  interfaces := #[]
  cf := some (fileOf pool19 2 #[] #[] 1537 4 #[] #[])
  fields := #[]
  methods := #[]
  instanceTypes := #[]
  staticTypes := #[]
  resolved := Array.replicate 8 none
  statics := none }

/-- the primitive byte -/
def k20 : Class := { plain "byte" none with kind := .primitive 'B', accessFlags := 0x411 }
/-- [B -/
def k21 : Class := { plain "[B" (some 0) with kind := .array 20 .byte, interfaces := #[19, 2], accessFlags := 1041 }

/-- the primitive char -/
def k22 : Class := { plain "char" none with kind := .primitive 'C', accessFlags := 0x411 }
/-- [C -/
def k23 : Class := { plain "[C" (some 0) with kind := .array 22 .char, interfaces := #[19, 2], accessFlags := 1041 }

/-- the primitive int -/
def k24 : Class := { plain "int" none with kind := .primitive 'I', accessFlags := 0x411 }
/-- [I -/
def k25 : Class := { plain "[I" (some 0) with kind := .array 24 .int, interfaces := #[19, 2], accessFlags := 1041 }

def heap : Heap := #[{ cls := 7, slots := #[.long 0, .int 1, .null, .int 0, .null, .int 0, .int 0], vm := .statics 7 },
  { cls := 17, slots := #[.null, .null, .null], vm := .statics 17 }]
def classes : Array Class := #[k0, k1, k2, k3, k4, k5, k6, k7, k8, k9, k10, k11, k12, k13, k14, k15, k16, k17, k18, k19, k20, k21, k22, k23, k24, k25]
def interned : List (Array UInt16 × Addr) := []
def slotsUsed : Nat := 10
def theMethod : MethodId := ⟨1, 4⟩
def args0 : Array Value := #[.int 5, .int 6, .int 7, .int 8, .int 9]
def aboutOver (below : List Frame) : State where
  vm := { classes := classes, interned := interned.toArray }
  heap := heap
  slotsUsed := slotsUsed
  threads := #[{ frames := .invoking theMethod args0 :: below }]
def below0 : List Frame := [.native { method := ⟨0, 0⟩, args := #[] }]
def about1 : State := aboutOver below0
def p0 : Program := .bare "" "" ""
def e0 : Env := launch0.env 0 0 0
theorem w_frames : about1.frames = Frame.invoking theMethod args0 :: below0 := rfl
set_option maxRecDepth 65536 in
theorem w_args : argsFit about1.vm theMethod args0 = true := by decide +kernel
set_option maxRecDepth 65536 in
theorem w_heap : heapFits about1 = true := by decide +kernel
set_option maxRecDepth 65536 in
theorem w_runnable : about1.curStatus? = some .runnable := by decide +kernel
set_option maxRecDepth 65536 in
theorem w_alone : about1.alone = true := by decide +kernel
set_option maxRecDepth 65536 in
theorem w_named : about1.methodNamed? x = some theMethod := by decide +kernel
set_option maxRecDepth 65536 in
theorem w_hears : about1.hears theMethod below0 = true := by decide +kernel
set_option maxRecDepth 65536 in
theorem w_ripe : about1.ripe theMethod args0 below0 = true := by decide +kernel
theorem w_running : about1.status = .running := rfl
set_option maxRecDepth 65536 in
theorem w_room : about1.hasRoom e0.platform room_1 = true :=
  launch0.hasRoom_least _ room_1 (by decide +kernel) (by decide +kernel) (by decide +kernel) (by decide +kernel) (by decide +kernel) (by decide +kernel)
theorem allAtoms_all (ts : List Jvm.Cond) (a : Array Jvm.Value) (st : Jvm.State) : (allAtoms ts).before a st = ts.all (fun c => c.before a st) := by
  induction ts with
  | nil => rfl
  | cons c t ih =>
    show (Jvm.Cond.and c (allAtoms t)).before a st = _
    rw [Jvm.Cond.before_and, ih, List.all_cons]
def words1 : List Jvm.Cond := Jvm.Cond.code x code maxLocals ret :: tables_1
/-- a 'code' word, met by the world's own term for the bytes: nothing is compared byte by byte -/
theorem code_word {y : MethodName} {bytes : ByteArray} {mx : Nat} {rt : Option FieldType} {a : Array Value} {s : State} {m : MethodId} {meth : Method} {c : Code} (h1 : s.methodNamed? y = some m) (h2 : s.vm.method? m = some meth) (h3 : meth.code = some c) (h4 : c.code = bytes)
    (h5 : (c.maxLocals == mx && c.exceptionTable.isEmpty && decide (c.maxStack ≤ mostOperands) && decide (meth.sig.returnType = rt) && !meth.locks && decide (parseMethodDescriptor y.desc = some meth.sig)) = true) : (Jvm.Cond.code y bytes mx rt).before a s = true := by
  simp only [Bool.and_eq_true, beq_iff_eq, Bool.not_eq_true', decide_eq_true_eq] at h5
  obtain ⟨⟨⟨⟨⟨g1, g2⟩, g3⟩, g4⟩, g5⟩, g6⟩ := h5
  simp [Cond.before, Cond.holds, Cond.value, h1, h2, h3, h4, g1, g2, g3, g4, g5, g6]
def isCode : Jvm.Cond → Bool
  | .code _ _ _ _ => true
  | _ => false
theorem all_split {L : List Jvm.Cond} {P : Jvm.Cond → Bool} (h1 : L.all (fun c => isCode c || P c) = true) (h2 : ∀ c ∈ L.filter isCode, P c = true) : L.all P = true := by
  refine List.all_eq_true.mpr fun c hc => ?_
  have h := List.all_eq_true.mp h1 c hc
  rcases Bool.eq_false_or_eq_true (isCode c) with hi | hi
  · exact h2 c (List.mem_filter.mpr ⟨hc, hi⟩)
  · simpa [hi] using h
set_option maxRecDepth 65536 in
theorem w_c0 : (Jvm.Cond.code x code maxLocals ret).before args0 about1 = true := code_word (m := ⟨1, 4⟩) (meth := k1m4) (c := k1c4) (by decide +kernel) rfl rfl rfl (by decide +kernel)
set_option maxRecDepth 65536 in
theorem w_c1 : (Jvm.Cond.code ({ cls := "com/example/meerkat/meerkat/metrics/ExpositionFamilyPinLaw", name := "pick", desc := "(I)C" } : Jvm.MethodName) method_2_code (2 : Nat) (Option.some Jvm.ClassFile.FieldType.char)).before args0 about1 = true := code_word (m := ⟨1, 1⟩) (meth := k1m1) (c := k1c1) (by decide +kernel) rfl rfl rfl (by decide +kernel)
set_option maxRecDepth 65536 in
theorem w_c2 : (Jvm.Cond.code ({ cls := "com/example/meerkat/meerkat/metrics/Exposition", name := "<init>", desc := "()V" } : Jvm.MethodName) prog_10_method_1_code (1 : Nat) (Option.none : Option Jvm.ClassFile.FieldType)).before args0 about1 = true := code_word (m := ⟨8, 0⟩) (meth := k8m0) (c := k8c0) (by decide +kernel) rfl rfl rfl (by decide +kernel)
set_option maxRecDepth 65536 in
theorem w_c3 : (Jvm.Cond.code ({ cls := "java/lang/Object", name := "<init>", desc := "()V" } : Jvm.MethodName) object_method_1_code (1 : Nat) (Option.none : Option Jvm.ClassFile.FieldType)).before args0 about1 = true := code_word (m := ⟨0, 0⟩) (meth := k0m0) (c := k0c0) (by decide +kernel) rfl rfl rfl (by decide +kernel)
set_option maxRecDepth 65536 in
theorem w_c4 : (Jvm.Cond.code ({ cls := "java/lang/StringBuilder", name := "<init>", desc := "()V" } : Jvm.MethodName) jdk_67_method_1_code (1 : Nat) (Option.none : Option Jvm.ClassFile.FieldType)).before args0 about1 = true := code_word (m := ⟨11, 0⟩) (meth := k11m0) (c := k11c0) (by decide +kernel) rfl rfl rfl (by decide +kernel)
set_option maxRecDepth 65536 in
theorem w_c5 : (Jvm.Cond.code ({ cls := "java/lang/AbstractStringBuilder", name := "<init>", desc := "(I)V" } : Jvm.MethodName) jdk_68_method_2_code (2 : Nat) (Option.none : Option Jvm.ClassFile.FieldType)).before args0 about1 = true := code_word (m := ⟨10, 1⟩) (meth := k10m1) (c := k10c1) (by decide +kernel) rfl rfl rfl (by decide +kernel)
set_option maxRecDepth 65536 in
theorem w_c6 : (Jvm.Cond.code ({ cls := "java/lang/String", name := "valueOf", desc := "(C)Ljava/lang/String;" } : Jvm.MethodName) jdk_42_method_139_code (1 : Nat) (Option.some (Jvm.ClassFile.FieldType.object "java/lang/String"))).before args0 about1 = true := code_word (m := ⟨7, 5⟩) (meth := k7m5) (c := k7c5) (by decide +kernel) rfl rfl rfl (by decide +kernel)
set_option maxRecDepth 65536 in
theorem w_c7 : (Jvm.Cond.code ({ cls := "java/lang/StringLatin1", name := "canEncode", desc := "(C)Z" } : Jvm.MethodName) jdk_43_method_3_code (1 : Nat) (Option.some Jvm.ClassFile.FieldType.boolean)).before args0 about1 = true := code_word (m := ⟨12, 2⟩) (meth := k12m2) (c := k12c2) (by decide +kernel) rfl rfl rfl (by decide +kernel)
set_option maxRecDepth 65536 in
theorem w_c8 : (Jvm.Cond.code ({ cls := "java/lang/StringLatin1", name := "toBytes", desc := "(C)[B" } : Jvm.MethodName) jdk_43_method_46_code (1 : Nat) (Option.some (Jvm.ClassFile.FieldType.array Jvm.ClassFile.FieldType.byte))).before args0 about1 = true := code_word (m := ⟨12, 3⟩) (meth := k12m3) (c := k12c3) (by decide +kernel) rfl rfl rfl (by decide +kernel)
set_option maxRecDepth 65536 in
theorem w_c9 : (Jvm.Cond.code ({ cls := "java/lang/String", name := "<init>", desc := "([BB)V" } : Jvm.MethodName) jdk_42_method_151_code (3 : Nat) (Option.none : Option Jvm.ClassFile.FieldType)).before args0 about1 = true := code_word (m := ⟨7, 9⟩) (meth := k7m9) (c := k7c9) (by decide +kernel) rfl rfl rfl (by decide +kernel)
set_option maxRecDepth 65536 in
theorem w_c10 : (Jvm.Cond.code ({ cls := "com/example/meerkat/meerkat/metrics/Exposition", name := "family", desc := "(Ljava/lang/String;Ljava/lang/String;Ljava/lang/String;)V" } : Jvm.MethodName) prog_10_method_2_code (4 : Nat) (Option.none : Option Jvm.ClassFile.FieldType)).before args0 about1 = true := code_word (m := ⟨8, 1⟩) (meth := k8m1) (c := k8c1) (by decide +kernel) rfl rfl rfl (by decide +kernel)
set_option maxRecDepth 65536 in
theorem w_c11 : (Jvm.Cond.code ({ cls := "java/lang/StringBuilder", name := "append", desc := "(Ljava/lang/String;)Ljava/lang/StringBuilder;" } : Jvm.MethodName) jdk_67_method_7_code (2 : Nat) (Option.some (Jvm.ClassFile.FieldType.object "java/lang/StringBuilder"))).before args0 about1 = true := code_word (m := ⟨11, 1⟩) (meth := k11m1) (c := k11c1) (by decide +kernel) rfl rfl rfl (by decide +kernel)
set_option maxRecDepth 65536 in
theorem w_c12 : (Jvm.Cond.code ({ cls := "java/lang/AbstractStringBuilder", name := "append", desc := "(Ljava/lang/String;)Ljava/lang/AbstractStringBuilder;" } : Jvm.MethodName) jdk_68_method_22_code (3 : Nat) (Option.some (Jvm.ClassFile.FieldType.object "java/lang/AbstractStringBuilder"))).before args0 about1 = true := code_word (m := ⟨10, 5⟩) (meth := k10m5) (c := k10c5) (by decide +kernel) rfl rfl rfl (by decide +kernel)
set_option maxRecDepth 65536 in
theorem w_c13 : (Jvm.Cond.code ({ cls := "java/lang/String", name := "length", desc := "()I" } : Jvm.MethodName) jdk_42_method_54_code (1 : Nat) (Option.some Jvm.ClassFile.FieldType.int)).before args0 about1 = true := code_word (m := ⟨7, 3⟩) (meth := k7m3) (c := k7c3) (by decide +kernel) rfl rfl rfl (by decide +kernel)
set_option maxRecDepth 65536 in
theorem w_c14 : (Jvm.Cond.code ({ cls := "java/lang/String", name := "coder", desc := "()B" } : Jvm.MethodName) jdk_42_method_152_code (1 : Nat) (Option.some Jvm.ClassFile.FieldType.byte)).before args0 about1 = true := code_word (m := ⟨7, 10⟩) (meth := k7m10) (c := k7c10) (by decide +kernel) rfl rfl rfl (by decide +kernel)
set_option maxRecDepth 65536 in
theorem w_c15 : (Jvm.Cond.code ({ cls := "java/lang/AbstractStringBuilder", name := "ensureCapacityInternal", desc := "(I)V" } : Jvm.MethodName) jdk_68_method_9_code (3 : Nat) (Option.none : Option Jvm.ClassFile.FieldType)).before args0 about1 = true := code_word (m := ⟨10, 3⟩) (meth := k10m3) (c := k10c3) (by decide +kernel) rfl rfl rfl (by decide +kernel)
set_option maxRecDepth 65536 in
theorem w_c16 : (Jvm.Cond.code ({ cls := "java/lang/AbstractStringBuilder", name := "putStringAt", desc := "(ILjava/lang/String;)V" } : Jvm.MethodName) jdk_68_method_73_code (3 : Nat) (Option.none : Option Jvm.ClassFile.FieldType)).before args0 about1 = true := code_word (m := ⟨10, 10⟩) (meth := k10m10) (c := k10c10) (by decide +kernel) rfl rfl rfl (by decide +kernel)
set_option maxRecDepth 65536 in
theorem w_c17 : (Jvm.Cond.code ({ cls := "java/lang/AbstractStringBuilder", name := "inflateIfNeededFor", desc := "(Ljava/lang/String;)V" } : Jvm.MethodName) jdk_68_method_71_code (2 : Nat) (Option.none : Option Jvm.ClassFile.FieldType)).before args0 about1 = true := code_word (m := ⟨10, 9⟩) (meth := k10m9) (c := k10c9) (by decide +kernel) rfl rfl rfl (by decide +kernel)
set_option maxRecDepth 65536 in
theorem w_c18 : (Jvm.Cond.code ({ cls := "java/lang/String", name := "getBytes", desc := "([BIB)V" } : Jvm.MethodName) jdk_42_method_147_code (4 : Nat) (Option.none : Option Jvm.ClassFile.FieldType)).before args0 about1 = true := code_word (m := ⟨7, 6⟩) (meth := k7m6) (c := k7c6) (by decide +kernel) rfl rfl rfl (by decide +kernel)
set_option maxRecDepth 65536 in
theorem w_c19 : (Jvm.Cond.code ({ cls := "java/lang/StringBuilder", name := "append", desc := "(C)Ljava/lang/StringBuilder;" } : Jvm.MethodName) jdk_67_method_14_code (2 : Nat) (Option.some (Jvm.ClassFile.FieldType.object "java/lang/StringBuilder"))).before args0 about1 = true := code_word (m := ⟨11, 2⟩) (meth := k11m2) (c := k11c2) (by decide +kernel) rfl rfl rfl (by decide +kernel)
set_option maxRecDepth 65536 in
theorem w_c20 : (Jvm.Cond.code ({ cls := "java/lang/AbstractStringBuilder", name := "append", desc := "(C)Ljava/lang/AbstractStringBuilder;" } : Jvm.MethodName) jdk_68_method_31_code (2 : Nat) (Option.some (Jvm.ClassFile.FieldType.object "java/lang/AbstractStringBuilder"))).before args0 about1 = true := code_word (m := ⟨10, 6⟩) (meth := k10m6) (c := k10c6) (by decide +kernel) rfl rfl rfl (by decide +kernel)
set_option maxRecDepth 65536 in
theorem w_c21 : (Jvm.Cond.code ({ cls := "java/lang/AbstractStringBuilder", name := "isLatin1", desc := "()Z" } : Jvm.MethodName) jdk_68_method_68_code (1 : Nat) (Option.some Jvm.ClassFile.FieldType.boolean)).before args0 about1 = true := code_word (m := ⟨10, 8⟩) (meth := k10m8) (c := k10c8) (by decide +kernel) rfl rfl rfl (by decide +kernel)
set_option maxRecDepth 65536 in
theorem w_c22 : (Jvm.Cond.code ({ cls := "com/example/meerkat/meerkat/metrics/Exposition", name := "escape", desc := "(Ljava/lang/String;ZLjava/lang/StringBuilder;)V" } : Jvm.MethodName) prog_10_method_8_code (5 : Nat) (Option.none : Option Jvm.ClassFile.FieldType)).before args0 about1 = true := code_word (m := ⟨8, 3⟩) (meth := k8m3) (c := k8c3) (by decide +kernel) rfl rfl rfl (by decide +kernel)
set_option maxRecDepth 65536 in
theorem w_c23 : (Jvm.Cond.code ({ cls := "java/lang/AbstractStringBuilder", name := "newCapacity", desc := "(I)I" } : Jvm.MethodName) jdk_68_method_10_code (6 : Nat) (Option.some Jvm.ClassFile.FieldType.int)).before args0 about1 = true := code_word (m := ⟨10, 4⟩) (meth := k10m4) (c := k10c4) (by decide +kernel) rfl rfl rfl (by decide +kernel)
set_option maxRecDepth 65536 in
theorem w_c24 : (Jvm.Cond.code ({ cls := "jdk/internal/util/ArraysSupport", name := "newLength", desc := "(III)I" } : Jvm.MethodName) jdk_48_method_27_code (4 : Nat) (Option.some Jvm.ClassFile.FieldType.int)).before args0 about1 = true := code_word (m := ⟨14, 1⟩) (meth := k14m1) (c := k14c1) (by decide +kernel) rfl rfl rfl (by decide +kernel)
set_option maxRecDepth 65536 in
theorem w_c25 : (Jvm.Cond.code ({ cls := "java/lang/Math", name := "max", desc := "(II)I" } : Jvm.MethodName) jdk_29_method_65_code (2 : Nat) (Option.some Jvm.ClassFile.FieldType.int)).before args0 about1 = true := code_word (m := ⟨15, 1⟩) (meth := k15m1) (c := k15c1) (by decide +kernel) rfl rfl rfl (by decide +kernel)
set_option maxRecDepth 65536 in
theorem w_c26 : (Jvm.Cond.code ({ cls := "java/util/Arrays", name := "copyOf", desc := "([BI)[B" } : Jvm.MethodName) jdk_65_method_121_code (3 : Nat) (Option.some (Jvm.ClassFile.FieldType.array Jvm.ClassFile.FieldType.byte))).before args0 about1 = true := code_word (m := ⟨16, 1⟩) (meth := k16m1) (c := k16c1) (by decide +kernel) rfl rfl rfl (by decide +kernel)
set_option maxRecDepth 65536 in
theorem w_c27 : (Jvm.Cond.code ({ cls := "java/lang/Math", name := "min", desc := "(II)I" } : Jvm.MethodName) jdk_29_method_69_code (2 : Nat) (Option.some Jvm.ClassFile.FieldType.int)).before args0 about1 = true := code_word (m := ⟨15, 2⟩) (meth := k15m2) (c := k15c2) (by decide +kernel) rfl rfl rfl (by decide +kernel)
set_option maxRecDepth 65536 in
theorem w_c28 : (Jvm.Cond.code ({ cls := "com/example/meerkat/meerkat/metrics/Exposition", name := "text", desc := "()Ljava/lang/String;" } : Jvm.MethodName) prog_10_method_4_code (1 : Nat) (Option.some (Jvm.ClassFile.FieldType.object "java/lang/String"))).before args0 about1 = true := code_word (m := ⟨8, 2⟩) (meth := k8m2) (c := k8c2) (by decide +kernel) rfl rfl rfl (by decide +kernel)
set_option maxRecDepth 65536 in
theorem w_c29 : (Jvm.Cond.code ({ cls := "java/lang/StringBuilder", name := "toString", desc := "()Ljava/lang/String;" } : Jvm.MethodName) jdk_67_method_42_code (1 : Nat) (Option.some (Jvm.ClassFile.FieldType.object "java/lang/String"))).before args0 about1 = true := code_word (m := ⟨11, 3⟩) (meth := k11m3) (c := k11c3) (by decide +kernel) rfl rfl rfl (by decide +kernel)
set_option maxRecDepth 65536 in
theorem w_c30 : (Jvm.Cond.code ({ cls := "java/lang/String", name := "<init>", desc := "(Ljava/lang/StringBuilder;)V" } : Jvm.MethodName) jdk_42_method_53_code (2 : Nat) (Option.none : Option Jvm.ClassFile.FieldType)).before args0 about1 = true := code_word (m := ⟨7, 2⟩) (meth := k7m2) (c := k7c2) (by decide +kernel) rfl rfl rfl (by decide +kernel)
set_option maxRecDepth 65536 in
theorem w_c31 : (Jvm.Cond.code ({ cls := "java/lang/String", name := "<init>", desc := "(Ljava/lang/AbstractStringBuilder;Ljava/lang/Void;)V" } : Jvm.MethodName) jdk_42_method_150_code (5 : Nat) (Option.none : Option Jvm.ClassFile.FieldType)).before args0 about1 = true := code_word (m := ⟨7, 8⟩) (meth := k7m8) (c := k7c8) (by decide +kernel) rfl rfl rfl (by decide +kernel)
set_option maxRecDepth 65536 in
theorem w_c32 : (Jvm.Cond.code ({ cls := "java/lang/AbstractStringBuilder", name := "getValue", desc := "()[B" } : Jvm.MethodName) jdk_68_method_64_code (1 : Nat) (Option.some (Jvm.ClassFile.FieldType.array Jvm.ClassFile.FieldType.byte))).before args0 about1 = true := code_word (m := ⟨10, 7⟩) (meth := k10m7) (c := k10c7) (by decide +kernel) rfl rfl rfl (by decide +kernel)
set_option maxRecDepth 65536 in
theorem w_c33 : (Jvm.Cond.code ({ cls := "java/lang/StringBuilder", name := "length", desc := "()I" } : Jvm.MethodName) jdk_67_method_93_code (1 : Nat) (Option.some Jvm.ClassFile.FieldType.int)).before args0 about1 = true := code_word (m := ⟨11, 4⟩) (meth := k11m4) (c := k11c4) (by decide +kernel) rfl rfl rfl (by decide +kernel)
set_option maxRecDepth 65536 in
theorem w_c34 : (Jvm.Cond.code ({ cls := "java/lang/AbstractStringBuilder", name := "length", desc := "()I" } : Jvm.MethodName) jdk_68_method_6_code (1 : Nat) (Option.some Jvm.ClassFile.FieldType.int)).before args0 about1 = true := code_word (m := ⟨10, 2⟩) (meth := k10m2) (c := k10c2) (by decide +kernel) rfl rfl rfl (by decide +kernel)
set_option maxRecDepth 65536 in
theorem w_c35 : (Jvm.Cond.code ({ cls := "java/util/Arrays", name := "copyOfRange", desc := "([BII)[B" } : Jvm.MethodName) jdk_65_method_132_code (3 : Nat) (Option.some (Jvm.ClassFile.FieldType.array Jvm.ClassFile.FieldType.byte))).before args0 about1 = true := code_word (m := ⟨16, 3⟩) (meth := k16m3) (c := k16c3) (by decide +kernel) rfl rfl rfl (by decide +kernel)
set_option maxRecDepth 65536 in
theorem w_c36 : (Jvm.Cond.code ({ cls := "java/util/Arrays", name := "copyOfRangeByte", desc := "([BII)[B" } : Jvm.MethodName) jdk_65_method_133_code (5 : Nat) (Option.some (Jvm.ClassFile.FieldType.array Jvm.ClassFile.FieldType.byte))).before args0 about1 = true := code_word (m := ⟨16, 4⟩) (meth := k16m4) (c := k16c4) (by decide +kernel) rfl rfl rfl (by decide +kernel)
set_option maxRecDepth 65536 in
theorem w_c37 : (Jvm.Cond.code ({ cls := "java/util/Arrays", name := "checkLength", desc := "(II)V" } : Jvm.MethodName) jdk_65_method_131_code (2 : Nat) (Option.none : Option Jvm.ClassFile.FieldType)).before args0 about1 = true := code_word (m := ⟨16, 2⟩) (meth := k16m2) (c := k16c2) (by decide +kernel) rfl rfl rfl (by decide +kernel)
set_option maxRecDepth 65536 in
theorem w_c38 : (Jvm.Cond.code ({ cls := "com/example/meerkat/meerkat/metrics/ExpositionFamilyPinLaw", name := "one", desc := "(Ljava/lang/String;IC)I" } : Jvm.MethodName) method_3_code (3 : Nat) (Option.some Jvm.ClassFile.FieldType.int)).before args0 about1 = true := code_word (m := ⟨1, 2⟩) (meth := k1m2) (c := k1c2) (by decide +kernel) rfl rfl rfl (by decide +kernel)
set_option maxRecDepth 65536 in
theorem w_c39 : (Jvm.Cond.code ({ cls := "java/lang/String", name := "charAt", desc := "(I)C" } : Jvm.MethodName) jdk_42_method_56_code (2 : Nat) (Option.some Jvm.ClassFile.FieldType.char)).before args0 about1 = true := code_word (m := ⟨7, 4⟩) (meth := k7m4) (c := k7c4) (by decide +kernel) rfl rfl rfl (by decide +kernel)
set_option maxRecDepth 65536 in
theorem w_c40 : (Jvm.Cond.code ({ cls := "java/lang/String", name := "isLatin1", desc := "()Z" } : Jvm.MethodName) jdk_42_method_154_code (1 : Nat) (Option.some Jvm.ClassFile.FieldType.boolean)).before args0 about1 = true := code_word (m := ⟨7, 11⟩) (meth := k7m11) (c := k7c11) (by decide +kernel) rfl rfl rfl (by decide +kernel)
set_option maxRecDepth 65536 in
theorem w_c41 : (Jvm.Cond.code ({ cls := "java/lang/StringLatin1", name := "charAt", desc := "([BI)C" } : Jvm.MethodName) jdk_43_method_2_code (2 : Nat) (Option.some Jvm.ClassFile.FieldType.char)).before args0 about1 = true := code_word (m := ⟨12, 1⟩) (meth := k12m1) (c := k12c1) (by decide +kernel) rfl rfl rfl (by decide +kernel)
set_option maxRecDepth 65536 in
theorem w_c42 : (Jvm.Cond.code ({ cls := "java/lang/String", name := "checkIndex", desc := "(II)V" } : Jvm.MethodName) jdk_42_method_155_code (2 : Nat) (Option.none : Option Jvm.ClassFile.FieldType)).before args0 about1 = true := code_word (m := ⟨7, 12⟩) (meth := k7m12) (c := k7c12) (by decide +kernel) rfl rfl rfl (by decide +kernel)
set_option maxRecDepth 65536 in
theorem w_c43 : (Jvm.Cond.code ({ cls := "jdk/internal/util/Preconditions", name := "checkIndex", desc := "(IILjava/util/function/BiFunction;)I" } : Jvm.MethodName) jdk_41_method_11_code (3 : Nat) (Option.some Jvm.ClassFile.FieldType.int)).before args0 about1 = true := code_word (m := ⟨17, 1⟩) (meth := k17m1) (c := k17c1) (by decide +kernel) rfl rfl rfl (by decide +kernel)
set_option maxRecDepth 65536 in
theorem w_c44 : (Jvm.Cond.code ({ cls := "com/example/meerkat/meerkat/metrics/ExpositionFamilyPinLaw", name := "esc", desc := "(Ljava/lang/String;IC)I" } : Jvm.MethodName) method_4_code (3 : Nat) (Option.some Jvm.ClassFile.FieldType.int)).before args0 about1 = true := code_word (m := ⟨1, 3⟩) (meth := k1m3) (c := k1c3) (by decide +kernel) rfl rfl rfl (by decide +kernel)
set_option maxRecDepth 65536 in
theorem w_c45 : (Jvm.Cond.code ({ cls := "java/lang/String", name := "<init>", desc := "([C)V" } : Jvm.MethodName) jdk_42_method_3_code (2 : Nat) (Option.none : Option Jvm.ClassFile.FieldType)).before args0 about1 = true := code_word (m := ⟨7, 1⟩) (meth := k7m1) (c := k7c1) (by decide +kernel) rfl rfl rfl (by decide +kernel)
set_option maxRecDepth 65536 in
theorem w_c46 : (Jvm.Cond.code ({ cls := "java/lang/String", name := "<init>", desc := "([CIILjava/lang/Void;)V" } : Jvm.MethodName) jdk_42_method_149_code (6 : Nat) (Option.none : Option Jvm.ClassFile.FieldType)).before args0 about1 = true := code_word (m := ⟨7, 7⟩) (meth := k7m7) (c := k7c7) (by decide +kernel) rfl rfl rfl (by decide +kernel)
set_option maxRecDepth 65536 in
theorem w_c47 : (Jvm.Cond.code ({ cls := "java/lang/StringUTF16", name := "compress", desc := "([CII)[B" } : Jvm.MethodName) jdk_52_method_16_code (6 : Nat) (Option.some (Jvm.ClassFile.FieldType.array Jvm.ClassFile.FieldType.byte))).before args0 about1 = true := code_word (m := ⟨18, 2⟩) (meth := k18m2) (c := k18c2) (by decide +kernel) rfl rfl rfl (by decide +kernel)
set_option maxRecDepth 65536 in
theorem w_c48 : (Jvm.Cond.code ({ cls := "java/lang/StringUTF16", name := "compress", desc := "([CI[BII)I" } : Jvm.MethodName) jdk_52_method_21_code (7 : Nat) (Option.some Jvm.ClassFile.FieldType.int)).before args0 about1 = true := code_word (m := ⟨18, 3⟩) (meth := k18m3) (c := k18c3) (by decide +kernel) rfl rfl rfl (by decide +kernel)
set_option maxRecDepth 65536 in
theorem w_c49 : (Jvm.Cond.code ({ cls := "java/lang/StringUTF16", name := "coderFromArrayLen", desc := "([BI)B" } : Jvm.MethodName) jdk_52_method_15_code (2 : Nat) (Option.some Jvm.ClassFile.FieldType.byte)).before args0 about1 = true := code_word (m := ⟨18, 1⟩) (meth := k18m1) (c := k18c1) (by decide +kernel) rfl rfl rfl (by decide +kernel)
def codes1 : List Jvm.Cond := [Jvm.Cond.code x code maxLocals ret, Jvm.Cond.code ({ cls := "com/example/meerkat/meerkat/metrics/ExpositionFamilyPinLaw", name := "pick", desc := "(I)C" } : Jvm.MethodName) method_2_code (2 : Nat) (Option.some Jvm.ClassFile.FieldType.char), Jvm.Cond.code ({ cls := "com/example/meerkat/meerkat/metrics/Exposition", name := "<init>", desc := "()V" } : Jvm.MethodName) prog_10_method_1_code (1 : Nat) (Option.none : Option Jvm.ClassFile.FieldType), Jvm.Cond.code ({ cls := "java/lang/Object", name := "<init>", desc := "()V" } : Jvm.MethodName) object_method_1_code (1 : Nat) (Option.none : Option Jvm.ClassFile.FieldType), Jvm.Cond.code ({ cls := "java/lang/StringBuilder", name := "<init>", desc := "()V" } : Jvm.MethodName) jdk_67_method_1_code (1 : Nat) (Option.none : Option Jvm.ClassFile.FieldType), Jvm.Cond.code ({ cls := "java/lang/AbstractStringBuilder", name := "<init>", desc := "(I)V" } : Jvm.MethodName) jdk_68_method_2_code (2 : Nat) (Option.none : Option Jvm.ClassFile.FieldType), Jvm.Cond.code ({ cls := "java/lang/String", name := "valueOf", desc := "(C)Ljava/lang/String;" } : Jvm.MethodName) jdk_42_method_139_code (1 : Nat) (Option.some (Jvm.ClassFile.FieldType.object "java/lang/String")), Jvm.Cond.code ({ cls := "java/lang/StringLatin1", name := "canEncode", desc := "(C)Z" } : Jvm.MethodName) jdk_43_method_3_code (1 : Nat) (Option.some Jvm.ClassFile.FieldType.boolean), Jvm.Cond.code ({ cls := "java/lang/StringLatin1", name := "toBytes", desc := "(C)[B" } : Jvm.MethodName) jdk_43_method_46_code (1 : Nat) (Option.some (Jvm.ClassFile.FieldType.array Jvm.ClassFile.FieldType.byte)), Jvm.Cond.code ({ cls := "java/lang/String", name := "<init>", desc := "([BB)V" } : Jvm.MethodName) jdk_42_method_151_code (3 : Nat) (Option.none : Option Jvm.ClassFile.FieldType), Jvm.Cond.code ({ cls := "com/example/meerkat/meerkat/metrics/Exposition", name := "family", desc := "(Ljava/lang/String;Ljava/lang/String;Ljava/lang/String;)V" } : Jvm.MethodName) prog_10_method_2_code (4 : Nat) (Option.none : Option Jvm.ClassFile.FieldType), Jvm.Cond.code ({ cls := "java/lang/StringBuilder", name := "append", desc := "(Ljava/lang/String;)Ljava/lang/StringBuilder;" } : Jvm.MethodName) jdk_67_method_7_code (2 : Nat) (Option.some (Jvm.ClassFile.FieldType.object "java/lang/StringBuilder")), Jvm.Cond.code ({ cls := "java/lang/AbstractStringBuilder", name := "append", desc := "(Ljava/lang/String;)Ljava/lang/AbstractStringBuilder;" } : Jvm.MethodName) jdk_68_method_22_code (3 : Nat) (Option.some (Jvm.ClassFile.FieldType.object "java/lang/AbstractStringBuilder")), Jvm.Cond.code ({ cls := "java/lang/String", name := "length", desc := "()I" } : Jvm.MethodName) jdk_42_method_54_code (1 : Nat) (Option.some Jvm.ClassFile.FieldType.int), Jvm.Cond.code ({ cls := "java/lang/String", name := "coder", desc := "()B" } : Jvm.MethodName) jdk_42_method_152_code (1 : Nat) (Option.some Jvm.ClassFile.FieldType.byte), Jvm.Cond.code ({ cls := "java/lang/AbstractStringBuilder", name := "ensureCapacityInternal", desc := "(I)V" } : Jvm.MethodName) jdk_68_method_9_code (3 : Nat) (Option.none : Option Jvm.ClassFile.FieldType), Jvm.Cond.code ({ cls := "java/lang/AbstractStringBuilder", name := "putStringAt", desc := "(ILjava/lang/String;)V" } : Jvm.MethodName) jdk_68_method_73_code (3 : Nat) (Option.none : Option Jvm.ClassFile.FieldType), Jvm.Cond.code ({ cls := "java/lang/AbstractStringBuilder", name := "inflateIfNeededFor", desc := "(Ljava/lang/String;)V" } : Jvm.MethodName) jdk_68_method_71_code (2 : Nat) (Option.none : Option Jvm.ClassFile.FieldType), Jvm.Cond.code ({ cls := "java/lang/String", name := "getBytes", desc := "([BIB)V" } : Jvm.MethodName) jdk_42_method_147_code (4 : Nat) (Option.none : Option Jvm.ClassFile.FieldType), Jvm.Cond.code ({ cls := "java/lang/StringBuilder", name := "append", desc := "(C)Ljava/lang/StringBuilder;" } : Jvm.MethodName) jdk_67_method_14_code (2 : Nat) (Option.some (Jvm.ClassFile.FieldType.object "java/lang/StringBuilder")), Jvm.Cond.code ({ cls := "java/lang/AbstractStringBuilder", name := "append", desc := "(C)Ljava/lang/AbstractStringBuilder;" } : Jvm.MethodName) jdk_68_method_31_code (2 : Nat) (Option.some (Jvm.ClassFile.FieldType.object "java/lang/AbstractStringBuilder")), Jvm.Cond.code ({ cls := "java/lang/AbstractStringBuilder", name := "isLatin1", desc := "()Z" } : Jvm.MethodName) jdk_68_method_68_code (1 : Nat) (Option.some Jvm.ClassFile.FieldType.boolean), Jvm.Cond.code ({ cls := "com/example/meerkat/meerkat/metrics/Exposition", name := "escape", desc := "(Ljava/lang/String;ZLjava/lang/StringBuilder;)V" } : Jvm.MethodName) prog_10_method_8_code (5 : Nat) (Option.none : Option Jvm.ClassFile.FieldType), Jvm.Cond.code ({ cls := "java/lang/AbstractStringBuilder", name := "newCapacity", desc := "(I)I" } : Jvm.MethodName) jdk_68_method_10_code (6 : Nat) (Option.some Jvm.ClassFile.FieldType.int), Jvm.Cond.code ({ cls := "jdk/internal/util/ArraysSupport", name := "newLength", desc := "(III)I" } : Jvm.MethodName) jdk_48_method_27_code (4 : Nat) (Option.some Jvm.ClassFile.FieldType.int), Jvm.Cond.code ({ cls := "java/lang/Math", name := "max", desc := "(II)I" } : Jvm.MethodName) jdk_29_method_65_code (2 : Nat) (Option.some Jvm.ClassFile.FieldType.int), Jvm.Cond.code ({ cls := "java/util/Arrays", name := "copyOf", desc := "([BI)[B" } : Jvm.MethodName) jdk_65_method_121_code (3 : Nat) (Option.some (Jvm.ClassFile.FieldType.array Jvm.ClassFile.FieldType.byte)), Jvm.Cond.code ({ cls := "java/lang/Math", name := "min", desc := "(II)I" } : Jvm.MethodName) jdk_29_method_69_code (2 : Nat) (Option.some Jvm.ClassFile.FieldType.int), Jvm.Cond.code ({ cls := "com/example/meerkat/meerkat/metrics/Exposition", name := "text", desc := "()Ljava/lang/String;" } : Jvm.MethodName) prog_10_method_4_code (1 : Nat) (Option.some (Jvm.ClassFile.FieldType.object "java/lang/String")), Jvm.Cond.code ({ cls := "java/lang/StringBuilder", name := "toString", desc := "()Ljava/lang/String;" } : Jvm.MethodName) jdk_67_method_42_code (1 : Nat) (Option.some (Jvm.ClassFile.FieldType.object "java/lang/String")), Jvm.Cond.code ({ cls := "java/lang/String", name := "<init>", desc := "(Ljava/lang/StringBuilder;)V" } : Jvm.MethodName) jdk_42_method_53_code (2 : Nat) (Option.none : Option Jvm.ClassFile.FieldType), Jvm.Cond.code ({ cls := "java/lang/String", name := "<init>", desc := "(Ljava/lang/AbstractStringBuilder;Ljava/lang/Void;)V" } : Jvm.MethodName) jdk_42_method_150_code (5 : Nat) (Option.none : Option Jvm.ClassFile.FieldType), Jvm.Cond.code ({ cls := "java/lang/AbstractStringBuilder", name := "getValue", desc := "()[B" } : Jvm.MethodName) jdk_68_method_64_code (1 : Nat) (Option.some (Jvm.ClassFile.FieldType.array Jvm.ClassFile.FieldType.byte)), Jvm.Cond.code ({ cls := "java/lang/StringBuilder", name := "length", desc := "()I" } : Jvm.MethodName) jdk_67_method_93_code (1 : Nat) (Option.some Jvm.ClassFile.FieldType.int), Jvm.Cond.code ({ cls := "java/lang/AbstractStringBuilder", name := "length", desc := "()I" } : Jvm.MethodName) jdk_68_method_6_code (1 : Nat) (Option.some Jvm.ClassFile.FieldType.int), Jvm.Cond.code ({ cls := "java/util/Arrays", name := "copyOfRange", desc := "([BII)[B" } : Jvm.MethodName) jdk_65_method_132_code (3 : Nat) (Option.some (Jvm.ClassFile.FieldType.array Jvm.ClassFile.FieldType.byte)), Jvm.Cond.code ({ cls := "java/util/Arrays", name := "copyOfRangeByte", desc := "([BII)[B" } : Jvm.MethodName) jdk_65_method_133_code (5 : Nat) (Option.some (Jvm.ClassFile.FieldType.array Jvm.ClassFile.FieldType.byte)), Jvm.Cond.code ({ cls := "java/util/Arrays", name := "checkLength", desc := "(II)V" } : Jvm.MethodName) jdk_65_method_131_code (2 : Nat) (Option.none : Option Jvm.ClassFile.FieldType), Jvm.Cond.code ({ cls := "com/example/meerkat/meerkat/metrics/ExpositionFamilyPinLaw", name := "one", desc := "(Ljava/lang/String;IC)I" } : Jvm.MethodName) method_3_code (3 : Nat) (Option.some Jvm.ClassFile.FieldType.int), Jvm.Cond.code ({ cls := "java/lang/String", name := "charAt", desc := "(I)C" } : Jvm.MethodName) jdk_42_method_56_code (2 : Nat) (Option.some Jvm.ClassFile.FieldType.char), Jvm.Cond.code ({ cls := "java/lang/String", name := "isLatin1", desc := "()Z" } : Jvm.MethodName) jdk_42_method_154_code (1 : Nat) (Option.some Jvm.ClassFile.FieldType.boolean), Jvm.Cond.code ({ cls := "java/lang/StringLatin1", name := "charAt", desc := "([BI)C" } : Jvm.MethodName) jdk_43_method_2_code (2 : Nat) (Option.some Jvm.ClassFile.FieldType.char), Jvm.Cond.code ({ cls := "java/lang/String", name := "checkIndex", desc := "(II)V" } : Jvm.MethodName) jdk_42_method_155_code (2 : Nat) (Option.none : Option Jvm.ClassFile.FieldType), Jvm.Cond.code ({ cls := "jdk/internal/util/Preconditions", name := "checkIndex", desc := "(IILjava/util/function/BiFunction;)I" } : Jvm.MethodName) jdk_41_method_11_code (3 : Nat) (Option.some Jvm.ClassFile.FieldType.int), Jvm.Cond.code ({ cls := "com/example/meerkat/meerkat/metrics/ExpositionFamilyPinLaw", name := "esc", desc := "(Ljava/lang/String;IC)I" } : Jvm.MethodName) method_4_code (3 : Nat) (Option.some Jvm.ClassFile.FieldType.int), Jvm.Cond.code ({ cls := "java/lang/String", name := "<init>", desc := "([C)V" } : Jvm.MethodName) jdk_42_method_3_code (2 : Nat) (Option.none : Option Jvm.ClassFile.FieldType), Jvm.Cond.code ({ cls := "java/lang/String", name := "<init>", desc := "([CIILjava/lang/Void;)V" } : Jvm.MethodName) jdk_42_method_149_code (6 : Nat) (Option.none : Option Jvm.ClassFile.FieldType), Jvm.Cond.code ({ cls := "java/lang/StringUTF16", name := "compress", desc := "([CII)[B" } : Jvm.MethodName) jdk_52_method_16_code (6 : Nat) (Option.some (Jvm.ClassFile.FieldType.array Jvm.ClassFile.FieldType.byte)), Jvm.Cond.code ({ cls := "java/lang/StringUTF16", name := "compress", desc := "([CI[BII)I" } : Jvm.MethodName) jdk_52_method_21_code (7 : Nat) (Option.some Jvm.ClassFile.FieldType.int), Jvm.Cond.code ({ cls := "java/lang/StringUTF16", name := "coderFromArrayLen", desc := "([BI)B" } : Jvm.MethodName) jdk_52_method_15_code (2 : Nat) (Option.some Jvm.ClassFile.FieldType.byte)]
set_option maxRecDepth 65536 in
theorem codes_eq : words1.filter isCode = codes1 := rfl
theorem w_codes : ∀ c ∈ words1.filter isCode, c.before args0 about1 = true := by
  rw [codes_eq]
  intro c hc
  simp only [codes1, List.mem_cons, List.not_mem_nil, or_false] at hc
  rcases hc with rfl | rfl | rfl | rfl | rfl | rfl | rfl | rfl | rfl | rfl | rfl | rfl | rfl | rfl | rfl | rfl | rfl | rfl | rfl | rfl | rfl | rfl | rfl | rfl | rfl | rfl | rfl | rfl | rfl | rfl | rfl | rfl | rfl | rfl | rfl | rfl | rfl | rfl | rfl | rfl | rfl | rfl | rfl | rfl | rfl | rfl | rfl | rfl | rfl | rfl
  · exact w_c0
  · exact w_c1
  · exact w_c2
  · exact w_c3
  · exact w_c4
  · exact w_c5
  · exact w_c6
  · exact w_c7
  · exact w_c8
  · exact w_c9
  · exact w_c10
  · exact w_c11
  · exact w_c12
  · exact w_c13
  · exact w_c14
  · exact w_c15
  · exact w_c16
  · exact w_c17
  · exact w_c18
  · exact w_c19
  · exact w_c20
  · exact w_c21
  · exact w_c22
  · exact w_c23
  · exact w_c24
  · exact w_c25
  · exact w_c26
  · exact w_c27
  · exact w_c28
  · exact w_c29
  · exact w_c30
  · exact w_c31
  · exact w_c32
  · exact w_c33
  · exact w_c34
  · exact w_c35
  · exact w_c36
  · exact w_c37
  · exact w_c38
  · exact w_c39
  · exact w_c40
  · exact w_c41
  · exact w_c42
  · exact w_c43
  · exact w_c44
  · exact w_c45
  · exact w_c46
  · exact w_c47
  · exact w_c48
  · exact w_c49
set_option maxRecDepth 65536 in
theorem w_t1 : (words1.take 24).all (fun c => isCode c || c.before args0 about1) = true := by decide +kernel
set_option maxRecDepth 65536 in
theorem w_t2 : ((words1.drop 24).take 24).all (fun c => isCode c || c.before args0 about1) = true := by decide +kernel
set_option maxRecDepth 65536 in
theorem w_t3 : (((words1.drop 24).drop 24).take 24).all (fun c => isCode c || c.before args0 about1) = true := by decide +kernel
set_option maxRecDepth 65536 in
theorem w_t4 : ((((words1.drop 24).drop 24).drop 24).take 24).all (fun c => isCode c || c.before args0 about1) = true := by decide +kernel
set_option maxRecDepth 65536 in
theorem w_t5 : (((((words1.drop 24).drop 24).drop 24).drop 24).take 24).all (fun c => isCode c || c.before args0 about1) = true := by decide +kernel
set_option maxRecDepth 65536 in
theorem w_t6 : ((((((words1.drop 24).drop 24).drop 24).drop 24).drop 24).take 24).all (fun c => isCode c || c.before args0 about1) = true := by decide +kernel
set_option maxRecDepth 65536 in
theorem w_t7 : (((((((words1.drop 24).drop 24).drop 24).drop 24).drop 24).drop 24).take 24).all (fun c => isCode c || c.before args0 about1) = true := by decide +kernel
set_option maxRecDepth 65536 in
theorem w_t8 : ((((((((words1.drop 24).drop 24).drop 24).drop 24).drop 24).drop 24).drop 24).take 24).all (fun c => isCode c || c.before args0 about1) = true := by decide +kernel
set_option maxRecDepth 65536 in
theorem w_t9 : (((((((((words1.drop 24).drop 24).drop 24).drop 24).drop 24).drop 24).drop 24).drop 24).take 24).all (fun c => isCode c || c.before args0 about1) = true := by decide +kernel
set_option maxRecDepth 65536 in
theorem w_t10 : ((((((((((words1.drop 24).drop 24).drop 24).drop 24).drop 24).drop 24).drop 24).drop 24).drop 24).take 24).all (fun c => isCode c || c.before args0 about1) = true := by decide +kernel
set_option maxRecDepth 65536 in
theorem w_t11 : ((((((((((words1.drop 24).drop 24).drop 24).drop 24).drop 24).drop 24).drop 24).drop 24).drop 24).drop 24).all (fun c => isCode c || c.before args0 about1) = true := by decide +kernel
theorem w_tables : (allAtoms (Jvm.Cond.code x code maxLocals ret :: tables_1)).before args0 about1 = true := by
  rw [allAtoms_all]
  show words1.all (fun c => c.before args0 about1) = true
  refine all_split ?_ w_codes
  rw [← List.take_append_drop 24 words1, List.all_append, w_t1, ← List.take_append_drop 24 (words1.drop 24), List.all_append, w_t2, ← List.take_append_drop 24 ((words1.drop 24).drop 24), List.all_append, w_t3, ← List.take_append_drop 24 (((words1.drop 24).drop 24).drop 24), List.all_append, w_t4, ← List.take_append_drop 24 ((((words1.drop 24).drop 24).drop 24).drop 24), List.all_append, w_t5, ← List.take_append_drop 24 (((((words1.drop 24).drop 24).drop 24).drop 24).drop 24), List.all_append, w_t6, ← List.take_append_drop 24 ((((((words1.drop 24).drop 24).drop 24).drop 24).drop 24).drop 24), List.all_append, w_t7, ← List.take_append_drop 24 (((((((words1.drop 24).drop 24).drop 24).drop 24).drop 24).drop 24).drop 24), List.all_append, w_t8, ← List.take_append_drop 24 ((((((((words1.drop 24).drop 24).drop 24).drop 24).drop 24).drop 24).drop 24).drop 24), List.all_append, w_t9, ← List.take_append_drop 24 (((((((((words1.drop 24).drop 24).drop 24).drop 24).drop 24).drop 24).drop 24).drop 24).drop 24), List.all_append, w_t10, w_t11]
  rfl
set_option maxRecDepth 65536 in
theorem w_rest : rest_1_c.before args0 about1 = true := by decide +kernel
set_option maxRecDepth 65536 in
theorem w_case : (Jvm.Cond.and given_1 narrow_1).before args0 about1 = true := by decide +kernel
set_option maxRecDepth 65536 in
theorem w_consts : constsHeld consts_1 about1 := Jvm.Lit.constsHeldB_iff.mp (by decide +kernel)
theorem w_applies : (headSpec (Jvm.Cond.code x code maxLocals ret :: tables_1) room_1).applies x e0.platform about1 = true :=
  (Spec.applies_iff w_frames).mpr ⟨w_running, w_runnable, w_alone, w_named, w_hears, w_ripe, w_room, w_tables⟩
theorem atStart : AtStart classFile x code maxLocals ret World_1 tables_1 room_1 Calls_1 rest_1 Pre_1 launch0 p0 e0 about1 theMethod args0 below0 :=
  ⟨lists_1, trivial, launch0.admits_env _ _ _, launch0.least_env, fairChoices_fair.cas, fairChoices_fair.clock, w_frames, w_args, w_heap, w_applies, ⟨w_consts, trivial⟩, w_rest, w_case⟩
end start1
theorem witness_1 : WitnessClaimed_1 := ⟨start1.p0, start1.e0, start1.about1, start1.theMethod, start1.args0, start1.below0, start1.atStart⟩
end Jvm.Pilot.@@N@@
