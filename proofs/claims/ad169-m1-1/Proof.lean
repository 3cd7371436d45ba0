import JvmDerived
import JvmDerived.Pilot.@@N@@Statement
import JvmDerived.Pilot.@@N@@Code
set_option linter.unusedVariables false
set_option linter.unusedSimpArgs false
namespace Jvm.Road
open Jvm Jvm.ClassFile Sem Op Lib Jvm.Free Jvm.Stand Jvm.LawKit Jvm.RoadKit Bundle
/-! THE ROAD LAYER: one goal 'Go' for a walk, every step a law 'Go next -> Go here'; a callee's summary 'Con'. -/
abbrev Bdy : Type := MethodName × ByteArray × Nat × Option FieldType × Room
abbrev Bdy.y (B : Bdy) : MethodName := B.1
abbrev Bdy.bs (B : Bdy) : ByteArray := B.2.1
abbrev Bdy.ml (B : Bdy) : Nat := B.2.2.1
abbrev Bdy.rt (B : Bdy) : Option FieldType := B.2.2.2.1
abbrev Bdy.rm (B : Bdy) : Room := B.2.2.2.2
abbrev Dyn : Type := Program × Env × State × MethodId × Array Value × List Frame × Method × Code
abbrev Dyn.p (D : Dyn) : Program := D.1
abbrev Dyn.e (D : Dyn) : Env := D.2.1
abbrev Dyn.s (D : Dyn) : State := D.2.2.1
abbrev Dyn.m (D : Dyn) : MethodId := D.2.2.2.1
abbrev Dyn.args (D : Dyn) : Array Value := D.2.2.2.2.1
abbrev Dyn.bl (D : Dyn) : List Frame := D.2.2.2.2.2.1
abbrev Dyn.meth (D : Dyn) : Method := D.2.2.2.2.2.2.1
abbrev Dyn.c (D : Dyn) : Code := D.2.2.2.2.2.2.2
/-- a cell that this law's run has made and that no constant of EL stands for: it may be written -/
def Own (Z : State) (EL : List (String × Nat)) (n0 : Nat) (vm : Vm) (h : Heap) (x : Addr) : Prop := Safe Z EL vm h x ∧ n0 ≤ x ∧ x < h.size
def Ok (B : Bdy) (D : Dyn) : Prop := D.p.tables.exec = Jvm.exec ∧ D.c.code = B.bs ∧ D.c.maxLocals = B.ml ∧ D.meth.sig.returnType = B.rt ∧ D.meth.locks = false ∧ D.meth.name = B.y.name
def Inv (l : Launch) (Z : State) (EL : List (String × Nat)) (n0 : Nat) (kn : Bool) (B : Bdy) (D : Dyn) (h : Heap) (σ : Addr → Prop) (ce sl : Nat) (T : State) (vm0 : Vm) : Prop :=
  ∃ (k0 : Nat) (locs : List Loc), Stand D.p l D.e B.rm (D.s.setVm vm0) D.m D.args D.bl D.meth D.c T locs ce sl ∧ T.heap = h ∧ D.s.Since vm0 k0 ∧ k0 ≤ h.size ∧ Z.Warmed39 vm0 ∧ vm0.findClass B.y.cls = some D.m.cls ∧
    CHr Z EL D.s.vm D.s.heap vm0 h ∧ Fr n0 locs ∧ Old Z n0 h ∧ (∀ x, σ x → Own Z EL n0 vm0 h x) ∧ (kn = true → vm0.MethodsKnown ∧ vm0.FramesKnown D.bl)
abbrev Post : Type := Option Value → Heap → (Addr → Prop) → Prop
def Ends (Z : State) (EL : List (String × Nat)) (n0 : Nat) (B : Bdy) (D : Dyn) (Q : Post) (t0 : State) : Prop :=
  ∃ s₂ o, Steps D.p.tables D.e D.bl t0 s₂ ∧ s₂.status = .running ∧ Ended s₂ D.bl o ∧
    ∃ v L, o = .returned v ∧ Q v s₂.heap (Own Z EL n0 s₂.vm s₂.heap) ∧ Fr n0 L ∧ CHr Z EL D.s.vm D.s.heap s₂.vm s₂.heap ∧ Old Z n0 s₂.heap ∧ ReturnedEndW D.s o s₂ L B.rm.cells B.rm.slots
def Go (l : Launch) (Z : State) (a0 : Array Value) (EL : List (String × Nat)) (n0 : Nat) (kn : Bool) (B : Bdy) (D : Dyn) (Q : Post) (h : Heap) (σ : Addr → Prop) (ce sl : Nat) (pc : Nat) (Ls : Array Slot) (st : List Value) : Prop :=
  Ok B D → EW Z a0 EL → ∀ (T : State) (vm0 : Vm), Inv l Z EL n0 kn B D h σ ce sl T vm0 → Ends Z EL n0 B D Q (T.setTop (mkF D.m pc Ls st))
/-- what is asked of a callee -/
def Con (l : Launch) (Z : State) (EL : List (String × Nat)) (n0 : Nat) (kn : Bool) (B : Bdy) (ws : List Jvm.Cond) (σ : Addr → Prop) (as : Array Value) (h : Heap) (Q : Post) : Prop :=
  MetFree l B.y (head1 (Jvm.Cond.code B.y B.bs B.ml B.rt :: ws) B.rm)
    (fun a U => a = as ∧ Z.Warmed39 U.vm ∧ U.heap = h ∧ CHv Z EL U.vm h ∧ Old Z n0 h ∧ ∀ x, σ x → Own Z EL n0 U.vm h x)
    (fun _ _ bl s _ => kn = true → s.vm.MethodsKnown ∧ s.vm.FramesKnown bl)
    (fun _ U o U' => ∃ v L, o = .returned v ∧ Q v U'.heap (Own Z EL n0 U'.vm U'.heap) ∧ Fr n0 L ∧ CHr Z EL U.vm U.heap U'.vm U'.heap ∧ Old Z n0 U'.heap ∧ ReturnedEndW U o U' L B.rm.cells B.rm.slots)
def push : Option Value → List Value → List Value
  | some v, r => v :: r
  | none, r => r
theorem push_eq (v : Option Value) (r : List Value) : v.toList ++ r = push v r := by cases v <;> rfl
section Laws
variable {l : Launch} {Z : State} {a0 : Array Value} {EL : List (String × Nat)} {n0 : Nat} {kn : Bool} {B : Bdy} {D : Dyn} {Q : Post} {h h' : Heap} {σ : Addr → Prop} {ce sl : Nat} {Ls : Array Slot} {st : List Value}
theorem Con.of {ws : List Jvm.Cond} (hpn : plainName B.y.cls = true) (hEW : EW Z a0 EL) {as : Array Value} (Ls0 : Array Slot) (hef : ∀ m, entryFrame m as B.ml = mkF m 0 Ls0 [])
    (body : ∀ D : Dyn, D.s.heap = h → Go l Z a0 EL n0 kn B D Q h σ 0 0 0 Ls0 []) : Con l Z EL n0 kn B ws σ as h Q := by
  refine MetFree.of_bodySF (plainFor_of_name hpn) hisR ?_
  intro p e s m args below meth c s₁ Bd hml hP hK
  obtain ⟨rfl, hZ, hh, hC, hO, hσ⟩ := hP
  have hnm := (name_of_methodNamed Bd.named Bd.method).1
  have hown := findClass_of_methodNamed Bd.named
  have X0 : Stand p l e B.rm s m args below meth c s₁ [] 0 0 := Stand.of_body Bd
  have e0 : s₁.heap = h := by rw [← hh, Bd.state]; rfl
  obtain ⟨s2, o, st, hr, he, r⟩ := body (p, e, s, m, args, below, meth, c) hh ⟨Bd.exec, Bd.bytes, hml, Bd.returns, Bd.notSynchronized, hnm⟩ hEW s₁ s.vm
    ⟨0, [], X0, e0, (State.WarmedH.refl s).since 0, Nat.zero_le _, hZ, hown, by subst hh; exact CHr.refl hC, Fr.nil n0, hO, hσ, hK⟩
  exact ⟨s2, o, castTop (hef m) st, hr, he, r⟩
/-- one plain step -/
theorem Go.step {pc pc' : Nat} {Ls' : Array Slot} {st' : List Value} (k : ∀ T, At T D.m D.c D.bl → D.p.tables.exec = Jvm.exec → D.c.code = B.bs → ∀ t, Steps D.p.tables D.e D.bl (T.setTop (mkF D.m pc' Ls' st')) t → Steps D.p.tables D.e D.bl (T.setTop (mkF D.m pc Ls st)) t)
    (r : Go l Z a0 EL n0 kn B D Q h σ ce sl pc' Ls' st') : Go l Z a0 EL n0 kn B D Q h σ ce sl pc Ls st := by
  intro ok ew T vm0 I
  obtain ⟨s2, o, q, rest⟩ := r ok ew T vm0 I
  obtain ⟨k0, locs, X, -⟩ := I
  exact ⟨s2, o, k T X.here ok.1 ok.2.1 _ q, rest⟩
/-- fewer permissions, more room taken: what was shown serves -/
theorem Go.weaken {pc : Nat} {σ' : Addr → Prop} {ce' sl' : Nat} (hσ : ∀ x, σ' x → σ x) (hc : ce ≤ ce') (hs : sl ≤ sl') (r : Go l Z a0 EL n0 kn B D Q h σ' ce' sl' pc Ls st) : Go l Z a0 EL n0 kn B D Q h σ ce sl pc Ls st := by
  intro ok ew T vm0 I
  obtain ⟨k0, locs, X, h1, h2, h3, h4, h5, h6, h7, h8, h9, h10⟩ := I
  exact r ok ew T vm0 ⟨k0, locs, X.mono hc hs, h1, h2, h3, h4, h5, h6, h7, h8, fun x q => h9 x (hσ x q), h10⟩
/-- facts that the walk bears -/
theorem Go.old {pc : Nat} (r : Old Z n0 h → Go l Z a0 EL n0 kn B D Q h σ ce sl pc Ls st) : Go l Z a0 EL n0 kn B D Q h σ ce sl pc Ls st := by
  intro ok ew T vm0 I
  refine r ?_ ok ew T vm0 I
  obtain ⟨k0, locs, X, h1, h2, h3, h4, h5, h6, h7, h8, h9, h10⟩ := I
  exact h8
end Laws
end Jvm.Road
namespace Jvm.Road
open Jvm Jvm.ClassFile Sem Op Lib Jvm.Free Jvm.Stand Jvm.LawKit Jvm.RoadKit Bundle
theorem Go.ownAll {l : Launch} {Z : State} {a0 : Array Value} {EL : List (String × Nat)} {n0 : Nat} {kn : Bool} {B : Bdy} {D : Dyn} {Q : Post} {h : Heap} {σ : Addr → Prop} {ce sl : Nat} {Ls : Array Slot} {st : List Value} {pc : Nat}
    (r : (∀ x, σ x → n0 ≤ x ∧ x < h.size) → Go l Z a0 EL n0 kn B D Q h σ ce sl pc Ls st) : Go l Z a0 EL n0 kn B D Q h σ ce sl pc Ls st := by
  intro ok ew T vm0 I
  refine r ?_ ok ew T vm0 I
  obtain ⟨k0, locs, X, h1, h2, h3, h4, h5, h6, h7, h8, h9, h10⟩ := I
  exact fun x hx => (h9 x hx).2
theorem keep_more {h h' : Heap} {ws : List Addr} (K : Keep h h' []) : Keep h h' ws := ⟨K.1, fun x c q _ => K.2.1 x c q nin0, K.2.2⟩
end Jvm.Road
namespace Jvm.Road
open Jvm Jvm.ClassFile Sem Op Lib Jvm.Free Jvm.Stand Jvm.LawKit Jvm.RoadKit Bundle
theorem laid0 : Jvm.Sym.laidSlots [] = [] := rfl
theorem laid1 {v : Value} {vs : List Value} {L : List Slot} (hc : v.category = 1) (h : Jvm.Sym.laidSlots vs = L) : Jvm.Sym.laidSlots (v :: vs) = .val v :: L := by
  rw [Jvm.Sym.laidSlots, hc, h]; rfl
theorem laid2 {v : Value} {vs : List Value} {L : List Slot} (hc : v.category = 2) (h : Jvm.Sym.laidSlots vs = L) : Jvm.Sym.laidSlots (v :: vs) = .val v :: .second :: L := by
  rw [Jvm.Sym.laidSlots, hc, h]; rfl
theorem ent {m : MethodId} {args : Array Value} {n k : Nat} {Ls : Array Slot} {L : List Slot} (h : Jvm.Sym.laidSlots args.toList = L) (hk : n - L.length = k) (hL : L ++ List.replicate k .unset = Ls.toList) : entryFrame m args n = mkF m 0 Ls [] := by
  have : argsToLocals args n = Ls := Array.toList_inj.mp (by rw [Jvm.Sym.argsToLocals_toList, h, hk]; exact hL)
  unfold entryFrame
  rw [this]
end Jvm.Road
namespace Jvm.Road
open Jvm Jvm.ClassFile Sem Op Lib Jvm.Free Jvm.Stand Jvm.LawKit Jvm.RoadKit Bundle
/-- what i2c leaves -/
abbrev chr (x : Int32) : Int32 := x.toUInt32.toUInt16.toUInt32.toInt32
section Plain
variable {l : Launch} {Z : State} {a0 : Array Value} {EL : List (String × Nat)} {n0 : Nat} {kn : Bool} {B : Bdy} {D : Dyn} {Q : Post} {h : Heap} {σ : Addr → Prop} {ce sl : Nat} {Ls : Array Slot} {st : List Value}
theorem aload (pc : Nat) {k : Nat} {v : Value} (hd : decode B.bs pc = .ok (.aload k, 2)) (hl : Ls[k]? = some (.val v))  (r : Go l Z a0 EL n0 kn B D Q h σ ce sl (pc + 2) Ls (v :: st)) (hv : v.isRef = true := by rfl) : Go l Z a0 EL n0 kn B D Q h σ ce sl pc Ls st :=
  Go.step (fun T hA hx hb t q => XS.aload hA hx rfl (Jvm.hb hb hd) hl hv q) r
theorem aloadN (pc : Nat) {k : Fin 4} {v : Value} (hd : decode B.bs pc = .ok (.aload_n k, 1)) (hl : Ls[k.val]? = some (.val v))  (r : Go l Z a0 EL n0 kn B D Q h σ ce sl (pc + 1) Ls (v :: st)) (hv : v.isRef = true := by rfl) : Go l Z a0 EL n0 kn B D Q h σ ce sl pc Ls st :=
  Go.step (fun T hA hx hb t q => XS.aloadN hA hx rfl (Jvm.hb hb hd) hl hv q) r
theorem iload (pc : Nat) {k : Nat} {v : Int32} (hd : decode B.bs pc = .ok (.iload k, 2)) (hl : Ls[k]? = some (.val (.int v))) (r : Go l Z a0 EL n0 kn B D Q h σ ce sl (pc + 2) Ls (.int v :: st))  : Go l Z a0 EL n0 kn B D Q h σ ce sl pc Ls st :=
  Go.step (fun T hA hx hb t q => XS.iload hA hx rfl (Jvm.hb hb hd) hl q) r
theorem iloadN (pc : Nat) {k : Fin 4} {v : Int32} (hd : decode B.bs pc = .ok (.iload_n k, 1)) (hl : Ls[k.val]? = some (.val (.int v))) (r : Go l Z a0 EL n0 kn B D Q h σ ce sl (pc + 1) Ls (.int v :: st))  : Go l Z a0 EL n0 kn B D Q h σ ce sl pc Ls st :=
  Go.step (fun T hA hx hb t q => XS.iloadN hA hx rfl (Jvm.hb hb hd) hl q) r
theorem lload (pc : Nat) {k : Nat} {v : Int64} (hd : decode B.bs pc = .ok (.lload k, 2)) (hl : Ls[k]? = some (.val (.long v))) (r : Go l Z a0 EL n0 kn B D Q h σ ce sl (pc + 2) Ls (.long v :: st))  : Go l Z a0 EL n0 kn B D Q h σ ce sl pc Ls st :=
  Go.step (fun T hA hx hb t q => XT.lload hA hx rfl (Jvm.hb hb hd) hl q) r
theorem lloadN (pc : Nat) {k : Fin 4} {v : Int64} (hd : decode B.bs pc = .ok (.lload_n k, 1)) (hl : Ls[k.val]? = some (.val (.long v))) (r : Go l Z a0 EL n0 kn B D Q h σ ce sl (pc + 1) Ls (.long v :: st))  : Go l Z a0 EL n0 kn B D Q h σ ce sl pc Ls st :=
  Go.step (fun T hA hx hb t q => XT.lloadN hA hx rfl (Jvm.hb hb hd) hl q) r
theorem iconst (pc : Nat) {i : Int} (v : Int32) (hd : decode B.bs pc = .ok (.iconst i, 1)) (hv : Int32.ofInt i = v) (r : Go l Z a0 EL n0 kn B D Q h σ ce sl (pc + 1) Ls (.int v :: st))  : Go l Z a0 EL n0 kn B D Q h σ ce sl pc Ls st :=
  Go.step (fun T hA hx hb t q => XT.iconstV hA hx rfl v (Jvm.hb hb hd) hv q) r
theorem bipush (pc : Nat) {i : Int} (v : Int32) (hd : decode B.bs pc = .ok (.bipush i, 2)) (hv : (Int8.ofInt i).toInt32 = v) (r : Go l Z a0 EL n0 kn B D Q h σ ce sl (pc + 2) Ls (.int v :: st))  : Go l Z a0 EL n0 kn B D Q h σ ce sl pc Ls st :=
  Go.step (fun T hA hx hb t q => XT.bipushV hA hx rfl v (Jvm.hb hb hd) hv q) r
theorem sipush (pc : Nat) {i : Int} (v : Int32) (hd : decode B.bs pc = .ok (.sipush i, 3)) (hv : (Int16.ofInt i).toInt32 = v) (r : Go l Z a0 EL n0 kn B D Q h σ ce sl (pc + 3) Ls (.int v :: st))  : Go l Z a0 EL n0 kn B D Q h σ ce sl pc Ls st :=
  Go.step (fun T hA hx hb t q => XT.sipushV hA hx rfl v (Jvm.hb hb hd) hv q) r
theorem lconst (pc : Nat) {k : Fin 2} (v : Int64) (hd : decode B.bs pc = .ok (.lconst k, 1)) (hv : Int64.ofNat k = v) (r : Go l Z a0 EL n0 kn B D Q h σ ce sl (pc + 1) Ls (.long v :: st))  : Go l Z a0 EL n0 kn B D Q h σ ce sl pc Ls st :=
  Go.step (fun T hA hx hb t q => XT.lconstV hA hx rfl v (Jvm.hb hb hd) hv q) r
theorem aconstNull (pc : Nat)  (hd : decode B.bs pc = .ok (.aconst_null, 1))  (r : Go l Z a0 EL n0 kn B D Q h σ ce sl (pc + 1) Ls (.null :: st))  : Go l Z a0 EL n0 kn B D Q h σ ce sl pc Ls st :=
  Go.step (fun T hA hx hb t q => XS.aconstNull hA hx rfl (Jvm.hb hb hd) q) r
theorem iadd (pc : Nat) {x y : Int32} (hd : decode B.bs pc = .ok (.iadd, 1))  (r : Go l Z a0 EL n0 kn B D Q h σ ce sl (pc + 1) Ls (.int (x + y) :: st))  : Go l Z a0 EL n0 kn B D Q h σ ce sl pc Ls (.int y :: .int x :: st) :=
  Go.step (fun T hA hx hb t q => XS.iadd hA hx rfl (Jvm.hb hb hd) rfl q) r
theorem isub (pc : Nat) {x y : Int32} (hd : decode B.bs pc = .ok (.isub, 1))  (r : Go l Z a0 EL n0 kn B D Q h σ ce sl (pc + 1) Ls (.int (x - y) :: st))  : Go l Z a0 EL n0 kn B D Q h σ ce sl pc Ls (.int y :: .int x :: st) :=
  Go.step (fun T hA hx hb t q => XS.isub hA hx rfl (Jvm.hb hb hd) rfl q) r
theorem iand (pc : Nat) {x y : Int32} (hd : decode B.bs pc = .ok (.iand, 1))  (r : Go l Z a0 EL n0 kn B D Q h σ ce sl (pc + 1) Ls (.int (x &&& y) :: st))  : Go l Z a0 EL n0 kn B D Q h σ ce sl pc Ls (.int y :: .int x :: st) :=
  Go.step (fun T hA hx hb t q => XS.iand hA hx rfl (Jvm.hb hb hd) rfl q) r
theorem imul (pc : Nat) {x y : Int32} (hd : decode B.bs pc = .ok (.imul, 1))  (r : Go l Z a0 EL n0 kn B D Q h σ ce sl (pc + 1) Ls (.int (x * y) :: st))  : Go l Z a0 EL n0 kn B D Q h σ ce sl pc Ls (.int y :: .int x :: st) :=
  Go.step (fun T hA hx hb t q => XS.imul hA hx rfl (Jvm.hb hb hd) rfl q) r
theorem ixor (pc : Nat) {x y : Int32} (hd : decode B.bs pc = .ok (.ixor, 1))  (r : Go l Z a0 EL n0 kn B D Q h σ ce sl (pc + 1) Ls (.int (x ^^^ y) :: st))  : Go l Z a0 EL n0 kn B D Q h σ ce sl pc Ls (.int y :: .int x :: st) :=
  Go.step (fun T hA hx hb t q => XT.ixor hA hx rfl (Jvm.hb hb hd) rfl q) r
theorem ior (pc : Nat) {x y : Int32} (hd : decode B.bs pc = .ok (.ior, 1))  (r : Go l Z a0 EL n0 kn B D Q h σ ce sl (pc + 1) Ls (.int (x ||| y) :: st))  : Go l Z a0 EL n0 kn B D Q h σ ce sl pc Ls (.int y :: .int x :: st) :=
  Go.step (fun T hA hx hb t q => XT.ior hA hx rfl (Jvm.hb hb hd) rfl q) r
theorem ishl (pc : Nat) {x y : Int32} (hd : decode B.bs pc = .ok (.ishl, 1))  (r : Go l Z a0 EL n0 kn B D Q h σ ce sl (pc + 1) Ls (.int (x <<< (y &&& 31)) :: st))  : Go l Z a0 EL n0 kn B D Q h σ ce sl pc Ls (.int y :: .int x :: st) :=
  Go.step (fun T hA hx hb t q => XT.ishl hA hx rfl (Jvm.hb hb hd) rfl q) r
theorem ishr (pc : Nat) {x y : Int32} (hd : decode B.bs pc = .ok (.ishr, 1))  (r : Go l Z a0 EL n0 kn B D Q h σ ce sl (pc + 1) Ls (.int (x >>> (y &&& 31)) :: st))  : Go l Z a0 EL n0 kn B D Q h σ ce sl pc Ls (.int y :: .int x :: st) :=
  Go.step (fun T hA hx hb t q => XT.ishr hA hx rfl (Jvm.hb hb hd) rfl q) r
theorem iushr (pc : Nat) {x y : Int32} (hd : decode B.bs pc = .ok (.iushr, 1))  (r : Go l Z a0 EL n0 kn B D Q h σ ce sl (pc + 1) Ls (.int (XT.ushr x y) :: st))  : Go l Z a0 EL n0 kn B D Q h σ ce sl pc Ls (.int y :: .int x :: st) :=
  Go.step (fun T hA hx hb t q => XT.iushr hA hx rfl (Jvm.hb hb hd) rfl q) r
theorem idiv (pc : Nat) {x y : Int32} (hd : decode B.bs pc = .ok (.idiv, 1)) (hy : y ≠ 0) (r : Go l Z a0 EL n0 kn B D Q h σ ce sl (pc + 1) Ls (.int (x / y) :: st))  : Go l Z a0 EL n0 kn B D Q h σ ce sl pc Ls (.int y :: .int x :: st) :=
  Go.step (fun T hA hx hb t q => XS.idiv hA hx rfl (Jvm.hb hb hd) rfl hy q) r
theorem irem (pc : Nat) {x y : Int32} (hd : decode B.bs pc = .ok (.irem, 1)) (hy : y ≠ 0) (r : Go l Z a0 EL n0 kn B D Q h σ ce sl (pc + 1) Ls (.int (x % y) :: st))  : Go l Z a0 EL n0 kn B D Q h σ ce sl pc Ls (.int y :: .int x :: st) :=
  Go.step (fun T hA hx hb t q => XS.irem hA hx rfl (Jvm.hb hb hd) rfl hy (by rw [irem_eq_mod]; exact q)) r
theorem ineg (pc : Nat) {x : Int32} (hd : decode B.bs pc = .ok (.ineg, 1))  (r : Go l Z a0 EL n0 kn B D Q h σ ce sl (pc + 1) Ls (.int (-x) :: st))  : Go l Z a0 EL n0 kn B D Q h σ ce sl pc Ls (.int x :: st) :=
  Go.step (fun T hA hx hb t q => XS.ineg hA hx rfl (Jvm.hb hb hd) rfl q) r
theorem ladd (pc : Nat) {x y : Int64} (hd : decode B.bs pc = .ok (.ladd, 1))  (r : Go l Z a0 EL n0 kn B D Q h σ ce sl (pc + 1) Ls (.long (x + y) :: st))  : Go l Z a0 EL n0 kn B D Q h σ ce sl pc Ls (.long y :: .long x :: st) :=
  Go.step (fun T hA hx hb t q => XT.ladd hA hx rfl (Jvm.hb hb hd) rfl q) r
theorem lsub (pc : Nat) {x y : Int64} (hd : decode B.bs pc = .ok (.lsub, 1))  (r : Go l Z a0 EL n0 kn B D Q h σ ce sl (pc + 1) Ls (.long (x - y) :: st))  : Go l Z a0 EL n0 kn B D Q h σ ce sl pc Ls (.long y :: .long x :: st) :=
  Go.step (fun T hA hx hb t q => XT.lsub hA hx rfl (Jvm.hb hb hd) rfl q) r
theorem land (pc : Nat) {x y : Int64} (hd : decode B.bs pc = .ok (.land, 1))  (r : Go l Z a0 EL n0 kn B D Q h σ ce sl (pc + 1) Ls (.long (x &&& y) :: st))  : Go l Z a0 EL n0 kn B D Q h σ ce sl pc Ls (.long y :: .long x :: st) :=
  Go.step (fun T hA hx hb t q => XT.land hA hx rfl (Jvm.hb hb hd) rfl q) r
theorem lmul (pc : Nat) {x y : Int64} (hd : decode B.bs pc = .ok (.lmul, 1))  (r : Go l Z a0 EL n0 kn B D Q h σ ce sl (pc + 1) Ls (.long (x * y) :: st))  : Go l Z a0 EL n0 kn B D Q h σ ce sl pc Ls (.long y :: .long x :: st) :=
  Go.step (fun T hA hx hb t q => XT.lmul hA hx rfl (Jvm.hb hb hd) rfl q) r
theorem lxor (pc : Nat) {x y : Int64} (hd : decode B.bs pc = .ok (.lxor, 1))  (r : Go l Z a0 EL n0 kn B D Q h σ ce sl (pc + 1) Ls (.long (x ^^^ y) :: st))  : Go l Z a0 EL n0 kn B D Q h σ ce sl pc Ls (.long y :: .long x :: st) :=
  Go.step (fun T hA hx hb t q => XT.lxor hA hx rfl (Jvm.hb hb hd) rfl q) r
theorem lor (pc : Nat) {x y : Int64} (hd : decode B.bs pc = .ok (.lor, 1))  (r : Go l Z a0 EL n0 kn B D Q h σ ce sl (pc + 1) Ls (.long (x ||| y) :: st))  : Go l Z a0 EL n0 kn B D Q h σ ce sl pc Ls (.long y :: .long x :: st) :=
  Go.step (fun T hA hx hb t q => XT.lor hA hx rfl (Jvm.hb hb hd) rfl q) r
theorem lushr (pc : Nat) {x : Int64} {y : Int32} (hd : decode B.bs pc = .ok (.lushr, 1))  (r : Go l Z a0 EL n0 kn B D Q h σ ce sl (pc + 1) Ls (.long (XT.ushrL x y) :: st))  : Go l Z a0 EL n0 kn B D Q h σ ce sl pc Ls (.int y :: .long x :: st) :=
  Go.step (fun T hA hx hb t q => XT.lushr hA hx rfl (Jvm.hb hb hd) rfl q) r
theorem ldiv (pc : Nat) {x y : Int64} (hd : decode B.bs pc = .ok (.ldiv, 1)) (hy : y ≠ 0) (r : Go l Z a0 EL n0 kn B D Q h σ ce sl (pc + 1) Ls (.long (x / y) :: st))  : Go l Z a0 EL n0 kn B D Q h σ ce sl pc Ls (.long y :: .long x :: st) :=
  Go.step (fun T hA hx hb t q => XT.ldiv hA hx rfl (Jvm.hb hb hd) rfl hy q) r
theorem lrem (pc : Nat) {x y : Int64} (hd : decode B.bs pc = .ok (.lrem, 1)) (hy : y ≠ 0) (r : Go l Z a0 EL n0 kn B D Q h σ ce sl (pc + 1) Ls (.long (x - (x / y) * y) :: st))  : Go l Z a0 EL n0 kn B D Q h σ ce sl pc Ls (.long y :: .long x :: st) :=
  Go.step (fun T hA hx hb t q => XT.lrem hA hx rfl (Jvm.hb hb hd) rfl hy q) r
theorem lneg (pc : Nat) {x : Int64} (hd : decode B.bs pc = .ok (.lneg, 1))  (r : Go l Z a0 EL n0 kn B D Q h σ ce sl (pc + 1) Ls (.long (-x) :: st))  : Go l Z a0 EL n0 kn B D Q h σ ce sl pc Ls (.long x :: st) :=
  Go.step (fun T hA hx hb t q => XT.lneg hA hx rfl (Jvm.hb hb hd) rfl q) r
theorem i2l (pc : Nat) {x : Int32} (hd : decode B.bs pc = .ok (.i2l, 1))  (r : Go l Z a0 EL n0 kn B D Q h σ ce sl (pc + 1) Ls (.long x.toInt64 :: st))  : Go l Z a0 EL n0 kn B D Q h σ ce sl pc Ls (.int x :: st) :=
  Go.step (fun T hA hx hb t q => XT.i2l hA hx rfl (Jvm.hb hb hd) rfl q) r
theorem l2i (pc : Nat) {x : Int64} (hd : decode B.bs pc = .ok (.l2i, 1))  (r : Go l Z a0 EL n0 kn B D Q h σ ce sl (pc + 1) Ls (.int x.toInt32 :: st))  : Go l Z a0 EL n0 kn B D Q h σ ce sl pc Ls (.long x :: st) :=
  Go.step (fun T hA hx hb t q => XT.l2i hA hx rfl (Jvm.hb hb hd) rfl q) r
theorem i2b (pc : Nat) {x : Int32} (hd : decode B.bs pc = .ok (.i2b, 1))  (r : Go l Z a0 EL n0 kn B D Q h σ ce sl (pc + 1) Ls (.int x.toInt8.toInt32 :: st))  : Go l Z a0 EL n0 kn B D Q h σ ce sl pc Ls (.int x :: st) :=
  Go.step (fun T hA hx hb t q => XT.i2b hA hx rfl (Jvm.hb hb hd) rfl q) r
theorem i2c (pc : Nat) {x : Int32} (hd : decode B.bs pc = .ok (.i2c, 1))  (r : Go l Z a0 EL n0 kn B D Q h σ ce sl (pc + 1) Ls (.int (chr x) :: st))  : Go l Z a0 EL n0 kn B D Q h σ ce sl pc Ls (.int x :: st) :=
  Go.step (fun T hA hx hb t q => XT.i2c hA hx rfl (Jvm.hb hb hd) rfl q) r
theorem lcmp (pc : Nat) {x y : Int64} (hd : decode B.bs pc = .ok (.lcmp, 1))  (r : Go l Z a0 EL n0 kn B D Q h σ ce sl (pc + 1) Ls (.int (XT.cmpL x y) :: st))  : Go l Z a0 EL n0 kn B D Q h σ ce sl pc Ls (.long y :: .long x :: st) :=
  Go.step (fun T hA hx hb t q => XT.lcmp hA hx rfl (Jvm.hb hb hd) rfl q) r
theorem dup (pc : Nat) {v : Value} (hd : decode B.bs pc = .ok (.dup, 1))  (r : Go l Z a0 EL n0 kn B D Q h σ ce sl (pc + 1) Ls (v :: v :: st)) (hc : v.category = 1 := by rfl) : Go l Z a0 EL n0 kn B D Q h σ ce sl pc Ls (v :: st) :=
  Go.step (fun T hA hx hb t q => XS.dup hA hx rfl (Jvm.hb hb hd) rfl hc q) r
theorem dupX1 (pc : Nat) {v w : Value} (hd : decode B.bs pc = .ok (.dup_x1, 1))   (r : Go l Z a0 EL n0 kn B D Q h σ ce sl (pc + 1) Ls (v :: w :: v :: st)) (hc : v.category = 1 := by rfl) (hw : w.category = 1 := by rfl) : Go l Z a0 EL n0 kn B D Q h σ ce sl pc Ls (v :: w :: st) :=
  Go.step (fun T hA hx hb t q => XT.dupX1 hA hx rfl (Jvm.hb hb hd) rfl hc hw q) r
theorem pop (pc : Nat) {v : Value} (hd : decode B.bs pc = .ok (.pop, 1))  (r : Go l Z a0 EL n0 kn B D Q h σ ce sl (pc + 1) Ls st) (hc : v.category = 1 := by rfl) : Go l Z a0 EL n0 kn B D Q h σ ce sl pc Ls (v :: st) :=
  Go.step (fun T hA hx hb t q => XT.pop hA hx rfl (Jvm.hb hb hd) rfl hc q) r
theorem istore (pc : Nat) {k : Nat} {x : Int32} (l' : Array Slot) (hd : decode B.bs pc = .ok (.istore k, 2)) (hl : storeLocals Ls k (.int x) = some l') (r : Go l Z a0 EL n0 kn B D Q h σ ce sl (pc + 2) l' st)  : Go l Z a0 EL n0 kn B D Q h σ ce sl pc Ls (.int x :: st) :=
  Go.step (fun T hA hx hb t q => XS.istore hA hx rfl (Jvm.hb hb hd) rfl hl q) r
theorem istoreN (pc : Nat) {k : Fin 4} {x : Int32} (l' : Array Slot) (hd : decode B.bs pc = .ok (.istore_n k, 1)) (hl : storeLocals Ls k.val (.int x) = some l') (r : Go l Z a0 EL n0 kn B D Q h σ ce sl (pc + 1) l' st)  : Go l Z a0 EL n0 kn B D Q h σ ce sl pc Ls (.int x :: st) :=
  Go.step (fun T hA hx hb t q => XS.istoreN hA hx rfl (Jvm.hb hb hd) rfl hl q) r
theorem lstore (pc : Nat) {k : Nat} {x : Int64} (l' : Array Slot) (hd : decode B.bs pc = .ok (.lstore k, 2)) (hl : storeLocals Ls k (.long x) = some l') (r : Go l Z a0 EL n0 kn B D Q h σ ce sl (pc + 2) l' st)  : Go l Z a0 EL n0 kn B D Q h σ ce sl pc Ls (.long x :: st) :=
  Go.step (fun T hA hx hb t q => XT.lstore hA hx rfl (Jvm.hb hb hd) rfl hl q) r
theorem lstoreN (pc : Nat) {k : Fin 4} {x : Int64} (l' : Array Slot) (hd : decode B.bs pc = .ok (.lstore_n k, 1)) (hl : storeLocals Ls k.val (.long x) = some l') (r : Go l Z a0 EL n0 kn B D Q h σ ce sl (pc + 1) l' st)  : Go l Z a0 EL n0 kn B D Q h σ ce sl pc Ls (.long x :: st) :=
  Go.step (fun T hA hx hb t q => XT.lstoreN hA hx rfl (Jvm.hb hb hd) rfl hl q) r
theorem astore (pc : Nat) {k : Nat} {v : Value} (l' : Array Slot) (hd : decode B.bs pc = .ok (.astore k, 2)) (hl : storeLocals Ls k v = some l')  (r : Go l Z a0 EL n0 kn B D Q h σ ce sl (pc + 2) l' st) (hv : v.isRef = true := by rfl) : Go l Z a0 EL n0 kn B D Q h σ ce sl pc Ls (v :: st) :=
  Go.step (fun T hA hx hb t q => XS.astore hA hx rfl (Jvm.hb hb hd) rfl hv hl q) r
theorem astoreN (pc : Nat) {k : Fin 4} {v : Value} (l' : Array Slot) (hd : decode B.bs pc = .ok (.astore_n k, 1)) (hl : storeLocals Ls k.val v = some l')  (r : Go l Z a0 EL n0 kn B D Q h σ ce sl (pc + 1) l' st) (hv : v.isRef = true := by rfl) : Go l Z a0 EL n0 kn B D Q h σ ce sl pc Ls (v :: st) :=
  Go.step (fun T hA hx hb t q => XS.astoreN hA hx rfl (Jvm.hb hb hd) rfl hv hl q) r
theorem iinc (pc : Nat) {k : Nat} {c : Int} {x : Int32} (v : Int32) (l' : Array Slot) (hd : decode B.bs pc = .ok (.iinc k c, 3)) (hv : Int32.ofInt c = v) (hl : Ls[k]? = some (.val (.int x))) (hl' : storeLocals Ls k (.int (x + v)) = some l') (r : Go l Z a0 EL n0 kn B D Q h σ ce sl (pc + 3) l' st)  : Go l Z a0 EL n0 kn B D Q h σ ce sl pc Ls st :=
  Go.step (fun T hA hx hb t q => XT.iincV hA hx rfl v (Jvm.hb hb hd) hv hl hl' q) r
theorem goto (pc : Nat) (tgt : Nat) {o : Int} (hd : decode B.bs pc = .ok (.goto o, 3)) (ht : (pc : Int) + o = (tgt : Int)) (r : Go l Z a0 EL n0 kn B D Q h σ ce sl tgt Ls st) : Go l Z a0 EL n0 kn B D Q h σ ce sl pc Ls st :=
  Go.step (fun T hA hx hb t q => XS.goto hA hx rfl (pc0 := pc) (pc' := tgt) rfl (Jvm.hb hb hd) (by rw [ht]; exact Int.natCast_nonneg _) (by rw [ht]; rfl) q) r
theorem icmp_eq (pc : Nat) (tgt : Nat) {o : Int} {x y : Int32} (hd : decode B.bs pc = .ok (.if_icmp .eq o, 3)) (ht : (pc : Int) + o = (tgt : Int)) (yes : x = y → Go l Z a0 EL n0 kn B D Q h σ ce sl tgt Ls st) (no : ¬ (x = y) → Go l Z a0 EL n0 kn B D Q h σ ce sl (pc + 3) Ls st) : Go l Z a0 EL n0 kn B D Q h σ ce sl pc Ls (.int y :: .int x :: st) := by
  by_cases c : x = y
  · exact Go.step (fun T hA hx hb t q => XS.icmpYes hA hx rfl (pc0 := pc) (pc' := tgt) rfl (Jvm.hb hb hd) rfl (XT.ii_eq_t c) (by rw [ht]; exact Int.natCast_nonneg _) (by rw [ht]; rfl) q) (yes c)
  · exact Go.step (fun T hA hx hb t q => XS.icmpNo hA hx rfl (Jvm.hb hb hd) rfl (XT.ii_eq_f c) q) (no c)
theorem icmp_ne (pc : Nat) (tgt : Nat) {o : Int} {x y : Int32} (hd : decode B.bs pc = .ok (.if_icmp .ne o, 3)) (ht : (pc : Int) + o = (tgt : Int)) (yes : ¬ (x = y) → Go l Z a0 EL n0 kn B D Q h σ ce sl tgt Ls st) (no : x = y → Go l Z a0 EL n0 kn B D Q h σ ce sl (pc + 3) Ls st) : Go l Z a0 EL n0 kn B D Q h σ ce sl pc Ls (.int y :: .int x :: st) := by
  by_cases c : x = y
  · exact Go.step (fun T hA hx hb t q => XS.icmpNo hA hx rfl (Jvm.hb hb hd) rfl (XT.ii_ne_f c) q) (no c)
  · exact Go.step (fun T hA hx hb t q => XS.icmpYes hA hx rfl (pc0 := pc) (pc' := tgt) rfl (Jvm.hb hb hd) rfl (XT.ii_ne_t c) (by rw [ht]; exact Int.natCast_nonneg _) (by rw [ht]; rfl) q) (yes c)
theorem icmp_lt (pc : Nat) (tgt : Nat) {o : Int} {x y : Int32} (hd : decode B.bs pc = .ok (.if_icmp .lt o, 3)) (ht : (pc : Int) + o = (tgt : Int)) (yes : x < y → Go l Z a0 EL n0 kn B D Q h σ ce sl tgt Ls st) (no : ¬ (x < y) → Go l Z a0 EL n0 kn B D Q h σ ce sl (pc + 3) Ls st) : Go l Z a0 EL n0 kn B D Q h σ ce sl pc Ls (.int y :: .int x :: st) := by
  by_cases c : x < y
  · exact Go.step (fun T hA hx hb t q => XS.icmpYes hA hx rfl (pc0 := pc) (pc' := tgt) rfl (Jvm.hb hb hd) rfl (XT.ii_lt_t c) (by rw [ht]; exact Int.natCast_nonneg _) (by rw [ht]; rfl) q) (yes c)
  · exact Go.step (fun T hA hx hb t q => XS.icmpNo hA hx rfl (Jvm.hb hb hd) rfl (XT.ii_lt_f c) q) (no c)
theorem icmp_ge (pc : Nat) (tgt : Nat) {o : Int} {x y : Int32} (hd : decode B.bs pc = .ok (.if_icmp .ge o, 3)) (ht : (pc : Int) + o = (tgt : Int)) (yes : ¬ (x < y) → Go l Z a0 EL n0 kn B D Q h σ ce sl tgt Ls st) (no : x < y → Go l Z a0 EL n0 kn B D Q h σ ce sl (pc + 3) Ls st) : Go l Z a0 EL n0 kn B D Q h σ ce sl pc Ls (.int y :: .int x :: st) := by
  by_cases c : x < y
  · exact Go.step (fun T hA hx hb t q => XS.icmpNo hA hx rfl (Jvm.hb hb hd) rfl (XT.ii_ge_f c) q) (no c)
  · exact Go.step (fun T hA hx hb t q => XS.icmpYes hA hx rfl (pc0 := pc) (pc' := tgt) rfl (Jvm.hb hb hd) rfl (XT.ii_ge_t c) (by rw [ht]; exact Int.natCast_nonneg _) (by rw [ht]; rfl) q) (yes c)
theorem icmp_gt (pc : Nat) (tgt : Nat) {o : Int} {x y : Int32} (hd : decode B.bs pc = .ok (.if_icmp .gt o, 3)) (ht : (pc : Int) + o = (tgt : Int)) (yes : y < x → Go l Z a0 EL n0 kn B D Q h σ ce sl tgt Ls st) (no : ¬ (y < x) → Go l Z a0 EL n0 kn B D Q h σ ce sl (pc + 3) Ls st) : Go l Z a0 EL n0 kn B D Q h σ ce sl pc Ls (.int y :: .int x :: st) := by
  by_cases c : y < x
  · exact Go.step (fun T hA hx hb t q => XS.icmpYes hA hx rfl (pc0 := pc) (pc' := tgt) rfl (Jvm.hb hb hd) rfl (XT.ii_gt_t c) (by rw [ht]; exact Int.natCast_nonneg _) (by rw [ht]; rfl) q) (yes c)
  · exact Go.step (fun T hA hx hb t q => XS.icmpNo hA hx rfl (Jvm.hb hb hd) rfl (XT.ii_gt_f c) q) (no c)
theorem icmp_le (pc : Nat) (tgt : Nat) {o : Int} {x y : Int32} (hd : decode B.bs pc = .ok (.if_icmp .le o, 3)) (ht : (pc : Int) + o = (tgt : Int)) (yes : ¬ (y < x) → Go l Z a0 EL n0 kn B D Q h σ ce sl tgt Ls st) (no : y < x → Go l Z a0 EL n0 kn B D Q h σ ce sl (pc + 3) Ls st) : Go l Z a0 EL n0 kn B D Q h σ ce sl pc Ls (.int y :: .int x :: st) := by
  by_cases c : y < x
  · exact Go.step (fun T hA hx hb t q => XS.icmpNo hA hx rfl (Jvm.hb hb hd) rfl (XT.ii_le_f c) q) (no c)
  · exact Go.step (fun T hA hx hb t q => XS.icmpYes hA hx rfl (pc0 := pc) (pc' := tgt) rfl (Jvm.hb hb hd) rfl (XT.ii_le_t c) (by rw [ht]; exact Int.natCast_nonneg _) (by rw [ht]; rfl) q) (yes c)
theorem if_eq (pc : Nat) (tgt : Nat) {o : Int} {x : Int32} (hd : decode B.bs pc = .ok (.ifCond .eq o, 3)) (ht : (pc : Int) + o = (tgt : Int)) (yes : x = 0 → Go l Z a0 EL n0 kn B D Q h σ ce sl tgt Ls st) (no : ¬ (x = 0) → Go l Z a0 EL n0 kn B D Q h σ ce sl (pc + 3) Ls st) : Go l Z a0 EL n0 kn B D Q h σ ce sl pc Ls (.int x :: st) := by
  by_cases c : x = 0
  · exact Go.step (fun T hA hx hb t q => XS.ifYes hA hx rfl (pc0 := pc) (pc' := tgt) rfl (Jvm.hb hb hd) rfl (XT.i0_eq_t c) (by rw [ht]; exact Int.natCast_nonneg _) (by rw [ht]; rfl) q) (yes c)
  · exact Go.step (fun T hA hx hb t q => XS.ifNo hA hx rfl (Jvm.hb hb hd) rfl (XT.i0_eq_f c) q) (no c)
theorem if_ne (pc : Nat) (tgt : Nat) {o : Int} {x : Int32} (hd : decode B.bs pc = .ok (.ifCond .ne o, 3)) (ht : (pc : Int) + o = (tgt : Int)) (yes : ¬ (x = 0) → Go l Z a0 EL n0 kn B D Q h σ ce sl tgt Ls st) (no : x = 0 → Go l Z a0 EL n0 kn B D Q h σ ce sl (pc + 3) Ls st) : Go l Z a0 EL n0 kn B D Q h σ ce sl pc Ls (.int x :: st) := by
  by_cases c : x = 0
  · exact Go.step (fun T hA hx hb t q => XS.ifNo hA hx rfl (Jvm.hb hb hd) rfl (XT.i0_ne_f c) q) (no c)
  · exact Go.step (fun T hA hx hb t q => XS.ifYes hA hx rfl (pc0 := pc) (pc' := tgt) rfl (Jvm.hb hb hd) rfl (XT.i0_ne_t c) (by rw [ht]; exact Int.natCast_nonneg _) (by rw [ht]; rfl) q) (yes c)
theorem if_lt (pc : Nat) (tgt : Nat) {o : Int} {x : Int32} (hd : decode B.bs pc = .ok (.ifCond .lt o, 3)) (ht : (pc : Int) + o = (tgt : Int)) (yes : x < 0 → Go l Z a0 EL n0 kn B D Q h σ ce sl tgt Ls st) (no : ¬ (x < 0) → Go l Z a0 EL n0 kn B D Q h σ ce sl (pc + 3) Ls st) : Go l Z a0 EL n0 kn B D Q h σ ce sl pc Ls (.int x :: st) := by
  by_cases c : x < 0
  · exact Go.step (fun T hA hx hb t q => XS.ifYes hA hx rfl (pc0 := pc) (pc' := tgt) rfl (Jvm.hb hb hd) rfl (XT.i0_lt_t c) (by rw [ht]; exact Int.natCast_nonneg _) (by rw [ht]; rfl) q) (yes c)
  · exact Go.step (fun T hA hx hb t q => XS.ifNo hA hx rfl (Jvm.hb hb hd) rfl (XT.i0_lt_f c) q) (no c)
theorem if_ge (pc : Nat) (tgt : Nat) {o : Int} {x : Int32} (hd : decode B.bs pc = .ok (.ifCond .ge o, 3)) (ht : (pc : Int) + o = (tgt : Int)) (yes : ¬ (x < 0) → Go l Z a0 EL n0 kn B D Q h σ ce sl tgt Ls st) (no : x < 0 → Go l Z a0 EL n0 kn B D Q h σ ce sl (pc + 3) Ls st) : Go l Z a0 EL n0 kn B D Q h σ ce sl pc Ls (.int x :: st) := by
  by_cases c : x < 0
  · exact Go.step (fun T hA hx hb t q => XS.ifNo hA hx rfl (Jvm.hb hb hd) rfl (XT.i0_ge_f c) q) (no c)
  · exact Go.step (fun T hA hx hb t q => XS.ifYes hA hx rfl (pc0 := pc) (pc' := tgt) rfl (Jvm.hb hb hd) rfl (XT.i0_ge_t c) (by rw [ht]; exact Int.natCast_nonneg _) (by rw [ht]; rfl) q) (yes c)
theorem if_gt (pc : Nat) (tgt : Nat) {o : Int} {x : Int32} (hd : decode B.bs pc = .ok (.ifCond .gt o, 3)) (ht : (pc : Int) + o = (tgt : Int)) (yes : 0 < x → Go l Z a0 EL n0 kn B D Q h σ ce sl tgt Ls st) (no : ¬ (0 < x) → Go l Z a0 EL n0 kn B D Q h σ ce sl (pc + 3) Ls st) : Go l Z a0 EL n0 kn B D Q h σ ce sl pc Ls (.int x :: st) := by
  by_cases c : 0 < x
  · exact Go.step (fun T hA hx hb t q => XS.ifYes hA hx rfl (pc0 := pc) (pc' := tgt) rfl (Jvm.hb hb hd) rfl (XT.i0_gt_t c) (by rw [ht]; exact Int.natCast_nonneg _) (by rw [ht]; rfl) q) (yes c)
  · exact Go.step (fun T hA hx hb t q => XS.ifNo hA hx rfl (Jvm.hb hb hd) rfl (XT.i0_gt_f c) q) (no c)
theorem if_le (pc : Nat) (tgt : Nat) {o : Int} {x : Int32} (hd : decode B.bs pc = .ok (.ifCond .le o, 3)) (ht : (pc : Int) + o = (tgt : Int)) (yes : ¬ (0 < x) → Go l Z a0 EL n0 kn B D Q h σ ce sl tgt Ls st) (no : 0 < x → Go l Z a0 EL n0 kn B D Q h σ ce sl (pc + 3) Ls st) : Go l Z a0 EL n0 kn B D Q h σ ce sl pc Ls (.int x :: st) := by
  by_cases c : 0 < x
  · exact Go.step (fun T hA hx hb t q => XS.ifNo hA hx rfl (Jvm.hb hb hd) rfl (XT.i0_le_f c) q) (no c)
  · exact Go.step (fun T hA hx hb t q => XS.ifYes hA hx rfl (pc0 := pc) (pc' := tgt) rfl (Jvm.hb hb hd) rfl (XT.i0_le_t c) (by rw [ht]; exact Int.natCast_nonneg _) (by rw [ht]; rfl) q) (yes c)
theorem ifl_eq (pc : Nat) (tgt : Nat) {o : Int} {x y : Int64} (hd : decode B.bs pc = .ok (.ifCond .eq o, 3)) (ht : (pc : Int) + o = (tgt : Int)) (yes : x = y → Go l Z a0 EL n0 kn B D Q h σ ce sl tgt Ls st) (no : ¬ (x = y) → Go l Z a0 EL n0 kn B D Q h σ ce sl (pc + 3) Ls st) : Go l Z a0 EL n0 kn B D Q h σ ce sl pc Ls (.int (XT.cmpL x y) :: st) := by
  by_cases c : x = y
  · exact Go.step (fun T hA hx hb t q => XS.ifYes hA hx rfl (pc0 := pc) (pc' := tgt) rfl (Jvm.hb hb hd) rfl (XT.ll_eq_t c) (by rw [ht]; exact Int.natCast_nonneg _) (by rw [ht]; rfl) q) (yes c)
  · exact Go.step (fun T hA hx hb t q => XS.ifNo hA hx rfl (Jvm.hb hb hd) rfl (XT.ll_eq_f c) q) (no c)
theorem ifl_ne (pc : Nat) (tgt : Nat) {o : Int} {x y : Int64} (hd : decode B.bs pc = .ok (.ifCond .ne o, 3)) (ht : (pc : Int) + o = (tgt : Int)) (yes : ¬ (x = y) → Go l Z a0 EL n0 kn B D Q h σ ce sl tgt Ls st) (no : x = y → Go l Z a0 EL n0 kn B D Q h σ ce sl (pc + 3) Ls st) : Go l Z a0 EL n0 kn B D Q h σ ce sl pc Ls (.int (XT.cmpL x y) :: st) := by
  by_cases c : x = y
  · exact Go.step (fun T hA hx hb t q => XS.ifNo hA hx rfl (Jvm.hb hb hd) rfl (XT.ll_ne_f c) q) (no c)
  · exact Go.step (fun T hA hx hb t q => XS.ifYes hA hx rfl (pc0 := pc) (pc' := tgt) rfl (Jvm.hb hb hd) rfl (XT.ll_ne_t c) (by rw [ht]; exact Int.natCast_nonneg _) (by rw [ht]; rfl) q) (yes c)
theorem ifl_lt (pc : Nat) (tgt : Nat) {o : Int} {x y : Int64} (hd : decode B.bs pc = .ok (.ifCond .lt o, 3)) (ht : (pc : Int) + o = (tgt : Int)) (yes : x < y → Go l Z a0 EL n0 kn B D Q h σ ce sl tgt Ls st) (no : ¬ (x < y) → Go l Z a0 EL n0 kn B D Q h σ ce sl (pc + 3) Ls st) : Go l Z a0 EL n0 kn B D Q h σ ce sl pc Ls (.int (XT.cmpL x y) :: st) := by
  by_cases c : x < y
  · exact Go.step (fun T hA hx hb t q => XS.ifYes hA hx rfl (pc0 := pc) (pc' := tgt) rfl (Jvm.hb hb hd) rfl (XT.ll_lt_t c) (by rw [ht]; exact Int.natCast_nonneg _) (by rw [ht]; rfl) q) (yes c)
  · exact Go.step (fun T hA hx hb t q => XS.ifNo hA hx rfl (Jvm.hb hb hd) rfl (XT.ll_lt_f c) q) (no c)
theorem ifl_ge (pc : Nat) (tgt : Nat) {o : Int} {x y : Int64} (hd : decode B.bs pc = .ok (.ifCond .ge o, 3)) (ht : (pc : Int) + o = (tgt : Int)) (yes : ¬ (x < y) → Go l Z a0 EL n0 kn B D Q h σ ce sl tgt Ls st) (no : x < y → Go l Z a0 EL n0 kn B D Q h σ ce sl (pc + 3) Ls st) : Go l Z a0 EL n0 kn B D Q h σ ce sl pc Ls (.int (XT.cmpL x y) :: st) := by
  by_cases c : x < y
  · exact Go.step (fun T hA hx hb t q => XS.ifNo hA hx rfl (Jvm.hb hb hd) rfl (XT.ll_ge_f c) q) (no c)
  · exact Go.step (fun T hA hx hb t q => XS.ifYes hA hx rfl (pc0 := pc) (pc' := tgt) rfl (Jvm.hb hb hd) rfl (XT.ll_ge_t c) (by rw [ht]; exact Int.natCast_nonneg _) (by rw [ht]; rfl) q) (yes c)
theorem ifl_gt (pc : Nat) (tgt : Nat) {o : Int} {x y : Int64} (hd : decode B.bs pc = .ok (.ifCond .gt o, 3)) (ht : (pc : Int) + o = (tgt : Int)) (yes : y < x → Go l Z a0 EL n0 kn B D Q h σ ce sl tgt Ls st) (no : ¬ (y < x) → Go l Z a0 EL n0 kn B D Q h σ ce sl (pc + 3) Ls st) : Go l Z a0 EL n0 kn B D Q h σ ce sl pc Ls (.int (XT.cmpL x y) :: st) := by
  by_cases c : y < x
  · exact Go.step (fun T hA hx hb t q => XS.ifYes hA hx rfl (pc0 := pc) (pc' := tgt) rfl (Jvm.hb hb hd) rfl (XT.ll_gt_t c) (by rw [ht]; exact Int.natCast_nonneg _) (by rw [ht]; rfl) q) (yes c)
  · exact Go.step (fun T hA hx hb t q => XS.ifNo hA hx rfl (Jvm.hb hb hd) rfl (XT.ll_gt_f c) q) (no c)
theorem ifl_le (pc : Nat) (tgt : Nat) {o : Int} {x y : Int64} (hd : decode B.bs pc = .ok (.ifCond .le o, 3)) (ht : (pc : Int) + o = (tgt : Int)) (yes : ¬ (y < x) → Go l Z a0 EL n0 kn B D Q h σ ce sl tgt Ls st) (no : y < x → Go l Z a0 EL n0 kn B D Q h σ ce sl (pc + 3) Ls st) : Go l Z a0 EL n0 kn B D Q h σ ce sl pc Ls (.int (XT.cmpL x y) :: st) := by
  by_cases c : y < x
  · exact Go.step (fun T hA hx hb t q => XS.ifNo hA hx rfl (Jvm.hb hb hd) rfl (XT.ll_le_f c) q) (no c)
  · exact Go.step (fun T hA hx hb t q => XS.ifYes hA hx rfl (pc0 := pc) (pc' := tgt) rfl (Jvm.hb hb hd) rfl (XT.ll_le_t c) (by rw [ht]; exact Int.natCast_nonneg _) (by rw [ht]; rfl) q) (yes c)
theorem ifnull (pc : Nat) (tgt : Nat) {o : Int} {v : Value} (hr : v.isRef = true) (hd : decode B.bs pc = .ok (.ifnull o, 3)) (ht : (pc : Int) + o = (tgt : Int)) (yes : v = .null → Go l Z a0 EL n0 kn B D Q h σ ce sl tgt Ls st) (no : ¬ (v = .null) → Go l Z a0 EL n0 kn B D Q h σ ce sl (pc + 3) Ls st) : Go l Z a0 EL n0 kn B D Q h σ ce sl pc Ls (v :: st) := by
  by_cases c : v = .null
  · exact Go.step (fun T hA hx hb t q => XT.nullYes hA hx rfl (pc0 := pc) (pc' := tgt) rfl (Jvm.hb hb hd) rfl c (by rw [ht]; exact Int.natCast_nonneg _) (by rw [ht]; rfl) q) (yes c)
  · exact Go.step (fun T hA hx hb t q => XT.nullNo hA hx rfl (Jvm.hb hb hd) rfl hr c q) (no c)
theorem ifnonnull (pc : Nat) (tgt : Nat) {o : Int} {v : Value} (hr : v.isRef = true) (hd : decode B.bs pc = .ok (.ifnonnull o, 3)) (ht : (pc : Int) + o = (tgt : Int)) (yes : ¬ (v = .null) → Go l Z a0 EL n0 kn B D Q h σ ce sl tgt Ls st) (no : v = .null → Go l Z a0 EL n0 kn B D Q h σ ce sl (pc + 3) Ls st) : Go l Z a0 EL n0 kn B D Q h σ ce sl pc Ls (v :: st) := by
  by_cases c : v = .null
  · exact Go.step (fun T hA hx hb t q => XT.nonnullNo hA hx rfl (Jvm.hb hb hd) rfl c q) (no c)
  · exact Go.step (fun T hA hx hb t q => XT.nonnullYes hA hx rfl (pc0 := pc) (pc' := tgt) rfl (Jvm.hb hb hd) rfl hr c (by rw [ht]; exact Int.natCast_nonneg _) (by rw [ht]; rfl) q) (yes c)
theorem acmp_eq (pc : Nat) (tgt : Nat) {o : Int} {v w : Value} (hv : v.isRef = true) (hw : w.isRef = true) (hd : decode B.bs pc = .ok (.if_acmp .eq o, 3)) (ht : (pc : Int) + o = (tgt : Int)) (yes : v = w → Go l Z a0 EL n0 kn B D Q h σ ce sl tgt Ls st) (no : ¬ (v = w) → Go l Z a0 EL n0 kn B D Q h σ ce sl (pc + 3) Ls st) : Go l Z a0 EL n0 kn B D Q h σ ce sl pc Ls (w :: v :: st) := by
  by_cases c : v = w
  · exact Go.step (fun T hA hx hb t q => XT.acmpYes hA hx rfl (pc0 := pc) (pc' := tgt) rfl (Jvm.hb hb hd) rfl hv hw (XT.aa_eq_t c) (by rw [ht]; exact Int.natCast_nonneg _) (by rw [ht]; rfl) q) (yes c)
  · exact Go.step (fun T hA hx hb t q => XT.acmpNo hA hx rfl (Jvm.hb hb hd) rfl hv hw (XT.aa_eq_f c) q) (no c)
theorem acmp_ne (pc : Nat) (tgt : Nat) {o : Int} {v w : Value} (hv : v.isRef = true) (hw : w.isRef = true) (hd : decode B.bs pc = .ok (.if_acmp .ne o, 3)) (ht : (pc : Int) + o = (tgt : Int)) (yes : ¬ (v = w) → Go l Z a0 EL n0 kn B D Q h σ ce sl tgt Ls st) (no : v = w → Go l Z a0 EL n0 kn B D Q h σ ce sl (pc + 3) Ls st) : Go l Z a0 EL n0 kn B D Q h σ ce sl pc Ls (w :: v :: st) := by
  by_cases c : v = w
  · exact Go.step (fun T hA hx hb t q => XT.acmpNo hA hx rfl (Jvm.hb hb hd) rfl hv hw (XT.aa_ne_f c) q) (no c)
  · exact Go.step (fun T hA hx hb t q => XT.acmpYes hA hx rfl (pc0 := pc) (pc' := tgt) rfl (Jvm.hb hb hd) rfl hv hw (XT.aa_ne_t c) (by rw [ht]; exact Int.natCast_nonneg _) (by rw [ht]; rfl) q) (yes c)
end Plain
end Jvm.Road
namespace Jvm.Road
open Jvm Jvm.ClassFile Sem Op Lib Jvm.Free Jvm.Stand Jvm.LawKit Jvm.RoadKit Bundle
section Facts
variable {Z : State} {h h' : Heap} {a b : Addr} {ty : FieldType} {vs : List Value} {ws : List Addr}
/-- the array at a holds just these values -/
def Ary (Z : State) (h : Heap) (a : Addr) (ty : FieldType) (vs : List Value) : Prop := ∃ c : Cell, Arr Z h a c ty ∧ c.slots.toList = vs ∧ vs.length < 2147483648 ∧ ∀ v ∈ vs, fits ty v = true
theorem Ary.keep (F : Ary Z h a ty vs) (K : Keep h h' ws) (q : a ∉ ws) : Ary Z h' a ty vs := by
  obtain ⟨c, A, r⟩ := F; exact ⟨c, ⟨K.2.1 a c A.1 q, A.2⟩, r⟩
theorem Ary.lt (F : Ary Z h a ty vs) : a < h.size := by obtain ⟨c, A, -⟩ := F; exact A.lt
theorem Ary.small (F : Ary Z h a ty vs) : vs.length < 2147483648 := by obtain ⟨c, A, -, q, -⟩ := F; exact q
theorem Ary.fit (F : Ary Z h a ty vs) : ∀ v ∈ vs, fits ty v = true := by obtain ⟨c, A, -, -, q⟩ := F; exact q
theorem Ary.wr {i : Nat} {v : Value} (F : Ary Z h a ty vs) (W : Wr h h' a i v) (hv : fits ty v = true) : Ary Z h' a ty (vs.set i v) := by
  obtain ⟨c, A, e, q, f⟩ := F
  refine ⟨_, Arr.same W A, ?_, by rw [List.length_set]; exact q, fun u hu => ?_⟩
  · show (c.slots.setIfInBounds i v).toList = _
    rw [Array.toList_setIfInBounds, e]
  · rcases List.mem_or_eq_of_mem_set hu with r | r
    · exact f u r
    · exact r ▸ hv
theorem ix_of {j : Int32} {i : Nat} (hj : j.toInt = (i : Int)) : ¬ j < 0 ∧ j.toNatClampNeg = i := by
  refine ⟨?_, ?_⟩
  · simp only [Int32.lt_iff_toInt_lt, hj, Int32.reduceToInt]; omega
  · simp only [Int32.toNatClampNeg, hj]; omega
theorem Ary.inb {c : Cell} {j : Int32} {i : Nat} (e : c.slots.toList = vs) (hj : j.toInt = (i : Int)) (hi : i < vs.length) : ¬ (j < 0 ∨ c.slots.size ≤ j.toNatClampNeg) := by
  obtain ⟨q1, q2⟩ := ix_of hj
  rw [q2, ← Array.length_toList, e]
  intro q; rcases q with q | q
  · exact q1 q
  · omega
theorem Ary.of_arv {k : ClassId} {z : Int32} {d : Value} (F : Arv Z h a k ty z vs d) (hz : z.toNatClampNeg = vs.length) : Ary Z h a ty vs := by
  obtain ⟨c, A, -, S, hn, H, G⟩ := F
  have hsz : c.slots.size = vs.length := S.trans hz
  have e : c.slots.toList = vs := by
    apply List.ext_getElem?
    intro i
    by_cases hi : i < vs.length
    · have := H i (by rw [hsz]; exact hi)
      rw [Array.getElem?_toList, this, List.getD_eq_getElem?_getD, List.getElem?_eq_getElem hi]; rfl
    · rw [List.getElem?_eq_none (Nat.le_of_not_lt hi), List.getElem?_eq_none (by rw [Array.length_toList, hsz]; exact Nat.le_of_not_lt hi)]
  refine ⟨c, A, e, by have := Int32.toInt_lt z; simp only [Int32.toNatClampNeg] at hz; omega, fun v hv => ?_⟩
  obtain ⟨i, hi, rfl⟩ := List.getElem_of_mem hv
  have := G i (by rw [hsz]; exact hi)
  rwa [List.getD_eq_getElem?_getD, List.getElem?_eq_getElem hi] at this
def byt (c : Int32) : Value := .int c.toInt8.toInt32
abbrev SN : String := "java/lang/String"
/-- the object at a is a compact String of these chars, its bytes at b -/
def Str (Z : State) (h : Heap) (a b : Addr) (cs : List Int32) : Prop := Exa Z h a SN ∧ Fld Z h a SN "coder" "B" (.int 0) ∧ Fld Z h a SN "value" "[B" (.ref b) ∧ Ary Z h b .byte (cs.map byt) ∧ ∀ c ∈ cs, 0 ≤ c.toInt ∧ c.toInt < 256
theorem Str.keep {cs : List Int32} (F : Str Z h a b cs) (K : Keep h h' ws) (q : a ∉ ws) (q' : b ∉ ws) : Str Z h' a b cs := ⟨F.1.keep K, F.2.1.keep K q, F.2.2.1.keep K q, F.2.2.2.1.keep K q', F.2.2.2.2⟩
theorem Str.lt {cs : List Int32} (F : Str Z h a b cs) : a < h.size := F.1.lt
theorem Str.ltb {cs : List Int32} (F : Str Z h a b cs) : b < h.size := F.2.2.2.1.lt
theorem keep_ext (E : Ext h h') : Keep h h' [] := (Keep.refl h []).ext E
end Facts
section Heap
variable {l : Launch} {Z : State} {a0 : Array Value} {EL : List (String × Nat)} {n0 : Nat} {kn : Bool} {B : Bdy} {D : Dyn} {Q : Post} {h : Heap} {σ : Addr → Prop} {ce sl : Nat} {Ls : Array Slot} {st : List Value} {a : Addr}
theorem getfield (pc : Nat) {ix : Nat} {R0 O n d : String} {v : Value} (hd : decode B.bs pc = .ok (.getfield ix, 3)) (w : (Jvm.Cond.fieldLink B.y.cls ix R0 n d).before a0 Z = true) (via : Via Z R0 O n d) (F : Fld Z h a O n d v)
    (r : Go l Z a0 EL n0 kn B D Q h σ ce sl (pc + 3) Ls (v :: st)) : Go l Z a0 EL n0 kn B D Q h σ ce sl pc Ls (.ref a :: st) := by
  intro ok ew T vm0 I
  obtain ⟨k0, locs, X, h1, h2, h3, h4, h5, h6, h7, h8, h9, h10⟩ := I
  obtain ⟨T', X', e', s'⟩ := getF X ok.1 (s := D.s.setVm vm0) h4 h5 (host := "") (Or.inl w) via h1 F (g := mkF D.m pc Ls (.ref a :: st)) rfl rfl (Jvm.hb ok.2.1 hd)
  obtain ⟨s2, o, q, rest⟩ := r ok ew T' vm0 ⟨k0, locs, X', e', h2, h3, h4, h5, h6, h7, h8, h9, h10⟩
  exact ⟨s2, o, s' _ q, rest⟩
theorem own_wr {vm0 : Vm} {h' : Heap} {i : Nat} {v : Value} (W : Wr h h' a i v) (hC : CHv Z EL vm0 h) (ha : Own Z EL n0 vm0 h a) {x : Addr} (hx : Own Z EL n0 vm0 h x) : Own Z EL n0 vm0 h' x :=
  ⟨Safe.wr W ha.1 hC hx.1, hx.2.1, by rw [W.size]; exact hx.2.2⟩
/-- behind a write of one place -/
theorem wrote {pc pc' : Nat} {Ls' : Array Slot} {st' : List Value} {i : Nat} {v : Value} (hσ : σ a)
    (s : ∀ T vm0 locs, Stand D.p l D.e B.rm (D.s.setVm vm0) D.m D.args D.bl D.meth D.c T locs ce sl → T.heap = h → Z.Warmed39 vm0 → vm0.findClass B.y.cls = some D.m.cls → Ok B D →
      ∃ T' h', Stand D.p l D.e B.rm (D.s.setVm vm0) D.m D.args D.bl D.meth D.c T' (locs ++ [⟨a, i⟩]) ce sl ∧ T'.heap = h' ∧ Wr h h' a i v ∧ ∀ target, Steps D.p.tables D.e D.bl (T'.setTop (mkF D.m pc' Ls' st')) target → Steps D.p.tables D.e D.bl (T.setTop (mkF D.m pc Ls st)) target)
    (r : ∀ h', Wr h h' a i v → Keep h h' [a] → Go l Z a0 EL n0 kn B D Q h' σ ce sl pc' Ls' st') : Go l Z a0 EL n0 kn B D Q h σ ce sl pc Ls st := by
  intro ok ew T vm0 I
  obtain ⟨k0, locs, X, h1, h2, h3, h4, h5, h6, h7, h8, h9, h10⟩ := I
  obtain ⟨T', h', X', e', W, s'⟩ := s T vm0 locs X h1 h4 h5 ok
  have ha := h9 a hσ
  obtain ⟨s2, o, q, rest⟩ := r h' W (Keep.of_wr W) ok ew T' vm0 ⟨k0, _, X', e', h2, by rw [W.size]; exact h3, h4, h5, h6.trans (CHr.wr W ha.1 h6.1), h7.app fun y hy => by cases List.mem_singleton.mp hy; exact ha.2.1, h8.wr W ha.2.1, fun x hx => own_wr W h6.1 ha (h9 x hx), h10⟩
  exact ⟨s2, o, s' _ q, rest⟩
theorem putfield (pc : Nat) {ix : Nat} {R0 O n d C : String} {kk : Nat} {ty : FieldType} {v old : Value} (hd : decode B.bs pc = .ok (.putfield ix, 3)) (w : (Jvm.Cond.fieldLink B.y.cls ix R0 n d).before a0 Z = true) (via : Via Z R0 O n d) (F : Fld Z h a O n d old) (E : Exa Z h a C)
    (L : (Jvm.Cond.lays C O n d).before a0 Z = true ∨ ((Jvm.Cond.laysFinal C O n d).before a0 Z = true ∧ B.y.cls = O ∧ B.y.name = "<init>")) (wi : (Jvm.Cond.instantiable C kk).before a0 Z = true) (hty : parseFieldDescriptor d = some ty) (hn : narrow ty v = v) (hf : fits ty v = true) (hσ : σ a)
    (r : ∀ h', Wr h h' a (RoadKit.slotOf Z O n d) v → Keep h h' [a] → Go l Z a0 EL n0 kn B D Q h' σ ce sl (pc + 3) Ls st) : Go l Z a0 EL n0 kn B D Q h σ ce sl pc Ls (v :: .ref a :: st) :=
  wrote hσ (fun T vm0 locs X h1 h4 h5 ok => putF X ok.1 (s := D.s.setVm vm0) h4 h5 (host := "") (Or.inl w) via h1 F E (L.imp id fun q => ⟨q.1, q.2.1, ok.2.2.2.2.2.trans q.2.2⟩) wi hty hn hf (g := mkF D.m pc Ls (v :: .ref a :: st)) rfl rfl (Jvm.hb ok.2.1 hd)) r
theorem getstatic (pc : Nat) {ix : Nat} {R0 O n d : String} {v : Value} (hd : decode B.bs pc = .ok (.getstatic ix, 3)) (w : (Jvm.Cond.fieldLink B.y.cls ix R0 n d).before a0 Z = true) (via : Via Z R0 O n d) (F : Sta Z Z.heap O n d v)
    (r : Go l Z a0 EL n0 kn B D Q h σ ce sl (pc + 3) Ls (v :: st)) : Go l Z a0 EL n0 kn B D Q h σ ce sl pc Ls st := by
  intro ok ew T vm0 I
  obtain ⟨k0, locs, X, h1, h2, h3, h4, h5, h6, h7, h8, h9, h10⟩ := I
  obtain ⟨T', X', e', s'⟩ := getS X ok.1 (s := D.s.setVm vm0) h4 h5 (host := "") w via h1 (F.ext h8.2) (g := mkF D.m pc Ls st) rfl (Jvm.hb ok.2.1 hd)
  obtain ⟨s2, o, q, rest⟩ := r ok ew T' vm0 ⟨k0, locs, X', e', h2, h3, h4, h5, h6, h7, h8, h9, h10⟩
  exact ⟨s2, o, s' _ q, rest⟩
theorem own_new {vm0 : Vm} {h' : Heap} (E : Ext h h') (hC : CHv Z EL vm0 h) (hO : Old Z n0 h) (hlt : h.size < h'.size) : Own Z EL n0 vm0 h' h.size :=
  ⟨(Safe.new (Nat.le_refl _)).ext E hC, hO.1 ▸ hO.2.1, hlt⟩
/-- behind the making of one cell -/
theorem made {pc pc' ce' sl' : Nat} {Ls' : Array Slot} {st' : List Value} {P : Heap → Prop}
    (s : ∀ T vm0 locs, Stand D.p l D.e B.rm (D.s.setVm vm0) D.m D.args D.bl D.meth D.c T locs ce sl → T.heap = h → Z.Warmed39 vm0 → vm0.findClass B.y.cls = some D.m.cls → Ok B D →
      ∃ T' h', Stand D.p l D.e B.rm (D.s.setVm vm0) D.m D.args D.bl D.meth D.c T' locs ce' sl' ∧ T'.heap = h' ∧ Ext h h' ∧ h.size < h'.size ∧ P h' ∧ ∀ target, Steps D.p.tables D.e D.bl (T'.setTop (mkF D.m pc' Ls' st')) target → Steps D.p.tables D.e D.bl (T.setTop (mkF D.m pc Ls st)) target)
    (r : ∀ h' σ', Keep h h' [] → h.size < h'.size → (∀ x, σ x → σ' x) → σ' h.size → P h' → Go l Z a0 EL n0 kn B D Q h' σ' ce' sl' pc' Ls' st') : Go l Z a0 EL n0 kn B D Q h σ ce sl pc Ls st := by
  intro ok ew T vm0 I
  obtain ⟨k0, locs, X, h1, h2, h3, h4, h5, h6, h7, h8, h9, h10⟩ := I
  obtain ⟨T', h', X', e', E, hlt, hP, s'⟩ := s T vm0 locs X h1 h4 h5 ok
  obtain ⟨s2, o, q, rest⟩ := r h' (Own Z EL n0 vm0 h') (keep_ext E) hlt (fun x hx => ⟨(h9 x hx).1.ext E h6.1, (h9 x hx).2.1, Nat.lt_of_lt_of_le (h9 x hx).2.2 E.1⟩) (own_new E h6.1 h8 hlt) hP ok ew T' vm0
    ⟨k0, locs, X', e', h2, Nat.le_trans h3 E.1, h4, h5, h6.trans (CHr.ext E h6.1), h7, h8.ext E, fun x hx => hx, h10⟩
  exact ⟨s2, o, s' _ q, rest⟩
theorem new (pc : Nat) {ix : Nat} (C : String) {n : Nat} (hd : decode B.bs pc = .ok (.new ix, 3)) (w : (Jvm.Cond.classLink B.y.cls ix C).before a0 Z = true) (wi : (Jvm.Cond.instantiable C n).before a0 Z = true) (wz : (Jvm.Cond.initialized C).before a0 Z = true) {ce' sl' : Nat} (hce : ce + 1 = ce') (hsl : sl + n = sl') (hc : ce' ≤ B.rm.cells) (hs : sl' ≤ B.rm.slots)
    (r : ∀ a h' σ', a = h.size → Keep h h' [] → a < h'.size → (∀ x, σ x → σ' x) → σ' a → Exa Z h' a C → (∀ {O nm d : String} {ty : FieldType}, Laid Z a0 C O nm d → parseFieldDescriptor d = some ty → Fld Z h' a O nm d (defaultValue ty)) → (∃ cell : Cell, h'[a]? = some cell ∧ cell.vm = .none ∧ cell.monitor = {}) →
      Go l Z a0 EL n0 kn B D Q h' σ' ce' sl' (pc + 3) Ls (.ref a :: st)) : Go l Z a0 EL n0 kn B D Q h σ ce sl pc Ls st := by
  subst hce hsl
  exact made (P := fun h' => Exa Z h' h.size C ∧ (∀ {O nm d : String} {ty : FieldType}, Laid Z a0 C O nm d → parseFieldDescriptor d = some ty → Fld Z h' h.size O nm d (defaultValue ty)) ∧ (∃ cell : Cell, h'[h.size]? = some cell ∧ cell.vm = .none ∧ cell.monitor = {}))
    (fun T vm0 locs X h1 h4 h5 ok => by
      obtain ⟨T', h', X', e', E, A, Dd, M, s'⟩ := newO X ok.1 (s := D.s.setVm vm0) h4 h5 w wi wz h1 (g := mkF D.m pc Ls st) rfl (Jvm.hb ok.2.1 hd) hc hs
      exact ⟨T', h', X', e', E, A.lt, ⟨A, Dd, M⟩, s'⟩)
    (fun h' σ' K hlt m1 m2 P => r h.size h' σ' rfl K hlt m1 m2 P.1 P.2.1 P.2.2)
theorem newarray (pc : Nat) {aty : ArrayType} (ty : FieldType) (n cap : Nat) {z : Int32} (hd : decode B.bs pc = .ok (.newarray aty, 2)) (hty : newarray.typeOf aty = ty) (w : (Jvm.Cond.arrayClass ty).before a0 Z = true) (hz : z.toInt = (n : Int)) (hcap : n ≤ cap) (hb : cap * 8 ≤ 536870912) {ce' sl' : Nat} (hce : ce + 1 = ce') (hsl : sl + cap = sl') (hc : ce' ≤ B.rm.cells) (hs : sl' ≤ B.rm.slots)
    (r : ∀ a h' σ', a = h.size → Keep h h' [] → a < h'.size → (∀ x, σ x → σ' x) → σ' a → Ary Z h' a ty (List.replicate n (defaultValue ty)) → Go l Z a0 EL n0 kn B D Q h' σ' ce' sl' (pc + 2) Ls (.ref a :: st)) : Go l Z a0 EL n0 kn B D Q h σ ce sl pc Ls (.int z :: st) := by
  subst hce hsl
  exact made (P := fun h' => Ary Z h' h.size ty (List.replicate n (defaultValue ty)))
    (fun T vm0 locs X h1 h4 h5 ok => by
      subst hty
      obtain ⟨q1, q2⟩ := ix_of hz
      obtain ⟨T', h', cA, X', e', E, A, s'⟩ := newP X ok.1 (s := D.s.setVm vm0) h4 w h1 (g := mkF D.m pc Ls (.int z :: st)) rfl (Jvm.hb ok.2.1 hd) rfl q1 (cap := cap) (by rw [q2]; exact hcap) hb hc hs
      refine ⟨T', h', X', e', E, A.lt, ⟨_, A, ?_, ?_, ?_⟩, s'⟩
      · show (Array.replicate z.toNatClampNeg (defaultValue (newarray.typeOf aty))).toList = _
        rw [q2, Array.toList_replicate]
      · rw [List.length_replicate]; omega
      · intro v hv
        rw [(List.mem_replicate.mp hv).2]
        cases aty <;> rfl)
    (fun h' σ' K hlt m1 m2 P => r h.size h' σ' rfl K hlt m1 m2 P)
theorem plainX {pc pc' : Nat} {Ls' : Array Slot} {st' : List Value}
    (k : ∀ T vm0 locs, Stand D.p l D.e B.rm (D.s.setVm vm0) D.m D.args D.bl D.meth D.c T locs ce sl → T.heap = h → Z.Warmed39 vm0 → vm0.findClass B.y.cls = some D.m.cls → Ok B D → ∀ t, Steps D.p.tables D.e D.bl (T.setTop (mkF D.m pc' Ls' st')) t → Steps D.p.tables D.e D.bl (T.setTop (mkF D.m pc Ls st)) t)
    (r : Go l Z a0 EL n0 kn B D Q h σ ce sl pc' Ls' st') : Go l Z a0 EL n0 kn B D Q h σ ce sl pc Ls st := by
  intro ok ew T vm0 I
  obtain ⟨s2, o, q, rest⟩ := r ok ew T vm0 I
  obtain ⟨k0, locs, X, h1, h2, h3, h4, h5, -⟩ := I
  exact ⟨s2, o, k T vm0 locs X h1 h4 h5 ok _ q, rest⟩
theorem alen (pc : Nat) {ty : FieldType} {vs : List Value} {n : Nat} (z : Int32) (hd : decode B.bs pc = .ok (.arraylength, 1)) (A : Ary Z h a ty vs) (hn : vs.length = n) (hz : n.toInt32 = z) (r : Go l Z a0 EL n0 kn B D Q h σ ce sl (pc + 1) Ls (.int z :: st)) : Go l Z a0 EL n0 kn B D Q h σ ce sl pc Ls (.ref a :: st) :=
  plainX (fun T vm0 locs X h1 h4 h5 ok t q => by
    obtain ⟨c, A, e, -⟩ := A
    refine X.arraylength ok.1 (by rw [h1]; exact A.1) (State.isArrayOf_alike (T := D.s.setVm vm0) h4.alike A.2.1) (g := mkF D.m pc Ls (.ref a :: st)) rfl rfl (Jvm.hb ok.2.1 hd) t ?_
    rw [← Array.length_toList, e, hn, hz]; exact q) r
theorem caload (pc : Nat) {vs : List Value} {j : Int32} (i : Nat) {v : Value} (hd : decode B.bs pc = .ok (.caload, 1)) (A : Ary Z h a .char vs) (hj : j.toInt = (i : Int)) (hv : vs[i]? = some v) (r : Go l Z a0 EL n0 kn B D Q h σ ce sl (pc + 1) Ls (v :: st)) : Go l Z a0 EL n0 kn B D Q h σ ce sl pc Ls (.int j :: .ref a :: st) :=
  plainX (fun T vm0 locs X h1 h4 h5 ok t q => by
    obtain ⟨c, A, e, -⟩ := A
    have hi : i < vs.length := (List.getElem?_eq_some_iff.mp hv).1
    exact X.caload ok.1 (by rw [h1]; exact A.1) (State.isArrayOf_alike (T := D.s.setVm vm0) h4.alike A.2.1) A.2.2 (Ary.inb e hj hi) (by rw [(ix_of hj).2, ← Array.getElem?_toList, e]; exact hv) (g := mkF D.m pc Ls (.int j :: .ref a :: st)) rfl rfl (Jvm.hb ok.2.1 hd) t q) r
theorem baload (pc : Nat) {vs : List Value} {j : Int32} (i : Nat) {v : Value} (hd : decode B.bs pc = .ok (.baload, 1)) (A : Ary Z h a .byte vs) (hj : j.toInt = (i : Int)) (hv : vs[i]? = some v) (r : Go l Z a0 EL n0 kn B D Q h σ ce sl (pc + 1) Ls (v :: st)) : Go l Z a0 EL n0 kn B D Q h σ ce sl pc Ls (.int j :: .ref a :: st) :=
  plainX (fun T vm0 locs X h1 h4 h5 ok t q => by
    obtain ⟨c, A, e, -⟩ := A
    have hi : i < vs.length := (List.getElem?_eq_some_iff.mp hv).1
    exact X.baloadBytes ok.1 (by rw [h1]; exact A.1) (State.isArrayOf_alike (T := D.s.setVm vm0) h4.alike A.2.1) A.2.2 (Ary.inb e hj hi) (by rw [(ix_of hj).2, ← Array.getElem?_toList, e]; exact hv) (g := mkF D.m pc Ls (.int j :: .ref a :: st)) rfl rfl (Jvm.hb ok.2.1 hd) t q) r
theorem laload (pc : Nat) {vs : List Value} {j : Int32} (i : Nat) {v : Value} (hd : decode B.bs pc = .ok (.laload, 1)) (A : Ary Z h a .long vs) (hj : j.toInt = (i : Int)) (hv : vs[i]? = some v) (r : Go l Z a0 EL n0 kn B D Q h σ ce sl (pc + 1) Ls (v :: st)) : Go l Z a0 EL n0 kn B D Q h σ ce sl pc Ls (.int j :: .ref a :: st) :=
  plainX (fun T vm0 locs X h1 h4 h5 ok t q => by
    obtain ⟨c, A, e, -⟩ := A
    have hi : i < vs.length := (List.getElem?_eq_some_iff.mp hv).1
    exact X.laload ok.1 (by rw [h1]; exact A.1) (State.isArrayOf_alike (T := D.s.setVm vm0) h4.alike A.2.1) A.2.2 (Ary.inb e hj hi) (by rw [(ix_of hj).2, ← Array.getElem?_toList, e]; exact hv) (g := mkF D.m pc Ls (.int j :: .ref a :: st)) rfl rfl (Jvm.hb ok.2.1 hd) t q) r
theorem castore (pc : Nat) {vs : List Value} {j x : Int32} (i : Nat) (w : Int32) (hd : decode B.bs pc = .ok (.castore, 1)) (A : Ary Z h a .char vs) (hj : j.toInt = (i : Int)) (hi : i < vs.length) (hw : nar .char x = w) (hσ : σ a)
    (r : ∀ h', Keep h h' [a] → Ary Z h' a .char (vs.set i (.int w)) → Go l Z a0 EL n0 kn B D Q h' σ ce sl (pc + 1) Ls st) : Go l Z a0 EL n0 kn B D Q h σ ce sl pc Ls (.int x :: .int j :: .ref a :: st) :=
  wrote hσ (i := i) (v := .int w) (fun T vm0 locs X h1 h4 h5 ok => by
    subst hw
    obtain ⟨c, Ar, e, -⟩ := A
    have := stC X ok.1 (s := D.s.setVm vm0) h4 h1 Ar (Ary.inb e hj hi) (g := mkF D.m pc Ls (.int x :: .int j :: .ref a :: st)) rfl rfl (Jvm.hb ok.2.1 hd)
    rw [(ix_of hj).2] at this; exact this)
    (fun h' W K => r h' K (A.wr W (hw ▸ fits_nar_char x)))
theorem bastore (pc : Nat) {vs : List Value} {j x : Int32} (i : Nat) (w : Int32) (hd : decode B.bs pc = .ok (.bastore, 1)) (A : Ary Z h a .byte vs) (hj : j.toInt = (i : Int)) (hi : i < vs.length) (hw : nar .byte x = w) (hσ : σ a)
    (r : ∀ h', Keep h h' [a] → Ary Z h' a .byte (vs.set i (.int w)) → Go l Z a0 EL n0 kn B D Q h' σ ce sl (pc + 1) Ls st) : Go l Z a0 EL n0 kn B D Q h σ ce sl pc Ls (.int x :: .int j :: .ref a :: st) :=
  wrote hσ (i := i) (v := .int w) (fun T vm0 locs X h1 h4 h5 ok => by
    subst hw
    obtain ⟨c, Ar, e, -⟩ := A
    have := stB X ok.1 (s := D.s.setVm vm0) h4 h1 Ar (Ary.inb e hj hi) (g := mkF D.m pc Ls (.int x :: .int j :: .ref a :: st)) rfl rfl (Jvm.hb ok.2.1 hd)
    rw [(ix_of hj).2] at this; exact this)
    (fun h' W K => r h' K (A.wr W (hw ▸ fits_nar_byte x)))
theorem lastore (pc : Nat) {vs : List Value} {j : Int32} {x : Int64} (i : Nat) (hd : decode B.bs pc = .ok (.lastore, 1)) (A : Ary Z h a .long vs) (hj : j.toInt = (i : Int)) (hi : i < vs.length) (hσ : σ a)
    (r : ∀ h', Keep h h' [a] → Ary Z h' a .long (vs.set i (.long x)) → Go l Z a0 EL n0 kn B D Q h' σ ce sl (pc + 1) Ls st) : Go l Z a0 EL n0 kn B D Q h σ ce sl pc Ls (.long x :: .int j :: .ref a :: st) :=
  wrote hσ (i := i) (v := .long x) (fun T vm0 locs X h1 h4 h5 ok => by
    obtain ⟨c, Ar, e, -⟩ := A
    have := stJ X ok.1 (s := D.s.setVm vm0) h4 h1 Ar (Ary.inb e hj hi) (g := mkF D.m pc Ls (.long x :: .int j :: .ref a :: st)) rfl rfl (Jvm.hb ok.2.1 hd)
    rw [(ix_of hj).2] at this; exact this)
    (fun h' W K => r h' K (A.wr W rfl))
theorem ldcI (pc : Nat) {ix : Nat} {v : Int32} (hd : decode B.bs pc = .ok (.ldc ix, 2)) (w : (Jvm.Cond.constant B.y.cls ix v).before a0 Z = true) (r : Go l Z a0 EL n0 kn B D Q h σ ce sl (pc + 2) Ls (.int v :: st)) : Go l Z a0 EL n0 kn B D Q h σ ce sl pc Ls st :=
  plainX (fun T vm0 locs X h1 h4 h5 ok t q => X.ldcI ok.1 (own := B.y.cls) h5 (mv (s := D.s.setVm vm0) h4 w) (g := mkF D.m pc Ls st) rfl (Jvm.hb ok.2.1 hd) q) r
theorem ldc2J (pc : Nat) {ix : Nat} {v : Int64} (hd : decode B.bs pc = .ok (.ldc2_w ix, 3)) (w : (Jvm.Cond.constantLong B.y.cls ix v).before a0 Z = true) (r : Go l Z a0 EL n0 kn B D Q h σ ce sl (pc + 3) Ls (.long v :: st)) : Go l Z a0 EL n0 kn B D Q h σ ce sl pc Ls st :=
  plainX (fun T vm0 locs X h1 h4 h5 ok t q => X.ldc2J ok.1 (own := B.y.cls) h5 (mv (s := D.s.setVm vm0) h4 w) (g := mkF D.m pc Ls st) rfl (Jvm.hb ok.2.1 hd) q) r
end Heap
end Jvm.Road
namespace Jvm.Road
open Jvm Jvm.ClassFile Sem Op Lib Jvm.Free Jvm.Stand Jvm.LawKit Jvm.RoadKit Bundle
section Cast
variable {l : Launch} {Z : State} {a0 : Array Value} {EL : List (String × Nat)} {n0 : Nat} {kn : Bool} {B : Bdy} {D : Dyn} {Q : Post} {h : Heap} {σ : Addr → Prop} {ce sl : Nat} {Ls : Array Slot} {st : List Value} {a : Addr}
theorem instYes (pc : Nat) {ix : Nat} {K : String} (hd : decode B.bs pc = .ok (.instanceof ix, 3)) (w : (Jvm.Cond.classLink B.y.cls ix K).before a0 Z = true) (F : Ins Z h a K true) (r : Go l Z a0 EL n0 kn B D Q h σ ce sl (pc + 3) Ls (.int 1 :: st)) : Go l Z a0 EL n0 kn B D Q h σ ce sl pc Ls (.ref a :: st) := by
  intro ok ew T vm0 I
  obtain ⟨k0, locs, X, h1, h2, h3, h4, h5, h6, h7, h8, h9, h10⟩ := I
  obtain ⟨T', X', e', s'⟩ := instY X ok.1 (s := D.s.setVm vm0) h4 h5 w h1 F (g := mkF D.m pc Ls (.ref a :: st)) rfl rfl (Jvm.hb ok.2.1 hd)
  obtain ⟨s2, o, q, rest⟩ := r ok ew T' vm0 ⟨k0, locs, X', e', h2, h3, h4, h5, h6, h7, h8, h9, h10⟩
  exact ⟨s2, o, s' _ q, rest⟩
theorem castYes (pc : Nat) {ix : Nat} {K : String} (hd : decode B.bs pc = .ok (.checkcast ix, 3)) (w : (Jvm.Cond.classLink B.y.cls ix K).before a0 Z = true) (F : Ins Z h a K true) (r : Go l Z a0 EL n0 kn B D Q h σ ce sl (pc + 3) Ls (.ref a :: st)) : Go l Z a0 EL n0 kn B D Q h σ ce sl pc Ls (.ref a :: st) := by
  intro ok ew T vm0 I
  obtain ⟨k0, locs, X, h1, h2, h3, h4, h5, h6, h7, h8, h9, h10⟩ := I
  obtain ⟨T', X', e', s'⟩ := castY X ok.1 (s := D.s.setVm vm0) h4 h5 w h1 F (g := mkF D.m pc Ls (.ref a :: st)) rfl rfl (Jvm.hb ok.2.1 hd)
  obtain ⟨s2, o, q, rest⟩ := r ok ew T' vm0 ⟨k0, locs, X', e', h2, h3, h4, h5, h6, h7, h8, h9, h10⟩
  exact ⟨s2, o, s' _ q, rest⟩
end Cast
theorem Fld.uniq {Z : State} {h : Heap} {a : Addr} {C n d : String} {v w : Value} (F : Fld Z h a C n d v) (G : Fld Z h a C n d w) : v = w := by
  obtain ⟨c1, _, _, _, f1, a1, a2, -, -, -, -, a7⟩ := F
  obtain ⟨c2, _, _, _, f2, b1, b2, -, -, -, -, b7⟩ := G
  cases a1.symm.trans b1
  have q := a2.symm.trans b2
  simp only [Option.some.injEq, Prod.mk.injEq] at q
  obtain ⟨-, -, -, rfl⟩ := q
  exact Option.some.inj (a7.symm.trans b7)
theorem Ary.uniq {Z : State} {h : Heap} {a : Addr} {ty ty' : FieldType} {vs ws : List Value} (F : Ary Z h a ty vs) (G : Ary Z h a ty' ws) : vs = ws := by
  obtain ⟨c1, A1, e1, -⟩ := F
  obtain ⟨c2, A2, e2, -⟩ := G
  cases A1.1.symm.trans A2.1
  exact e1.symm.trans e2
end Jvm.Road
namespace Jvm.Road
open Jvm Jvm.ClassFile Sem Op Lib Jvm.Free Jvm.Stand Jvm.LawKit Jvm.RoadKit Bundle
section Clone
variable {l : Launch} {Z : State} {a0 : Array Value} {EL : List (String × Nat)} {n0 : Nat} {kn : Bool} {B : Bdy} {D : Dyn} {Q : Post} {h : Heap} {σ : Addr → Prop} {ce sl : Nat} {Ls : Array Slot} {st : List Value} {a : Addr}
theorem cloneArr (pc : Nat) {ix : Nat} {ad : String} {ty : FieldType} {vs : List Value} (W cap : Nat) (hd : decode B.bs pc = .ok (.invokevirtual ix, 3))
    (w1 : (Jvm.Cond.methodLink B.y.cls ix ⟨ad, "clone", "()Ljava/lang/Object;"⟩).before a0 Z = true) (w2 : (Jvm.Cond.sameMethod ad "java/lang/Object" "clone" "()Ljava/lang/Object;").before a0 Z = true) (w3 : (Jvm.Cond.native ⟨"java/lang/Object", "clone", "()Ljava/lang/Object;"⟩).before a0 Z = true)
    (w4 : (Jvm.Cond.instanceMethod ⟨"java/lang/Object", "clone", "()Ljava/lang/Object;"⟩).before a0 Z = true) (w5 : (Jvm.Cond.selects ad ⟨ad, "clone", "()Ljava/lang/Object;"⟩ ⟨"java/lang/Object", "clone", "()Ljava/lang/Object;"⟩).before a0 Z = true) (w6 : (Jvm.Cond.castable ad "java/lang/Cloneable").before a0 Z = true)
    (A : Ary Z h a ty vs) (E : Exa Z h a ad) (hW : (st.map fun v => v.category).sum = W) (hsz : Ls.size = B.ml) (hf : 1 ≤ B.rm.frames) (hl : W + 14 ≤ B.rm.locals) (hcap : vs.length ≤ cap) {ce' sl' : Nat} (hce : ce + 1 = ce') (hsl : sl + cap = sl') (hc : ce' ≤ B.rm.cells) (hs : sl' ≤ B.rm.slots)
    (r : ∀ b h' σ', b = h.size → Keep h h' [] → b < h'.size → (∀ x, σ x → σ' x) → σ' b → Ary Z h' b ty vs → Exa Z h' b ad → Go l Z a0 EL n0 kn B D Q h' σ' ce' sl' (pc + 3) Ls (.ref b :: st)) : Go l Z a0 EL n0 kn B D Q h σ ce sl pc Ls (.ref a :: st) := by
  subst hce hsl
  exact made (P := fun h' => Ary Z h' h.size ty vs ∧ Exa Z h' h.size ad)
    (fun T vm0 locs X h1 h4 h5 ok => by
      obtain ⟨cl, Ar, e, q, f⟩ := A
      obtain ⟨T', h', X', e', ex, A', E', s'⟩ := cloneA X ok.1 (s := D.s.setVm vm0) h4 h5 w1 w2 w3 w4 w5 w6 h1 Ar E (fitC_of Ar fun i hi v hv => f v (by rw [← e]; exact List.mem_of_getElem? (by rw [Array.getElem?_toList]; exact hv))) (g := mkF D.m pc Ls (.ref a :: st)) rfl (hsz.trans ok.2.2.1.symm) rfl (Jvm.hb ok.2.1 hd) hf (W := W) (cap := cap) (by show 2 * 0 + _ ≤ _; rw [hW]; omega) hl (by rw [← Array.length_toList, e]; exact hcap) hc hs
      exact ⟨T', h', X', e', ex, E'.lt, ⟨⟨_, A', e, q, f⟩, E'⟩, s'⟩)
    (fun h' σ' K hlt m1 m2 P => r h.size h' σ' rfl K hlt m1 m2 P.1 P.2)
theorem aaload (pc : Nat) {ty : FieldType} {vs : List Value} {j : Int32} (i : Nat) {v : Value} (hd : decode B.bs pc = .ok (.aaload, 1)) (A : Ary Z h a ty vs) (hty : ty.isReference = true) (hj : j.toInt = (i : Int)) (hv : vs[i]? = some v) (r : Go l Z a0 EL n0 kn B D Q h σ ce sl (pc + 1) Ls (v :: st)) : Go l Z a0 EL n0 kn B D Q h σ ce sl pc Ls (.int j :: .ref a :: st) :=
  plainX (fun T vm0 locs X h1 h4 h5 ok t q => by
    obtain ⟨c, A, e, -⟩ := A
    have hi : i < vs.length := (List.getElem?_eq_some_iff.mp hv).1
    exact X.aaload ok.1 (by rw [h1]; exact A.1) (State.isArrayOf_alike (T := D.s.setVm vm0) h4.alike A.2.1) hty A.2.2 (Ary.inb e hj hi) (by rw [(ix_of hj).2, ← Array.getElem?_toList, e]; exact hv) (g := mkF D.m pc Ls (.int j :: .ref a :: st)) rfl rfl (Jvm.hb ok.2.1 hd) t q) r
theorem instNull (pc : Nat) {ix : Nat} (hd : decode B.bs pc = .ok (.instanceof ix, 3)) (r : Go l Z a0 EL n0 kn B D Q h σ ce sl (pc + 3) Ls (.int 0 :: st)) : Go l Z a0 EL n0 kn B D Q h σ ce sl pc Ls (.null :: st) :=
  plainX (fun T vm0 locs X h1 h4 h5 ok t q => X.instanceofNull ok.1 (g := mkF D.m pc Ls (.null :: st)) rfl rfl (Jvm.hb ok.2.1 hd) t q) r
end Clone
end Jvm.Road
namespace Jvm.Road
open Jvm Jvm.ClassFile Sem Op Lib Jvm.Free Jvm.Stand Jvm.LawKit Jvm.RoadKit Bundle
section Ends
variable {l : Launch} {Z : State} {a0 : Array Value} {EL : List (String × Nat)} {n0 : Nat} {kn : Bool} {B : Bdy} {D : Dyn} {Q : Post} {h : Heap} {σ : Addr → Prop} {ce sl : Nat} {Ls : Array Slot} {st : List Value} {a : Addr}
theorem own_at {vm0 : Vm} {T : State} {locs : List Loc} (X : Stand D.p l D.e B.rm (D.s.setVm vm0) D.m D.args D.bl D.meth D.c T locs ce sl) (hZ : Z.Warmed39 vm0) (ew : EW Z a0 EL) (hC : CHv Z EL vm0 h) {x : Addr} (hx : Own Z EL n0 vm0 h x) : Own Z EL n0 T.vm h x :=
  ⟨(CHv.at X hZ ew hC).safe hx.2.2 hx.1, hx.2.1, hx.2.2⟩
/-- the end of a walk -/
theorem ended {pc : Nat} {v : Option Value} (hv : B.rt = none → v = none) (hc : ce ≤ B.rm.cells) (hs : sl ≤ B.rm.slots) (hq : ∀ σ', (∀ x, σ x → σ' x) → Q v h σ')
    (k : ∀ T vm0 locs fs, Stand D.p l D.e B.rm (D.s.setVm vm0) D.m D.args D.bl D.meth D.c T locs ce sl → Ok B D → (∀ (f : JFrame) (acts : List Action), f.method = D.m → f.locked = none → f.entered = [] → (doReturn D.e (T.setTop f) acts v).1 = T.setFrames fs) → Steps D.p.tables D.e D.bl (T.setTop (mkF D.m pc Ls st)) (T.setFrames fs)) :
    Go l Z a0 EL n0 kn B D Q h σ ce sl pc Ls st := by
  intro ok ew T vm0 I
  obtain ⟨k0, locs, X, h1, h2, h3, h4, h5, h6, h7, h8, h9, h10⟩ := I
  obtain ⟨fs, hr, hrun, hended, hE⟩ := X.leaveW h2 (by rw [h1]; exact h3) (v := v) (fun q => hv (ok.2.2.2.1.symm.trans q)) ok.2.2.2.2.1
  have hh : (T.setFrames fs).heap = h := h1
  refine ⟨T.setFrames fs, .returned v, k T vm0 locs fs X ok hr, hrun, hended, v, locs, rfl, ?_, h7, ?_, ?_, ⟨hE.1, hE.2.1, hE.2.2.1, hE.2.2.2.mono hc hs⟩⟩
  · rw [hh]; exact hq _ fun x hx => own_at X h4 ew h6.1 (h9 x hx)
  · rw [hh]; exact h6.trans (show CHr Z EL vm0 h T.vm h from CHv.at X h4 ew h6.1)
  · rw [hh]; exact h8
theorem ret (pc : Nat) (hd : decode B.bs pc = .ok (.return_, 1)) (hrt : B.rt = none) (hc : ce ≤ B.rm.cells) (hs : sl ≤ B.rm.slots) (hq : ∀ σ', (∀ x, σ x → σ' x) → Q none h σ') : Go l Z a0 EL n0 kn B D Q h σ ce sl pc Ls [] :=
  ended (fun _ => rfl) hc hs hq (fun T vm0 locs fs X ok hr => X.returnOut ok.1 (ok.2.2.2.1.trans hrt) (Jvm.hb ok.2.1 hd) hr)
theorem iret (pc : Nat) {x : Int32} {t : FieldType} (w : Int32) (hd : decode B.bs pc = .ok (.ireturn, 1)) (hrt : B.rt = some t) (ht : t = .boolean ∨ t = .byte ∨ t = .char ∨ t = .short) (hw : nar t x = w) (hc : ce ≤ B.rm.cells) (hs : sl ≤ B.rm.slots) (hq : ∀ σ', (∀ x, σ x → σ' x) → Q (some (.int w)) h σ') : Go l Z a0 EL n0 kn B D Q h σ ce sl pc Ls (.int x :: st) :=
  ended (fun q => by rw [hrt] at q; cases q) hc hs hq (fun T vm0 locs fs X ok hr => retN X ok.1 (t := t) (ok.2.2.2.1.trans hrt) ht (Jvm.hb ok.2.1 hd) (by rw [hw]; exact hr))
theorem iretI (pc : Nat) {x : Int32} (hd : decode B.bs pc = .ok (.ireturn, 1)) (hrt : B.rt = some .int) (hc : ce ≤ B.rm.cells) (hs : sl ≤ B.rm.slots) (hq : ∀ σ', (∀ x, σ x → σ' x) → Q (some (.int x)) h σ') : Go l Z a0 EL n0 kn B D Q h σ ce sl pc Ls (.int x :: st) :=
  ended (fun q => by rw [hrt] at q; cases q) hc hs hq (fun T vm0 locs fs X ok hr => retOut X ok.1 (t := .int) (ok.2.2.2.1.trans hrt) rfl (Or.inl ⟨rfl, Or.inl rfl, x, rfl⟩) (Jvm.hb ok.2.1 hd) hr)
theorem aret (pc : Nat) {v : Value} {t : FieldType} (hd : decode B.bs pc = .ok (.areturn, 1)) (hrt : B.rt = some t) (ht : t.isReference = true) (hv : v.isRef = true) (hc : ce ≤ B.rm.cells) (hs : sl ≤ B.rm.slots) (hq : ∀ σ', (∀ x, σ x → σ' x) → Q (some v) h σ') : Go l Z a0 EL n0 kn B D Q h σ ce sl pc Ls (v :: st) :=
  ended (fun q => by rw [hrt] at q; cases q) hc hs hq (fun T vm0 locs fs X ok hr => retOut X ok.1 (t := t) (ok.2.2.2.1.trans hrt) (by rcases ref_cases hv with rfl | ⟨_, rfl⟩ <;> cases t <;> first | rfl | (cases ht; done)) (Or.inr (Or.inr (Or.inr (Or.inr ⟨rfl, ht, hv⟩)))) (Jvm.hb ok.2.1 hd) hr)
/-- ldc of a String constant that is read -/
theorem ldcS (pc : Nat) {ix : Nat} (text : String) (cs : List Int32) (n : Nat) (hd : decode B.bs pc = .ok (.ldc ix, 2)) (w : (Jvm.Cond.stringLink B.y.cls ix text).before a0 Z = true) (wS : ∀ a ∈ Bundle.stringAtoms, a.before a0 Z = true) (hmem : (B.y.cls, ix) ∈ EL)
    (ht : ∀ c ∈ text.toList, c.toNat < 256) (hvs : text.toList.map (fun c => Value.int (Jvm.Lit.byteI c.toNat.toUInt16)) = cs.map byt) (hcs : ∀ c ∈ cs, 0 ≤ c.toInt ∧ c.toInt < 256) (hn : 4 * text.toList.length ≤ n) (hbig : n ≤ 536870912) {ce' sl' : Nat} (hce : ce + 2 = ce') (hsl : sl + (n + 4) = sl') (hc : ce' ≤ B.rm.cells) (hs : sl' ≤ B.rm.slots)
    (r : ∀ a b h' σ', Keep h h' [] → (∀ x, σ x → σ' x) → Str Z h' a b cs → (∀ x, σ' x → x ≠ a ∧ x ≠ b) → Go l Z a0 EL n0 kn B D Q h' σ' ce' sl' (pc + 2) Ls (.ref a :: st)) : Go l Z a0 EL n0 kn B D Q h σ ce sl pc Ls st := by
  subst hce hsl
  intro ok ew T vm0 I
  obtain ⟨k0, locs, X, h1, h2, h3, h4, h5, h6, h7, h8, h9, h10⟩ := I
  have hlen : (cs.map byt).length = text.toList.length := by rw [← hvs, List.length_map]
  have hsm : text.toList.length < 2147483648 := by omega
  have hz : (text.toList.length).toInt32.toInt = (text.toList.length : Int) := len_toInt hsm
  obtain ⟨q1, q2⟩ := ix_of hz
  obtain ⟨a, T', h', k1, b, k, X', e', E, hS', hk', hZ', ho', E1, E2, E3, E4, l1, l2, hCr, hL, hne, s'⟩ := ldcCH (s := D.s) X ok.1 h4 h5 w wS h1 h2 h3 ew hmem h6.1 (vs := cs.map byt) (z := (text.toList.length).toInt32) ⟨ht, hvs⟩ q1 (by rw [q2, hlen]) (g := mkF D.m pc Ls st) rfl (Jvm.hb ok.2.1 hd) hn hbig hc hs
  have hal : vm0.Alike T'.vm := by
    have z1 := h4.alike
    have z2 : Z.vm.Alike T'.vm := State.Warmed39.alike hZ'
    exact z1.symm.trans z2
  obtain ⟨s2, o, q, rest⟩ := r a b h' (Own Z EL n0 T'.vm h') (keep_ext E) (fun x hx => ⟨hCr.safe (h9 x hx).2.2 (h9 x hx).1, (h9 x hx).2.1, Nat.lt_of_lt_of_le (h9 x hx).2.2 E.1⟩) ⟨E1, E2, E3, Ary.of_arv E4 (by rw [q2, hlen]), hcs⟩ (fun x hx => hne x hx.1) ok ew T' T'.vm
    ⟨k1, locs, X', e', hS', hk', hZ', ho', h6.trans hCr, h7, h8.ext E, fun x hx => hx, fun z => ⟨(h10 z).1.alikeC hal, (h10 z).2.alikeC hal⟩⟩
  exact ⟨s2, o, s' _ q, rest⟩
end Ends
section Calls
variable {l : Launch} {Z : State} {a0 : Array Value} {EL : List (String × Nat)} {n0 : Nat} {kn : Bool} {B B' : Bdy} {D : Dyn} {Q Q' : Post} {h : Heap} {σ : Addr → Prop} {ce sl : Nat} {Ls : Array Slot} {st : List Value} {a : Addr}
theorem Con.back {R : Room} {p : Program} {e : Env} {below : List Frame} {s : State} {args : Array Value} {vm0 : Vm} {len W : Nat} {as : Array Value} (hM : Con l Z EL n0 kn B' [] σ as h Q') (hZ : Z.Warmed39 vm0) (wc : (Jvm.Cond.code B'.y B'.bs B'.ml B'.rt).before a0 Z = true) (wz : (Jvm.Cond.initialized B'.y.cls).before a0 Z = true)
    (hf : B'.rm.frames + 1 ≤ R.frames) (hl : W + (B'.ml + 11) + B'.rm.locals ≤ R.locals) (hEL : EW Z a0 EL) (H : CHv Z EL vm0 h) (hO : Old Z n0 h) (hσ : ∀ x, σ x → Own Z EL n0 vm0 h x) (hK : kn = true → vm0.MethodsKnown ∧ vm0.FramesKnown below) :
    BackS l R p e below (s.setVm vm0) args B'.y len W (fun A a => a = as ∧ A.U.heap = h ∧ A.cells + B'.rm.cells ≤ R.cells ∧ A.slots + B'.rm.slots ≤ R.slots)
      (fun A _ v Bp => ∃ L, (Q' v Bp.U.heap (Own Z EL n0 Bp.U.vm Bp.U.heap) ∧ Fr n0 L ∧ Old Z n0 Bp.U.heap) ∧ Bp.locs = A.locs ++ L ∧ Bp.cells = A.cells + B'.rm.cells ∧ Bp.slots = A.slots + B'.rm.slots ∧ CHr Z EL vm0 h Bp.U.vm Bp.U.heap) :=
  BackS.of_freeWG (bytes := B'.bs) (maxL := B'.ml) (ret := B'.rt) (E := fun _ first o t L k n => k = B'.rm.cells ∧ n = B'.rm.slots ∧ (∃ v, o = .returned v ∧ Q' v t.heap (Own Z EL n0 t.vm t.heap) ∧ Fr n0 L ∧ Old Z n0 t.heap) ∧ CHr Z EL first.vm first.heap t.vm t.heap) hM hf hl
    (fun m meth c A a Y hp => have hU : Z.Warmed39 A.U.vm := wtrans (s := s.setVm vm0) hZ Y.warmed
      ⟨by show (Cond.and _ .tt).before a A.U = true; rw [Cond.before_and, mv hU wc]; rfl, mv hU wc, mv hU wz, hp.2.2.1, hp.2.2.2⟩)
    (fun m meth c A a g mk Y hp => ⟨hp.1, wtrans (s := s.setVm vm0) hZ Y.warmed, hp.2.1, (CHv.at Y hZ hEL H).1, hO, fun x hx => ⟨(CHv.at Y hZ hEL H).safe (hσ x hx).2.2 (hσ x hx).1, (hσ x hx).2⟩⟩)
    (fun m meth c A a g mk Y _ hg hkn => known_frames Y hg (hK hkn).1 (hK hkn).2)
    (fun _ _ _ _ ⟨v, L, h1, h2, h3, h4, h5, h6⟩ => ⟨L, _, _, h6, rfl, rfl, ⟨v, h1, h2, h3, h5⟩, h4⟩)
    (fun m meth c A a g mk v t L k n Y hp _ _ ⟨e1, e2, ⟨v', e3, e4⟩, e5⟩ => by
      cases e3; subst e1 e2
      refine ⟨L, e4, rfl, rfl, rfl, (CHv.at Y hZ hEL H).trans ?_⟩
      rw [← hp.2.1]; exact e5)
/-- behind a call -/
theorem called {pc len : Nat} {rest : List Value} {as : Array Value} (W : Nat) (hM : Con l Z EL n0 kn B' [] σ as h Q') (wc : (Jvm.Cond.code B'.y B'.bs B'.ml B'.rt).before a0 Z = true) (wz : (Jvm.Cond.initialized B'.y.cls).before a0 Z = true)
    (hf : B'.rm.frames + 1 ≤ B.rm.frames) (hl : W + (B'.ml + 11) + B'.rm.locals ≤ B.rm.locals) (hc : ce + B'.rm.cells ≤ B.rm.cells) (hs : sl + B'.rm.slots ≤ B.rm.slots)
    (k : ∀ T vm0 locs, Stand D.p l D.e B.rm (D.s.setVm vm0) D.m D.args D.bl D.meth D.c T locs ce sl → T.heap = h → Z.Warmed39 vm0 → vm0.findClass B.y.cls = some D.m.cls → Ok B D →
      ∀ {Pre : Pt → Array Value → Prop} {Pst : Pt → Array Value → Option Value → Pt → Prop}, BackS l B.rm D.p D.e D.bl (D.s.setVm vm0) D.args B'.y len W Pre Pst → (∀ vm₁, (D.s.setVm vm0).WarmedH vm₁ → Pre ⟨T.setVm vm₁, locs, ce, sl⟩ as) →
      ∃ (v : Option Value) (vm₁ : Vm) (Bp : Pt), (D.s.setVm vm0).WarmedH vm₁ ∧ Stand D.p l D.e B.rm ((D.s.setVm vm0).setVm Bp.U.vm) D.m D.args D.bl D.meth D.c Bp.U Bp.locs Bp.cells Bp.slots ∧ (D.s.setVm vm0).Since Bp.U.vm Bp.U.heap.size ∧ T.heap.size ≤ Bp.U.heap.size ∧ Pst ⟨T.setVm vm₁, locs, ce, sl⟩ as v Bp ∧
        Steps D.p.tables D.e D.bl (T.setTop (mkF D.m pc Ls st)) (Bp.U.setTop (mkF D.m (pc + len) Ls (v.toList ++ rest))))
    (r : ∀ v h' σ', (∀ x, σ x → σ' x) → Q' v h' σ' → Go l Z a0 EL n0 kn B D Q h' σ' (ce + B'.rm.cells) (sl + B'.rm.slots) (pc + len) Ls (push v rest)) : Go l Z a0 EL n0 kn B D Q h σ ce sl pc Ls st := by
  intro ok ew T vm0 I
  obtain ⟨k0, locs, X, h1, h2, h3, h4, h5, h6, h7, h8, h9, h10⟩ := I
  obtain ⟨v, vm₁, ⟨U, Lc, kc, ks⟩, -, X', hS', hgr, ⟨L, ⟨hQ, hFr, hOld⟩, e1, e2, e3, hCr⟩, stp⟩ := k T vm0 locs X h1 h4 h5 ok (Con.back (s := D.s) hM h4 wc wz hf hl ew h6.1 h8 h9 h10) (fun vm₁ _ => ⟨rfl, h1, hc, hs⟩)
  dsimp only [Pt.U, Pt.locs, Pt.cells, Pt.slots] at X' hS' hgr hQ hOld e1 e2 e3 hCr stp
  subst e1 e2 e3
  obtain ⟨Y, hS2, hZ2, ho2⟩ := rebS h2 (by rw [← h1] at h3; exact h3) X' hS' hgr h4 h5
  have hal : vm0.Alike U.vm := hS'.1.alike
  rw [push_eq] at stp
  obtain ⟨s2, o, q, rest'⟩ := r v U.heap (Own Z EL n0 U.vm U.heap) (fun x hx => ⟨hCr.safe (h9 x hx).2.2 (h9 x hx).1, (h9 x hx).2.1, Nat.lt_of_lt_of_le (h9 x hx).2.2 (by rw [← h1]; exact hgr)⟩) hQ ok ew U U.vm
    ⟨U.heap.size, _, Y, rfl, hS2, Nat.le_refl _, hZ2, ho2, h6.trans hCr, h7.app hFr, hOld, fun x hx => hx, fun z => ⟨(h10 z).1.alikeC hal, (h10 z).2.alikeC hal⟩⟩
  exact ⟨s2, o, stp.trans q, rest'⟩
abbrev notMH (y : MethodName) : Prop := y.cls ≠ "java/lang/invoke/MethodHandle" ∧ y.cls ≠ "java/lang/invoke/VarHandle"
theorem callS (pc : Nat) {ix : Nat} {argsL rest : List Value} (W : Nat) (hd : decode B.bs pc = .ok (.invokestatic ix, 3)) (w1 : (Jvm.Cond.methodLink B.y.cls ix B'.y).before a0 Z = true) (w2 : (Jvm.Cond.static B'.y).before a0 Z = true) (w3 : (Jvm.Cond.initialized B'.y.cls).before a0 Z = true) (w4 : (Jvm.Cond.code B'.y B'.bs B'.ml B'.rt).before a0 Z = true) (hy : notMH B'.y)
    (hM : Con l Z EL n0 kn B' [] σ argsL.toArray h Q') (hlen : ∀ sig, parseMethodDescriptor B'.y.desc = some sig → argsL.length = sig.parameters.length) (hst : st = argsL.reverse ++ rest) (hW : (rest.map fun v => v.category).sum = W) (hsz : Ls.size = B.ml)
    (hf : B'.rm.frames + 1 ≤ B.rm.frames) (hl : W + (B'.ml + 11) + B'.rm.locals ≤ B.rm.locals) {ce' sl' : Nat} (hce : ce + B'.rm.cells = ce') (hsl : sl + B'.rm.slots = sl') (hc : ce' ≤ B.rm.cells) (hs : sl' ≤ B.rm.slots)
    (r : ∀ v h' σ', (∀ x, σ x → σ' x) → Q' v h' σ' → Go l Z a0 EL n0 kn B D Q h' σ' ce' sl' (pc + 3) Ls (push v rest)) : Go l Z a0 EL n0 kn B D Q h σ ce sl pc Ls st := by
  subst hce hsl
  exact called W hM w4 w3 hf hl hc hs (fun T vm0 locs X h1 h4 h5 ok {Pre Pst} hB hpre =>
    callSS X ok.1 (s := D.s.setVm vm0) h5 (mv (s := D.s.setVm vm0) h4 w1) (mv (s := D.s.setVm vm0) h4 w2) (mv (s := D.s.setVm vm0) h4 w3) (mv (s := D.s.setVm vm0) h4 w4) hy hB (g := mkF D.m pc Ls st) rfl (hsz.trans ok.2.2.1.symm) (argsL := argsL) (rest := rest) hlen hst (by show 2 * 0 + _ ≤ _; rw [hW]; omega) (Jvm.hb ok.2.1 hd) hpre) r
theorem callI (pc : Nat) {ix : Nat} {argsL rest : List Value} (W : Nat) (hd : decode B.bs pc = .ok (.invokespecial ix, 3)) (w1 : (Jvm.Cond.methodLink B.y.cls ix B'.y).before a0 Z = true) (w2 : (Jvm.Cond.instanceMethod B'.y).before a0 Z = true) (w3 : (Jvm.Cond.initialized B'.y.cls).before a0 Z = true) (w4 : (Jvm.Cond.code B'.y B'.bs B'.ml B'.rt).before a0 Z = true) (hi : B'.y.name = "<init>") (hrt : B'.rt = none) (hy : notMH B'.y)
    (hM : Con l Z EL n0 kn B' [] σ (.ref a :: argsL).toArray h Q') (hlen : ∀ sig, parseMethodDescriptor B'.y.desc = some sig → argsL.length = sig.parameters.length) (hst : st = argsL.reverse ++ .ref a :: rest) (hW : (rest.map fun v => v.category).sum = W) (hsz : Ls.size = B.ml)
    (hf : B'.rm.frames + 1 ≤ B.rm.frames) (hl : W + (B'.ml + 11) + B'.rm.locals ≤ B.rm.locals) {ce' sl' : Nat} (hce : ce + B'.rm.cells = ce') (hsl : sl + B'.rm.slots = sl') (hc : ce' ≤ B.rm.cells) (hs : sl' ≤ B.rm.slots)
    (r : ∀ v h' σ', (∀ x, σ x → σ' x) → Q' v h' σ' → Go l Z a0 EL n0 kn B D Q h' σ' ce' sl' (pc + 3) Ls (push v rest)) : Go l Z a0 EL n0 kn B D Q h σ ce sl pc Ls st := by
  subst hce hsl
  exact called W hM w4 w3 hf hl hc hs (fun T vm0 locs X h1 h4 h5 ok {Pre Pst} hB hpre =>
    X.specialBackS ok.1 hi (s := D.s.setVm vm0) h5 (mv (s := D.s.setVm vm0) h4 w1) (mv (s := D.s.setVm vm0) h4 w2) (bytes := B'.bs) (maxL := B'.ml) (mv (s := D.s.setVm vm0) h4 (hrt ▸ w4)) hy hB (g := mkF D.m pc Ls st) rfl (hsz.trans ok.2.2.1.symm) (Steps.refl _) (argsL := argsL) (rest := rest) hlen hst (by show 2 * 0 + _ ≤ _; rw [hW]; omega) (Jvm.hb ok.2.1 hd) hpre) r
theorem callV (pc : Nat) {ix : Nat} {y : MethodName} {argsL rest : List Value} (C : String) (W : Nat) (hd : decode B.bs pc = .ok (.invokevirtual ix, 3)) (w1 : (Jvm.Cond.methodLink B.y.cls ix y).before a0 Z = true) (w2 : (Jvm.Cond.declares y).before a0 Z = true) (nf : ∀ vm0, Z.Warmed39 vm0 → NotFace (D.s.setVm vm0) y) (w5 : (Jvm.Cond.selects C y B'.y).before a0 Z = true) (w6 : (Jvm.Cond.instanceMethod B'.y).before a0 Z = true) (w3 : (Jvm.Cond.initialized B'.y.cls).before a0 Z = true) (w4 : (Jvm.Cond.code B'.y B'.bs B'.ml B'.rt).before a0 Z = true) (hy : notMH y)
    (E : Exa Z h a C) (hM : Con l Z EL n0 kn B' [] σ (.ref a :: argsL).toArray h Q') (hlen : ∀ sig, parseMethodDescriptor y.desc = some sig → argsL.length = sig.parameters.length) (hst : st = argsL.reverse ++ .ref a :: rest) (hW : (rest.map fun v => v.category).sum = W) (hsz : Ls.size = B.ml)
    (hf : B'.rm.frames + 1 ≤ B.rm.frames) (hl : W + (B'.ml + 11) + B'.rm.locals ≤ B.rm.locals) {ce' sl' : Nat} (hce : ce + B'.rm.cells = ce') (hsl : sl + B'.rm.slots = sl') (hc : ce' ≤ B.rm.cells) (hs : sl' ≤ B.rm.slots)
    (r : ∀ v h' σ', (∀ x, σ x → σ' x) → Q' v h' σ' → Go l Z a0 EL n0 kn B D Q h' σ' ce' sl' (pc + 3) Ls (push v rest)) : Go l Z a0 EL n0 kn B D Q h σ ce sl pc Ls st := by
  subst hce hsl
  exact called W hM w4 w3 hf hl hc hs (fun T vm0 locs X h1 h4 h5 ok {Pre Pst} hB hpre => by
    obtain ⟨cq, kq, qa, qb, qc⟩ := isOf (s := D.s.setVm vm0) h4 h1 E
    exact X.virtualBackS ok.1 (s := D.s.setVm vm0) (C := C) h5 (mv (s := D.s.setVm vm0) h4 w1) (mv (s := D.s.setVm vm0) h4 w2) (nf vm0 h4) (mv (s := D.s.setVm vm0) h4 w5) (mv (s := D.s.setVm vm0) h4 w6) hy hB qa qc (g := mkF D.m pc Ls st) rfl (hsz.trans ok.2.2.1.symm) (Steps.refl _) (argsL := argsL) (rest := rest) hlen hst (by show 2 * 0 + _ ≤ _; rw [hW]; omega) (Jvm.hb ok.2.1 hd) hpre) r
/-- Object.<init> -/
theorem initObj (pc : Nat) {ix : Nat} (hd : decode B.bs pc = .ok (.invokespecial ix, 3)) (w1 : (Jvm.Cond.methodLink B.y.cls ix Lib.objectInit).before a0 Z = true) (w2 : (Jvm.Cond.instanceMethod Lib.objectInit).before a0 Z = true) (w3 : (Jvm.Cond.code Lib.objectInit ⟨#[0xb1]⟩ 1 none).before a0 Z = true) (W : Nat) (hW : (st.map fun v => v.category).sum = W) (hsz : Ls.size = B.ml) (hf : 1 ≤ B.rm.frames) (hl : W + 12 ≤ B.rm.locals)
    (r : Go l Z a0 EL n0 kn B D Q h σ ce sl (pc + 3) Ls st) : Go l Z a0 EL n0 kn B D Q h σ ce sl pc Ls (.ref a :: st) := by
  intro ok ew T vm0 I
  obtain ⟨k0, locs, X, h1, h2, h3, h4, h5, h6, h7, h8, h9, h10⟩ := I
  obtain ⟨T', X', e', s'⟩ := initO X ok.1 (s := D.s.setVm vm0) h4 h5 w1 w2 w3 h1 (g := mkF D.m pc Ls (.ref a :: st)) rfl (hsz.trans ok.2.2.1.symm) rfl (Jvm.hb ok.2.1 hd) hf (W := W) (by show 2 * 0 + _ ≤ _; rw [hW]; omega) hl
  obtain ⟨s2, o, q, rest⟩ := r ok ew T' vm0 ⟨k0, locs, X', e', h2, h3, h4, h5, h6, h7, h8, h9, h10⟩
  exact ⟨s2, o, s' _ q, rest⟩
end Calls
end Jvm.Road
namespace Jvm.Road
open Jvm Jvm.ClassFile Sem Op Lib Jvm.Free Jvm.Stand Jvm.LawKit Jvm.RoadKit Bundle
theorem n32 {i : Nat} (h : i < 2147483648) : i.toInt32.toInt = (i : Int) := len_toInt h
theorem succ32 (i : Nat) : i.toInt32 + 1 = (i + 1).toInt32 := (Int32.ofNat_add i 1).symm
theorem add32n (i j : Nat) : i.toInt32 + j.toInt32 = (i + j).toInt32 := (Int32.ofNat_add i j).symm
theorem lt32 {i j : Nat} (hi : i < 2147483648) (hj : j < 2147483648) : i.toInt32 < j.toInt32 ↔ i < j := by
  rw [Int32.lt_iff_toInt_lt, n32 hi, n32 hj]; omega
theorem eq32 {i j : Nat} (hi : i < 2147483648) (hj : j < 2147483648) : i.toInt32 = j.toInt32 ↔ i = j := by
  rw [← Int32.toInt_inj, n32 hi, n32 hj]; omega
/-- a slot that an int may be stored in -/
def W1 (w : Slot) : Prop := w = .unset ∨ ∃ v, w = .val (.int v)
theorem nar_byte (x : Int32) : nar .byte (Int8.toInt32 (Int32.toInt8 x)) = Int8.toInt32 (Int32.toInt8 x) := by simp [nar]
theorem nar_chr (x : Int32) : nar .char (chr x) = chr x := by simp only [nar, chr, UInt32.toUInt32_toInt32, UInt16.toUInt16_toUInt32]
theorem set_mid {α β : Type} (f : α → β) (cs : List α) (z : β) (k r : Nat) (hk : k < cs.length) : ((cs.take k).map f ++ List.replicate (r + 1) z).set k (f cs[k]) = (cs.take (k + 1)).map f ++ List.replicate r z := by
  have hl : ((cs.take k).map f).length = k := by simp; omega
  rw [List.set_append, if_neg (by omega), hl, Nat.sub_self, List.replicate_succ, List.set_cons_zero, List.take_succ_eq_append_getElem hk, List.map_append]
  simp
end Jvm.Road
namespace Jvm.Road
open Jvm Jvm.ClassFile Sem Op Lib Jvm.Free Jvm.Stand Jvm.LawKit Jvm.RoadKit Bundle
theorem narRef {t : FieldType} {v : Value} (ht : t.isReference = true) (hv : v.isRef = true) : narrow t v = v := by
  rcases ref_cases hv with rfl | ⟨_, rfl⟩ <;> cases t <;> first | rfl | (cases ht; done)
theorem fitRef {t : FieldType} {v : Value} (ht : t.isReference = true) (hv : v.isRef = true) : fits t v = true := by
  rcases ref_cases hv with rfl | ⟨_, rfl⟩ <;> cases t <;> first | rfl | (cases ht; done)
theorem and255 (x : Int32) : 0 ≤ (chr (x &&& 255)).toInt ∧ (chr (x &&& 255)).toInt < 256 := by
  rw [show chr (x &&& 255) = x &&& 255 from i2c_mask x]
  have h1 : (x &&& 255).toInt = ((x.toBitVec &&& 255#32).toInt) := rfl
  have h2 : (x.toBitVec &&& 255#32).toNat ≤ 255 := by rw [BitVec.toNat_and]; exact Nat.and_le_right
  have h3 : (x.toBitVec &&& 255#32).toInt = ((x.toBitVec &&& 255#32).toNat : Int) := BitVec.toInt_eq_toNat_of_lt (by omega)
  rw [h1, h3]; omega
end Jvm.Road
namespace Jvm.Road
open Jvm Jvm.ClassFile Sem Op Lib Jvm.Free Jvm.Stand Jvm.LawKit Jvm.RoadKit Bundle
theorem nameI {l : Launch} {Z : State} {a0 : Array Value} {EL : List (String × Nat)} {n0 : Nat} {kn : Bool} {B : Bdy} {D : Dyn} {Q : Post} {h : Heap} {σ : Addr → Prop} {ce sl : Nat} {Ls : Array Slot} {st : List Value} {pc : Nat} {x : Int32}
    (r : ∀ z, z = x → Go l Z a0 EL n0 kn B D Q h σ ce sl pc Ls (.int z :: st)) : Go l Z a0 EL n0 kn B D Q h σ ce sl pc Ls (.int x :: st) := r x rfl
theorem nameJ {l : Launch} {Z : State} {a0 : Array Value} {EL : List (String × Nat)} {n0 : Nat} {kn : Bool} {B : Bdy} {D : Dyn} {Q : Post} {h : Heap} {σ : Addr → Prop} {ce sl : Nat} {Ls : Array Slot} {st : List Value} {pc : Nat} {x : Int64}
    (r : ∀ z, z = x → Go l Z a0 EL n0 kn B D Q h σ ce sl pc Ls (.long z :: st)) : Go l Z a0 EL n0 kn B D Q h σ ce sl pc Ls (.long x :: st) := r x rfl
theorem and3 (x : Int32) : x &&& 3 = 0 ∨ x &&& 3 = 1 ∨ x &&& 3 = 2 ∨ x &&& 3 = 3 := by
  have h1 : (x &&& 3).toInt = ((x.toBitVec &&& 3#32).toInt) := rfl
  have h2 : (x.toBitVec &&& 3#32).toNat ≤ 3 := by rw [BitVec.toNat_and]; exact Nat.and_le_right
  have h3 : (x.toBitVec &&& 3#32).toInt = ((x.toBitVec &&& 3#32).toNat : Int) := BitVec.toInt_eq_toNat_of_lt (by omega)
  have h4 : (x &&& 3).toInt = 0 ∨ (x &&& 3).toInt = 1 ∨ (x &&& 3).toInt = 2 ∨ (x &&& 3).toInt = 3 := by rw [h1, h3]; omega
  rcases h4 with h | h | h | h
  · exact Or.inl (Int32.toInt_inj.mp h)
  · exact Or.inr (Or.inl (Int32.toInt_inj.mp h))
  · exact Or.inr (Or.inr (Or.inl (Int32.toInt_inj.mp h)))
  · exact Or.inr (Or.inr (Or.inr (Int32.toInt_inj.mp h)))
/-- a slot that a reference may be stored in -/
def W2 (w : Slot) : Prop := w = .unset ∨ ∃ v, w = .val (.ref v)
end Jvm.Road
namespace Jvm.Road
open Jvm Jvm.ClassFile Sem Op Lib Jvm.Free Jvm.Stand Jvm.LawKit Jvm.RoadKit Bundle
theorem shr0 (x : Int32) : x >>> ((0 : Int32) &&& 31) = x := by
  apply Int32.toBitVec_inj.mp; simp [Int32.toBitVec_shiftRight]
theorem lat_nat {c : Int32} (h : 0 ≤ c.toInt ∧ c.toInt < 256) : ∃ i : Fin 256, c = Int32.ofInt (i.1 : Int) := by
  refine ⟨⟨c.toInt.toNat, by omega⟩, ?_⟩
  apply Int32.toInt_inj.mp
  show c.toInt = (Int32.ofInt ((c.toInt.toNat : Nat) : Int)).toInt
  rw [Int.toNat_of_nonneg h.1, Int32.ofInt_toInt]
theorem byte_back {c : Int32} (h : 0 ≤ c.toInt ∧ c.toInt < 256) : nar .char (chr (Int8.toInt32 (Int32.toInt8 c) &&& 255)) = c := by
  obtain ⟨i, rfl⟩ := lat_nat h
  exact (by decide +kernel : ∀ i : Fin 256, nar .char (chr (Int8.toInt32 (Int32.toInt8 (Int32.ofInt (i.1 : Int))) &&& 255)) = Int32.ofInt (i.1 : Int)) i
theorem nar_lat {c : Int32} (h : 0 ≤ c.toInt ∧ c.toInt < 256) : nar .char c = c := by
  obtain ⟨i, rfl⟩ := lat_nat h
  exact (by decide +kernel : ∀ i : Fin 256, nar .char (Int32.ofInt (i.1 : Int)) = Int32.ofInt (i.1 : Int)) i
end Jvm.Road
namespace Jvm.Road
open Jvm Jvm.ClassFile Sem Op Lib Jvm.Free Jvm.Stand Jvm.LawKit Jvm.RoadKit Bundle
/-- an int's 32 bits as a number -/
def u32 (x : Int32) : Nat := x.toBitVec.toNat
theorem u32_lt (x : Int32) : u32 x < 4294967296 := x.toBitVec.isLt
theorem u32_inj {x y : Int32} (h : u32 x = u32 y) : x = y := Int32.toBitVec_inj.mp (BitVec.eq_of_toNat_eq h)
theorem toInt_u32 {x : Int32} (h : u32 x < 2147483648) : x.toInt = (u32 x : Int) := by
  show x.toBitVec.toInt = _
  exact BitVec.toInt_eq_toNat_of_lt (by show 2 * u32 x < 2 ^ 32; omega)
theorem u32_and (x y : Int32) : u32 (x &&& y) = u32 x &&& u32 y := BitVec.toNat_and ..
theorem u32_chr (x : Int32) : u32 (chr x) = u32 x % 65536 := by
  show ((x.toBitVec.setWidth 16).setWidth 32).toNat = _
  rw [BitVec.toNat_setWidth, BitVec.toNat_setWidth]
  show x.toBitVec.toNat % 65536 % 4294967296 = _
  show _ = x.toBitVec.toNat % 65536
  omega
theorem u32_ushr (x y : Int32) : u32 (XT.ushr x y) = u32 x >>> (u32 y % 32) := by
  show ((x.toBitVec >>> ((y &&& 31).toBitVec.umod 32#32)).toNat) = _
  have h : ((y &&& 31).toBitVec.umod 32#32).toNat = u32 y % 32 := by
    show (BitVec.umod (y.toBitVec &&& 31#32) 32#32).toNat = _
    rw [show (BitVec.umod (y.toBitVec &&& 31#32) 32#32) = (y.toBitVec &&& 31#32) % 32#32 from rfl, BitVec.toNat_umod, BitVec.toNat_and]
    show (u32 y &&& 31) % 32 = _
    rw [show (31 : Nat) = 2 ^ 5 - 1 from rfl, Nat.and_two_pow_sub_one_eq_mod]
    omega
  rw [← h]
  exact BitVec.toNat_ushiftRight ..
theorem and_mask (x : Nat) (k : Nat) : x &&& (2 ^ k - 1) = x % 2 ^ k := Nat.and_two_pow_sub_one_eq_mod x k
theorem u32_and255 (x : Int32) : u32 (x &&& 255) = u32 x % 256 := by rw [u32_and]; exact and_mask _ 8
theorem u32_and7 (x : Int32) : u32 (x &&& 7) = u32 x % 8 := by rw [u32_and]; exact and_mask _ 3
theorem u32_and3 (x : Int32) : u32 (x &&& 3) = u32 x % 4 := by rw [u32_and]; exact and_mask _ 2
theorem u32_and1 (x : Int32) : u32 (x &&& 1) = u32 x % 2 := by rw [u32_and]; exact and_mask _ 1
theorem chr_id {x : Int32} (h : u32 x < 65536) : chr x = x := u32_inj (by rw [u32_chr]; omega)
end Jvm.Road
namespace Jvm.Road
open Jvm Jvm.ClassFile Sem Op Lib Jvm.Free Jvm.Stand Jvm.LawKit Jvm.RoadKit Bundle
/-- the byte of a char, as an int -/
def bf (c : Int32) : Int32 := Int8.toInt32 (Int32.toInt8 c)
theorem bf_inj {c d : Int32} (hc : 0 ≤ c.toInt ∧ c.toInt < 256) (hd : 0 ≤ d.toInt ∧ d.toInt < 256) (h : bf c = bf d) : c = d := by
  rw [← byte_back hc, ← byte_back hd]
  show nar .char (chr (bf c &&& 255)) = nar .char (chr (bf d &&& 255))
  rw [h]
theorem bfs_inj : ∀ {cs ds : List Int32}, (∀ c ∈ cs, 0 ≤ c.toInt ∧ c.toInt < 256) → (∀ c ∈ ds, 0 ≤ c.toInt ∧ c.toInt < 256) → cs.map bf = ds.map bf → cs = ds
  | [], [], _, _, _ => rfl
  | [], d :: ds, _, _, h => by simp at h
  | c :: cs, [], _, _, h => by simp at h
  | c :: cs, d :: ds, h1, h2, h => by
    simp only [List.map_cons, List.cons.injEq] at h
    rw [bf_inj (h1 _ (by simp)) (h2 _ (by simp)) h.1, bfs_inj (fun x hx => h1 x (by simp [hx])) (fun x hx => h2 x (by simp [hx])) h.2]
theorem byts (cs : List Int32) : cs.map byt = (cs.map bf).map Value.int := by rw [List.map_map]; rfl
theorem ints_inj : ∀ {xs ys : List Int32}, xs.map Value.int = ys.map Value.int → xs = ys
  | [], [], _ => rfl
  | [], d :: ds, h => by simp at h
  | c :: cs, [], h => by simp at h
  | c :: cs, d :: ds, h => by
    simp only [List.map_cons, List.cons.injEq, Value.int.injEq] at h
    rw [h.1, ints_inj h.2]
theorem Str.uniq {Z : State} {h : Heap} {a b b' : Addr} {cs ds : List Int32} (S : Str Z h a b cs) (S' : Str Z h a b' ds) : cs = ds := by
  have e := Value.ref.inj (Fld.uniq S.2.2.1 S'.2.2.1)
  subst e
  have q := Ary.uniq S.2.2.2.1 S'.2.2.2.1
  rw [byts, byts] at q
  exact bfs_inj S.2.2.2.2 S'.2.2.2.2 (ints_inj q)
theorem take_ext {xs ys : List Int32} {k : Nat} (hk : k < xs.length) (hk' : k < ys.length) (h : xs.take k = ys.take k) (e : xs[k] = ys[k]) : xs.take (k + 1) = ys.take (k + 1) := by
  rw [List.take_succ_eq_append_getElem hk, List.take_succ_eq_append_getElem hk', h, e]
theorem u32_mask31 (x : Int32) : u32 (x &&& 2147483647) = u32 x % 2147483648 := by rw [u32_and]; exact and_mask _ 31
theorem rem_pos {x y : Int32} {n : Nat} (hx : u32 x < 2147483648) (hy : y.toInt = (n : Int)) (hn : 0 < n) : (x % y).toInt = ((u32 x % n : Nat) : Int) := by
  rw [Int32.toInt_mod, toInt_u32 hx, hy]
  rfl
theorem small_of {x : Int32} {n : Nat} {k : Nat} (h : x.toInt = ((k % n : Nat) : Int)) (hn : 0 < n) : ∃ i : Fin n, x = Int32.ofInt (i.1 : Int) := by
  refine ⟨⟨k % n, Nat.mod_lt _ hn⟩, ?_⟩
  have := congrArg Int32.ofInt h
  rwa [Int32.ofInt_toInt] at this
end Jvm.Road
namespace Jvm.Road
open Jvm Jvm.ClassFile Sem Op Lib Jvm.Free Jvm.Stand Jvm.LawKit Jvm.RoadKit Bundle Jvm.Free.Exc
section Exc
variable {l : Launch} {Z : State} {a0 : Array Value} {EL : List (String × Nat)} {n0 : Nat} {kn : Bool} {B : Bdy} {D : Dyn} {Q : Post} {h : Heap} {σ : Addr → Prop} {ce sl : Nat} {Ls : Array Slot} {st : List Value} {a : Addr}
/-- super(msg) of a Throwable, down a chain of constructors that only pass it on -/
theorem excInit (pc : Nat) {ix n : Nat} {rc : String} {links : List Link} {msg : Value} (W : Nat) (hd : decode B.bs pc = .ok (.invokespecial ix, 3)) (hok : linksOk 1 links = true)
    (w1 : (Jvm.Cond.methodLink B.y.cls ix (ctor 1 (headName links))).before a0 Z = true) (w2 : (Jvm.Cond.instanceMethod (ctor 1 (headName links))).before a0 Z = true) (wT : (chainTab 1 rc links).before a0 Z = true) (wi : (Jvm.Cond.instantiable rc n).before a0 Z = true) (r2 : ∀ d ∈ twoRefs, d.before a0 Z = true)
    (hl : l.stackTraces = true) (hkn : kn = true) (hO : Old Z n0 D.s.heap) (E : Exa Z h a rc) (N : Unt h a) (F1 : Fld Z h a tN "backtrace" obD .null) (F2 : Fld Z h a tN "detailMessage" msgD .null) (hmsg : msg.isRef = true) (hσ : σ a)
    (hW : (st.map fun v => v.category).sum = W) (hsz : Ls.size = B.ml) (hf : 4 + links.length ≤ B.rm.frames) (hlo : W + (56 + 14 * links.length) ≤ B.rm.locals) {ce' sl' : Nat} (hce : ce + 1 = ce') (hsl : sl + 2752 = sl') (hc : ce' ≤ B.rm.cells) (hs : sl' ≤ B.rm.slots)
    (r : ∀ h', Kp Z h h' a → Keep h h' [a] → Exa Z h' a rc → Unt h' a → Fld Z h' a tN "detailMessage" msgD msg → Fld Z h' a tN "cause" thD (.ref a) → Go l Z a0 EL n0 kn B D Q h' σ ce' sl' (pc + 3) Ls st) : Go l Z a0 EL n0 kn B D Q h σ ce sl pc Ls (msg :: .ref a :: st) := by
  subst hce hsl
  intro ok ew T vm0 I
  obtain ⟨k0, locs, X, h1, h2, h3, h4, h5, h6, h7, h8, h9, h10⟩ := I
  obtain ⟨T', h', X', e', K, E', N', M', C', -, s'⟩ := excL1 X ok.1 hl (s := D.s.setVm vm0) h4 h5 hok w1 w2 wT wi r2 (ThS.start.ext hO.2) (ThS.start.ext h8.2) (h10 hkn).1 (h10 hkn).2 h1 E N F1 F2 hmsg (g := mkF D.m pc Ls (msg :: .ref a :: st)) rfl (hsz.trans ok.2.2.1.symm) (rest := st) rfl (Jvm.hb ok.2.1 hd) hf (by show 2 * 0 + _ + _ ≤ _; rw [hW]; omega) hc hs
  have ha := h9 a hσ
  have K2 : Keep h h' [a] := keep_of_kp K
  have hsf : ∀ x ∈ [a], Safe Z EL vm0 h x := fun x hx => by cases List.mem_singleton.mp hx; exact ha.1
  obtain ⟨s2, o, q, rest⟩ := r h' K K2 E' N' M' C' ok ew T' vm0
    ⟨k0, _, X', e', h2, Nat.le_trans h3 K2.1, h4, h5, h6.trans (CHr.keep K2 hsf h6.1), Fr.six h7 ha.2.1, h8.keep K2 (fun x hx => by cases List.mem_singleton.mp hx; exact ha.2.1), fun x hx => ⟨Safe.keep K2 hsf h6.1 (h9 x hx).1, (h9 x hx).2.1, Nat.lt_of_lt_of_le (h9 x hx).2.2 K2.1⟩, h10⟩
  exact ⟨s2, o, s' _ q, rest⟩
end Exc
section Up
variable {l : Launch} {Z : State} {a0 : Array Value} {EL : List (String × Nat)} {n0 : Nat} {kn : Bool} {B B' : Bdy} {D : Dyn} {Q Q' : Post} {h : Heap} {σ : Addr → Prop} {ce sl : Nat} {Ls : Array Slot} {st : List Value} {a : Addr}
/-- invokevirtual whose entry names the method by a subclass of the one that declares it -/
theorem callU (pc : Nat) {ix : Nat} {y : MethodName} {argsL rest : List Value} (C owner : String) (W : Nat) (hd : decode B.bs pc = .ok (.invokevirtual ix, 3)) (w1 : (Jvm.Cond.methodLink B.y.cls ix y).before a0 Z = true) (w2 : (Jvm.Cond.sameMethod y.cls owner y.name y.desc).before a0 Z = true) (w2' : (Jvm.Cond.declares ⟨owner, y.name, y.desc⟩).before a0 Z = true) (hy : owner ≠ "java/lang/invoke/MethodHandle" ∧ owner ≠ "java/lang/invoke/VarHandle") (w5 : (Jvm.Cond.selects C y B'.y).before a0 Z = true) (w6 : (Jvm.Cond.instanceMethod B'.y).before a0 Z = true) (w3 : (Jvm.Cond.initialized B'.y.cls).before a0 Z = true) (w4 : (Jvm.Cond.code B'.y B'.bs B'.ml B'.rt).before a0 Z = true)
    (E : Exa Z h a C) (hM : Con l Z EL n0 kn B' [] σ (.ref a :: argsL).toArray h Q') (hlen : ∀ sig, parseMethodDescriptor y.desc = some sig → argsL.length = sig.parameters.length) (hst : st = argsL.reverse ++ .ref a :: rest) (hW : (rest.map fun v => v.category).sum = W) (hsz : Ls.size = B.ml)
    (hf : B'.rm.frames + 1 ≤ B.rm.frames) (hl : W + (B'.ml + 11) + B'.rm.locals ≤ B.rm.locals) {ce' sl' : Nat} (hce : ce + B'.rm.cells = ce') (hsl : sl + B'.rm.slots = sl') (hc : ce' ≤ B.rm.cells) (hs : sl' ≤ B.rm.slots)
    (r : ∀ v h' σ', (∀ x, σ x → σ' x) → Q' v h' σ' → Go l Z a0 EL n0 kn B D Q h' σ' ce' sl' (pc + 3) Ls (push v rest)) : Go l Z a0 EL n0 kn B D Q h σ ce sl pc Ls st := by
  subst hce hsl
  exact called W hM w4 w3 hf hl hc hs (fun T vm0 locs X h1 h4 h5 ok {Pre Pst} hB hpre => by
    obtain ⟨cq, kq, qa, qb, qc⟩ := isOf (s := D.s.setVm vm0) h4 h1 E
    exact X.virtualBackUpS ok.1 (s := D.s.setVm vm0) (C := C) h5 (mv (s := D.s.setVm vm0) h4 w1) (mv (s := D.s.setVm vm0) h4 w2) (mv (s := D.s.setVm vm0) h4 w2') hy (mv (s := D.s.setVm vm0) h4 w5) (mv (s := D.s.setVm vm0) h4 w6) hB qa qc (g := mkF D.m pc Ls st) rfl (hsz.trans ok.2.2.1.symm) (Steps.refl _) (argsL := argsL) (rest := rest) hlen hst (by show 2 * 0 + _ ≤ _; rw [hW]; omega) (Jvm.hb ok.2.1 hd) hpre) r
end Up
end Jvm.Road
namespace Jvm.Road
open Jvm Jvm.ClassFile Sem Op Lib Jvm.Free Jvm.Stand Jvm.LawKit Jvm.RoadKit Bundle
section Start
variable {Z : State} {a : Addr} {args : Array Value} {t b : Term} {ty : FieldType}
theorem eq_int_of {n : Int32} (h : (Cond.eq t (Term.int n)).value args Z none Z [] = some true) : t.eval args Z none [] Z = some (.int n) := by
  obtain ⟨x, y, q1, q2, -, k2⟩ := cmp_v (Or.inl h)
  cases q2
  obtain ⟨z, rfl⟩ := k2
  have := gotT (Cond.eq_ints q1 (Term.int_eval n)) h
  rw [← this]; exact q1
theorem eq_ref_of {q : Addr} (h : (Cond.eq t b).value args Z none Z [] = some true) (hb : b.eval args Z none [] Z = some (.ref q)) : t.eval args Z none [] Z = some (.ref q) := by
  obtain ⟨x, y, q1, q2, -, k2⟩ := cmp_v (Or.inl h)
  cases hb.symm.trans q2
  have := gotT (eq_R q1 hb k2.2 rfl) h
  rw [← this]; exact q1
theorem len_lt {v : Value} (h : (Term.length t).eval args Z none [] Z = some v) (ev : t.eval args Z none [] Z = some (.ref a)) : ∃ c, Z.arrayAt? a = some c ∧ c.slots.size < 2 ^ 31 ∧ v = .int c.slots.size.toInt32 := by
  obtain ⟨x, c, e1, e2, e3⟩ := Term.length_spec h
  cases ev.symm.trans e1
  refine ⟨c, e2, ?_, e3⟩
  by_cases q : c.slots.size < 2 ^ 31
  · exact q
  · simp [Term.eval, ev, e2, q] at h
theorem Ary.start {n : Int32} {vs : List Value} (ev : t.eval args Z none [] Z = some (.ref a)) (hx : (Cond.arrayOf t ty).value args Z none Z [] = some true)
    (hl : (Cond.eq (Term.length t) (Term.int n)).value args Z none Z [] = some true) (hn : n.toInt = vs.length)
    (he : ∀ i, i < vs.length → ∃ j : Int32, j.toInt = (i : Int) ∧ (Term.elem t (Term.int j)).eval args Z none [] Z = vs[i]?) (hf : ∀ v ∈ vs, fits ty v = true) : Ary Z Z.heap a ty vs := by
  obtain ⟨c, A⟩ := Arr.start ev hx
  obtain ⟨c', e1, e2, e3⟩ := len_lt (eq_int_of hl) ev
  have e4 : Z.heap[a]? = some c' := (arrayAt_spec e1).1
  cases A.1.symm.trans e4
  have e5 : c.slots.size = vs.length := by
    have : n.toInt = (c.slots.size : Int) := by
      injection e3 with q; rw [q]; exact len_toInt e2
    omega
  refine ⟨c, A, ?_, by omega, hf⟩
  apply List.ext_getElem?
  intro i
  by_cases hi : i < vs.length
  · obtain ⟨j, j1, j2⟩ := he i hi
    rw [List.getElem?_eq_getElem hi] at j2 ⊢
    have := (elem_in j2 ev (Term.int_eval j) A.1).2
    rw [(ix_of j1).2] at this
    rw [Array.getElem?_toList]; exact this
  · rw [List.getElem?_eq_none (Nat.le_of_not_lt hi), List.getElem?_eq_none (by rw [Array.length_toList, e5]; exact Nat.le_of_not_lt hi)]
end Start
end Jvm.Road
namespace Jvm.Pilot.@@N@@
open Jvm Jvm.ClassFile Sem Op Lib Jvm.Free Jvm.Stand Jvm.LawKit Jvm.RoadKit Bundle Jvm.Pilot.@@N@@.Jvm.D
set_option maxRecDepth 65536
def bCmp5 : Road.Bdy := (⟨"java/lang/StringUTF16", "compress", "([CI[BII)I"⟩, jdk_52_method_21_code, 7, (some .int), { frames := 0, cells := 0, slots := 0, locals := 0 })
theorem bCmp5_d0 : decode bCmp5.bs 0 = .ok (.iconst 0, 1) := by decide +kernel
theorem bCmp5_d1 : decode bCmp5.bs 1 = .ok (.istore 5, 2) := by decide +kernel
theorem bCmp5_d3 : decode bCmp5.bs 3 = .ok (.iload 5, 2) := by decide +kernel
theorem bCmp5_d5 : decode bCmp5.bs 5 = .ok (.iload 4, 2) := by decide +kernel
theorem bCmp5_d7 : decode bCmp5.bs 7 = .ok (.if_icmp .ge 37, 3) := by decide +kernel
theorem bCmp5_d10 : decode bCmp5.bs 10 = .ok (.aload_n 0, 1) := by decide +kernel
theorem bCmp5_d11 : decode bCmp5.bs 11 = .ok (.iload_n 1, 1) := by decide +kernel
theorem bCmp5_d12 : decode bCmp5.bs 12 = .ok (.caload, 1) := by decide +kernel
theorem bCmp5_d13 : decode bCmp5.bs 13 = .ok (.istore 6, 2) := by decide +kernel
theorem bCmp5_d15 : decode bCmp5.bs 15 = .ok (.iload 6, 2) := by decide +kernel
theorem bCmp5_d17 : decode bCmp5.bs 17 = .ok (.sipush 255, 3) := by decide +kernel
theorem bCmp5_d20 : decode bCmp5.bs 20 = .ok (.if_icmp .le 6, 3) := by decide +kernel
theorem bCmp5_d23 : decode bCmp5.bs 23 = .ok (.iload 5, 2) := by decide +kernel
theorem bCmp5_d25 : decode bCmp5.bs 25 = .ok (.ireturn, 1) := by decide +kernel
theorem bCmp5_d26 : decode bCmp5.bs 26 = .ok (.aload_n 2, 1) := by decide +kernel
theorem bCmp5_d27 : decode bCmp5.bs 27 = .ok (.iload_n 3, 1) := by decide +kernel
theorem bCmp5_d28 : decode bCmp5.bs 28 = .ok (.iload 6, 2) := by decide +kernel
theorem bCmp5_d30 : decode bCmp5.bs 30 = .ok (.i2b, 1) := by decide +kernel
theorem bCmp5_d31 : decode bCmp5.bs 31 = .ok (.bastore, 1) := by decide +kernel
theorem bCmp5_d32 : decode bCmp5.bs 32 = .ok (.iinc 1 1, 3) := by decide +kernel
theorem bCmp5_d35 : decode bCmp5.bs 35 = .ok (.iinc 3 1, 3) := by decide +kernel
theorem bCmp5_d38 : decode bCmp5.bs 38 = .ok (.iinc 5 1, 3) := by decide +kernel
theorem bCmp5_d41 : decode bCmp5.bs 41 = .ok (.goto (-38), 3) := by decide +kernel
theorem bCmp5_d44 : decode bCmp5.bs 44 = .ok (.iload 4, 2) := by decide +kernel
theorem bCmp5_d46 : decode bCmp5.bs 46 = .ok (.ireturn, 1) := by decide +kernel
theorem bCmp5_pd : parseMethodDescriptor "([CI[BII)I" = some ⟨[(.array .char), .int, (.array .byte), .int, .int], (some .int)⟩ := by decide +kernel
theorem bCmp5_pn : plainName "java/lang/StringUTF16" = true := by first | (simp [plainName, overriddenIn]; done) | decide +kernel
theorem cCmp5 (l : Launch) (Z : State) (a0 : Array Value) (hw : ∀ d ∈ tables_1, d.before a0 Z = true) (n0 : Nat) (hEW : EW Z a0 consts_1) (b d : Addr) (cs : List Int32) (h0 : Heap) (σ : Addr → Prop) (A : Road.Ary Z h0 b .char (cs.map .int)) (Dd : Road.Ary Z h0 d .byte (List.replicate cs.length (.int 0))) (hlat : ∀ c ∈ cs, 0 ≤ c.toInt ∧ c.toInt < 256) (hbd : b ≠ d) (sd : σ d) :
    Road.Con l Z consts_1 n0 false bCmp5 [] σ #[(.ref b), (.int (0 : Int32)), (.ref d), (.int (0 : Int32)), (.int (Nat.toInt32 cs.length))] h0 (fun v h2 _ => v = some (.int (Nat.toInt32 cs.length)) ∧ Keep h0 h2 [d] ∧ Road.Ary Z h2 d .byte (cs.map Road.byt)) := by
  refine Road.Con.of bCmp5_pn hEW #[.val (.ref b), .val (.int (0 : Int32)), .val (.ref d), .val (.int (0 : Int32)), .val (.int (Nat.toInt32 cs.length)), .unset, .unset] (fun m => Road.ent (Road.laid1 rfl (Road.laid1 rfl (Road.laid1 rfl (Road.laid1 rfl (Road.laid1 rfl Road.laid0))))) (k := 2) rfl rfl) ?_
  intro D hD
  have hn : cs.length < 2147483648 := by have := A.small; rwa [List.length_map] at this
  refine Road.iconst 0 (0 : Int32) bCmp5_d0 rfl ?_
  refine Road.istore 1 #[.val (.ref b), .val (.int (0 : Int32)), .val (.ref d), .val (.int (0 : Int32)), .val (.int (Nat.toInt32 cs.length)), .val (.int (0 : Int32)), .unset] bCmp5_d1 rfl ?_
  have loop : ∀ r k, k + r = cs.length → ∀ (h : Heap) (w : Slot), Road.W1 w → Keep h0 h [d] → Road.Ary Z h d .byte ((cs.take k).map Road.byt ++ List.replicate r (.int 0)) → Road.Go l Z a0 consts_1 n0 false bCmp5 D (fun v h2 _ => v = some (.int (Nat.toInt32 cs.length)) ∧ Keep h0 h2 [d] ∧ Road.Ary Z h2 d .byte (cs.map Road.byt)) h σ 0 0 3 #[.val (.ref b), .val (.int (Nat.toInt32 k)), .val (.ref d), .val (.int (Nat.toInt32 k)), .val (.int (Nat.toInt32 cs.length)), .val (.int (Nat.toInt32 k)), w] [] := by
    intro r
    induction r with
    | zero =>
      intro k hk h w hw1 K1 A1
      have hk' : k = cs.length := by omega
      subst hk'
      refine Road.iload 3 bCmp5_d3 rfl ?_
      refine Road.iload 5 bCmp5_d5 rfl ?_
      refine Road.icmp_ge 7 44 bCmp5_d7 rfl (fun hc7 => ?_) (fun q => absurd q Int32.lt_irrefl)
      refine Road.iload 44 bCmp5_d44 rfl ?_
      exact Road.iretI 46 bCmp5_d46 rfl (by decide) (by decide) (fun σ' m => ⟨rfl, K1, by simpa using A1⟩)
    | succ r ih =>
      intro k hk h w hw1 K1 A1
      have hk' : k < cs.length := by omega
      have hc := hlat _ (List.getElem_mem hk')
      have A2 := A.keep K1 (ninS hbd nin0)
      refine Road.iload 3 bCmp5_d3 rfl ?_
      refine Road.iload 5 bCmp5_d5 rfl ?_
      refine Road.icmp_ge 7 44 bCmp5_d7 rfl (fun q => absurd q (by rw [Decidable.not_not, Road.lt32 (by omega) hn]; omega)) (fun hc7 => ?_)
      refine Road.aloadN 10 bCmp5_d10 rfl ?_
      refine Road.iloadN 11 bCmp5_d11 rfl ?_
      refine Road.caload 12 k bCmp5_d12 A2 (Road.n32 (by omega)) (by rw [List.getElem?_map, List.getElem?_eq_getElem hk']; rfl) ?_
      refine Road.istore 13 #[.val (.ref b), .val (.int (Nat.toInt32 k)), .val (.ref d), .val (.int (Nat.toInt32 k)), .val (.int (Nat.toInt32 cs.length)), .val (.int (Nat.toInt32 k)), .val (.int cs[k])] bCmp5_d13 (by rcases hw1 with rfl | ⟨x, rfl⟩ <;> rfl) ?_
      refine Road.iload 15 bCmp5_d15 rfl ?_
      refine Road.sipush 17 (255 : Int32) bCmp5_d17 rfl ?_
      refine Road.icmp_le 20 26 bCmp5_d20 rfl (fun hc20 => ?_) (fun q => absurd q (by rw [Int32.lt_iff_toInt_lt]; have : (255 : Int32).toInt = 255 := rfl; omega))
      refine Road.aloadN 26 bCmp5_d26 rfl ?_
      refine Road.iloadN 27 bCmp5_d27 rfl ?_
      refine Road.iload 28 bCmp5_d28 rfl ?_
      refine Road.i2b 30 bCmp5_d30 ?_
      refine Road.bastore 31 k (Int8.toInt32 (Int32.toInt8 cs[k])) bCmp5_d31 A1 (Road.n32 (by omega)) (by simp; omega) (Road.nar_byte _) sd ?_
      intro h_1 K_2 A_3
      replace A1 := A_3
      refine Road.iinc 32 (1) #[.val (.ref b), .val (.int ((Nat.toInt32 k) + 1)), .val (.ref d), .val (.int (Nat.toInt32 k)), .val (.int (Nat.toInt32 cs.length)), .val (.int (Nat.toInt32 k)), .val (.int cs[k])] bCmp5_d32 rfl rfl rfl ?_
      refine Road.iinc 35 (1) #[.val (.ref b), .val (.int ((Nat.toInt32 k) + 1)), .val (.ref d), .val (.int ((Nat.toInt32 k) + 1)), .val (.int (Nat.toInt32 cs.length)), .val (.int (Nat.toInt32 k)), .val (.int cs[k])] bCmp5_d35 rfl rfl rfl ?_
      refine Road.iinc 38 (1) #[.val (.ref b), .val (.int ((Nat.toInt32 k) + 1)), .val (.ref d), .val (.int ((Nat.toInt32 k) + 1)), .val (.int (Nat.toInt32 cs.length)), .val (.int ((Nat.toInt32 k) + 1)), .val (.int cs[k])] bCmp5_d38 rfl rfl rfl ?_
      refine Road.goto 41 3 bCmp5_d41 rfl ?_
      rw [show (Value.int (Int8.toInt32 (Int32.toInt8 cs[k]))) = Road.byt cs[k] from rfl, Road.set_mid] at A1
      have := ih (k + 1) (by omega) h_1 (.val (.int cs[k])) (Or.inr ⟨_, rfl⟩) (K1.trans K_2 (by simp)) A1
      rw [← Road.succ32] at this
      exact this
  exact loop cs.length 0 (by omega) h0 .unset (Or.inl rfl) (Keep.refl _ _) (by simpa using Dd)
def bCfa : Road.Bdy := (⟨"java/lang/StringUTF16", "coderFromArrayLen", "([BI)B"⟩, jdk_52_method_15_code, 2, (some .byte), { frames := 0, cells := 0, slots := 0, locals := 0 })
theorem bCfa_d0 : decode bCfa.bs 0 = .ok (.iload_n 1, 1) := by decide +kernel
theorem bCfa_d1 : decode bCfa.bs 1 = .ok (.aload_n 0, 1) := by decide +kernel
theorem bCfa_d2 : decode bCfa.bs 2 = .ok (.arraylength, 1) := by decide +kernel
theorem bCfa_d3 : decode bCfa.bs 3 = .ok (.isub, 1) := by decide +kernel
theorem bCfa_d4 : decode bCfa.bs 4 = .ok (.bipush 31, 2) := by decide +kernel
theorem bCfa_d6 : decode bCfa.bs 6 = .ok (.iushr, 1) := by decide +kernel
theorem bCfa_d7 : decode bCfa.bs 7 = .ok (.i2b, 1) := by decide +kernel
theorem bCfa_d8 : decode bCfa.bs 8 = .ok (.ireturn, 1) := by decide +kernel
theorem bCfa_pd : parseMethodDescriptor "([BI)B" = some ⟨[(.array .byte), .int], (some .byte)⟩ := by decide +kernel
theorem bCfa_pn : plainName "java/lang/StringUTF16" = true := by first | (simp [plainName, overriddenIn]; done) | decide +kernel
theorem cCfa (l : Launch) (Z : State) (a0 : Array Value) (hw : ∀ d ∈ tables_1, d.before a0 Z = true) (n0 : Nat) (hEW : EW Z a0 consts_1) (d : Addr) (vs : List Value) (h0 : Heap) (σ : Addr → Prop) (A : Road.Ary Z h0 d .byte vs) :
    Road.Con l Z consts_1 n0 false bCfa [] σ #[(.ref d), (.int (Nat.toInt32 vs.length))] h0 (fun v h2 _ => v = some (.int 0) ∧ h0 = h2) := by
  refine Road.Con.of bCfa_pn hEW #[.val (.ref d), .val (.int (Nat.toInt32 vs.length))] (fun m => Road.ent (Road.laid1 rfl (Road.laid1 rfl Road.laid0)) (k := 0) rfl rfl) ?_
  intro D hD
  refine Road.iloadN 0 bCfa_d0 rfl ?_
  refine Road.aloadN 1 bCfa_d1 rfl ?_
  refine Road.alen 2 (Nat.toInt32 vs.length) bCfa_d2 A (n := vs.length) rfl rfl ?_
  refine Road.isub 3 bCfa_d3 ?_
  refine Road.bipush 4 (31 : Int32) bCfa_d4 rfl ?_
  refine Road.iushr 6 bCfa_d6 ?_
  refine Road.i2b 7 bCfa_d7 ?_
  exact Road.iret 8 0 bCfa_d8 (t := .byte) rfl (by simp) (by rw [Int32.sub_self]; rfl) (by decide) (by decide) (fun σ' m => ⟨rfl, rfl⟩)
def bCmp4 : Road.Bdy := (⟨"java/lang/StringUTF16", "compress", "([CII)[B"⟩, jdk_52_method_16_code, 6, (some (.array .byte)), { frames := 1, cells := 1, slots := 8, locals := 18 })
theorem bCmp4_d0 : decode bCmp4.bs 0 = .ok (.iload_n 2, 1) := by decide +kernel
theorem bCmp4_d1 : decode bCmp4.bs 1 = .ok (.newarray .byte, 2) := by decide +kernel
theorem bCmp4_d3 : decode bCmp4.bs 3 = .ok (.astore_n 3, 1) := by decide +kernel
theorem bCmp4_d4 : decode bCmp4.bs 4 = .ok (.aload_n 0, 1) := by decide +kernel
theorem bCmp4_d5 : decode bCmp4.bs 5 = .ok (.iload_n 1, 1) := by decide +kernel
theorem bCmp4_d6 : decode bCmp4.bs 6 = .ok (.aload_n 3, 1) := by decide +kernel
theorem bCmp4_d7 : decode bCmp4.bs 7 = .ok (.iconst 0, 1) := by decide +kernel
theorem bCmp4_d8 : decode bCmp4.bs 8 = .ok (.iload_n 2, 1) := by decide +kernel
theorem bCmp4_d9 : decode bCmp4.bs 9 = .ok (.invokestatic 115, 3) := by decide +kernel
theorem bCmp4_d12 : decode bCmp4.bs 12 = .ok (.istore 4, 2) := by decide +kernel
theorem bCmp4_d14 : decode bCmp4.bs 14 = .ok (.iload 4, 2) := by decide +kernel
theorem bCmp4_d16 : decode bCmp4.bs 16 = .ok (.iload_n 2, 1) := by decide +kernel
theorem bCmp4_d17 : decode bCmp4.bs 17 = .ok (.if_icmp .eq 40, 3) := by decide +kernel
theorem bCmp4_d20 : decode bCmp4.bs 20 = .ok (.aload_n 0, 1) := by decide +kernel
theorem bCmp4_d21 : decode bCmp4.bs 21 = .ok (.iload_n 1, 1) := by decide +kernel
theorem bCmp4_d22 : decode bCmp4.bs 22 = .ok (.iload_n 2, 1) := by decide +kernel
theorem bCmp4_d23 : decode bCmp4.bs 23 = .ok (.invokestatic 119, 3) := by decide +kernel
theorem bCmp4_d26 : decode bCmp4.bs 26 = .ok (.astore 5, 2) := by decide +kernel
theorem bCmp4_d28 : decode bCmp4.bs 28 = .ok (.aload 5, 2) := by decide +kernel
theorem bCmp4_d30 : decode bCmp4.bs 30 = .ok (.iload 4, 2) := by decide +kernel
theorem bCmp4_d32 : decode bCmp4.bs 32 = .ok (.invokestatic 71, 3) := by decide +kernel
theorem bCmp4_d35 : decode bCmp4.bs 35 = .ok (.sipush 255, 3) := by decide +kernel
theorem bCmp4_d38 : decode bCmp4.bs 38 = .ok (.if_icmp .gt 16, 3) := by decide +kernel
theorem bCmp4_d41 : decode bCmp4.bs 41 = .ok (.aload 5, 2) := by decide +kernel
theorem bCmp4_d43 : decode bCmp4.bs 43 = .ok (.iconst 0, 1) := by decide +kernel
theorem bCmp4_d44 : decode bCmp4.bs 44 = .ok (.aload_n 3, 1) := by decide +kernel
theorem bCmp4_d45 : decode bCmp4.bs 45 = .ok (.iconst 0, 1) := by decide +kernel
theorem bCmp4_d46 : decode bCmp4.bs 46 = .ok (.iload_n 2, 1) := by decide +kernel
theorem bCmp4_d47 : decode bCmp4.bs 47 = .ok (.invokestatic 123, 3) := by decide +kernel
theorem bCmp4_d50 : decode bCmp4.bs 50 = .ok (.iload_n 2, 1) := by decide +kernel
theorem bCmp4_d51 : decode bCmp4.bs 51 = .ok (.if_icmp .eq 6, 3) := by decide +kernel
theorem bCmp4_d54 : decode bCmp4.bs 54 = .ok (.aload 5, 2) := by decide +kernel
theorem bCmp4_d56 : decode bCmp4.bs 56 = .ok (.areturn, 1) := by decide +kernel
theorem bCmp4_d57 : decode bCmp4.bs 57 = .ok (.aload_n 3, 1) := by decide +kernel
theorem bCmp4_d58 : decode bCmp4.bs 58 = .ok (.areturn, 1) := by decide +kernel
theorem bCmp4_pd : parseMethodDescriptor "([CII)[B" = some ⟨[(.array .char), .int, .int], (some (.array .byte))⟩ := by decide +kernel
theorem bCmp4_pn : plainName "java/lang/StringUTF16" = true := by first | (simp [plainName, overriddenIn]; done) | decide +kernel
theorem cCmp4 (l : Launch) (Z : State) (a0 : Array Value) (hw : ∀ d ∈ tables_1, d.before a0 Z = true) (n0 : Nat) (hEW : EW Z a0 consts_1) (b : Addr) (cs : List Int32) (h0 : Heap) (σ : Addr → Prop) (A : Road.Ary Z h0 b .char (cs.map .int)) (hcap : cs.length ≤ 8) (hlat : ∀ c ∈ cs, 0 ≤ c.toInt ∧ c.toInt < 256) :
    Road.Con l Z consts_1 n0 false bCmp4 [] σ #[(.ref b), (.int (0 : Int32)), (.int (Nat.toInt32 cs.length))] h0 (fun v h2 s2 => ∃ d, v = some (.ref d) ∧ h0.size ≤ d ∧ Keep h0 h2 [] ∧ s2 d ∧ Road.Ary Z h2 d .byte (cs.map Road.byt)) := by
  refine Road.Con.of bCmp4_pn hEW #[.val (.ref b), .val (.int (0 : Int32)), .val (.int (Nat.toInt32 cs.length)), .unset, .unset, .unset] (fun m => Road.ent (Road.laid1 rfl (Road.laid1 rfl (Road.laid1 rfl Road.laid0))) (k := 3) rfl rfl) ?_
  intro D hD
  refine Road.iloadN 0 bCmp4_d0 rfl ?_
  refine Road.newarray 1 .byte cs.length 8 bCmp4_d1 rfl (hw _ (List.mem_of_getElem? (i := 19) rfl)) (Road.n32 (by omega)) hcap (by decide) (ce' := 1) (sl' := 8) rfl rfl (by decide) (by decide) ?_
  intro d h_1 σ_2 g_3 K_4 lt_5 m_6 s_7 Ad
  have ne_b_d : b ≠ d := Nat.ne_of_lt (Nat.lt_of_lt_of_le A.lt (Nat.le_of_eq g_3.symm))
  replace A := A.keep K_4 nin0
  refine Road.astoreN 3 #[.val (.ref b), .val (.int (0 : Int32)), .val (.int (Nat.toInt32 cs.length)), .val (.ref d), .unset, .unset] bCmp4_d3 rfl ?_
  refine Road.aloadN 4 bCmp4_d4 rfl ?_
  refine Road.iloadN 5 bCmp4_d5 rfl ?_
  refine Road.aloadN 6 bCmp4_d6 rfl ?_
  refine Road.iconst 7 (0 : Int32) bCmp4_d7 rfl ?_
  refine Road.iloadN 8 bCmp4_d8 rfl ?_
  refine Road.callS (B' := bCmp5) 9 (argsL := [(.ref b), (.int (0 : Int32)), (.ref d), (.int (0 : Int32)), (.int (Nat.toInt32 cs.length))]) (rest := []) 0 bCmp4_d9 (hw _ (List.mem_of_getElem? (i := 71) rfl)) (hw _ (List.mem_of_getElem? (i := 72) rfl)) (hw _ (List.mem_of_getElem? (i := 69) rfl)) (hw _ (List.mem_of_getElem? (i := 73) rfl)) (by decide) (cCmp5 l Z a0 hw n0 hEW b d cs h_1 σ_2 A Ad hlat ne_b_d s_7) (lenOf bCmp5_pd rfl) rfl rfl rfl (by decide) (by decide) (ce' := 1) (sl' := 8) rfl rfl (by decide) (by decide) ?_
  rintro _ h_8 σ_9 m_10 ⟨rfl, K_11, Ad2⟩
  replace A := A.keep K_11 (ninS ne_b_d nin0)
  replace s_7 := m_10 _ s_7
  refine Road.istore 12 #[.val (.ref b), .val (.int (0 : Int32)), .val (.int (Nat.toInt32 cs.length)), .val (.ref d), .val (.int (Nat.toInt32 cs.length)), .unset] bCmp4_d12 rfl ?_
  refine Road.iload 14 bCmp4_d14 rfl ?_
  refine Road.iloadN 16 bCmp4_d16 rfl ?_
  refine Road.icmp_eq 17 57 bCmp4_d17 rfl (fun hc17 => ?_) (fun q => absurd q (by simp))
  refine Road.aloadN 57 bCmp4_d57 rfl ?_
  exact Road.aret 58 bCmp4_d58 (t := (.array .byte)) rfl rfl rfl (by decide) (by decide) (fun σ' m => ⟨d, rfl, Nat.le_of_eq g_3.symm, K_4.trans K_11 (by intro x hx; cases List.mem_singleton.mp hx; exact Or.inr (Nat.le_of_eq g_3.symm)), m _ s_7, Ad2⟩)
def bStr2 : Road.Bdy := (⟨"java/lang/String", "<init>", "([CIILjava/lang/Void;)V"⟩, jdk_42_method_149_code, 6, none, { frames := 2, cells := 4, slots := 8, locals := 39 })
theorem bStr2_d0 : decode bStr2.bs 0 = .ok (.aload_n 0, 1) := by decide +kernel
theorem bStr2_d1 : decode bStr2.bs 1 = .ok (.invokespecial 1, 3) := by decide +kernel
theorem bStr2_d4 : decode bStr2.bs 4 = .ok (.iload_n 3, 1) := by decide +kernel
theorem bStr2_d5 : decode bStr2.bs 5 = .ok (.ifCond .ne 22, 3) := by decide +kernel
theorem bStr2_d8 : decode bStr2.bs 8 = .ok (.aload_n 0, 1) := by decide +kernel
theorem bStr2_d9 : decode bStr2.bs 9 = .ok (.ldc 7, 2) := by decide +kernel
theorem bStr2_d11 : decode bStr2.bs 11 = .ok (.getfield 9, 3) := by decide +kernel
theorem bStr2_d14 : decode bStr2.bs 14 = .ok (.putfield 9, 3) := by decide +kernel
theorem bStr2_d17 : decode bStr2.bs 17 = .ok (.aload_n 0, 1) := by decide +kernel
theorem bStr2_d18 : decode bStr2.bs 18 = .ok (.ldc 7, 2) := by decide +kernel
theorem bStr2_d20 : decode bStr2.bs 20 = .ok (.getfield 15, 3) := by decide +kernel
theorem bStr2_d23 : decode bStr2.bs 23 = .ok (.putfield 15, 3) := by decide +kernel
theorem bStr2_d26 : decode bStr2.bs 26 = .ok (.return_, 1) := by decide +kernel
theorem bStr2_d27 : decode bStr2.bs 27 = .ok (.getstatic 38, 3) := by decide +kernel
theorem bStr2_d30 : decode bStr2.bs 30 = .ok (.ifCond .eq 28, 3) := by decide +kernel
theorem bStr2_d33 : decode bStr2.bs 33 = .ok (.aload_n 1, 1) := by decide +kernel
theorem bStr2_d34 : decode bStr2.bs 34 = .ok (.iload_n 2, 1) := by decide +kernel
theorem bStr2_d35 : decode bStr2.bs 35 = .ok (.iload_n 3, 1) := by decide +kernel
theorem bStr2_d36 : decode bStr2.bs 36 = .ok (.invokestatic 177, 3) := by decide +kernel
theorem bStr2_d39 : decode bStr2.bs 39 = .ok (.astore 5, 2) := by decide +kernel
theorem bStr2_d41 : decode bStr2.bs 41 = .ok (.aload_n 0, 1) := by decide +kernel
theorem bStr2_d42 : decode bStr2.bs 42 = .ok (.aload 5, 2) := by decide +kernel
theorem bStr2_d44 : decode bStr2.bs 44 = .ok (.iload_n 3, 1) := by decide +kernel
theorem bStr2_d45 : decode bStr2.bs 45 = .ok (.invokestatic 47, 3) := by decide +kernel
theorem bStr2_d48 : decode bStr2.bs 48 = .ok (.putfield 15, 3) := by decide +kernel
theorem bStr2_d51 : decode bStr2.bs 51 = .ok (.aload_n 0, 1) := by decide +kernel
theorem bStr2_d52 : decode bStr2.bs 52 = .ok (.aload 5, 2) := by decide +kernel
theorem bStr2_d54 : decode bStr2.bs 54 = .ok (.putfield 9, 3) := by decide +kernel
theorem bStr2_d57 : decode bStr2.bs 57 = .ok (.return_, 1) := by decide +kernel
theorem bStr2_d58 : decode bStr2.bs 58 = .ok (.aload_n 0, 1) := by decide +kernel
theorem bStr2_d59 : decode bStr2.bs 59 = .ok (.iconst 1, 1) := by decide +kernel
theorem bStr2_d60 : decode bStr2.bs 60 = .ok (.putfield 15, 3) := by decide +kernel
theorem bStr2_d63 : decode bStr2.bs 63 = .ok (.aload_n 0, 1) := by decide +kernel
theorem bStr2_d64 : decode bStr2.bs 64 = .ok (.aload_n 1, 1) := by decide +kernel
theorem bStr2_d65 : decode bStr2.bs 65 = .ok (.iload_n 2, 1) := by decide +kernel
theorem bStr2_d66 : decode bStr2.bs 66 = .ok (.iload_n 3, 1) := by decide +kernel
theorem bStr2_d67 : decode bStr2.bs 67 = .ok (.invokestatic 180, 3) := by decide +kernel
theorem bStr2_d70 : decode bStr2.bs 70 = .ok (.putfield 9, 3) := by decide +kernel
theorem bStr2_d73 : decode bStr2.bs 73 = .ok (.return_, 1) := by decide +kernel
theorem bStr2_pd : parseMethodDescriptor "([CIILjava/lang/Void;)V" = some ⟨[(.array .char), .int, .int, (.object "java/lang/Void")], none⟩ := by decide +kernel
theorem bStr2_pn : plainName "java/lang/String" = true := by first | (simp [plainName, overriddenIn]; done) | decide +kernel
theorem cStr2 (l : Launch) (Z : State) (a0 : Array Value) (hw : ∀ d ∈ tables_1, d.before a0 Z = true) (n0 : Nat) (hEW : EW Z a0 consts_1) (a b : Addr) (cs : List Int32) (h0 : Heap) (σ : Addr → Prop) (E : Exa Z h0 a Road.SN) (Fc : Fld Z h0 a Road.SN "coder" "B" (.int 0)) (Fv : Fld Z h0 a Road.SN "value" "[B" .null) (A : Road.Ary Z h0 b .char (cs.map .int)) (hcap : cs.length ≤ 8) (hlat : ∀ c ∈ cs, 0 ≤ c.toInt ∧ c.toInt < 256) (sa : σ a) (cp : Int32) (Hc : Sta Z Z.heap Road.SN "COMPACT_STRINGS" "Z" (.int cp)) (hcp : ¬ cp = 0) :
    Road.Con l Z consts_1 n0 false bStr2 [] σ #[(.ref a), (.ref b), (.int (0 : Int32)), (.int (Nat.toInt32 cs.length)), .null] h0 (fun v h2 s2 => v = none ∧ Keep h0 h2 [a] ∧ ∃ d, Road.Str Z h2 a d cs ∧ ∀ x, σ x → x ≠ d) := by
  have wS : ∀ d ∈ Bundle.stringAtoms, d.before a0 Z = true := fun d hd => hw d ((by decide +kernel : ∀ d ∈ Bundle.stringAtoms, d ∈ tables_1) d hd)
  have nab : a ≠ b := by obtain ⟨c, Ar, -⟩ := A; exact ne_arr E (hw _ (List.mem_of_getElem? (i := 5) rfl)) Ar
  refine Road.Con.of bStr2_pn hEW #[.val (.ref a), .val (.ref b), .val (.int (0 : Int32)), .val (.int (Nat.toInt32 cs.length)), .val .null, .unset] (fun m => Road.ent (Road.laid1 rfl (Road.laid1 rfl (Road.laid1 rfl (Road.laid1 rfl (Road.laid1 rfl Road.laid0))))) (k := 1) rfl rfl) ?_
  intro D hD
  refine Road.Go.ownAll ?_
  intro hall
  refine Road.aloadN 0 bStr2_d0 rfl ?_
  refine Road.initObj 1 bStr2_d1 (hw _ (List.mem_of_getElem? (i := 15) rfl)) (hw _ (List.mem_of_getElem? (i := 16) rfl)) (hw _ (List.mem_of_getElem? (i := 17) rfl)) 0 rfl rfl (by decide) (by decide) ?_
  refine Road.iloadN 4 bStr2_d4 rfl ?_
  refine Road.if_ne 5 27 bStr2_d5 rfl (fun hc5 => ?_) (fun hc5 => ?_)
  · skip
    refine Road.getstatic 27 bStr2_d27 (hw _ (List.mem_of_getElem? (i := 55) rfl)) Via.refl Hc ?_
    refine Road.if_eq 30 58 bStr2_d30 rfl (fun q => absurd q hcp) (fun hc30 => ?_)
    refine Road.aloadN 33 bStr2_d33 rfl ?_
    refine Road.iloadN 34 bStr2_d34 rfl ?_
    refine Road.iloadN 35 bStr2_d35 rfl ?_
    refine Road.callS (B' := bCmp4) 36 (argsL := [(.ref b), (.int (0 : Int32)), (.int (Nat.toInt32 cs.length))]) (rest := []) 0 bStr2_d36 (hw _ (List.mem_of_getElem? (i := 67) rfl)) (hw _ (List.mem_of_getElem? (i := 68) rfl)) (hw _ (List.mem_of_getElem? (i := 69) rfl)) (hw _ (List.mem_of_getElem? (i := 70) rfl)) (by decide) (cCmp4 l Z a0 hw n0 hEW b cs h0 σ A hcap hlat) (lenOf bCmp4_pd rfl) rfl rfl rfl (by decide) (by decide) (ce' := 1) (sl' := 8) rfl rfl (by decide) (by decide) ?_
    rintro _ h_1 σ_2 m_3 ⟨d, rfl, gd, K_4, sd, Ad⟩
    have ne_a_d : a ≠ d := Nat.ne_of_lt (Nat.lt_of_lt_of_le E.lt gd)
    have ne_b_d : b ≠ d := Nat.ne_of_lt (Nat.lt_of_lt_of_le A.lt gd)
    replace E := E.keep K_4
    replace Fc := Fc.keep K_4 nin0
    replace Fv := Fv.keep K_4 nin0
    replace A := A.keep K_4 nin0
    replace sa := m_3 _ sa
    refine Road.astore 39 #[.val (.ref a), .val (.ref b), .val (.int (0 : Int32)), .val (.int (Nat.toInt32 cs.length)), .val .null, .val (.ref d)] bStr2_d39 rfl ?_
    refine Road.aloadN 41 bStr2_d41 rfl ?_
    refine Road.aload 42 bStr2_d42 rfl ?_
    refine Road.iloadN 44 bStr2_d44 rfl ?_
    have hlm : (cs.map Road.byt).length = cs.length := List.length_map _
    refine Road.callS (B' := bCfa) 45 (argsL := [(.ref d), (.int (Nat.toInt32 cs.length))]) (rest := [(.ref a)]) 1 bStr2_d45 (hw _ (List.mem_of_getElem? (i := 74) rfl)) (hw _ (List.mem_of_getElem? (i := 75) rfl)) (hw _ (List.mem_of_getElem? (i := 69) rfl)) (hw _ (List.mem_of_getElem? (i := 76) rfl)) (by decide) (by rw [← List.length_map (f := Road.byt) (as := cs)]; exact cCfa l Z a0 hw n0 hEW d (cs.map Road.byt) h_1 σ_2 Ad) (lenOf bCfa_pd rfl) rfl rfl rfl (by decide) (by decide) (ce' := 1) (sl' := 8) rfl rfl (by decide) (by decide) ?_
    rintro _ h_5 σ_6 m_7 ⟨rfl, rfl⟩
    refine Road.Go.weaken (σ' := σ_2) m_7 (Nat.le_refl _) (Nat.le_refl _) ?_
    refine Road.putfield 48 bStr2_d48 (hw _ (List.mem_of_getElem? (i := 25) rfl)) Via.refl Fc E (Or.inr ⟨(hw _ (List.mem_of_getElem? (i := 21) rfl)), rfl, rfl⟩) (hw _ (List.mem_of_getElem? (i := 5) rfl)) (ty := .byte) (by decide) rfl rfl sa ?_
    intro h_11 W_9 K_10
    replace Fc := Fc.same W_9
    replace Fv := Fv.other W_9 (Or.inr (slot_ne (Or.inr (hw _ (List.mem_of_getElem? (i := 20) rfl))) (Or.inr (hw _ (List.mem_of_getElem? (i := 21) rfl))) (by decide) (t := (.array .byte)) (by decide) (t' := .byte) (by decide)))
    replace E := E.keep K_10
    replace A := A.keep K_10 (ninS (Ne.symm nab) nin0)
    replace Ad := Ad.keep K_10 (ninS (Ne.symm ne_a_d) nin0)
    refine Road.aloadN 51 bStr2_d51 rfl ?_
    refine Road.aload 52 bStr2_d52 rfl ?_
    refine Road.putfield 54 bStr2_d54 (hw _ (List.mem_of_getElem? (i := 24) rfl)) Via.refl Fv E (Or.inr ⟨(hw _ (List.mem_of_getElem? (i := 20) rfl)), rfl, rfl⟩) (hw _ (List.mem_of_getElem? (i := 5) rfl)) (ty := (.array .byte)) (by decide) rfl rfl sa ?_
    intro h_14 W_12 K_13
    replace Fv := Fv.same W_12
    replace Fc := Fc.other W_12 (Or.inr (slot_ne (Or.inr (hw _ (List.mem_of_getElem? (i := 21) rfl))) (Or.inr (hw _ (List.mem_of_getElem? (i := 20) rfl))) (by decide) (t := .byte) (by decide) (t' := (.array .byte)) (by decide)))
    replace E := E.keep K_13
    replace A := A.keep K_13 (ninS (Ne.symm nab) nin0)
    replace Ad := Ad.keep K_13 (ninS (Ne.symm ne_a_d) nin0)
    exact Road.ret 57 bStr2_d57 rfl (by decide) (by decide) (fun σ' m => ⟨rfl, ((Road.keep_more K_4).trans K_10 (by simp)).trans K_13 (by simp), d, ⟨E, Fc, Fv, Ad, hlat⟩, fun x hx => Nat.ne_of_lt (Nat.lt_of_lt_of_le (hall x hx).2 gd)⟩)
  · skip
    have hc0 : cs = [] := List.eq_nil_of_length_eq_zero (by have := (Road.eq32 (i := cs.length) (j := 0) (by omega) (by omega)).mp hc5; exact this)
    subst hc0
    refine Road.aloadN 8 bStr2_d8 rfl ?_
    refine Road.ldcS 9 "" [] 0 bStr2_d9 (hw _ (List.mem_of_getElem? (i := 18) rfl)) wS (List.mem_of_getElem? (i := 0) rfl) (by decide) (by decide +kernel) (by decide) (by decide) (by decide) (ce' := 2) (sl' := 4) rfl rfl (by decide) (by decide) ?_
    intro a1 b1 h_15 σ_16 K_17 m_18 S1 q_19
    replace E := E.keep K_17
    replace Fc := Fc.keep K_17 nin0
    replace Fv := Fv.keep K_17 nin0
    replace A := A.keep K_17 nin0
    replace sa := m_18 _ sa
    have ne_a_a1 : a ≠ a1 := (q_19 a sa).1
    have ne_a_b1 : a ≠ b1 := (q_19 a sa).2
    refine Road.getfield 11 bStr2_d11 (hw _ (List.mem_of_getElem? (i := 24) rfl)) Via.refl S1.2.2.1 ?_
    refine Road.putfield 14 bStr2_d14 (hw _ (List.mem_of_getElem? (i := 24) rfl)) Via.refl Fv E (Or.inr ⟨(hw _ (List.mem_of_getElem? (i := 20) rfl)), rfl, rfl⟩) (hw _ (List.mem_of_getElem? (i := 5) rfl)) (ty := (.array .byte)) (by decide) rfl rfl sa ?_
    intro h_22 W_20 K_21
    replace Fv := Fv.same W_20
    replace Fc := Fc.other W_20 (Or.inr (slot_ne (Or.inr (hw _ (List.mem_of_getElem? (i := 21) rfl))) (Or.inr (hw _ (List.mem_of_getElem? (i := 20) rfl))) (by decide) (t := .byte) (by decide) (t' := (.array .byte)) (by decide)))
    replace E := E.keep K_21
    replace A := A.keep K_21 (ninS (Ne.symm nab) nin0)
    replace S1 := S1.keep K_21 (ninS (Ne.symm ne_a_a1) nin0) (ninS (Ne.symm ne_a_b1) nin0)
    refine Road.aloadN 17 bStr2_d17 rfl ?_
    refine Road.ldcS 18 "" [] 0 bStr2_d18 (hw _ (List.mem_of_getElem? (i := 18) rfl)) wS (List.mem_of_getElem? (i := 0) rfl) (by decide) (by decide +kernel) (by decide) (by decide) (by decide) (ce' := 4) (sl' := 8) rfl rfl (by decide) (by decide) ?_
    intro a2 b2 h_23 σ_24 K_25 m_26 S2 q_27
    replace E := E.keep K_25
    replace Fc := Fc.keep K_25 nin0
    replace Fv := Fv.keep K_25 nin0
    replace A := A.keep K_25 nin0
    replace S1 := S1.keep K_25 nin0 nin0
    replace sa := m_26 _ sa
    have ne_a_a2 : a ≠ a2 := (q_27 a sa).1
    have ne_a_b2 : a ≠ b2 := (q_27 a sa).2
    refine Road.getfield 20 bStr2_d20 (hw _ (List.mem_of_getElem? (i := 25) rfl)) Via.refl S2.2.1 ?_
    refine Road.putfield 23 bStr2_d23 (hw _ (List.mem_of_getElem? (i := 25) rfl)) Via.refl Fc E (Or.inr ⟨(hw _ (List.mem_of_getElem? (i := 21) rfl)), rfl, rfl⟩) (hw _ (List.mem_of_getElem? (i := 5) rfl)) (ty := .byte) (by decide) rfl rfl sa ?_
    intro h_30 W_28 K_29
    replace Fc := Fc.same W_28
    replace Fv := Fv.other W_28 (Or.inr (slot_ne (Or.inr (hw _ (List.mem_of_getElem? (i := 20) rfl))) (Or.inr (hw _ (List.mem_of_getElem? (i := 21) rfl))) (by decide) (t := (.array .byte)) (by decide) (t' := .byte) (by decide)))
    replace E := E.keep K_29
    replace A := A.keep K_29 (ninS (Ne.symm nab) nin0)
    replace S1 := S1.keep K_29 (ninS (Ne.symm ne_a_a1) nin0) (ninS (Ne.symm ne_a_b1) nin0)
    replace S2 := S2.keep K_29 (ninS (Ne.symm ne_a_a2) nin0) (ninS (Ne.symm ne_a_b2) nin0)
    exact Road.ret 26 bStr2_d26 rfl (by decide) (by decide) (fun σ' m => ⟨rfl, (((((Road.keep_more K_17).trans K_21 (by simp)).trans K_25 (by simp)).trans K_29 (by simp))), b1, ⟨E, Fc, Fv, S1.2.2.2.1, S1.2.2.2.2⟩, fun x hx => (q_19 x (m_18 x hx)).2⟩)
def bStr1 : Road.Bdy := (⟨"java/lang/String", "<init>", "([C)V"⟩, jdk_42_method_3_code, 2, none, { frames := 3, cells := 4, slots := 8, locals := 56 })
theorem bStr1_d0 : decode bStr1.bs 0 = .ok (.aload_n 0, 1) := by decide +kernel
theorem bStr1_d1 : decode bStr1.bs 1 = .ok (.aload_n 1, 1) := by decide +kernel
theorem bStr1_d2 : decode bStr1.bs 2 = .ok (.iconst 0, 1) := by decide +kernel
theorem bStr1_d3 : decode bStr1.bs 3 = .ok (.aload_n 1, 1) := by decide +kernel
theorem bStr1_d4 : decode bStr1.bs 4 = .ok (.arraylength, 1) := by decide +kernel
theorem bStr1_d5 : decode bStr1.bs 5 = .ok (.aconst_null, 1) := by decide +kernel
theorem bStr1_d6 : decode bStr1.bs 6 = .ok (.invokespecial 27, 3) := by decide +kernel
theorem bStr1_d9 : decode bStr1.bs 9 = .ok (.return_, 1) := by decide +kernel
theorem bStr1_pd : parseMethodDescriptor "([C)V" = some ⟨[(.array .char)], none⟩ := by decide +kernel
theorem bStr1_pn : plainName "java/lang/String" = true := by first | (simp [plainName, overriddenIn]; done) | decide +kernel
theorem cStr1 (l : Launch) (Z : State) (a0 : Array Value) (hw : ∀ d ∈ tables_1, d.before a0 Z = true) (n0 : Nat) (hEW : EW Z a0 consts_1) (a b : Addr) (cs : List Int32) (h0 : Heap) (σ : Addr → Prop) (E : Exa Z h0 a Road.SN) (Fc : Fld Z h0 a Road.SN "coder" "B" (.int 0)) (Fv : Fld Z h0 a Road.SN "value" "[B" .null) (A : Road.Ary Z h0 b .char (cs.map .int)) (hcap : cs.length ≤ 8) (hlat : ∀ c ∈ cs, 0 ≤ c.toInt ∧ c.toInt < 256) (sa : σ a) (cp : Int32) (Hc : Sta Z Z.heap Road.SN "COMPACT_STRINGS" "Z" (.int cp)) (hcp : ¬ cp = 0) :
    Road.Con l Z consts_1 n0 false bStr1 [] σ #[(.ref a), (.ref b)] h0 (fun v h2 s2 => v = none ∧ Keep h0 h2 [a] ∧ ∃ d, Road.Str Z h2 a d cs ∧ ∀ x, σ x → x ≠ d) := by
  refine Road.Con.of bStr1_pn hEW #[.val (.ref a), .val (.ref b)] (fun m => Road.ent (Road.laid1 rfl (Road.laid1 rfl Road.laid0)) (k := 0) rfl rfl) ?_
  intro D hD
  refine Road.aloadN 0 bStr1_d0 rfl ?_
  refine Road.aloadN 1 bStr1_d1 rfl ?_
  refine Road.iconst 2 (0 : Int32) bStr1_d2 rfl ?_
  refine Road.aloadN 3 bStr1_d3 rfl ?_
  refine Road.alen 4 (Nat.toInt32 cs.length) bStr1_d4 A (n := cs.length) (List.length_map _) rfl ?_
  refine Road.aconstNull 5 bStr1_d5 ?_
  refine Road.callI (B' := bStr2) (a := a) 6 (argsL := [(.ref b), (.int (0 : Int32)), (.int (Nat.toInt32 cs.length)), .null]) (rest := []) 0 bStr1_d6 (hw _ (List.mem_of_getElem? (i := 11) rfl)) (hw _ (List.mem_of_getElem? (i := 12) rfl)) (hw _ (List.mem_of_getElem? (i := 6) rfl)) (hw _ (List.mem_of_getElem? (i := 14) rfl)) rfl rfl (by decide) (cStr2 l Z a0 hw n0 hEW a b cs h0 σ E Fc Fv A hcap hlat sa cp Hc hcp) (lenOf bStr2_pd rfl) rfl rfl rfl (by decide) (by decide) (ce' := 4) (sl' := 8) rfl rfl (by decide) (by decide) ?_
  rintro _ h_1 σ_2 m_3 ⟨rfl, K_4, d, S, hd⟩
  exact Road.ret 9 bStr1_d9 rfl (by decide) (by decide) (fun σ' m => ⟨rfl, K_4, d, S, hd⟩)
def bLeq : Road.Bdy := (⟨"java/lang/StringLatin1", "equals", "([B[B)Z"⟩, jdk_43_method_13_code, 3, (some .boolean), { frames := 0, cells := 0, slots := 0, locals := 0 })
theorem bLeq_d0 : decode bLeq.bs 0 = .ok (.aload_n 0, 1) := by decide +kernel
theorem bLeq_d1 : decode bLeq.bs 1 = .ok (.arraylength, 1) := by decide +kernel
theorem bLeq_d2 : decode bLeq.bs 2 = .ok (.aload_n 1, 1) := by decide +kernel
theorem bLeq_d3 : decode bLeq.bs 3 = .ok (.arraylength, 1) := by decide +kernel
theorem bLeq_d4 : decode bLeq.bs 4 = .ok (.if_icmp .ne 30, 3) := by decide +kernel
theorem bLeq_d7 : decode bLeq.bs 7 = .ok (.iconst 0, 1) := by decide +kernel
theorem bLeq_d8 : decode bLeq.bs 8 = .ok (.istore_n 2, 1) := by decide +kernel
theorem bLeq_d9 : decode bLeq.bs 9 = .ok (.iload_n 2, 1) := by decide +kernel
theorem bLeq_d10 : decode bLeq.bs 10 = .ok (.aload_n 0, 1) := by decide +kernel
theorem bLeq_d11 : decode bLeq.bs 11 = .ok (.arraylength, 1) := by decide +kernel
theorem bLeq_d12 : decode bLeq.bs 12 = .ok (.if_icmp .ge 20, 3) := by decide +kernel
theorem bLeq_d15 : decode bLeq.bs 15 = .ok (.aload_n 0, 1) := by decide +kernel
theorem bLeq_d16 : decode bLeq.bs 16 = .ok (.iload_n 2, 1) := by decide +kernel
theorem bLeq_d17 : decode bLeq.bs 17 = .ok (.baload, 1) := by decide +kernel
theorem bLeq_d18 : decode bLeq.bs 18 = .ok (.aload_n 1, 1) := by decide +kernel
theorem bLeq_d19 : decode bLeq.bs 19 = .ok (.iload_n 2, 1) := by decide +kernel
theorem bLeq_d20 : decode bLeq.bs 20 = .ok (.baload, 1) := by decide +kernel
theorem bLeq_d21 : decode bLeq.bs 21 = .ok (.if_icmp .eq 5, 3) := by decide +kernel
theorem bLeq_d24 : decode bLeq.bs 24 = .ok (.iconst 0, 1) := by decide +kernel
theorem bLeq_d25 : decode bLeq.bs 25 = .ok (.ireturn, 1) := by decide +kernel
theorem bLeq_d26 : decode bLeq.bs 26 = .ok (.iinc 2 1, 3) := by decide +kernel
theorem bLeq_d29 : decode bLeq.bs 29 = .ok (.goto (-20), 3) := by decide +kernel
theorem bLeq_d32 : decode bLeq.bs 32 = .ok (.iconst 1, 1) := by decide +kernel
theorem bLeq_d33 : decode bLeq.bs 33 = .ok (.ireturn, 1) := by decide +kernel
theorem bLeq_d34 : decode bLeq.bs 34 = .ok (.iconst 0, 1) := by decide +kernel
theorem bLeq_d35 : decode bLeq.bs 35 = .ok (.ireturn, 1) := by decide +kernel
theorem bLeq_pd : parseMethodDescriptor "([B[B)Z" = some ⟨[(.array .byte), (.array .byte)], (some .boolean)⟩ := by decide +kernel
theorem bLeq_pn : plainName "java/lang/StringLatin1" = true := by first | (simp [plainName, overriddenIn]; done) | decide +kernel
theorem cLeq (l : Launch) (Z : State) (a0 : Array Value) (hw : ∀ d ∈ tables_1, d.before a0 Z = true) (n0 : Nat) (hEW : EW Z a0 consts_1) (a b : Addr) (xs ys : List Int32) (h0 : Heap) (σ : Addr → Prop) (A : Road.Ary Z h0 a .byte (xs.map .int)) (A' : Road.Ary Z h0 b .byte (ys.map .int)) :
    Road.Con l Z consts_1 n0 false bLeq [] σ #[(.ref a), (.ref b)] h0 (fun v h2 _ => v = some (.int (if xs = ys then 1 else 0)) ∧ h0 = h2) := by
  refine Road.Con.of bLeq_pn hEW #[.val (.ref a), .val (.ref b), .unset] (fun m => Road.ent (Road.laid1 rfl (Road.laid1 rfl Road.laid0)) (k := 1) rfl rfl) ?_
  intro D hD
  have hx : xs.length < 2147483648 := by have := A.small; rwa [List.length_map] at this
  have hy : ys.length < 2147483648 := by have := A'.small; rwa [List.length_map] at this
  refine Road.aloadN 0 bLeq_d0 rfl ?_
  refine Road.alen 1 (Nat.toInt32 xs.length) bLeq_d1 A (n := xs.length) (List.length_map _) rfl ?_
  refine Road.aloadN 2 bLeq_d2 rfl ?_
  refine Road.alen 3 (Nat.toInt32 ys.length) bLeq_d3 A' (n := ys.length) (List.length_map _) rfl ?_
  refine Road.icmp_ne 4 34 bLeq_d4 rfl (fun hc4 => ?_) (fun hc4 => ?_)
  · skip
    refine Road.iconst 34 (0 : Int32) bLeq_d34 rfl ?_
    exact Road.iret 35 0 bLeq_d35 (t := .boolean) rfl (by simp) rfl (by decide) (by decide) (fun σ' m => ⟨by rw [if_neg (fun q => hc4 (by rw [q]))], rfl⟩)
  · skip
    have hl : xs.length = ys.length := (Road.eq32 hx hy).mp hc4
    refine Road.iconst 7 (0 : Int32) bLeq_d7 rfl ?_
    refine Road.istoreN 8 #[.val (.ref a), .val (.ref b), .val (.int (0 : Int32))] bLeq_d8 rfl ?_
    have loop : ∀ r k, k + r = xs.length → xs.take k = ys.take k → Road.Go l Z a0 consts_1 n0 false bLeq D (fun v h2 _ => v = some (.int (if xs = ys then 1 else 0)) ∧ h0 = h2) h0 σ 0 0 9 #[.val (.ref a), .val (.ref b), .val (.int (Nat.toInt32 k))] [] := by
      intro r
      induction r with
      | zero =>
        intro k hk ht
        have hk' : k = xs.length := by omega
        subst hk'
        refine Road.iloadN 9 bLeq_d9 rfl ?_
        refine Road.aloadN 10 bLeq_d10 rfl ?_
        refine Road.alen 11 (Nat.toInt32 xs.length) bLeq_d11 A (n := xs.length) (List.length_map _) rfl ?_
        refine Road.icmp_ge 12 32 bLeq_d12 rfl (fun hc12 => ?_) (fun q => absurd q Int32.lt_irrefl)
        refine Road.iconst 32 (1 : Int32) bLeq_d32 rfl ?_
        have he : xs = ys := by rw [List.take_of_length_le (Nat.le_refl _), List.take_of_length_le (by omega)] at ht; exact ht
        exact Road.iret 33 1 bLeq_d33 (t := .boolean) rfl (by simp) rfl (by decide) (by decide) (fun σ' m => ⟨by rw [if_pos he], rfl⟩)
      | succ r ih =>
        intro k hk ht
        have hk1 : k < xs.length := by omega
        have hk2 : k < ys.length := by omega
        refine Road.iloadN 9 bLeq_d9 rfl ?_
        refine Road.aloadN 10 bLeq_d10 rfl ?_
        refine Road.alen 11 (Nat.toInt32 xs.length) bLeq_d11 A (n := xs.length) (List.length_map _) rfl ?_
        refine Road.icmp_ge 12 32 bLeq_d12 rfl (fun q => absurd q (by rw [Decidable.not_not, Road.lt32 (by omega) hx]; omega)) (fun hc12 => ?_)
        refine Road.aloadN 15 bLeq_d15 rfl ?_
        refine Road.iloadN 16 bLeq_d16 rfl ?_
        refine Road.baload 17 k bLeq_d17 A (Road.n32 (by omega)) (by rw [List.getElem?_map, List.getElem?_eq_getElem hk1]; rfl) ?_
        refine Road.aloadN 18 bLeq_d18 rfl ?_
        refine Road.iloadN 19 bLeq_d19 rfl ?_
        refine Road.baload 20 k bLeq_d20 A' (Road.n32 (by omega)) (by rw [List.getElem?_map, List.getElem?_eq_getElem hk2]; rfl) ?_
        refine Road.icmp_eq 21 26 bLeq_d21 rfl (fun hc21 => ?_) (fun hc21 => ?_)
        · skip
          refine Road.iinc 26 (1) #[.val (.ref a), .val (.ref b), .val (.int ((Nat.toInt32 k) + 1))] bLeq_d26 rfl rfl rfl ?_
          refine Road.goto 29 9 bLeq_d29 rfl ?_
          have := ih (k + 1) (by omega) (Road.take_ext hk1 hk2 ht hc21)
          rw [← Road.succ32] at this
          exact this
        · skip
          refine Road.iconst 24 (0 : Int32) bLeq_d24 rfl ?_
          exact Road.iret 25 0 bLeq_d25 (t := .boolean) rfl (by simp) rfl (by decide) (by decide) (fun σ' m => ⟨by rw [if_neg (by rintro rfl; exact hc21 rfl)], rfl⟩)
    exact loop xs.length 0 (by omega) rfl
def bEq : Road.Bdy := (⟨"java/lang/String", "equals", "(Ljava/lang/Object;)Z"⟩, jdk_42_method_66_code, 3, (some .boolean), { frames := 1, cells := 0, slots := 0, locals := 14 })
theorem bEq_d0 : decode bEq.bs 0 = .ok (.aload_n 0, 1) := by decide +kernel
theorem bEq_d1 : decode bEq.bs 1 = .ok (.aload_n 1, 1) := by decide +kernel
theorem bEq_d2 : decode bEq.bs 2 = .ok (.if_acmp .ne 5, 3) := by decide +kernel
theorem bEq_d5 : decode bEq.bs 5 = .ok (.iconst 1, 1) := by decide +kernel
theorem bEq_d6 : decode bEq.bs 6 = .ok (.ireturn, 1) := by decide +kernel
theorem bEq_d7 : decode bEq.bs 7 = .ok (.aload_n 1, 1) := by decide +kernel
theorem bEq_d8 : decode bEq.bs 8 = .ok (.instanceof 10, 3) := by decide +kernel
theorem bEq_d11 : decode bEq.bs 11 = .ok (.ifCond .eq 43, 3) := by decide +kernel
theorem bEq_d14 : decode bEq.bs 14 = .ok (.aload_n 1, 1) := by decide +kernel
theorem bEq_d15 : decode bEq.bs 15 = .ok (.checkcast 10, 3) := by decide +kernel
theorem bEq_d18 : decode bEq.bs 18 = .ok (.astore_n 2, 1) := by decide +kernel
theorem bEq_d19 : decode bEq.bs 19 = .ok (.getstatic 38, 3) := by decide +kernel
theorem bEq_d22 : decode bEq.bs 22 = .ok (.ifCond .eq 14, 3) := by decide +kernel
theorem bEq_d25 : decode bEq.bs 25 = .ok (.aload_n 0, 1) := by decide +kernel
theorem bEq_d26 : decode bEq.bs 26 = .ok (.getfield 15, 3) := by decide +kernel
theorem bEq_d29 : decode bEq.bs 29 = .ok (.aload_n 2, 1) := by decide +kernel
theorem bEq_d30 : decode bEq.bs 30 = .ok (.getfield 15, 3) := by decide +kernel
theorem bEq_d33 : decode bEq.bs 33 = .ok (.if_icmp .ne 21, 3) := by decide +kernel
theorem bEq_d36 : decode bEq.bs 36 = .ok (.aload_n 0, 1) := by decide +kernel
theorem bEq_d37 : decode bEq.bs 37 = .ok (.getfield 9, 3) := by decide +kernel
theorem bEq_d40 : decode bEq.bs 40 = .ok (.aload_n 2, 1) := by decide +kernel
theorem bEq_d41 : decode bEq.bs 41 = .ok (.getfield 9, 3) := by decide +kernel
theorem bEq_d44 : decode bEq.bs 44 = .ok (.invokestatic 541, 3) := by decide +kernel
theorem bEq_d47 : decode bEq.bs 47 = .ok (.ifCond .eq 7, 3) := by decide +kernel
theorem bEq_d50 : decode bEq.bs 50 = .ok (.iconst 1, 1) := by decide +kernel
theorem bEq_d51 : decode bEq.bs 51 = .ok (.goto 4, 3) := by decide +kernel
theorem bEq_d54 : decode bEq.bs 54 = .ok (.iconst 0, 1) := by decide +kernel
theorem bEq_d55 : decode bEq.bs 55 = .ok (.ireturn, 1) := by decide +kernel
theorem bEq_pd : parseMethodDescriptor "(Ljava/lang/Object;)Z" = some ⟨[(.object "java/lang/Object")], (some .boolean)⟩ := by decide +kernel
theorem bEq_pn : plainName "java/lang/String" = true := by first | (simp [plainName, overriddenIn]; done) | decide +kernel
theorem cEq (l : Launch) (Z : State) (a0 : Array Value) (hw : ∀ d ∈ tables_1, d.before a0 Z = true) (n0 : Nat) (hEW : EW Z a0 consts_1) (a b a' b' : Addr) (cs ds : List Int32) (h0 : Heap) (σ : Addr → Prop) (S : Road.Str Z h0 a b cs) (S' : Road.Str Z h0 a' b' ds) (cp : Int32) (Hc : Sta Z Z.heap Road.SN "COMPACT_STRINGS" "Z" (.int cp)) (hcp : ¬ cp = 0) :
    Road.Con l Z consts_1 n0 false bEq [] σ #[(.ref a), (.ref a')] h0 (fun v h2 _ => v = some (.int (if cs = ds then 1 else 0)) ∧ h0 = h2) := by
  refine Road.Con.of bEq_pn hEW #[.val (.ref a), .val (.ref a'), .unset] (fun m => Road.ent (Road.laid1 rfl (Road.laid1 rfl Road.laid0)) (k := 1) rfl rfl) ?_
  intro D hD
  refine Road.aloadN 0 bEq_d0 rfl ?_
  refine Road.aloadN 1 bEq_d1 rfl ?_
  refine Road.acmp_ne 2 7 rfl rfl bEq_d2 rfl (fun hc2 => ?_) (fun hc2 => ?_)
  · skip
    refine Road.aloadN 7 bEq_d7 rfl ?_
    refine Road.instYes 8 bEq_d8 (hw _ (List.mem_of_getElem? (i := 54) rfl)) (Ins.self S'.1) ?_
    refine Road.if_eq 11 54 bEq_d11 rfl (fun q => absurd q (by decide)) (fun hc11 => ?_)
    refine Road.aloadN 14 bEq_d14 rfl ?_
    refine Road.castYes 15 bEq_d15 (hw _ (List.mem_of_getElem? (i := 54) rfl)) (Ins.self S'.1) ?_
    refine Road.astoreN 18 #[.val (.ref a), .val (.ref a'), .val (.ref a')] bEq_d18 rfl ?_
    refine Road.getstatic 19 bEq_d19 (hw _ (List.mem_of_getElem? (i := 55) rfl)) Via.refl Hc ?_
    refine Road.if_eq 22 36 bEq_d22 rfl (fun q => absurd q hcp) (fun hc22 => ?_)
    refine Road.aloadN 25 bEq_d25 rfl ?_
    refine Road.getfield 26 bEq_d26 (hw _ (List.mem_of_getElem? (i := 25) rfl)) Via.refl S.2.1 ?_
    refine Road.aloadN 29 bEq_d29 rfl ?_
    refine Road.getfield 30 bEq_d30 (hw _ (List.mem_of_getElem? (i := 25) rfl)) Via.refl S'.2.1 ?_
    refine Road.icmp_ne 33 54 bEq_d33 rfl (fun q => absurd q (by decide)) (fun hc33 => ?_)
    refine Road.aloadN 36 bEq_d36 rfl ?_
    refine Road.getfield 37 bEq_d37 (hw _ (List.mem_of_getElem? (i := 24) rfl)) Via.refl S.2.2.1 ?_
    refine Road.aloadN 40 bEq_d40 rfl ?_
    refine Road.getfield 41 bEq_d41 (hw _ (List.mem_of_getElem? (i := 24) rfl)) Via.refl S'.2.2.1 ?_
    refine Road.callS (B' := bLeq) 44 (argsL := [(.ref b), (.ref b')]) (rest := []) 0 bEq_d44 (hw _ (List.mem_of_getElem? (i := 56) rfl)) (hw _ (List.mem_of_getElem? (i := 57) rfl)) (hw _ (List.mem_of_getElem? (i := 58) rfl)) (hw _ (List.mem_of_getElem? (i := 59) rfl)) (by decide) (cLeq l Z a0 hw n0 hEW b b' (cs.map Road.bf) (ds.map Road.bf) h0 σ (by rw [← Road.byts]; exact S.2.2.2.1) (by rw [← Road.byts]; exact S'.2.2.2.1)) (lenOf bLeq_pd rfl) rfl rfl rfl (by decide) (by decide) (ce' := 0) (sl' := 0) rfl rfl (by decide) (by decide) ?_
    rintro _ h_1 σ_2 m_3 ⟨rfl, rfl⟩
    refine Road.Go.weaken (σ' := σ) m_3 (Nat.le_refl _) (Nat.le_refl _) ?_
    refine Road.nameI ?_
    intro z hz
    by_cases he : cs = ds
    · skip
      rw [if_pos (by rw [he])] at hz
      subst hz
      refine Road.if_eq 47 54 bEq_d47 rfl (fun q => absurd q (by decide)) (fun hc47 => ?_)
      refine Road.iconst 50 (1 : Int32) bEq_d50 rfl ?_
      refine Road.goto 51 55 bEq_d51 rfl ?_
      exact Road.iret 55 1 bEq_d55 (t := .boolean) rfl (by simp) rfl (by decide) (by decide) (fun σ' m => ⟨by rw [if_pos he], rfl⟩)
    · skip
      rw [if_neg (fun q => he (Road.bfs_inj S.2.2.2.2 S'.2.2.2.2 q))] at hz
      subst hz
      refine Road.if_eq 47 54 bEq_d47 rfl (fun hc47 => ?_) (fun q => absurd q (by decide))
      refine Road.iconst 54 (0 : Int32) bEq_d54 rfl ?_
      exact Road.iret 55 0 bEq_d55 (t := .boolean) rfl (by simp) rfl (by decide) (by decide) (fun σ' m => ⟨by rw [if_neg he], rfl⟩)
  · skip
    refine Road.iconst 5 (1 : Int32) bEq_d5 rfl ?_
    have he : cs = ds := by have q := Value.ref.inj hc2; subst q; exact S.uniq S'
    exact Road.iret 6 1 bEq_d6 (t := .boolean) rfl (by simp) rfl (by decide) (by decide) (fun σ' m => ⟨by rw [if_pos he], rfl⟩)
def bEqN : Road.Bdy := (⟨"java/lang/String", "equals", "(Ljava/lang/Object;)Z"⟩, jdk_42_method_66_code, 3, (some .boolean), { frames := 0, cells := 0, slots := 0, locals := 0 })
theorem bEqN_d0 : decode bEqN.bs 0 = .ok (.aload_n 0, 1) := by decide +kernel
theorem bEqN_d1 : decode bEqN.bs 1 = .ok (.aload_n 1, 1) := by decide +kernel
theorem bEqN_d2 : decode bEqN.bs 2 = .ok (.if_acmp .ne 5, 3) := by decide +kernel
theorem bEqN_d5 : decode bEqN.bs 5 = .ok (.iconst 1, 1) := by decide +kernel
theorem bEqN_d6 : decode bEqN.bs 6 = .ok (.ireturn, 1) := by decide +kernel
theorem bEqN_d7 : decode bEqN.bs 7 = .ok (.aload_n 1, 1) := by decide +kernel
theorem bEqN_d8 : decode bEqN.bs 8 = .ok (.instanceof 10, 3) := by decide +kernel
theorem bEqN_d11 : decode bEqN.bs 11 = .ok (.ifCond .eq 43, 3) := by decide +kernel
theorem bEqN_d14 : decode bEqN.bs 14 = .ok (.aload_n 1, 1) := by decide +kernel
theorem bEqN_d15 : decode bEqN.bs 15 = .ok (.checkcast 10, 3) := by decide +kernel
theorem bEqN_d18 : decode bEqN.bs 18 = .ok (.astore_n 2, 1) := by decide +kernel
theorem bEqN_d19 : decode bEqN.bs 19 = .ok (.getstatic 38, 3) := by decide +kernel
theorem bEqN_d22 : decode bEqN.bs 22 = .ok (.ifCond .eq 14, 3) := by decide +kernel
theorem bEqN_d25 : decode bEqN.bs 25 = .ok (.aload_n 0, 1) := by decide +kernel
theorem bEqN_d26 : decode bEqN.bs 26 = .ok (.getfield 15, 3) := by decide +kernel
theorem bEqN_d29 : decode bEqN.bs 29 = .ok (.aload_n 2, 1) := by decide +kernel
theorem bEqN_d30 : decode bEqN.bs 30 = .ok (.getfield 15, 3) := by decide +kernel
theorem bEqN_d33 : decode bEqN.bs 33 = .ok (.if_icmp .ne 21, 3) := by decide +kernel
theorem bEqN_d36 : decode bEqN.bs 36 = .ok (.aload_n 0, 1) := by decide +kernel
theorem bEqN_d37 : decode bEqN.bs 37 = .ok (.getfield 9, 3) := by decide +kernel
theorem bEqN_d40 : decode bEqN.bs 40 = .ok (.aload_n 2, 1) := by decide +kernel
theorem bEqN_d41 : decode bEqN.bs 41 = .ok (.getfield 9, 3) := by decide +kernel
theorem bEqN_d44 : decode bEqN.bs 44 = .ok (.invokestatic 541, 3) := by decide +kernel
theorem bEqN_d47 : decode bEqN.bs 47 = .ok (.ifCond .eq 7, 3) := by decide +kernel
theorem bEqN_d50 : decode bEqN.bs 50 = .ok (.iconst 1, 1) := by decide +kernel
theorem bEqN_d51 : decode bEqN.bs 51 = .ok (.goto 4, 3) := by decide +kernel
theorem bEqN_d54 : decode bEqN.bs 54 = .ok (.iconst 0, 1) := by decide +kernel
theorem bEqN_d55 : decode bEqN.bs 55 = .ok (.ireturn, 1) := by decide +kernel
theorem bEqN_pd : parseMethodDescriptor "(Ljava/lang/Object;)Z" = some ⟨[(.object "java/lang/Object")], (some .boolean)⟩ := by decide +kernel
theorem bEqN_pn : plainName "java/lang/String" = true := by first | (simp [plainName, overriddenIn]; done) | decide +kernel
theorem cEqN (l : Launch) (Z : State) (a0 : Array Value) (hw : ∀ d ∈ tables_1, d.before a0 Z = true) (n0 : Nat) (hEW : EW Z a0 consts_1) (a : Addr) (h0 : Heap) (σ : Addr → Prop)  :
    Road.Con l Z consts_1 n0 false bEqN [] σ #[(.ref a), .null] h0 (fun v h2 _ => v = some (.int 0) ∧ h0 = h2) := by
  refine Road.Con.of bEqN_pn hEW #[.val (.ref a), .val .null, .unset] (fun m => Road.ent (Road.laid1 rfl (Road.laid1 rfl Road.laid0)) (k := 1) rfl rfl) ?_
  intro D hD
  refine Road.aloadN 0 bEqN_d0 rfl ?_
  refine Road.aloadN 1 bEqN_d1 rfl ?_
  refine Road.acmp_ne 2 7 rfl rfl bEqN_d2 rfl (fun hc2 => ?_) (fun q => absurd q (by simp))
  refine Road.aloadN 7 bEqN_d7 rfl ?_
  refine Road.instNull 8 bEqN_d8 ?_
  refine Road.if_eq 11 54 bEqN_d11 rfl (fun hc11 => ?_) (fun q => absurd q (by decide))
  refine Road.iconst 54 (0 : Int32) bEqN_d54 rfl ?_
  exact Road.iret 55 0 bEqN_d55 (t := .boolean) rfl (by simp) rfl (by decide) (by decide) (fun σ' m => ⟨rfl, rfl⟩)
def bVs : Road.Bdy := (⟨"com/example/anchorline/anchorline/server/Op", "values", "()[Lcom/example/anchorline/anchorline/server/Op;"⟩, prog_32_method_1_code, 0, (some (.array (.object "com/example/anchorline/anchorline/server/Op"))), { frames := 1, cells := 1, slots := 2, locals := 14 })
theorem bVs_d0 : decode bVs.bs 0 = .ok (.getstatic 10, 3) := by decide +kernel
theorem bVs_d3 : decode bVs.bs 3 = .ok (.invokevirtual 14, 3) := by decide +kernel
theorem bVs_d6 : decode bVs.bs 6 = .ok (.checkcast 15, 3) := by decide +kernel
theorem bVs_d9 : decode bVs.bs 9 = .ok (.areturn, 1) := by decide +kernel
theorem bVs_pd : parseMethodDescriptor "()[Lcom/example/anchorline/anchorline/server/Op;" = some ⟨[], (some (.array (.object "com/example/anchorline/anchorline/server/Op")))⟩ := by decide +kernel
theorem bVs_pn : plainName "com/example/anchorline/anchorline/server/Op" = true := by first | (simp [plainName, overriddenIn]; done) | decide +kernel
theorem cVs (l : Launch) (Z : State) (a0 : Array Value) (hw : ∀ d ∈ tables_1, d.before a0 Z = true) (n0 : Nat) (hEW : EW Z a0 consts_1)  (h0 : Heap) (σ : Addr → Prop) (pu de va wp bp wd bd : Addr) (HP : Sta Z Z.heap "com/example/anchorline/anchorline/server/Op" "PUT" "Lcom/example/anchorline/anchorline/server/Op;" (.ref pu)) (HD : Sta Z Z.heap "com/example/anchorline/anchorline/server/Op" "DELETE" "Lcom/example/anchorline/anchorline/server/Op;" (.ref de)) (HV : Sta Z Z.heap "com/example/anchorline/anchorline/server/Op" "$VALUES" "[Lcom/example/anchorline/anchorline/server/Op;" (.ref va)) (Ava : Road.Ary Z Z.heap va (.object "com/example/anchorline/anchorline/server/Op") [.ref pu, .ref de]) (Eva : Exa Z Z.heap va "[Lcom/example/anchorline/anchorline/server/Op;") (Epu : Exa Z Z.heap pu "com/example/anchorline/anchorline/server/Op") (Ede : Exa Z Z.heap de "com/example/anchorline/anchorline/server/Op") (Fpu : Fld Z Z.heap pu "com/example/anchorline/anchorline/server/Op" "word" "Ljava/lang/String;" (.ref wp)) (Fde : Fld Z Z.heap de "com/example/anchorline/anchorline/server/Op" "word" "Ljava/lang/String;" (.ref wd)) (Swp : Road.Str Z Z.heap wp bp [112, 117, 116]) (Swd : Road.Str Z Z.heap wd bd [100, 101, 108, 101, 116, 101]) :
    Road.Con l Z consts_1 n0 false bVs [] σ #[] h0 (fun v h2 _ => ∃ b, v = some (.ref b) ∧ Keep h0 h2 [] ∧ Road.Ary Z h2 b (.object "com/example/anchorline/anchorline/server/Op") [.ref pu, .ref de]) := by
  refine Road.Con.of bVs_pn hEW #[] (fun m => Road.ent Road.laid0 (k := 0) rfl rfl) ?_
  intro D hD
  refine Road.Go.old ?_
  intro hO
  have KZ_1 := Road.keep_ext hO.2
  have Ava' := Ava.keep KZ_1 nin0
  have Eva' := Eva.keep KZ_1
  refine Road.getstatic 0 bVs_d0 (hw _ (List.mem_of_getElem? (i := 33) rfl)) Via.refl HV ?_
  refine Road.cloneArr 3 0 2 bVs_d3 (hw _ (List.mem_of_getElem? (i := 35) rfl)) (hw _ (List.mem_of_getElem? (i := 36) rfl)) (hw _ (List.mem_of_getElem? (i := 40) rfl)) (hw _ (List.mem_of_getElem? (i := 38) rfl)) (hw _ (List.mem_of_getElem? (i := 39) rfl)) (hw _ (List.mem_of_getElem? (i := 41) rfl)) Ava' Eva' rfl rfl (by decide) (by decide) (by simp) (ce' := 1) (sl' := 2) rfl rfl (by decide) (by decide) ?_
  intro b h2 σ2 gb Kb ltb mb sb Ab Eb
  refine Road.castYes 6 bVs_d6 (hw _ (List.mem_of_getElem? (i := 45) rfl)) (Ins.self Eb) ?_
  exact Road.aret 9 bVs_d9 (t := (.array (.object "com/example/anchorline/anchorline/server/Op"))) rfl rfl rfl (by decide) (by decide) (fun σ' m => ⟨b, rfl, Kb, Ab⟩)
def bOf : Road.Bdy := (⟨"com/example/anchorline/anchorline/server/Op", "of", "(Ljava/lang/String;)Lcom/example/anchorline/anchorline/server/Op;"⟩, prog_32_method_5_code, 5, (some (.object "com/example/anchorline/anchorline/server/Op")), { frames := 2, cells := 1, slots := 2, locals := 28 })
theorem bOf_d0 : decode bOf.bs 0 = .ok (.invokestatic 33, 3) := by decide +kernel
theorem bOf_d3 : decode bOf.bs 3 = .ok (.astore_n 1, 1) := by decide +kernel
theorem bOf_d4 : decode bOf.bs 4 = .ok (.aload_n 1, 1) := by decide +kernel
theorem bOf_d5 : decode bOf.bs 5 = .ok (.arraylength, 1) := by decide +kernel
theorem bOf_d6 : decode bOf.bs 6 = .ok (.istore_n 2, 1) := by decide +kernel
theorem bOf_d7 : decode bOf.bs 7 = .ok (.iconst 0, 1) := by decide +kernel
theorem bOf_d8 : decode bOf.bs 8 = .ok (.istore_n 3, 1) := by decide +kernel
theorem bOf_d9 : decode bOf.bs 9 = .ok (.iload_n 3, 1) := by decide +kernel
theorem bOf_d10 : decode bOf.bs 10 = .ok (.iload_n 2, 1) := by decide +kernel
theorem bOf_d11 : decode bOf.bs 11 = .ok (.if_icmp .ge 29, 3) := by decide +kernel
theorem bOf_d14 : decode bOf.bs 14 = .ok (.aload_n 1, 1) := by decide +kernel
theorem bOf_d15 : decode bOf.bs 15 = .ok (.iload_n 3, 1) := by decide +kernel
theorem bOf_d16 : decode bOf.bs 16 = .ok (.aaload, 1) := by decide +kernel
theorem bOf_d17 : decode bOf.bs 17 = .ok (.astore 4, 2) := by decide +kernel
theorem bOf_d19 : decode bOf.bs 19 = .ok (.aload 4, 2) := by decide +kernel
theorem bOf_d21 : decode bOf.bs 21 = .ok (.getfield 29, 3) := by decide +kernel
theorem bOf_d24 : decode bOf.bs 24 = .ok (.aload_n 0, 1) := by decide +kernel
theorem bOf_d25 : decode bOf.bs 25 = .ok (.invokevirtual 37, 3) := by decide +kernel
theorem bOf_d28 : decode bOf.bs 28 = .ok (.ifCond .eq 6, 3) := by decide +kernel
theorem bOf_d31 : decode bOf.bs 31 = .ok (.aload 4, 2) := by decide +kernel
theorem bOf_d33 : decode bOf.bs 33 = .ok (.areturn, 1) := by decide +kernel
theorem bOf_d34 : decode bOf.bs 34 = .ok (.iinc 3 1, 3) := by decide +kernel
theorem bOf_d37 : decode bOf.bs 37 = .ok (.goto (-28), 3) := by decide +kernel
theorem bOf_d40 : decode bOf.bs 40 = .ok (.aconst_null, 1) := by decide +kernel
theorem bOf_d41 : decode bOf.bs 41 = .ok (.areturn, 1) := by decide +kernel
theorem bOf_pd : parseMethodDescriptor "(Ljava/lang/String;)Lcom/example/anchorline/anchorline/server/Op;" = some ⟨[(.object "java/lang/String")], (some (.object "com/example/anchorline/anchorline/server/Op"))⟩ := by decide +kernel
theorem bOf_pn : plainName "com/example/anchorline/anchorline/server/Op" = true := by first | (simp [plainName, overriddenIn]; done) | decide +kernel
theorem cOf (l : Launch) (Z : State) (a0 : Array Value) (hw : ∀ d ∈ tables_1, d.before a0 Z = true) (n0 : Nat) (hEW : EW Z a0 consts_1) (a b : Addr) (cs : List Int32) (h0 : Heap) (σ : Addr → Prop) (S : Road.Str Z h0 a b cs) (pu de va wp bp wd bd : Addr) (HP : Sta Z Z.heap "com/example/anchorline/anchorline/server/Op" "PUT" "Lcom/example/anchorline/anchorline/server/Op;" (.ref pu)) (HD : Sta Z Z.heap "com/example/anchorline/anchorline/server/Op" "DELETE" "Lcom/example/anchorline/anchorline/server/Op;" (.ref de)) (HV : Sta Z Z.heap "com/example/anchorline/anchorline/server/Op" "$VALUES" "[Lcom/example/anchorline/anchorline/server/Op;" (.ref va)) (Ava : Road.Ary Z Z.heap va (.object "com/example/anchorline/anchorline/server/Op") [.ref pu, .ref de]) (Eva : Exa Z Z.heap va "[Lcom/example/anchorline/anchorline/server/Op;") (Epu : Exa Z Z.heap pu "com/example/anchorline/anchorline/server/Op") (Ede : Exa Z Z.heap de "com/example/anchorline/anchorline/server/Op") (Fpu : Fld Z Z.heap pu "com/example/anchorline/anchorline/server/Op" "word" "Ljava/lang/String;" (.ref wp)) (Fde : Fld Z Z.heap de "com/example/anchorline/anchorline/server/Op" "word" "Ljava/lang/String;" (.ref wd)) (Swp : Road.Str Z Z.heap wp bp [112, 117, 116]) (Swd : Road.Str Z Z.heap wd bd [100, 101, 108, 101, 116, 101]) (cp : Int32) (Hc : Sta Z Z.heap Road.SN "COMPACT_STRINGS" "Z" (.int cp)) (hcp : ¬ cp = 0) :
    Road.Con l Z consts_1 n0 false bOf [] σ #[(.ref a)] h0 (fun v h2 _ => v = some (if [112, 117, 116] = cs then Value.ref pu else if [100, 101, 108, 101, 116, 101] = cs then .ref de else .null) ∧ Keep h0 h2 []) := by
  refine Road.Con.of bOf_pn hEW #[.val (.ref a), .unset, .unset, .unset, .unset] (fun m => Road.ent (Road.laid1 rfl Road.laid0) (k := 4) rfl rfl) ?_
  intro D hD
  refine Road.callS (B' := bVs) 0 (argsL := []) (rest := []) 0 bOf_d0 (hw _ (List.mem_of_getElem? (i := 30) rfl)) (hw _ (List.mem_of_getElem? (i := 31) rfl)) (hw _ (List.mem_of_getElem? (i := 28) rfl)) (hw _ (List.mem_of_getElem? (i := 32) rfl)) (by decide) (cVs l Z a0 hw n0 hEW h0 σ pu de va wp bp wd bd HP HD HV Ava Eva Epu Ede Fpu Fde Swp Swd) (lenOf bVs_pd rfl) rfl rfl rfl (by decide) (by decide) (ce' := 1) (sl' := 2) rfl rfl (by decide) (by decide) ?_
  rintro _ h_1 σ_2 m_3 ⟨vs, rfl, K_4, Avs⟩
  have KQ := K_4
  replace S := S.keep K_4 nin0 nin0
  refine Road.Go.old ?_
  intro hO
  have KZ_5 := Road.keep_ext hO.2
  have Fpu' := Fpu.keep KZ_5 nin0
  have Fde' := Fde.keep KZ_5 nin0
  have Swp' := Swp.keep KZ_5 nin0 nin0
  have Swd' := Swd.keep KZ_5 nin0 nin0
  refine Road.astoreN 3 #[.val (.ref a), .val (.ref vs), .unset, .unset, .unset] bOf_d3 rfl ?_
  refine Road.aloadN 4 bOf_d4 rfl ?_
  refine Road.alen 5 (2 : Int32) bOf_d5 Avs (n := 2) rfl rfl ?_
  refine Road.istoreN 6 #[.val (.ref a), .val (.ref vs), .val (.int (2 : Int32)), .unset, .unset] bOf_d6 rfl ?_
  refine Road.iconst 7 (0 : Int32) bOf_d7 rfl ?_
  refine Road.istoreN 8 #[.val (.ref a), .val (.ref vs), .val (.int (2 : Int32)), .val (.int (0 : Int32)), .unset] bOf_d8 rfl ?_
  refine Road.iloadN 9 bOf_d9 rfl ?_
  refine Road.iloadN 10 bOf_d10 rfl ?_
  refine Road.icmp_ge 11 40 bOf_d11 rfl (fun q => absurd q (by decide)) (fun hc11 => ?_)
  refine Road.aloadN 14 bOf_d14 rfl ?_
  refine Road.iloadN 15 bOf_d15 rfl ?_
  refine Road.aaload 16 0 bOf_d16 Avs rfl rfl rfl ?_
  refine Road.astore 17 #[.val (.ref a), .val (.ref vs), .val (.int (2 : Int32)), .val (.int (0 : Int32)), .val (.ref pu)] bOf_d17 rfl ?_
  refine Road.aload 19 bOf_d19 rfl ?_
  refine Road.getfield 21 bOf_d21 (hw _ (List.mem_of_getElem? (i := 47) rfl)) Via.refl Fpu' ?_
  refine Road.aloadN 24 bOf_d24 rfl ?_
  refine Road.callV (B' := bEq) (a := wp) 25 (argsL := [(.ref a)]) (rest := []) "java/lang/String" 0 bOf_d25 (hw _ (List.mem_of_getElem? (i := 49) rfl)) (hw _ (List.mem_of_getElem? (i := 50) rfl)) (fun vm hz => notFace_of_selects (args := #[]) (mv (s := D.s.setVm vm) hz (hw _ (List.mem_of_getElem? (i := 52) rfl)))) (hw _ (List.mem_of_getElem? (i := 52) rfl)) (hw _ (List.mem_of_getElem? (i := 51) rfl)) (hw _ (List.mem_of_getElem? (i := 6) rfl)) (hw _ (List.mem_of_getElem? (i := 53) rfl)) (by decide) Swp'.1 (cEq l Z a0 hw n0 hEW wp bp a b [112, 117, 116] cs h_1 σ_2 Swp' S cp Hc hcp) (lenOf bEq_pd rfl) rfl rfl rfl (by decide) (by decide) (ce' := 1) (sl' := 2) rfl rfl (by decide) (by decide) ?_
  rintro _ h_6 σ_7 m_8 ⟨rfl, rfl⟩
  refine Road.Go.weaken (σ' := σ_2) m_8 (Nat.le_refl _) (Nat.le_refl _) ?_
  refine Road.nameI ?_
  intro z0 hz0
  by_cases he0 : [112, 117, 116] = cs
  · skip
    rw [if_pos he0] at hz0
    subst hz0
    refine Road.if_eq 28 34 bOf_d28 rfl (fun q => absurd q (by decide)) (fun hc28 => ?_)
    refine Road.aload 31 bOf_d31 rfl ?_
    exact Road.aret 33 bOf_d33 (t := (.object "com/example/anchorline/anchorline/server/Op")) rfl rfl rfl (by decide) (by decide) (fun σ' m => ⟨by rw [if_pos he0], KQ⟩)
  · skip
    rw [if_neg he0] at hz0
    subst hz0
    refine Road.if_eq 28 34 bOf_d28 rfl (fun hc28 => ?_) (fun q => absurd q (by decide))
    refine Road.iinc 34 (1) #[.val (.ref a), .val (.ref vs), .val (.int (2 : Int32)), .val (.int ((0 : Int32) + 1)), .val (.ref pu)] bOf_d34 rfl rfl rfl ?_
    refine Road.goto 37 9 bOf_d37 rfl ?_
    refine Road.iloadN 9 bOf_d9 rfl ?_
    refine Road.iloadN 10 bOf_d10 rfl ?_
    refine Road.icmp_ge 11 40 bOf_d11 rfl (fun q => absurd q (by decide)) (fun hc11 => ?_)
    refine Road.aloadN 14 bOf_d14 rfl ?_
    refine Road.iloadN 15 bOf_d15 rfl ?_
    refine Road.aaload 16 1 bOf_d16 Avs rfl rfl rfl ?_
    refine Road.astore 17 #[.val (.ref a), .val (.ref vs), .val (.int (2 : Int32)), .val (.int ((0 : Int32) + 1)), .val (.ref de)] bOf_d17 rfl ?_
    refine Road.aload 19 bOf_d19 rfl ?_
    refine Road.getfield 21 bOf_d21 (hw _ (List.mem_of_getElem? (i := 47) rfl)) Via.refl Fde' ?_
    refine Road.aloadN 24 bOf_d24 rfl ?_
    refine Road.callV (B' := bEq) (a := wd) 25 (argsL := [(.ref a)]) (rest := []) "java/lang/String" 0 bOf_d25 (hw _ (List.mem_of_getElem? (i := 49) rfl)) (hw _ (List.mem_of_getElem? (i := 50) rfl)) (fun vm hz => notFace_of_selects (args := #[]) (mv (s := D.s.setVm vm) hz (hw _ (List.mem_of_getElem? (i := 52) rfl)))) (hw _ (List.mem_of_getElem? (i := 52) rfl)) (hw _ (List.mem_of_getElem? (i := 51) rfl)) (hw _ (List.mem_of_getElem? (i := 6) rfl)) (hw _ (List.mem_of_getElem? (i := 53) rfl)) (by decide) Swd'.1 (cEq l Z a0 hw n0 hEW wd bd a b [100, 101, 108, 101, 116, 101] cs h_1 σ_2 Swd' S cp Hc hcp) (lenOf bEq_pd rfl) rfl rfl rfl (by decide) (by decide) (ce' := 1) (sl' := 2) rfl rfl (by decide) (by decide) ?_
    rintro _ h_10 σ_11 m_12 ⟨rfl, rfl⟩
    refine Road.Go.weaken (σ' := σ_2) m_12 (Nat.le_refl _) (Nat.le_refl _) ?_
    refine Road.nameI ?_
    intro z1 hz1
    by_cases he1 : [100, 101, 108, 101, 116, 101] = cs
    · skip
      rw [if_pos he1] at hz1
      subst hz1
      refine Road.if_eq 28 34 bOf_d28 rfl (fun q => absurd q (by decide)) (fun hc28 => ?_)
      refine Road.aload 31 bOf_d31 rfl ?_
      exact Road.aret 33 bOf_d33 (t := (.object "com/example/anchorline/anchorline/server/Op")) rfl rfl rfl (by decide) (by decide) (fun σ' m => ⟨by rw [if_neg he0, if_pos he1], KQ⟩)
    · skip
      rw [if_neg he1] at hz1
      subst hz1
      refine Road.if_eq 28 34 bOf_d28 rfl (fun hc28 => ?_) (fun q => absurd q (by decide))
      refine Road.iinc 34 (1) #[.val (.ref a), .val (.ref vs), .val (.int (2 : Int32)), .val (.int (((0 : Int32) + 1) + 1)), .val (.ref de)] bOf_d34 rfl rfl rfl ?_
      refine Road.goto 37 9 bOf_d37 rfl ?_
      refine Road.iloadN 9 bOf_d9 rfl ?_
      refine Road.iloadN 10 bOf_d10 rfl ?_
      refine Road.icmp_ge 11 40 bOf_d11 rfl (fun hc11 => ?_) (fun q => absurd q (by decide))
      refine Road.aconstNull 40 bOf_d40 ?_
      exact Road.aret 41 bOf_d41 (t := (.object "com/example/anchorline/anchorline/server/Op")) rfl rfl rfl (by decide) (by decide) (fun σ' m => ⟨by rw [if_neg he0, if_neg he1], KQ⟩)
theorem cOfN (l : Launch) (Z : State) (a0 : Array Value) (hw : ∀ d ∈ tables_1, d.before a0 Z = true) (n0 : Nat) (hEW : EW Z a0 consts_1)  (h0 : Heap) (σ : Addr → Prop)  (pu de va wp bp wd bd : Addr) (HP : Sta Z Z.heap "com/example/anchorline/anchorline/server/Op" "PUT" "Lcom/example/anchorline/anchorline/server/Op;" (.ref pu)) (HD : Sta Z Z.heap "com/example/anchorline/anchorline/server/Op" "DELETE" "Lcom/example/anchorline/anchorline/server/Op;" (.ref de)) (HV : Sta Z Z.heap "com/example/anchorline/anchorline/server/Op" "$VALUES" "[Lcom/example/anchorline/anchorline/server/Op;" (.ref va)) (Ava : Road.Ary Z Z.heap va (.object "com/example/anchorline/anchorline/server/Op") [.ref pu, .ref de]) (Eva : Exa Z Z.heap va "[Lcom/example/anchorline/anchorline/server/Op;") (Epu : Exa Z Z.heap pu "com/example/anchorline/anchorline/server/Op") (Ede : Exa Z Z.heap de "com/example/anchorline/anchorline/server/Op") (Fpu : Fld Z Z.heap pu "com/example/anchorline/anchorline/server/Op" "word" "Ljava/lang/String;" (.ref wp)) (Fde : Fld Z Z.heap de "com/example/anchorline/anchorline/server/Op" "word" "Ljava/lang/String;" (.ref wd)) (Swp : Road.Str Z Z.heap wp bp [112, 117, 116]) (Swd : Road.Str Z Z.heap wd bd [100, 101, 108, 101, 116, 101]) (cp : Int32) (Hc : Sta Z Z.heap Road.SN "COMPACT_STRINGS" "Z" (.int cp)) (hcp : ¬ cp = 0) :
    Road.Con l Z consts_1 n0 false bOf [] σ #[.null] h0 (fun v h2 _ => v = some .null ∧ Keep h0 h2 []) := by
  refine Road.Con.of bOf_pn hEW #[.val .null, .unset, .unset, .unset, .unset] (fun m => Road.ent (Road.laid1 rfl Road.laid0) (k := 4) rfl rfl) ?_
  intro D hD
  refine Road.callS (B' := bVs) 0 (argsL := []) (rest := []) 0 bOf_d0 (hw _ (List.mem_of_getElem? (i := 30) rfl)) (hw _ (List.mem_of_getElem? (i := 31) rfl)) (hw _ (List.mem_of_getElem? (i := 28) rfl)) (hw _ (List.mem_of_getElem? (i := 32) rfl)) (by decide) (cVs l Z a0 hw n0 hEW h0 σ pu de va wp bp wd bd HP HD HV Ava Eva Epu Ede Fpu Fde Swp Swd) (lenOf bVs_pd rfl) rfl rfl rfl (by decide) (by decide) (ce' := 1) (sl' := 2) rfl rfl (by decide) (by decide) ?_
  rintro _ h_1 σ_2 m_3 ⟨vs, rfl, K_4, Avs⟩
  have KQ := K_4
  refine Road.Go.old ?_
  intro hO
  have KZ_5 := Road.keep_ext hO.2
  have Fpu' := Fpu.keep KZ_5 nin0
  have Fde' := Fde.keep KZ_5 nin0
  have Swp' := Swp.keep KZ_5 nin0 nin0
  have Swd' := Swd.keep KZ_5 nin0 nin0
  refine Road.astoreN 3 #[.val .null, .val (.ref vs), .unset, .unset, .unset] bOf_d3 rfl ?_
  refine Road.aloadN 4 bOf_d4 rfl ?_
  refine Road.alen 5 (2 : Int32) bOf_d5 Avs (n := 2) rfl rfl ?_
  refine Road.istoreN 6 #[.val .null, .val (.ref vs), .val (.int (2 : Int32)), .unset, .unset] bOf_d6 rfl ?_
  refine Road.iconst 7 (0 : Int32) bOf_d7 rfl ?_
  refine Road.istoreN 8 #[.val .null, .val (.ref vs), .val (.int (2 : Int32)), .val (.int (0 : Int32)), .unset] bOf_d8 rfl ?_
  refine Road.iloadN 9 bOf_d9 rfl ?_
  refine Road.iloadN 10 bOf_d10 rfl ?_
  refine Road.icmp_ge 11 40 bOf_d11 rfl (fun q => absurd q (by decide)) (fun hc11 => ?_)
  refine Road.aloadN 14 bOf_d14 rfl ?_
  refine Road.iloadN 15 bOf_d15 rfl ?_
  refine Road.aaload 16 0 bOf_d16 Avs rfl rfl rfl ?_
  refine Road.astore 17 #[.val .null, .val (.ref vs), .val (.int (2 : Int32)), .val (.int (0 : Int32)), .val (.ref pu)] bOf_d17 rfl ?_
  refine Road.aload 19 bOf_d19 rfl ?_
  refine Road.getfield 21 bOf_d21 (hw _ (List.mem_of_getElem? (i := 47) rfl)) Via.refl Fpu' ?_
  refine Road.aloadN 24 bOf_d24 rfl ?_
  refine Road.callV (B' := bEqN) (a := wp) 25 (argsL := [.null]) (rest := []) "java/lang/String" 0 bOf_d25 (hw _ (List.mem_of_getElem? (i := 49) rfl)) (hw _ (List.mem_of_getElem? (i := 50) rfl)) (fun vm hz => notFace_of_selects (args := #[]) (mv (s := D.s.setVm vm) hz (hw _ (List.mem_of_getElem? (i := 52) rfl)))) (hw _ (List.mem_of_getElem? (i := 52) rfl)) (hw _ (List.mem_of_getElem? (i := 51) rfl)) (hw _ (List.mem_of_getElem? (i := 6) rfl)) (hw _ (List.mem_of_getElem? (i := 53) rfl)) (by decide) Swp'.1 (cEqN l Z a0 hw n0 hEW wp h_1 σ_2) (lenOf bEqN_pd rfl) rfl rfl rfl (by decide) (by decide) (ce' := 1) (sl' := 2) rfl rfl (by decide) (by decide) ?_
  rintro _ h_6 σ_7 m_8 ⟨rfl, rfl⟩
  refine Road.Go.weaken (σ' := σ_2) m_8 (Nat.le_refl _) (Nat.le_refl _) ?_
  refine Road.if_eq 28 34 bOf_d28 rfl (fun hc28 => ?_) (fun q => absurd q (by decide))
  refine Road.iinc 34 (1) #[.val .null, .val (.ref vs), .val (.int (2 : Int32)), .val (.int ((0 : Int32) + 1)), .val (.ref pu)] bOf_d34 rfl rfl rfl ?_
  refine Road.goto 37 9 bOf_d37 rfl ?_
  refine Road.iloadN 9 bOf_d9 rfl ?_
  refine Road.iloadN 10 bOf_d10 rfl ?_
  refine Road.icmp_ge 11 40 bOf_d11 rfl (fun q => absurd q (by decide)) (fun hc11 => ?_)
  refine Road.aloadN 14 bOf_d14 rfl ?_
  refine Road.iloadN 15 bOf_d15 rfl ?_
  refine Road.aaload 16 1 bOf_d16 Avs rfl rfl rfl ?_
  refine Road.astore 17 #[.val .null, .val (.ref vs), .val (.int (2 : Int32)), .val (.int ((0 : Int32) + 1)), .val (.ref de)] bOf_d17 rfl ?_
  refine Road.aload 19 bOf_d19 rfl ?_
  refine Road.getfield 21 bOf_d21 (hw _ (List.mem_of_getElem? (i := 47) rfl)) Via.refl Fde' ?_
  refine Road.aloadN 24 bOf_d24 rfl ?_
  refine Road.callV (B' := bEqN) (a := wd) 25 (argsL := [.null]) (rest := []) "java/lang/String" 0 bOf_d25 (hw _ (List.mem_of_getElem? (i := 49) rfl)) (hw _ (List.mem_of_getElem? (i := 50) rfl)) (fun vm hz => notFace_of_selects (args := #[]) (mv (s := D.s.setVm vm) hz (hw _ (List.mem_of_getElem? (i := 52) rfl)))) (hw _ (List.mem_of_getElem? (i := 52) rfl)) (hw _ (List.mem_of_getElem? (i := 51) rfl)) (hw _ (List.mem_of_getElem? (i := 6) rfl)) (hw _ (List.mem_of_getElem? (i := 53) rfl)) (by decide) Swd'.1 (cEqN l Z a0 hw n0 hEW wd h_1 σ_2) (lenOf bEqN_pd rfl) rfl rfl rfl (by decide) (by decide) (ce' := 1) (sl' := 2) rfl rfl (by decide) (by decide) ?_
  rintro _ h_10 σ_11 m_12 ⟨rfl, rfl⟩
  refine Road.Go.weaken (σ' := σ_2) m_12 (Nat.le_refl _) (Nat.le_refl _) ?_
  refine Road.if_eq 28 34 bOf_d28 rfl (fun hc28 => ?_) (fun q => absurd q (by decide))
  refine Road.iinc 34 (1) #[.val .null, .val (.ref vs), .val (.int (2 : Int32)), .val (.int (((0 : Int32) + 1) + 1)), .val (.ref de)] bOf_d34 rfl rfl rfl ?_
  refine Road.goto 37 9 bOf_d37 rfl ?_
  refine Road.iloadN 9 bOf_d9 rfl ?_
  refine Road.iloadN 10 bOf_d10 rfl ?_
  refine Road.icmp_ge 11 40 bOf_d11 rfl (fun hc11 => ?_) (fun q => absurd q (by decide))
  refine Road.aconstNull 40 bOf_d40 ?_
  exact Road.aret 41 bOf_d41 (t := (.object "com/example/anchorline/anchorline/server/Op")) rfl rfl rfl (by decide) (by decide) (fun σ' m => ⟨rfl, KQ⟩)
def bgW : Road.Bdy := (⟨"com/example/anchorline/anchorline/server/Op", "word", "()Ljava/lang/String;"⟩, prog_32_method_4_code, 1, (some (.object "java/lang/String")), { frames := 0, cells := 0, slots := 0, locals := 0 })
theorem bgW_d0 : decode bgW.bs 0 = .ok (.aload_n 0, 1) := by decide +kernel
theorem bgW_d1 : decode bgW.bs 1 = .ok (.getfield 29, 3) := by decide +kernel
theorem bgW_d4 : decode bgW.bs 4 = .ok (.areturn, 1) := by decide +kernel
theorem bgW_pd : parseMethodDescriptor "()Ljava/lang/String;" = some ⟨[], (some (.object "java/lang/String"))⟩ := by decide +kernel
theorem bgW_pn : plainName "com/example/anchorline/anchorline/server/Op" = true := by first | (simp [plainName, overriddenIn]; done) | decide +kernel
theorem cgW (l : Launch) (Z : State) (a0 : Array Value) (hw : ∀ d ∈ tables_1, d.before a0 Z = true) (n0 : Nat) (hEW : EW Z a0 consts_1) (a : Addr) (v : Value) (h0 : Heap) (σ : Addr → Prop) (hv : v.isRef = true) (F : Fld Z h0 a "com/example/anchorline/anchorline/server/Op" "word" "Ljava/lang/String;" v) :
    Road.Con l Z consts_1 n0 false bgW [] σ #[(.ref a)] h0 (fun r h2 _ => r = some v ∧ h0 = h2) := by
  refine Road.Con.of bgW_pn hEW #[.val (.ref a)] (fun m => Road.ent (Road.laid1 rfl Road.laid0) (k := 0) rfl rfl) ?_
  intro D hD
  refine Road.aloadN 0 bgW_d0 rfl ?_
  refine Road.getfield 1 bgW_d1 (hw _ (List.mem_of_getElem? (i := 47) rfl)) Via.refl F ?_
  exact Road.aret 4 bgW_d4 (t := (.object "java/lang/String")) rfl rfl hv (by decide) (by decide) (fun σ' m => ⟨rfl, rfl⟩)
def rel (n c0 c1 c2 c3 c4 c5 : Int32) (cs : List Int32) : Prop := (n = 0 ∧ cs = []) ∨ (n = 1 ∧ cs = [c0]) ∨ (n = 2 ∧ cs = [c0, c1]) ∨ (n = 3 ∧ cs = [c0, c1, c2]) ∨ (n = 4 ∧ cs = [c0, c1, c2, c3]) ∨ (n = 5 ∧ cs = [c0, c1, c2, c3, c4]) ∨ (n = 6 ∧ cs = [c0, c1, c2, c3, c4, c5])
def bMk : Road.Bdy := (⟨"com/example/anchorline/anchorline/server/OpOfPinLaw", "mk", "(ICCCCCC)Ljava/lang/String;"⟩, method_2_code, 7, (some (.object "java/lang/String")), { frames := 4, cells := 6, slots := 18, locals := 70 })
theorem bMk_d0 : decode bMk.bs 0 = .ok (.iload_n 0, 1) := by decide +kernel
theorem bMk_d1 : decode bMk.bs 1 = .ok (.ifCond .ne 14, 3) := by decide +kernel
theorem bMk_d4 : decode bMk.bs 4 = .ok (.new 7, 3) := by decide +kernel
theorem bMk_d7 : decode bMk.bs 7 = .ok (.dup, 1) := by decide +kernel
theorem bMk_d8 : decode bMk.bs 8 = .ok (.iconst 0, 1) := by decide +kernel
theorem bMk_d9 : decode bMk.bs 9 = .ok (.newarray .char, 2) := by decide +kernel
theorem bMk_d11 : decode bMk.bs 11 = .ok (.invokespecial 9, 3) := by decide +kernel
theorem bMk_d14 : decode bMk.bs 14 = .ok (.areturn, 1) := by decide +kernel
theorem bMk_d15 : decode bMk.bs 15 = .ok (.iload_n 0, 1) := by decide +kernel
theorem bMk_d16 : decode bMk.bs 16 = .ok (.iconst 1, 1) := by decide +kernel
theorem bMk_d17 : decode bMk.bs 17 = .ok (.if_icmp .ne 18, 3) := by decide +kernel
theorem bMk_d20 : decode bMk.bs 20 = .ok (.new 7, 3) := by decide +kernel
theorem bMk_d23 : decode bMk.bs 23 = .ok (.dup, 1) := by decide +kernel
theorem bMk_d24 : decode bMk.bs 24 = .ok (.iconst 1, 1) := by decide +kernel
theorem bMk_d25 : decode bMk.bs 25 = .ok (.newarray .char, 2) := by decide +kernel
theorem bMk_d27 : decode bMk.bs 27 = .ok (.dup, 1) := by decide +kernel
theorem bMk_d28 : decode bMk.bs 28 = .ok (.iconst 0, 1) := by decide +kernel
theorem bMk_d29 : decode bMk.bs 29 = .ok (.iload_n 1, 1) := by decide +kernel
theorem bMk_d30 : decode bMk.bs 30 = .ok (.castore, 1) := by decide +kernel
theorem bMk_d31 : decode bMk.bs 31 = .ok (.invokespecial 9, 3) := by decide +kernel
theorem bMk_d34 : decode bMk.bs 34 = .ok (.areturn, 1) := by decide +kernel
theorem bMk_d35 : decode bMk.bs 35 = .ok (.iload_n 0, 1) := by decide +kernel
theorem bMk_d36 : decode bMk.bs 36 = .ok (.iconst 2, 1) := by decide +kernel
theorem bMk_d37 : decode bMk.bs 37 = .ok (.if_icmp .ne 22, 3) := by decide +kernel
theorem bMk_d40 : decode bMk.bs 40 = .ok (.new 7, 3) := by decide +kernel
theorem bMk_d43 : decode bMk.bs 43 = .ok (.dup, 1) := by decide +kernel
theorem bMk_d44 : decode bMk.bs 44 = .ok (.iconst 2, 1) := by decide +kernel
theorem bMk_d45 : decode bMk.bs 45 = .ok (.newarray .char, 2) := by decide +kernel
theorem bMk_d47 : decode bMk.bs 47 = .ok (.dup, 1) := by decide +kernel
theorem bMk_d48 : decode bMk.bs 48 = .ok (.iconst 0, 1) := by decide +kernel
theorem bMk_d49 : decode bMk.bs 49 = .ok (.iload_n 1, 1) := by decide +kernel
theorem bMk_d50 : decode bMk.bs 50 = .ok (.castore, 1) := by decide +kernel
theorem bMk_d51 : decode bMk.bs 51 = .ok (.dup, 1) := by decide +kernel
theorem bMk_d52 : decode bMk.bs 52 = .ok (.iconst 1, 1) := by decide +kernel
theorem bMk_d53 : decode bMk.bs 53 = .ok (.iload_n 2, 1) := by decide +kernel
theorem bMk_d54 : decode bMk.bs 54 = .ok (.castore, 1) := by decide +kernel
theorem bMk_d55 : decode bMk.bs 55 = .ok (.invokespecial 9, 3) := by decide +kernel
theorem bMk_d58 : decode bMk.bs 58 = .ok (.areturn, 1) := by decide +kernel
theorem bMk_d59 : decode bMk.bs 59 = .ok (.iload_n 0, 1) := by decide +kernel
theorem bMk_d60 : decode bMk.bs 60 = .ok (.iconst 3, 1) := by decide +kernel
theorem bMk_d61 : decode bMk.bs 61 = .ok (.if_icmp .ne 26, 3) := by decide +kernel
theorem bMk_d64 : decode bMk.bs 64 = .ok (.new 7, 3) := by decide +kernel
theorem bMk_d67 : decode bMk.bs 67 = .ok (.dup, 1) := by decide +kernel
theorem bMk_d68 : decode bMk.bs 68 = .ok (.iconst 3, 1) := by decide +kernel
theorem bMk_d69 : decode bMk.bs 69 = .ok (.newarray .char, 2) := by decide +kernel
theorem bMk_d71 : decode bMk.bs 71 = .ok (.dup, 1) := by decide +kernel
theorem bMk_d72 : decode bMk.bs 72 = .ok (.iconst 0, 1) := by decide +kernel
theorem bMk_d73 : decode bMk.bs 73 = .ok (.iload_n 1, 1) := by decide +kernel
theorem bMk_d74 : decode bMk.bs 74 = .ok (.castore, 1) := by decide +kernel
theorem bMk_d75 : decode bMk.bs 75 = .ok (.dup, 1) := by decide +kernel
theorem bMk_d76 : decode bMk.bs 76 = .ok (.iconst 1, 1) := by decide +kernel
theorem bMk_d77 : decode bMk.bs 77 = .ok (.iload_n 2, 1) := by decide +kernel
theorem bMk_d78 : decode bMk.bs 78 = .ok (.castore, 1) := by decide +kernel
theorem bMk_d79 : decode bMk.bs 79 = .ok (.dup, 1) := by decide +kernel
theorem bMk_d80 : decode bMk.bs 80 = .ok (.iconst 2, 1) := by decide +kernel
theorem bMk_d81 : decode bMk.bs 81 = .ok (.iload_n 3, 1) := by decide +kernel
theorem bMk_d82 : decode bMk.bs 82 = .ok (.castore, 1) := by decide +kernel
theorem bMk_d83 : decode bMk.bs 83 = .ok (.invokespecial 9, 3) := by decide +kernel
theorem bMk_d86 : decode bMk.bs 86 = .ok (.areturn, 1) := by decide +kernel
theorem bMk_d87 : decode bMk.bs 87 = .ok (.iload_n 0, 1) := by decide +kernel
theorem bMk_d88 : decode bMk.bs 88 = .ok (.iconst 4, 1) := by decide +kernel
theorem bMk_d89 : decode bMk.bs 89 = .ok (.if_icmp .ne 31, 3) := by decide +kernel
theorem bMk_d92 : decode bMk.bs 92 = .ok (.new 7, 3) := by decide +kernel
theorem bMk_d95 : decode bMk.bs 95 = .ok (.dup, 1) := by decide +kernel
theorem bMk_d96 : decode bMk.bs 96 = .ok (.iconst 4, 1) := by decide +kernel
theorem bMk_d97 : decode bMk.bs 97 = .ok (.newarray .char, 2) := by decide +kernel
theorem bMk_d99 : decode bMk.bs 99 = .ok (.dup, 1) := by decide +kernel
theorem bMk_d100 : decode bMk.bs 100 = .ok (.iconst 0, 1) := by decide +kernel
theorem bMk_d101 : decode bMk.bs 101 = .ok (.iload_n 1, 1) := by decide +kernel
theorem bMk_d102 : decode bMk.bs 102 = .ok (.castore, 1) := by decide +kernel
theorem bMk_d103 : decode bMk.bs 103 = .ok (.dup, 1) := by decide +kernel
theorem bMk_d104 : decode bMk.bs 104 = .ok (.iconst 1, 1) := by decide +kernel
theorem bMk_d105 : decode bMk.bs 105 = .ok (.iload_n 2, 1) := by decide +kernel
theorem bMk_d106 : decode bMk.bs 106 = .ok (.castore, 1) := by decide +kernel
theorem bMk_d107 : decode bMk.bs 107 = .ok (.dup, 1) := by decide +kernel
theorem bMk_d108 : decode bMk.bs 108 = .ok (.iconst 2, 1) := by decide +kernel
theorem bMk_d109 : decode bMk.bs 109 = .ok (.iload_n 3, 1) := by decide +kernel
theorem bMk_d110 : decode bMk.bs 110 = .ok (.castore, 1) := by decide +kernel
theorem bMk_d111 : decode bMk.bs 111 = .ok (.dup, 1) := by decide +kernel
theorem bMk_d112 : decode bMk.bs 112 = .ok (.iconst 3, 1) := by decide +kernel
theorem bMk_d113 : decode bMk.bs 113 = .ok (.iload 4, 2) := by decide +kernel
theorem bMk_d115 : decode bMk.bs 115 = .ok (.castore, 1) := by decide +kernel
theorem bMk_d116 : decode bMk.bs 116 = .ok (.invokespecial 9, 3) := by decide +kernel
theorem bMk_d119 : decode bMk.bs 119 = .ok (.areturn, 1) := by decide +kernel
theorem bMk_d120 : decode bMk.bs 120 = .ok (.iload_n 0, 1) := by decide +kernel
theorem bMk_d121 : decode bMk.bs 121 = .ok (.iconst 5, 1) := by decide +kernel
theorem bMk_d122 : decode bMk.bs 122 = .ok (.if_icmp .ne 36, 3) := by decide +kernel
theorem bMk_d125 : decode bMk.bs 125 = .ok (.new 7, 3) := by decide +kernel
theorem bMk_d128 : decode bMk.bs 128 = .ok (.dup, 1) := by decide +kernel
theorem bMk_d129 : decode bMk.bs 129 = .ok (.iconst 5, 1) := by decide +kernel
theorem bMk_d130 : decode bMk.bs 130 = .ok (.newarray .char, 2) := by decide +kernel
theorem bMk_d132 : decode bMk.bs 132 = .ok (.dup, 1) := by decide +kernel
theorem bMk_d133 : decode bMk.bs 133 = .ok (.iconst 0, 1) := by decide +kernel
theorem bMk_d134 : decode bMk.bs 134 = .ok (.iload_n 1, 1) := by decide +kernel
theorem bMk_d135 : decode bMk.bs 135 = .ok (.castore, 1) := by decide +kernel
theorem bMk_d136 : decode bMk.bs 136 = .ok (.dup, 1) := by decide +kernel
theorem bMk_d137 : decode bMk.bs 137 = .ok (.iconst 1, 1) := by decide +kernel
theorem bMk_d138 : decode bMk.bs 138 = .ok (.iload_n 2, 1) := by decide +kernel
theorem bMk_d139 : decode bMk.bs 139 = .ok (.castore, 1) := by decide +kernel
theorem bMk_d140 : decode bMk.bs 140 = .ok (.dup, 1) := by decide +kernel
theorem bMk_d141 : decode bMk.bs 141 = .ok (.iconst 2, 1) := by decide +kernel
theorem bMk_d142 : decode bMk.bs 142 = .ok (.iload_n 3, 1) := by decide +kernel
theorem bMk_d143 : decode bMk.bs 143 = .ok (.castore, 1) := by decide +kernel
theorem bMk_d144 : decode bMk.bs 144 = .ok (.dup, 1) := by decide +kernel
theorem bMk_d145 : decode bMk.bs 145 = .ok (.iconst 3, 1) := by decide +kernel
theorem bMk_d146 : decode bMk.bs 146 = .ok (.iload 4, 2) := by decide +kernel
theorem bMk_d148 : decode bMk.bs 148 = .ok (.castore, 1) := by decide +kernel
theorem bMk_d149 : decode bMk.bs 149 = .ok (.dup, 1) := by decide +kernel
theorem bMk_d150 : decode bMk.bs 150 = .ok (.iconst 4, 1) := by decide +kernel
theorem bMk_d151 : decode bMk.bs 151 = .ok (.iload 5, 2) := by decide +kernel
theorem bMk_d153 : decode bMk.bs 153 = .ok (.castore, 1) := by decide +kernel
theorem bMk_d154 : decode bMk.bs 154 = .ok (.invokespecial 9, 3) := by decide +kernel
theorem bMk_d157 : decode bMk.bs 157 = .ok (.areturn, 1) := by decide +kernel
theorem bMk_d158 : decode bMk.bs 158 = .ok (.new 7, 3) := by decide +kernel
theorem bMk_d161 : decode bMk.bs 161 = .ok (.dup, 1) := by decide +kernel
theorem bMk_d162 : decode bMk.bs 162 = .ok (.bipush 6, 2) := by decide +kernel
theorem bMk_d164 : decode bMk.bs 164 = .ok (.newarray .char, 2) := by decide +kernel
theorem bMk_d166 : decode bMk.bs 166 = .ok (.dup, 1) := by decide +kernel
theorem bMk_d167 : decode bMk.bs 167 = .ok (.iconst 0, 1) := by decide +kernel
theorem bMk_d168 : decode bMk.bs 168 = .ok (.iload_n 1, 1) := by decide +kernel
theorem bMk_d169 : decode bMk.bs 169 = .ok (.castore, 1) := by decide +kernel
theorem bMk_d170 : decode bMk.bs 170 = .ok (.dup, 1) := by decide +kernel
theorem bMk_d171 : decode bMk.bs 171 = .ok (.iconst 1, 1) := by decide +kernel
theorem bMk_d172 : decode bMk.bs 172 = .ok (.iload_n 2, 1) := by decide +kernel
theorem bMk_d173 : decode bMk.bs 173 = .ok (.castore, 1) := by decide +kernel
theorem bMk_d174 : decode bMk.bs 174 = .ok (.dup, 1) := by decide +kernel
theorem bMk_d175 : decode bMk.bs 175 = .ok (.iconst 2, 1) := by decide +kernel
theorem bMk_d176 : decode bMk.bs 176 = .ok (.iload_n 3, 1) := by decide +kernel
theorem bMk_d177 : decode bMk.bs 177 = .ok (.castore, 1) := by decide +kernel
theorem bMk_d178 : decode bMk.bs 178 = .ok (.dup, 1) := by decide +kernel
theorem bMk_d179 : decode bMk.bs 179 = .ok (.iconst 3, 1) := by decide +kernel
theorem bMk_d180 : decode bMk.bs 180 = .ok (.iload 4, 2) := by decide +kernel
theorem bMk_d182 : decode bMk.bs 182 = .ok (.castore, 1) := by decide +kernel
theorem bMk_d183 : decode bMk.bs 183 = .ok (.dup, 1) := by decide +kernel
theorem bMk_d184 : decode bMk.bs 184 = .ok (.iconst 4, 1) := by decide +kernel
theorem bMk_d185 : decode bMk.bs 185 = .ok (.iload 5, 2) := by decide +kernel
theorem bMk_d187 : decode bMk.bs 187 = .ok (.castore, 1) := by decide +kernel
theorem bMk_d188 : decode bMk.bs 188 = .ok (.dup, 1) := by decide +kernel
theorem bMk_d189 : decode bMk.bs 189 = .ok (.iconst 5, 1) := by decide +kernel
theorem bMk_d190 : decode bMk.bs 190 = .ok (.iload 6, 2) := by decide +kernel
theorem bMk_d192 : decode bMk.bs 192 = .ok (.castore, 1) := by decide +kernel
theorem bMk_d193 : decode bMk.bs 193 = .ok (.invokespecial 9, 3) := by decide +kernel
theorem bMk_d196 : decode bMk.bs 196 = .ok (.areturn, 1) := by decide +kernel
theorem bMk_pd : parseMethodDescriptor "(ICCCCCC)Ljava/lang/String;" = some ⟨[.int, .char, .char, .char, .char, .char, .char], (some (.object "java/lang/String"))⟩ := by decide +kernel
theorem bMk_pn : plainName "com/example/anchorline/anchorline/server/OpOfPinLaw" = true := by first | (simp [plainName, overriddenIn]; done) | decide +kernel
theorem cMk (l : Launch) (Z : State) (a0 : Array Value) (hw : ∀ d ∈ tables_1, d.before a0 Z = true) (n0 : Nat) (hEW : EW Z a0 consts_1) (n c0 c1 c2 c3 c4 c5 : Int32) (h0 : Heap) (σ : Addr → Prop) (lat0 : 0 ≤ c0.toInt ∧ c0.toInt < 256) (lat1 : 0 ≤ c1.toInt ∧ c1.toInt < 256) (lat2 : 0 ≤ c2.toInt ∧ c2.toInt < 256) (lat3 : 0 ≤ c3.toInt ∧ c3.toInt < 256) (lat4 : 0 ≤ c4.toInt ∧ c4.toInt < 256) (lat5 : 0 ≤ c5.toInt ∧ c5.toInt < 256) (hn : n = 0 ∨ n = 1 ∨ n = 2 ∨ n = 3 ∨ n = 4 ∨ n = 5 ∨ n = 6) (cp : Int32) (Hc : Sta Z Z.heap Road.SN "COMPACT_STRINGS" "Z" (.int cp)) (hcp : ¬ cp = 0) :
    Road.Con l Z consts_1 n0 false bMk [] σ #[(.int n), (.int c0), (.int c1), (.int c2), (.int c3), (.int c4), (.int c5)] h0 (fun v h2 s2 => ∃ a b cs, v = some (.ref a) ∧ Keep h0 h2 [] ∧ Road.Str Z h2 a b cs ∧ rel n c0 c1 c2 c3 c4 c5 cs) := by
  refine Road.Con.of bMk_pn hEW #[.val (.int n), .val (.int c0), .val (.int c1), .val (.int c2), .val (.int c3), .val (.int c4), .val (.int c5)] (fun m => Road.ent (Road.laid1 rfl (Road.laid1 rfl (Road.laid1 rfl (Road.laid1 rfl (Road.laid1 rfl (Road.laid1 rfl (Road.laid1 rfl Road.laid0))))))) (k := 0) rfl rfl) ?_
  intro D hD
  rcases hn with hn | hn | hn | hn | hn | hn | hn <;> subst hn
  · skip
    have KT := Keep.refl h0 ([] : List Addr)
    refine Road.iloadN 0 bMk_d0 rfl ?_
    refine Road.if_ne 1 15 bMk_d1 rfl (fun q => absurd q (by decide)) (fun hc1 => ?_)
    refine Road.new 4 "java/lang/String" bMk_d4 (hw _ (List.mem_of_getElem? (i := 4) rfl)) (hw _ (List.mem_of_getElem? (i := 5) rfl)) (hw _ (List.mem_of_getElem? (i := 6) rfl)) (ce' := 1) (sl' := 4) rfl rfl (by decide) (by decide) ?_
    intro s h_1 σ_2 g_3 K_4 lt_5 m_6 s_7 Es D_8 M_9
    have gk_s := Nat.le_trans KT.1 (Nat.le_of_eq g_3.symm)
    replace KT := KT.trans K_4 (by simp)
    have Cs := D_8 (Or.inr (hw _ (List.mem_of_getElem? (i := 21) rfl))) (ty := .byte) (by decide)
    have Vs := D_8 (Or.inr (hw _ (List.mem_of_getElem? (i := 20) rfl))) (ty := (.array .byte)) (by decide)
    refine Road.dup 7 bMk_d7 ?_
    refine Road.iconst 8 (0 : Int32) bMk_d8 rfl ?_
    refine Road.newarray 9 .char 0 0 bMk_d9 rfl (hw _ (List.mem_of_getElem? (i := 7) rfl)) (by decide) (by decide) (by decide) (ce' := 2) (sl' := 4) rfl rfl (by decide) (by decide) ?_
    intro t h_10 σ_11 g_12 K_13 lt_14 m_15 s_16 At
    have gk_t := Nat.le_trans KT.1 (Nat.le_of_eq g_12.symm)
    have ne_s_t : s ≠ t := Nat.ne_of_lt (Nat.lt_of_lt_of_le Es.lt (Nat.le_of_eq g_12.symm))
    replace KT := KT.trans K_13 (by simp)
    replace Es := Es.keep K_13
    replace Cs := Cs.keep K_13 nin0
    replace Vs := Vs.keep K_13 nin0
    replace s_7 := m_15 _ s_7
    replace At : Road.Ary Z h_10 t .char (([] : List Int32).map .int) := At
    refine Road.callI (B' := bStr1) (a := s) 11 (argsL := [(.ref t)]) (rest := [(.ref s)]) 1 bMk_d11 (hw _ (List.mem_of_getElem? (i := 8) rfl)) (hw _ (List.mem_of_getElem? (i := 9) rfl)) (hw _ (List.mem_of_getElem? (i := 6) rfl)) (hw _ (List.mem_of_getElem? (i := 10) rfl)) rfl rfl (by decide) (cStr1 l Z a0 hw n0 hEW s t [] h_10 σ_11 Es Cs Vs At (by simp) (by simp) s_7 cp Hc hcp) (lenOf bStr1_pd rfl) rfl rfl rfl (by decide) (by decide) (ce' := 6) (sl' := 12) rfl rfl (by decide) (by decide) ?_
    rintro _ h_17 σ_18 m_19 ⟨rfl, K_20, ds, Ss, Ns⟩
    replace KT := KT.trans K_20 (by intro z hz; simp only [List.mem_cons, List.not_mem_nil, or_false] at hz; rcases hz with rfl <;> first | (exact Or.inr (by assumption)) | (simp; done))
    replace s_7 := m_19 _ s_7
    replace s_16 := m_19 _ s_16
    exact Road.aret 14 bMk_d14 (t := (.object "java/lang/String")) rfl rfl rfl (by decide) (by decide) (fun σ' m => ⟨s, ds, _, rfl, KT, Ss, Or.inl ⟨rfl, rfl⟩⟩)
  · skip
    have KT := Keep.refl h0 ([] : List Addr)
    refine Road.iloadN 0 bMk_d0 rfl ?_
    refine Road.if_ne 1 15 bMk_d1 rfl (fun hc1 => ?_) (fun q => absurd q (by decide))
    refine Road.iloadN 15 bMk_d15 rfl ?_
    refine Road.iconst 16 (1 : Int32) bMk_d16 rfl ?_
    refine Road.icmp_ne 17 35 bMk_d17 rfl (fun q => absurd q (by decide)) (fun hc17 => ?_)
    refine Road.new 20 "java/lang/String" bMk_d20 (hw _ (List.mem_of_getElem? (i := 4) rfl)) (hw _ (List.mem_of_getElem? (i := 5) rfl)) (hw _ (List.mem_of_getElem? (i := 6) rfl)) (ce' := 1) (sl' := 4) rfl rfl (by decide) (by decide) ?_
    intro s h_21 σ_22 g_23 K_24 lt_25 m_26 s_27 Es D_28 M_29
    have gk_s := Nat.le_trans KT.1 (Nat.le_of_eq g_23.symm)
    replace KT := KT.trans K_24 (by simp)
    have Cs := D_28 (Or.inr (hw _ (List.mem_of_getElem? (i := 21) rfl))) (ty := .byte) (by decide)
    have Vs := D_28 (Or.inr (hw _ (List.mem_of_getElem? (i := 20) rfl))) (ty := (.array .byte)) (by decide)
    refine Road.dup 23 bMk_d23 ?_
    refine Road.iconst 24 (1 : Int32) bMk_d24 rfl ?_
    refine Road.newarray 25 .char 1 1 bMk_d25 rfl (hw _ (List.mem_of_getElem? (i := 7) rfl)) (by decide) (by decide) (by decide) (ce' := 2) (sl' := 5) rfl rfl (by decide) (by decide) ?_
    intro t h_30 σ_31 g_32 K_33 lt_34 m_35 s_36 At
    have gk_t := Nat.le_trans KT.1 (Nat.le_of_eq g_32.symm)
    have ne_s_t : s ≠ t := Nat.ne_of_lt (Nat.lt_of_lt_of_le Es.lt (Nat.le_of_eq g_32.symm))
    replace KT := KT.trans K_33 (by simp)
    replace Es := Es.keep K_33
    replace Cs := Cs.keep K_33 nin0
    replace Vs := Vs.keep K_33 nin0
    replace s_27 := m_35 _ s_27
    refine Road.dup 27 bMk_d27 ?_
    refine Road.iconst 28 (0 : Int32) bMk_d28 rfl ?_
    refine Road.iloadN 29 bMk_d29 rfl ?_
    refine Road.castore 30 0 c0 bMk_d30 At (by decide) (by simp) (Road.nar_lat lat0) s_36 ?_
    intro h_37 K_38 A_39
    replace KT := KT.trans K_38 (by intro z hz; simp only [List.mem_cons, List.not_mem_nil, or_false] at hz; rcases hz with rfl <;> first | (exact Or.inr (by assumption)) | (simp; done))
    replace Es := Es.keep K_38
    replace Cs := Cs.keep K_38 (ninS ne_s_t nin0)
    replace Vs := Vs.keep K_38 (ninS ne_s_t nin0)
    replace At := A_39
    replace At : Road.Ary Z h_37 t .char (([c0] : List Int32).map .int) := At
    refine Road.callI (B' := bStr1) (a := s) 31 (argsL := [(.ref t)]) (rest := [(.ref s)]) 1 bMk_d31 (hw _ (List.mem_of_getElem? (i := 8) rfl)) (hw _ (List.mem_of_getElem? (i := 9) rfl)) (hw _ (List.mem_of_getElem? (i := 6) rfl)) (hw _ (List.mem_of_getElem? (i := 10) rfl)) rfl rfl (by decide) (cStr1 l Z a0 hw n0 hEW s t [c0] h_37 σ_31 Es Cs Vs At (by simp) (by intro c hc; cases List.mem_singleton.mp hc; exact lat0) s_27 cp Hc hcp) (lenOf bStr1_pd rfl) rfl rfl rfl (by decide) (by decide) (ce' := 6) (sl' := 13) rfl rfl (by decide) (by decide) ?_
    rintro _ h_40 σ_41 m_42 ⟨rfl, K_43, ds, Ss, Ns⟩
    replace KT := KT.trans K_43 (by intro z hz; simp only [List.mem_cons, List.not_mem_nil, or_false] at hz; rcases hz with rfl <;> first | (exact Or.inr (by assumption)) | (simp; done))
    replace s_27 := m_42 _ s_27
    replace s_36 := m_42 _ s_36
    exact Road.aret 34 bMk_d34 (t := (.object "java/lang/String")) rfl rfl rfl (by decide) (by decide) (fun σ' m => ⟨s, ds, _, rfl, KT, Ss, Or.inr (Or.inl ⟨rfl, rfl⟩)⟩)
  · skip
    have KT := Keep.refl h0 ([] : List Addr)
    refine Road.iloadN 0 bMk_d0 rfl ?_
    refine Road.if_ne 1 15 bMk_d1 rfl (fun hc1 => ?_) (fun q => absurd q (by decide))
    refine Road.iloadN 15 bMk_d15 rfl ?_
    refine Road.iconst 16 (1 : Int32) bMk_d16 rfl ?_
    refine Road.icmp_ne 17 35 bMk_d17 rfl (fun hc17 => ?_) (fun q => absurd q (by decide))
    refine Road.iloadN 35 bMk_d35 rfl ?_
    refine Road.iconst 36 (2 : Int32) bMk_d36 rfl ?_
    refine Road.icmp_ne 37 59 bMk_d37 rfl (fun q => absurd q (by decide)) (fun hc37 => ?_)
    refine Road.new 40 "java/lang/String" bMk_d40 (hw _ (List.mem_of_getElem? (i := 4) rfl)) (hw _ (List.mem_of_getElem? (i := 5) rfl)) (hw _ (List.mem_of_getElem? (i := 6) rfl)) (ce' := 1) (sl' := 4) rfl rfl (by decide) (by decide) ?_
    intro s h_44 σ_45 g_46 K_47 lt_48 m_49 s_50 Es D_51 M_52
    have gk_s := Nat.le_trans KT.1 (Nat.le_of_eq g_46.symm)
    replace KT := KT.trans K_47 (by simp)
    have Cs := D_51 (Or.inr (hw _ (List.mem_of_getElem? (i := 21) rfl))) (ty := .byte) (by decide)
    have Vs := D_51 (Or.inr (hw _ (List.mem_of_getElem? (i := 20) rfl))) (ty := (.array .byte)) (by decide)
    refine Road.dup 43 bMk_d43 ?_
    refine Road.iconst 44 (2 : Int32) bMk_d44 rfl ?_
    refine Road.newarray 45 .char 2 2 bMk_d45 rfl (hw _ (List.mem_of_getElem? (i := 7) rfl)) (by decide) (by decide) (by decide) (ce' := 2) (sl' := 6) rfl rfl (by decide) (by decide) ?_
    intro t h_53 σ_54 g_55 K_56 lt_57 m_58 s_59 At
    have gk_t := Nat.le_trans KT.1 (Nat.le_of_eq g_55.symm)
    have ne_s_t : s ≠ t := Nat.ne_of_lt (Nat.lt_of_lt_of_le Es.lt (Nat.le_of_eq g_55.symm))
    replace KT := KT.trans K_56 (by simp)
    replace Es := Es.keep K_56
    replace Cs := Cs.keep K_56 nin0
    replace Vs := Vs.keep K_56 nin0
    replace s_50 := m_58 _ s_50
    refine Road.dup 47 bMk_d47 ?_
    refine Road.iconst 48 (0 : Int32) bMk_d48 rfl ?_
    refine Road.iloadN 49 bMk_d49 rfl ?_
    refine Road.castore 50 0 c0 bMk_d50 At (by decide) (by simp) (Road.nar_lat lat0) s_59 ?_
    intro h_60 K_61 A_62
    replace KT := KT.trans K_61 (by intro z hz; simp only [List.mem_cons, List.not_mem_nil, or_false] at hz; rcases hz with rfl <;> first | (exact Or.inr (by assumption)) | (simp; done))
    replace Es := Es.keep K_61
    replace Cs := Cs.keep K_61 (ninS ne_s_t nin0)
    replace Vs := Vs.keep K_61 (ninS ne_s_t nin0)
    replace At := A_62
    refine Road.dup 51 bMk_d51 ?_
    refine Road.iconst 52 (1 : Int32) bMk_d52 rfl ?_
    refine Road.iloadN 53 bMk_d53 rfl ?_
    refine Road.castore 54 1 c1 bMk_d54 At (by decide) (by simp) (Road.nar_lat lat1) s_59 ?_
    intro h_63 K_64 A_65
    replace KT := KT.trans K_64 (by intro z hz; simp only [List.mem_cons, List.not_mem_nil, or_false] at hz; rcases hz with rfl <;> first | (exact Or.inr (by assumption)) | (simp; done))
    replace Es := Es.keep K_64
    replace Cs := Cs.keep K_64 (ninS ne_s_t nin0)
    replace Vs := Vs.keep K_64 (ninS ne_s_t nin0)
    replace At := A_65
    replace At : Road.Ary Z h_63 t .char (([c0, c1] : List Int32).map .int) := At
    refine Road.callI (B' := bStr1) (a := s) 55 (argsL := [(.ref t)]) (rest := [(.ref s)]) 1 bMk_d55 (hw _ (List.mem_of_getElem? (i := 8) rfl)) (hw _ (List.mem_of_getElem? (i := 9) rfl)) (hw _ (List.mem_of_getElem? (i := 6) rfl)) (hw _ (List.mem_of_getElem? (i := 10) rfl)) rfl rfl (by decide) (cStr1 l Z a0 hw n0 hEW s t [c0, c1] h_63 σ_54 Es Cs Vs At (by simp) (by intro c hc; simp only [List.mem_cons, List.not_mem_nil, or_false] at hc; rcases hc with rfl | rfl <;> assumption) s_50 cp Hc hcp) (lenOf bStr1_pd rfl) rfl rfl rfl (by decide) (by decide) (ce' := 6) (sl' := 14) rfl rfl (by decide) (by decide) ?_
    rintro _ h_66 σ_67 m_68 ⟨rfl, K_69, ds, Ss, Ns⟩
    replace KT := KT.trans K_69 (by intro z hz; simp only [List.mem_cons, List.not_mem_nil, or_false] at hz; rcases hz with rfl <;> first | (exact Or.inr (by assumption)) | (simp; done))
    replace s_50 := m_68 _ s_50
    replace s_59 := m_68 _ s_59
    exact Road.aret 58 bMk_d58 (t := (.object "java/lang/String")) rfl rfl rfl (by decide) (by decide) (fun σ' m => ⟨s, ds, _, rfl, KT, Ss, Or.inr (Or.inr (Or.inl ⟨rfl, rfl⟩))⟩)
  · skip
    have KT := Keep.refl h0 ([] : List Addr)
    refine Road.iloadN 0 bMk_d0 rfl ?_
    refine Road.if_ne 1 15 bMk_d1 rfl (fun hc1 => ?_) (fun q => absurd q (by decide))
    refine Road.iloadN 15 bMk_d15 rfl ?_
    refine Road.iconst 16 (1 : Int32) bMk_d16 rfl ?_
    refine Road.icmp_ne 17 35 bMk_d17 rfl (fun hc17 => ?_) (fun q => absurd q (by decide))
    refine Road.iloadN 35 bMk_d35 rfl ?_
    refine Road.iconst 36 (2 : Int32) bMk_d36 rfl ?_
    refine Road.icmp_ne 37 59 bMk_d37 rfl (fun hc37 => ?_) (fun q => absurd q (by decide))
    refine Road.iloadN 59 bMk_d59 rfl ?_
    refine Road.iconst 60 (3 : Int32) bMk_d60 rfl ?_
    refine Road.icmp_ne 61 87 bMk_d61 rfl (fun q => absurd q (by decide)) (fun hc61 => ?_)
    refine Road.new 64 "java/lang/String" bMk_d64 (hw _ (List.mem_of_getElem? (i := 4) rfl)) (hw _ (List.mem_of_getElem? (i := 5) rfl)) (hw _ (List.mem_of_getElem? (i := 6) rfl)) (ce' := 1) (sl' := 4) rfl rfl (by decide) (by decide) ?_
    intro s h_70 σ_71 g_72 K_73 lt_74 m_75 s_76 Es D_77 M_78
    have gk_s := Nat.le_trans KT.1 (Nat.le_of_eq g_72.symm)
    replace KT := KT.trans K_73 (by simp)
    have Cs := D_77 (Or.inr (hw _ (List.mem_of_getElem? (i := 21) rfl))) (ty := .byte) (by decide)
    have Vs := D_77 (Or.inr (hw _ (List.mem_of_getElem? (i := 20) rfl))) (ty := (.array .byte)) (by decide)
    refine Road.dup 67 bMk_d67 ?_
    refine Road.iconst 68 (3 : Int32) bMk_d68 rfl ?_
    refine Road.newarray 69 .char 3 3 bMk_d69 rfl (hw _ (List.mem_of_getElem? (i := 7) rfl)) (by decide) (by decide) (by decide) (ce' := 2) (sl' := 7) rfl rfl (by decide) (by decide) ?_
    intro t h_79 σ_80 g_81 K_82 lt_83 m_84 s_85 At
    have gk_t := Nat.le_trans KT.1 (Nat.le_of_eq g_81.symm)
    have ne_s_t : s ≠ t := Nat.ne_of_lt (Nat.lt_of_lt_of_le Es.lt (Nat.le_of_eq g_81.symm))
    replace KT := KT.trans K_82 (by simp)
    replace Es := Es.keep K_82
    replace Cs := Cs.keep K_82 nin0
    replace Vs := Vs.keep K_82 nin0
    replace s_76 := m_84 _ s_76
    refine Road.dup 71 bMk_d71 ?_
    refine Road.iconst 72 (0 : Int32) bMk_d72 rfl ?_
    refine Road.iloadN 73 bMk_d73 rfl ?_
    refine Road.castore 74 0 c0 bMk_d74 At (by decide) (by simp) (Road.nar_lat lat0) s_85 ?_
    intro h_86 K_87 A_88
    replace KT := KT.trans K_87 (by intro z hz; simp only [List.mem_cons, List.not_mem_nil, or_false] at hz; rcases hz with rfl <;> first | (exact Or.inr (by assumption)) | (simp; done))
    replace Es := Es.keep K_87
    replace Cs := Cs.keep K_87 (ninS ne_s_t nin0)
    replace Vs := Vs.keep K_87 (ninS ne_s_t nin0)
    replace At := A_88
    refine Road.dup 75 bMk_d75 ?_
    refine Road.iconst 76 (1 : Int32) bMk_d76 rfl ?_
    refine Road.iloadN 77 bMk_d77 rfl ?_
    refine Road.castore 78 1 c1 bMk_d78 At (by decide) (by simp) (Road.nar_lat lat1) s_85 ?_
    intro h_89 K_90 A_91
    replace KT := KT.trans K_90 (by intro z hz; simp only [List.mem_cons, List.not_mem_nil, or_false] at hz; rcases hz with rfl <;> first | (exact Or.inr (by assumption)) | (simp; done))
    replace Es := Es.keep K_90
    replace Cs := Cs.keep K_90 (ninS ne_s_t nin0)
    replace Vs := Vs.keep K_90 (ninS ne_s_t nin0)
    replace At := A_91
    refine Road.dup 79 bMk_d79 ?_
    refine Road.iconst 80 (2 : Int32) bMk_d80 rfl ?_
    refine Road.iloadN 81 bMk_d81 rfl ?_
    refine Road.castore 82 2 c2 bMk_d82 At (by decide) (by simp) (Road.nar_lat lat2) s_85 ?_
    intro h_92 K_93 A_94
    replace KT := KT.trans K_93 (by intro z hz; simp only [List.mem_cons, List.not_mem_nil, or_false] at hz; rcases hz with rfl <;> first | (exact Or.inr (by assumption)) | (simp; done))
    replace Es := Es.keep K_93
    replace Cs := Cs.keep K_93 (ninS ne_s_t nin0)
    replace Vs := Vs.keep K_93 (ninS ne_s_t nin0)
    replace At := A_94
    replace At : Road.Ary Z h_92 t .char (([c0, c1, c2] : List Int32).map .int) := At
    refine Road.callI (B' := bStr1) (a := s) 83 (argsL := [(.ref t)]) (rest := [(.ref s)]) 1 bMk_d83 (hw _ (List.mem_of_getElem? (i := 8) rfl)) (hw _ (List.mem_of_getElem? (i := 9) rfl)) (hw _ (List.mem_of_getElem? (i := 6) rfl)) (hw _ (List.mem_of_getElem? (i := 10) rfl)) rfl rfl (by decide) (cStr1 l Z a0 hw n0 hEW s t [c0, c1, c2] h_92 σ_80 Es Cs Vs At (by simp) (by intro c hc; simp only [List.mem_cons, List.not_mem_nil, or_false] at hc; rcases hc with rfl | rfl | rfl <;> assumption) s_76 cp Hc hcp) (lenOf bStr1_pd rfl) rfl rfl rfl (by decide) (by decide) (ce' := 6) (sl' := 15) rfl rfl (by decide) (by decide) ?_
    rintro _ h_95 σ_96 m_97 ⟨rfl, K_98, ds, Ss, Ns⟩
    replace KT := KT.trans K_98 (by intro z hz; simp only [List.mem_cons, List.not_mem_nil, or_false] at hz; rcases hz with rfl <;> first | (exact Or.inr (by assumption)) | (simp; done))
    replace s_76 := m_97 _ s_76
    replace s_85 := m_97 _ s_85
    exact Road.aret 86 bMk_d86 (t := (.object "java/lang/String")) rfl rfl rfl (by decide) (by decide) (fun σ' m => ⟨s, ds, _, rfl, KT, Ss, Or.inr (Or.inr (Or.inr (Or.inl ⟨rfl, rfl⟩)))⟩)
  · skip
    have KT := Keep.refl h0 ([] : List Addr)
    refine Road.iloadN 0 bMk_d0 rfl ?_
    refine Road.if_ne 1 15 bMk_d1 rfl (fun hc1 => ?_) (fun q => absurd q (by decide))
    refine Road.iloadN 15 bMk_d15 rfl ?_
    refine Road.iconst 16 (1 : Int32) bMk_d16 rfl ?_
    refine Road.icmp_ne 17 35 bMk_d17 rfl (fun hc17 => ?_) (fun q => absurd q (by decide))
    refine Road.iloadN 35 bMk_d35 rfl ?_
    refine Road.iconst 36 (2 : Int32) bMk_d36 rfl ?_
    refine Road.icmp_ne 37 59 bMk_d37 rfl (fun hc37 => ?_) (fun q => absurd q (by decide))
    refine Road.iloadN 59 bMk_d59 rfl ?_
    refine Road.iconst 60 (3 : Int32) bMk_d60 rfl ?_
    refine Road.icmp_ne 61 87 bMk_d61 rfl (fun hc61 => ?_) (fun q => absurd q (by decide))
    refine Road.iloadN 87 bMk_d87 rfl ?_
    refine Road.iconst 88 (4 : Int32) bMk_d88 rfl ?_
    refine Road.icmp_ne 89 120 bMk_d89 rfl (fun q => absurd q (by decide)) (fun hc89 => ?_)
    refine Road.new 92 "java/lang/String" bMk_d92 (hw _ (List.mem_of_getElem? (i := 4) rfl)) (hw _ (List.mem_of_getElem? (i := 5) rfl)) (hw _ (List.mem_of_getElem? (i := 6) rfl)) (ce' := 1) (sl' := 4) rfl rfl (by decide) (by decide) ?_
    intro s h_99 σ_100 g_101 K_102 lt_103 m_104 s_105 Es D_106 M_107
    have gk_s := Nat.le_trans KT.1 (Nat.le_of_eq g_101.symm)
    replace KT := KT.trans K_102 (by simp)
    have Cs := D_106 (Or.inr (hw _ (List.mem_of_getElem? (i := 21) rfl))) (ty := .byte) (by decide)
    have Vs := D_106 (Or.inr (hw _ (List.mem_of_getElem? (i := 20) rfl))) (ty := (.array .byte)) (by decide)
    refine Road.dup 95 bMk_d95 ?_
    refine Road.iconst 96 (4 : Int32) bMk_d96 rfl ?_
    refine Road.newarray 97 .char 4 4 bMk_d97 rfl (hw _ (List.mem_of_getElem? (i := 7) rfl)) (by decide) (by decide) (by decide) (ce' := 2) (sl' := 8) rfl rfl (by decide) (by decide) ?_
    intro t h_108 σ_109 g_110 K_111 lt_112 m_113 s_114 At
    have gk_t := Nat.le_trans KT.1 (Nat.le_of_eq g_110.symm)
    have ne_s_t : s ≠ t := Nat.ne_of_lt (Nat.lt_of_lt_of_le Es.lt (Nat.le_of_eq g_110.symm))
    replace KT := KT.trans K_111 (by simp)
    replace Es := Es.keep K_111
    replace Cs := Cs.keep K_111 nin0
    replace Vs := Vs.keep K_111 nin0
    replace s_105 := m_113 _ s_105
    refine Road.dup 99 bMk_d99 ?_
    refine Road.iconst 100 (0 : Int32) bMk_d100 rfl ?_
    refine Road.iloadN 101 bMk_d101 rfl ?_
    refine Road.castore 102 0 c0 bMk_d102 At (by decide) (by simp) (Road.nar_lat lat0) s_114 ?_
    intro h_115 K_116 A_117
    replace KT := KT.trans K_116 (by intro z hz; simp only [List.mem_cons, List.not_mem_nil, or_false] at hz; rcases hz with rfl <;> first | (exact Or.inr (by assumption)) | (simp; done))
    replace Es := Es.keep K_116
    replace Cs := Cs.keep K_116 (ninS ne_s_t nin0)
    replace Vs := Vs.keep K_116 (ninS ne_s_t nin0)
    replace At := A_117
    refine Road.dup 103 bMk_d103 ?_
    refine Road.iconst 104 (1 : Int32) bMk_d104 rfl ?_
    refine Road.iloadN 105 bMk_d105 rfl ?_
    refine Road.castore 106 1 c1 bMk_d106 At (by decide) (by simp) (Road.nar_lat lat1) s_114 ?_
    intro h_118 K_119 A_120
    replace KT := KT.trans K_119 (by intro z hz; simp only [List.mem_cons, List.not_mem_nil, or_false] at hz; rcases hz with rfl <;> first | (exact Or.inr (by assumption)) | (simp; done))
    replace Es := Es.keep K_119
    replace Cs := Cs.keep K_119 (ninS ne_s_t nin0)
    replace Vs := Vs.keep K_119 (ninS ne_s_t nin0)
    replace At := A_120
    refine Road.dup 107 bMk_d107 ?_
    refine Road.iconst 108 (2 : Int32) bMk_d108 rfl ?_
    refine Road.iloadN 109 bMk_d109 rfl ?_
    refine Road.castore 110 2 c2 bMk_d110 At (by decide) (by simp) (Road.nar_lat lat2) s_114 ?_
    intro h_121 K_122 A_123
    replace KT := KT.trans K_122 (by intro z hz; simp only [List.mem_cons, List.not_mem_nil, or_false] at hz; rcases hz with rfl <;> first | (exact Or.inr (by assumption)) | (simp; done))
    replace Es := Es.keep K_122
    replace Cs := Cs.keep K_122 (ninS ne_s_t nin0)
    replace Vs := Vs.keep K_122 (ninS ne_s_t nin0)
    replace At := A_123
    refine Road.dup 111 bMk_d111 ?_
    refine Road.iconst 112 (3 : Int32) bMk_d112 rfl ?_
    refine Road.iload 113 bMk_d113 rfl ?_
    refine Road.castore 115 3 c3 bMk_d115 At (by decide) (by simp) (Road.nar_lat lat3) s_114 ?_
    intro h_124 K_125 A_126
    replace KT := KT.trans K_125 (by intro z hz; simp only [List.mem_cons, List.not_mem_nil, or_false] at hz; rcases hz with rfl <;> first | (exact Or.inr (by assumption)) | (simp; done))
    replace Es := Es.keep K_125
    replace Cs := Cs.keep K_125 (ninS ne_s_t nin0)
    replace Vs := Vs.keep K_125 (ninS ne_s_t nin0)
    replace At := A_126
    replace At : Road.Ary Z h_124 t .char (([c0, c1, c2, c3] : List Int32).map .int) := At
    refine Road.callI (B' := bStr1) (a := s) 116 (argsL := [(.ref t)]) (rest := [(.ref s)]) 1 bMk_d116 (hw _ (List.mem_of_getElem? (i := 8) rfl)) (hw _ (List.mem_of_getElem? (i := 9) rfl)) (hw _ (List.mem_of_getElem? (i := 6) rfl)) (hw _ (List.mem_of_getElem? (i := 10) rfl)) rfl rfl (by decide) (cStr1 l Z a0 hw n0 hEW s t [c0, c1, c2, c3] h_124 σ_109 Es Cs Vs At (by simp) (by intro c hc; simp only [List.mem_cons, List.not_mem_nil, or_false] at hc; rcases hc with rfl | rfl | rfl | rfl <;> assumption) s_105 cp Hc hcp) (lenOf bStr1_pd rfl) rfl rfl rfl (by decide) (by decide) (ce' := 6) (sl' := 16) rfl rfl (by decide) (by decide) ?_
    rintro _ h_127 σ_128 m_129 ⟨rfl, K_130, ds, Ss, Ns⟩
    replace KT := KT.trans K_130 (by intro z hz; simp only [List.mem_cons, List.not_mem_nil, or_false] at hz; rcases hz with rfl <;> first | (exact Or.inr (by assumption)) | (simp; done))
    replace s_105 := m_129 _ s_105
    replace s_114 := m_129 _ s_114
    exact Road.aret 119 bMk_d119 (t := (.object "java/lang/String")) rfl rfl rfl (by decide) (by decide) (fun σ' m => ⟨s, ds, _, rfl, KT, Ss, Or.inr (Or.inr (Or.inr (Or.inr (Or.inl ⟨rfl, rfl⟩))))⟩)
  · skip
    have KT := Keep.refl h0 ([] : List Addr)
    refine Road.iloadN 0 bMk_d0 rfl ?_
    refine Road.if_ne 1 15 bMk_d1 rfl (fun hc1 => ?_) (fun q => absurd q (by decide))
    refine Road.iloadN 15 bMk_d15 rfl ?_
    refine Road.iconst 16 (1 : Int32) bMk_d16 rfl ?_
    refine Road.icmp_ne 17 35 bMk_d17 rfl (fun hc17 => ?_) (fun q => absurd q (by decide))
    refine Road.iloadN 35 bMk_d35 rfl ?_
    refine Road.iconst 36 (2 : Int32) bMk_d36 rfl ?_
    refine Road.icmp_ne 37 59 bMk_d37 rfl (fun hc37 => ?_) (fun q => absurd q (by decide))
    refine Road.iloadN 59 bMk_d59 rfl ?_
    refine Road.iconst 60 (3 : Int32) bMk_d60 rfl ?_
    refine Road.icmp_ne 61 87 bMk_d61 rfl (fun hc61 => ?_) (fun q => absurd q (by decide))
    refine Road.iloadN 87 bMk_d87 rfl ?_
    refine Road.iconst 88 (4 : Int32) bMk_d88 rfl ?_
    refine Road.icmp_ne 89 120 bMk_d89 rfl (fun hc89 => ?_) (fun q => absurd q (by decide))
    refine Road.iloadN 120 bMk_d120 rfl ?_
    refine Road.iconst 121 (5 : Int32) bMk_d121 rfl ?_
    refine Road.icmp_ne 122 158 bMk_d122 rfl (fun q => absurd q (by decide)) (fun hc122 => ?_)
    refine Road.new 125 "java/lang/String" bMk_d125 (hw _ (List.mem_of_getElem? (i := 4) rfl)) (hw _ (List.mem_of_getElem? (i := 5) rfl)) (hw _ (List.mem_of_getElem? (i := 6) rfl)) (ce' := 1) (sl' := 4) rfl rfl (by decide) (by decide) ?_
    intro s h_131 σ_132 g_133 K_134 lt_135 m_136 s_137 Es D_138 M_139
    have gk_s := Nat.le_trans KT.1 (Nat.le_of_eq g_133.symm)
    replace KT := KT.trans K_134 (by simp)
    have Cs := D_138 (Or.inr (hw _ (List.mem_of_getElem? (i := 21) rfl))) (ty := .byte) (by decide)
    have Vs := D_138 (Or.inr (hw _ (List.mem_of_getElem? (i := 20) rfl))) (ty := (.array .byte)) (by decide)
    refine Road.dup 128 bMk_d128 ?_
    refine Road.iconst 129 (5 : Int32) bMk_d129 rfl ?_
    refine Road.newarray 130 .char 5 5 bMk_d130 rfl (hw _ (List.mem_of_getElem? (i := 7) rfl)) (by decide) (by decide) (by decide) (ce' := 2) (sl' := 9) rfl rfl (by decide) (by decide) ?_
    intro t h_140 σ_141 g_142 K_143 lt_144 m_145 s_146 At
    have gk_t := Nat.le_trans KT.1 (Nat.le_of_eq g_142.symm)
    have ne_s_t : s ≠ t := Nat.ne_of_lt (Nat.lt_of_lt_of_le Es.lt (Nat.le_of_eq g_142.symm))
    replace KT := KT.trans K_143 (by simp)
    replace Es := Es.keep K_143
    replace Cs := Cs.keep K_143 nin0
    replace Vs := Vs.keep K_143 nin0
    replace s_137 := m_145 _ s_137
    refine Road.dup 132 bMk_d132 ?_
    refine Road.iconst 133 (0 : Int32) bMk_d133 rfl ?_
    refine Road.iloadN 134 bMk_d134 rfl ?_
    refine Road.castore 135 0 c0 bMk_d135 At (by decide) (by simp) (Road.nar_lat lat0) s_146 ?_
    intro h_147 K_148 A_149
    replace KT := KT.trans K_148 (by intro z hz; simp only [List.mem_cons, List.not_mem_nil, or_false] at hz; rcases hz with rfl <;> first | (exact Or.inr (by assumption)) | (simp; done))
    replace Es := Es.keep K_148
    replace Cs := Cs.keep K_148 (ninS ne_s_t nin0)
    replace Vs := Vs.keep K_148 (ninS ne_s_t nin0)
    replace At := A_149
    refine Road.dup 136 bMk_d136 ?_
    refine Road.iconst 137 (1 : Int32) bMk_d137 rfl ?_
    refine Road.iloadN 138 bMk_d138 rfl ?_
    refine Road.castore 139 1 c1 bMk_d139 At (by decide) (by simp) (Road.nar_lat lat1) s_146 ?_
    intro h_150 K_151 A_152
    replace KT := KT.trans K_151 (by intro z hz; simp only [List.mem_cons, List.not_mem_nil, or_false] at hz; rcases hz with rfl <;> first | (exact Or.inr (by assumption)) | (simp; done))
    replace Es := Es.keep K_151
    replace Cs := Cs.keep K_151 (ninS ne_s_t nin0)
    replace Vs := Vs.keep K_151 (ninS ne_s_t nin0)
    replace At := A_152
    refine Road.dup 140 bMk_d140 ?_
    refine Road.iconst 141 (2 : Int32) bMk_d141 rfl ?_
    refine Road.iloadN 142 bMk_d142 rfl ?_
    refine Road.castore 143 2 c2 bMk_d143 At (by decide) (by simp) (Road.nar_lat lat2) s_146 ?_
    intro h_153 K_154 A_155
    replace KT := KT.trans K_154 (by intro z hz; simp only [List.mem_cons, List.not_mem_nil, or_false] at hz; rcases hz with rfl <;> first | (exact Or.inr (by assumption)) | (simp; done))
    replace Es := Es.keep K_154
    replace Cs := Cs.keep K_154 (ninS ne_s_t nin0)
    replace Vs := Vs.keep K_154 (ninS ne_s_t nin0)
    replace At := A_155
    refine Road.dup 144 bMk_d144 ?_
    refine Road.iconst 145 (3 : Int32) bMk_d145 rfl ?_
    refine Road.iload 146 bMk_d146 rfl ?_
    refine Road.castore 148 3 c3 bMk_d148 At (by decide) (by simp) (Road.nar_lat lat3) s_146 ?_
    intro h_156 K_157 A_158
    replace KT := KT.trans K_157 (by intro z hz; simp only [List.mem_cons, List.not_mem_nil, or_false] at hz; rcases hz with rfl <;> first | (exact Or.inr (by assumption)) | (simp; done))
    replace Es := Es.keep K_157
    replace Cs := Cs.keep K_157 (ninS ne_s_t nin0)
    replace Vs := Vs.keep K_157 (ninS ne_s_t nin0)
    replace At := A_158
    refine Road.dup 149 bMk_d149 ?_
    refine Road.iconst 150 (4 : Int32) bMk_d150 rfl ?_
    refine Road.iload 151 bMk_d151 rfl ?_
    refine Road.castore 153 4 c4 bMk_d153 At (by decide) (by simp) (Road.nar_lat lat4) s_146 ?_
    intro h_159 K_160 A_161
    replace KT := KT.trans K_160 (by intro z hz; simp only [List.mem_cons, List.not_mem_nil, or_false] at hz; rcases hz with rfl <;> first | (exact Or.inr (by assumption)) | (simp; done))
    replace Es := Es.keep K_160
    replace Cs := Cs.keep K_160 (ninS ne_s_t nin0)
    replace Vs := Vs.keep K_160 (ninS ne_s_t nin0)
    replace At := A_161
    replace At : Road.Ary Z h_159 t .char (([c0, c1, c2, c3, c4] : List Int32).map .int) := At
    refine Road.callI (B' := bStr1) (a := s) 154 (argsL := [(.ref t)]) (rest := [(.ref s)]) 1 bMk_d154 (hw _ (List.mem_of_getElem? (i := 8) rfl)) (hw _ (List.mem_of_getElem? (i := 9) rfl)) (hw _ (List.mem_of_getElem? (i := 6) rfl)) (hw _ (List.mem_of_getElem? (i := 10) rfl)) rfl rfl (by decide) (cStr1 l Z a0 hw n0 hEW s t [c0, c1, c2, c3, c4] h_159 σ_141 Es Cs Vs At (by simp) (by intro c hc; simp only [List.mem_cons, List.not_mem_nil, or_false] at hc; rcases hc with rfl | rfl | rfl | rfl | rfl <;> assumption) s_137 cp Hc hcp) (lenOf bStr1_pd rfl) rfl rfl rfl (by decide) (by decide) (ce' := 6) (sl' := 17) rfl rfl (by decide) (by decide) ?_
    rintro _ h_162 σ_163 m_164 ⟨rfl, K_165, ds, Ss, Ns⟩
    replace KT := KT.trans K_165 (by intro z hz; simp only [List.mem_cons, List.not_mem_nil, or_false] at hz; rcases hz with rfl <;> first | (exact Or.inr (by assumption)) | (simp; done))
    replace s_137 := m_164 _ s_137
    replace s_146 := m_164 _ s_146
    exact Road.aret 157 bMk_d157 (t := (.object "java/lang/String")) rfl rfl rfl (by decide) (by decide) (fun σ' m => ⟨s, ds, _, rfl, KT, Ss, Or.inr (Or.inr (Or.inr (Or.inr (Or.inr (Or.inl ⟨rfl, rfl⟩)))))⟩)
  · skip
    have KT := Keep.refl h0 ([] : List Addr)
    refine Road.iloadN 0 bMk_d0 rfl ?_
    refine Road.if_ne 1 15 bMk_d1 rfl (fun hc1 => ?_) (fun q => absurd q (by decide))
    refine Road.iloadN 15 bMk_d15 rfl ?_
    refine Road.iconst 16 (1 : Int32) bMk_d16 rfl ?_
    refine Road.icmp_ne 17 35 bMk_d17 rfl (fun hc17 => ?_) (fun q => absurd q (by decide))
    refine Road.iloadN 35 bMk_d35 rfl ?_
    refine Road.iconst 36 (2 : Int32) bMk_d36 rfl ?_
    refine Road.icmp_ne 37 59 bMk_d37 rfl (fun hc37 => ?_) (fun q => absurd q (by decide))
    refine Road.iloadN 59 bMk_d59 rfl ?_
    refine Road.iconst 60 (3 : Int32) bMk_d60 rfl ?_
    refine Road.icmp_ne 61 87 bMk_d61 rfl (fun hc61 => ?_) (fun q => absurd q (by decide))
    refine Road.iloadN 87 bMk_d87 rfl ?_
    refine Road.iconst 88 (4 : Int32) bMk_d88 rfl ?_
    refine Road.icmp_ne 89 120 bMk_d89 rfl (fun hc89 => ?_) (fun q => absurd q (by decide))
    refine Road.iloadN 120 bMk_d120 rfl ?_
    refine Road.iconst 121 (5 : Int32) bMk_d121 rfl ?_
    refine Road.icmp_ne 122 158 bMk_d122 rfl (fun hc122 => ?_) (fun q => absurd q (by decide))
    refine Road.new 158 "java/lang/String" bMk_d158 (hw _ (List.mem_of_getElem? (i := 4) rfl)) (hw _ (List.mem_of_getElem? (i := 5) rfl)) (hw _ (List.mem_of_getElem? (i := 6) rfl)) (ce' := 1) (sl' := 4) rfl rfl (by decide) (by decide) ?_
    intro s h_166 σ_167 g_168 K_169 lt_170 m_171 s_172 Es D_173 M_174
    have gk_s := Nat.le_trans KT.1 (Nat.le_of_eq g_168.symm)
    replace KT := KT.trans K_169 (by simp)
    have Cs := D_173 (Or.inr (hw _ (List.mem_of_getElem? (i := 21) rfl))) (ty := .byte) (by decide)
    have Vs := D_173 (Or.inr (hw _ (List.mem_of_getElem? (i := 20) rfl))) (ty := (.array .byte)) (by decide)
    refine Road.dup 161 bMk_d161 ?_
    refine Road.bipush 162 (6 : Int32) bMk_d162 rfl ?_
    refine Road.newarray 164 .char 6 6 bMk_d164 rfl (hw _ (List.mem_of_getElem? (i := 7) rfl)) (by decide) (by decide) (by decide) (ce' := 2) (sl' := 10) rfl rfl (by decide) (by decide) ?_
    intro t h_175 σ_176 g_177 K_178 lt_179 m_180 s_181 At
    have gk_t := Nat.le_trans KT.1 (Nat.le_of_eq g_177.symm)
    have ne_s_t : s ≠ t := Nat.ne_of_lt (Nat.lt_of_lt_of_le Es.lt (Nat.le_of_eq g_177.symm))
    replace KT := KT.trans K_178 (by simp)
    replace Es := Es.keep K_178
    replace Cs := Cs.keep K_178 nin0
    replace Vs := Vs.keep K_178 nin0
    replace s_172 := m_180 _ s_172
    refine Road.dup 166 bMk_d166 ?_
    refine Road.iconst 167 (0 : Int32) bMk_d167 rfl ?_
    refine Road.iloadN 168 bMk_d168 rfl ?_
    refine Road.castore 169 0 c0 bMk_d169 At (by decide) (by simp) (Road.nar_lat lat0) s_181 ?_
    intro h_182 K_183 A_184
    replace KT := KT.trans K_183 (by intro z hz; simp only [List.mem_cons, List.not_mem_nil, or_false] at hz; rcases hz with rfl <;> first | (exact Or.inr (by assumption)) | (simp; done))
    replace Es := Es.keep K_183
    replace Cs := Cs.keep K_183 (ninS ne_s_t nin0)
    replace Vs := Vs.keep K_183 (ninS ne_s_t nin0)
    replace At := A_184
    refine Road.dup 170 bMk_d170 ?_
    refine Road.iconst 171 (1 : Int32) bMk_d171 rfl ?_
    refine Road.iloadN 172 bMk_d172 rfl ?_
    refine Road.castore 173 1 c1 bMk_d173 At (by decide) (by simp) (Road.nar_lat lat1) s_181 ?_
    intro h_185 K_186 A_187
    replace KT := KT.trans K_186 (by intro z hz; simp only [List.mem_cons, List.not_mem_nil, or_false] at hz; rcases hz with rfl <;> first | (exact Or.inr (by assumption)) | (simp; done))
    replace Es := Es.keep K_186
    replace Cs := Cs.keep K_186 (ninS ne_s_t nin0)
    replace Vs := Vs.keep K_186 (ninS ne_s_t nin0)
    replace At := A_187
    refine Road.dup 174 bMk_d174 ?_
    refine Road.iconst 175 (2 : Int32) bMk_d175 rfl ?_
    refine Road.iloadN 176 bMk_d176 rfl ?_
    refine Road.castore 177 2 c2 bMk_d177 At (by decide) (by simp) (Road.nar_lat lat2) s_181 ?_
    intro h_188 K_189 A_190
    replace KT := KT.trans K_189 (by intro z hz; simp only [List.mem_cons, List.not_mem_nil, or_false] at hz; rcases hz with rfl <;> first | (exact Or.inr (by assumption)) | (simp; done))
    replace Es := Es.keep K_189
    replace Cs := Cs.keep K_189 (ninS ne_s_t nin0)
    replace Vs := Vs.keep K_189 (ninS ne_s_t nin0)
    replace At := A_190
    refine Road.dup 178 bMk_d178 ?_
    refine Road.iconst 179 (3 : Int32) bMk_d179 rfl ?_
    refine Road.iload 180 bMk_d180 rfl ?_
    refine Road.castore 182 3 c3 bMk_d182 At (by decide) (by simp) (Road.nar_lat lat3) s_181 ?_
    intro h_191 K_192 A_193
    replace KT := KT.trans K_192 (by intro z hz; simp only [List.mem_cons, List.not_mem_nil, or_false] at hz; rcases hz with rfl <;> first | (exact Or.inr (by assumption)) | (simp; done))
    replace Es := Es.keep K_192
    replace Cs := Cs.keep K_192 (ninS ne_s_t nin0)
    replace Vs := Vs.keep K_192 (ninS ne_s_t nin0)
    replace At := A_193
    refine Road.dup 183 bMk_d183 ?_
    refine Road.iconst 184 (4 : Int32) bMk_d184 rfl ?_
    refine Road.iload 185 bMk_d185 rfl ?_
    refine Road.castore 187 4 c4 bMk_d187 At (by decide) (by simp) (Road.nar_lat lat4) s_181 ?_
    intro h_194 K_195 A_196
    replace KT := KT.trans K_195 (by intro z hz; simp only [List.mem_cons, List.not_mem_nil, or_false] at hz; rcases hz with rfl <;> first | (exact Or.inr (by assumption)) | (simp; done))
    replace Es := Es.keep K_195
    replace Cs := Cs.keep K_195 (ninS ne_s_t nin0)
    replace Vs := Vs.keep K_195 (ninS ne_s_t nin0)
    replace At := A_196
    refine Road.dup 188 bMk_d188 ?_
    refine Road.iconst 189 (5 : Int32) bMk_d189 rfl ?_
    refine Road.iload 190 bMk_d190 rfl ?_
    refine Road.castore 192 5 c5 bMk_d192 At (by decide) (by simp) (Road.nar_lat lat5) s_181 ?_
    intro h_197 K_198 A_199
    replace KT := KT.trans K_198 (by intro z hz; simp only [List.mem_cons, List.not_mem_nil, or_false] at hz; rcases hz with rfl <;> first | (exact Or.inr (by assumption)) | (simp; done))
    replace Es := Es.keep K_198
    replace Cs := Cs.keep K_198 (ninS ne_s_t nin0)
    replace Vs := Vs.keep K_198 (ninS ne_s_t nin0)
    replace At := A_199
    replace At : Road.Ary Z h_197 t .char (([c0, c1, c2, c3, c4, c5] : List Int32).map .int) := At
    refine Road.callI (B' := bStr1) (a := s) 193 (argsL := [(.ref t)]) (rest := [(.ref s)]) 1 bMk_d193 (hw _ (List.mem_of_getElem? (i := 8) rfl)) (hw _ (List.mem_of_getElem? (i := 9) rfl)) (hw _ (List.mem_of_getElem? (i := 6) rfl)) (hw _ (List.mem_of_getElem? (i := 10) rfl)) rfl rfl (by decide) (cStr1 l Z a0 hw n0 hEW s t [c0, c1, c2, c3, c4, c5] h_197 σ_176 Es Cs Vs At (by simp) (by intro c hc; simp only [List.mem_cons, List.not_mem_nil, or_false] at hc; rcases hc with rfl | rfl | rfl | rfl | rfl | rfl <;> assumption) s_172 cp Hc hcp) (lenOf bStr1_pd rfl) rfl rfl rfl (by decide) (by decide) (ce' := 6) (sl' := 18) rfl rfl (by decide) (by decide) ?_
    rintro _ h_200 σ_201 m_202 ⟨rfl, K_203, ds, Ss, Ns⟩
    replace KT := KT.trans K_203 (by intro z hz; simp only [List.mem_cons, List.not_mem_nil, or_false] at hz; rcases hz with rfl <;> first | (exact Or.inr (by assumption)) | (simp; done))
    replace s_172 := m_202 _ s_172
    replace s_181 := m_202 _ s_181
    exact Road.aret 196 bMk_d196 (t := (.object "java/lang/String")) rfl rfl rfl (by decide) (by decide) (fun σ' m => ⟨s, ds, _, rfl, KT, Ss, Or.inr (Or.inr (Or.inr (Or.inr (Or.inr (Or.inr (⟨rfl, rfl⟩))))))⟩)
def b0 : Road.Bdy := (x, code, maxLocals, ret, room_1)
theorem b0_d0 : decode b0.bs 0 = .ok (.iload_n 0, 1) := at_0
theorem b0_d1 : decode b0.bs 1 = .ok (.iconst 3, 1) := at_1
theorem b0_d2 : decode b0.bs 2 = .ok (.iand, 1) := at_2
theorem b0_d3 : decode b0.bs 3 = .ok (.istore_n 3, 1) := at_3
theorem b0_d4 : decode b0.bs 4 = .ok (.iload_n 0, 1) := at_4
theorem b0_d5 : decode b0.bs 5 = .ok (.iconst 2, 1) := at_5
theorem b0_d6 : decode b0.bs 6 = .ok (.iushr, 1) := at_6
theorem b0_d7 : decode b0.bs 7 = .ok (.bipush 7, 2) := at_7
theorem b0_d9 : decode b0.bs 9 = .ok (.iand, 1) := at_9
theorem b0_d10 : decode b0.bs 10 = .ok (.bipush 7, 2) := at_10
theorem b0_d12 : decode b0.bs 12 = .ok (.irem, 1) := at_12
theorem b0_d13 : decode b0.bs 13 = .ok (.istore 4, 2) := at_13
theorem b0_d15 : decode b0.bs 15 = .ok (.iload_n 0, 1) := at_15
theorem b0_d16 : decode b0.bs 16 = .ok (.iconst 5, 1) := at_16
theorem b0_d17 : decode b0.bs 17 = .ok (.iushr, 1) := at_17
theorem b0_d18 : decode b0.bs 18 = .ok (.bipush 7, 2) := at_18
theorem b0_d20 : decode b0.bs 20 = .ok (.iand, 1) := at_20
theorem b0_d21 : decode b0.bs 21 = .ok (.istore 5, 2) := at_21
theorem b0_d23 : decode b0.bs 23 = .ok (.iload_n 1, 1) := at_23
theorem b0_d24 : decode b0.bs 24 = .ok (.sipush 255, 3) := at_24
theorem b0_d27 : decode b0.bs 27 = .ok (.iand, 1) := at_27
theorem b0_d28 : decode b0.bs 28 = .ok (.i2c, 1) := at_28
theorem b0_d29 : decode b0.bs 29 = .ok (.istore 6, 2) := at_29
theorem b0_d31 : decode b0.bs 31 = .ok (.iload_n 1, 1) := at_31
theorem b0_d32 : decode b0.bs 32 = .ok (.bipush 8, 2) := at_32
theorem b0_d34 : decode b0.bs 34 = .ok (.iushr, 1) := at_34
theorem b0_d35 : decode b0.bs 35 = .ok (.sipush 255, 3) := at_35
theorem b0_d38 : decode b0.bs 38 = .ok (.iand, 1) := at_38
theorem b0_d39 : decode b0.bs 39 = .ok (.i2c, 1) := at_39
theorem b0_d40 : decode b0.bs 40 = .ok (.istore 7, 2) := at_40
theorem b0_d42 : decode b0.bs 42 = .ok (.iload_n 1, 1) := at_42
theorem b0_d43 : decode b0.bs 43 = .ok (.bipush 16, 2) := at_43
theorem b0_d45 : decode b0.bs 45 = .ok (.iushr, 1) := at_45
theorem b0_d46 : decode b0.bs 46 = .ok (.sipush 255, 3) := at_46
theorem b0_d49 : decode b0.bs 49 = .ok (.iand, 1) := at_49
theorem b0_d50 : decode b0.bs 50 = .ok (.i2c, 1) := at_50
theorem b0_d51 : decode b0.bs 51 = .ok (.istore 8, 2) := at_51
theorem b0_d53 : decode b0.bs 53 = .ok (.iload_n 1, 1) := at_53
theorem b0_d54 : decode b0.bs 54 = .ok (.bipush 24, 2) := at_54
theorem b0_d56 : decode b0.bs 56 = .ok (.iushr, 1) := at_56
theorem b0_d57 : decode b0.bs 57 = .ok (.sipush 255, 3) := at_57
theorem b0_d60 : decode b0.bs 60 = .ok (.iand, 1) := at_60
theorem b0_d61 : decode b0.bs 61 = .ok (.i2c, 1) := at_61
theorem b0_d62 : decode b0.bs 62 = .ok (.istore 9, 2) := at_62
theorem b0_d64 : decode b0.bs 64 = .ok (.iload_n 2, 1) := at_64
theorem b0_d65 : decode b0.bs 65 = .ok (.sipush 255, 3) := at_65
theorem b0_d68 : decode b0.bs 68 = .ok (.iand, 1) := at_68
theorem b0_d69 : decode b0.bs 69 = .ok (.i2c, 1) := at_69
theorem b0_d70 : decode b0.bs 70 = .ok (.istore 10, 2) := at_70
theorem b0_d72 : decode b0.bs 72 = .ok (.iload_n 2, 1) := at_72
theorem b0_d73 : decode b0.bs 73 = .ok (.bipush 8, 2) := at_73
theorem b0_d75 : decode b0.bs 75 = .ok (.iushr, 1) := at_75
theorem b0_d76 : decode b0.bs 76 = .ok (.sipush 255, 3) := at_76
theorem b0_d79 : decode b0.bs 79 = .ok (.iand, 1) := at_79
theorem b0_d80 : decode b0.bs 80 = .ok (.i2c, 1) := at_80
theorem b0_d81 : decode b0.bs 81 = .ok (.istore 11, 2) := at_81
theorem b0_d83 : decode b0.bs 83 = .ok (.iload_n 2, 1) := at_83
theorem b0_d84 : decode b0.bs 84 = .ok (.bipush 16, 2) := at_84
theorem b0_d86 : decode b0.bs 86 = .ok (.iushr, 1) := at_86
theorem b0_d87 : decode b0.bs 87 = .ok (.sipush 255, 3) := at_87
theorem b0_d90 : decode b0.bs 90 = .ok (.iand, 1) := at_90
theorem b0_d91 : decode b0.bs 91 = .ok (.i2c, 1) := at_91
theorem b0_d92 : decode b0.bs 92 = .ok (.istore 12, 2) := at_92
theorem b0_d94 : decode b0.bs 94 = .ok (.iload_n 3, 1) := at_94
theorem b0_d95 : decode b0.bs 95 = .ok (.iconst 1, 1) := at_95
theorem b0_d96 : decode b0.bs 96 = .ok (.if_icmp .ne 21, 3) := at_96
theorem b0_d99 : decode b0.bs 99 = .ok (.iconst 3, 1) := at_99
theorem b0_d100 : decode b0.bs 100 = .ok (.istore 4, 2) := at_100
theorem b0_d102 : decode b0.bs 102 = .ok (.bipush 112, 2) := at_102
theorem b0_d104 : decode b0.bs 104 = .ok (.istore 6, 2) := at_104
theorem b0_d106 : decode b0.bs 106 = .ok (.bipush 117, 2) := at_106
theorem b0_d108 : decode b0.bs 108 = .ok (.istore 7, 2) := at_108
theorem b0_d110 : decode b0.bs 110 = .ok (.bipush 116, 2) := at_110
theorem b0_d112 : decode b0.bs 112 = .ok (.istore 8, 2) := at_112
theorem b0_d114 : decode b0.bs 114 = .ok (.goto 36, 3) := at_114
theorem b0_d117 : decode b0.bs 117 = .ok (.iload_n 3, 1) := at_117
theorem b0_d118 : decode b0.bs 118 = .ok (.iconst 2, 1) := at_118
theorem b0_d119 : decode b0.bs 119 = .ok (.if_icmp .ne 31, 3) := at_119
theorem b0_d122 : decode b0.bs 122 = .ok (.bipush 6, 2) := at_122
theorem b0_d124 : decode b0.bs 124 = .ok (.istore 4, 2) := at_124
theorem b0_d126 : decode b0.bs 126 = .ok (.bipush 100, 2) := at_126
theorem b0_d128 : decode b0.bs 128 = .ok (.istore 6, 2) := at_128
theorem b0_d130 : decode b0.bs 130 = .ok (.bipush 101, 2) := at_130
theorem b0_d132 : decode b0.bs 132 = .ok (.istore 7, 2) := at_132
theorem b0_d134 : decode b0.bs 134 = .ok (.bipush 108, 2) := at_134
theorem b0_d136 : decode b0.bs 136 = .ok (.istore 8, 2) := at_136
theorem b0_d138 : decode b0.bs 138 = .ok (.bipush 101, 2) := at_138
theorem b0_d140 : decode b0.bs 140 = .ok (.istore 9, 2) := at_140
theorem b0_d142 : decode b0.bs 142 = .ok (.bipush 116, 2) := at_142
theorem b0_d144 : decode b0.bs 144 = .ok (.istore 10, 2) := at_144
theorem b0_d146 : decode b0.bs 146 = .ok (.bipush 101, 2) := at_146
theorem b0_d148 : decode b0.bs 148 = .ok (.istore 11, 2) := at_148
theorem b0_d150 : decode b0.bs 150 = .ok (.iload_n 3, 1) := at_150
theorem b0_d151 : decode b0.bs 151 = .ok (.iconst 1, 1) := at_151
theorem b0_d152 : decode b0.bs 152 = .ok (.if_icmp .eq 8, 3) := at_152
theorem b0_d155 : decode b0.bs 155 = .ok (.iload_n 3, 1) := at_155
theorem b0_d156 : decode b0.bs 156 = .ok (.iconst 2, 1) := at_156
theorem b0_d157 : decode b0.bs 157 = .ok (.if_icmp .ne 77, 3) := at_157
theorem b0_d160 : decode b0.bs 160 = .ok (.iload 5, 2) := at_160
theorem b0_d162 : decode b0.bs 162 = .ok (.ifCond .ne 10, 3) := at_162
theorem b0_d165 : decode b0.bs 165 = .ok (.iload 12, 2) := at_165
theorem b0_d167 : decode b0.bs 167 = .ok (.istore 6, 2) := at_167
theorem b0_d169 : decode b0.bs 169 = .ok (.goto 65, 3) := at_169
theorem b0_d172 : decode b0.bs 172 = .ok (.iload 5, 2) := at_172
theorem b0_d174 : decode b0.bs 174 = .ok (.iconst 1, 1) := at_174
theorem b0_d175 : decode b0.bs 175 = .ok (.if_icmp .ne 10, 3) := at_175
theorem b0_d178 : decode b0.bs 178 = .ok (.iload 12, 2) := at_178
theorem b0_d180 : decode b0.bs 180 = .ok (.istore 7, 2) := at_180
theorem b0_d182 : decode b0.bs 182 = .ok (.goto 52, 3) := at_182
theorem b0_d185 : decode b0.bs 185 = .ok (.iload 5, 2) := at_185
theorem b0_d187 : decode b0.bs 187 = .ok (.iconst 2, 1) := at_187
theorem b0_d188 : decode b0.bs 188 = .ok (.if_icmp .ne 10, 3) := at_188
theorem b0_d191 : decode b0.bs 191 = .ok (.iload 12, 2) := at_191
theorem b0_d193 : decode b0.bs 193 = .ok (.istore 8, 2) := at_193
theorem b0_d195 : decode b0.bs 195 = .ok (.goto 39, 3) := at_195
theorem b0_d198 : decode b0.bs 198 = .ok (.iload 5, 2) := at_198
theorem b0_d200 : decode b0.bs 200 = .ok (.iconst 3, 1) := at_200
theorem b0_d201 : decode b0.bs 201 = .ok (.if_icmp .ne 10, 3) := at_201
theorem b0_d204 : decode b0.bs 204 = .ok (.iload 12, 2) := at_204
theorem b0_d206 : decode b0.bs 206 = .ok (.istore 9, 2) := at_206
theorem b0_d208 : decode b0.bs 208 = .ok (.goto 26, 3) := at_208
theorem b0_d211 : decode b0.bs 211 = .ok (.iload 5, 2) := at_211
theorem b0_d213 : decode b0.bs 213 = .ok (.iconst 4, 1) := at_213
theorem b0_d214 : decode b0.bs 214 = .ok (.if_icmp .ne 10, 3) := at_214
theorem b0_d217 : decode b0.bs 217 = .ok (.iload 12, 2) := at_217
theorem b0_d219 : decode b0.bs 219 = .ok (.istore 10, 2) := at_219
theorem b0_d221 : decode b0.bs 221 = .ok (.goto 13, 3) := at_221
theorem b0_d224 : decode b0.bs 224 = .ok (.iload 5, 2) := at_224
theorem b0_d226 : decode b0.bs 226 = .ok (.iconst 5, 1) := at_226
theorem b0_d227 : decode b0.bs 227 = .ok (.if_icmp .ne 7, 3) := at_227
theorem b0_d230 : decode b0.bs 230 = .ok (.iload 12, 2) := at_230
theorem b0_d232 : decode b0.bs 232 = .ok (.istore 11, 2) := at_232
theorem b0_d234 : decode b0.bs 234 = .ok (.aconst_null, 1) := at_234
theorem b0_d235 : decode b0.bs 235 = .ok (.astore 13, 2) := at_235
theorem b0_d237 : decode b0.bs 237 = .ok (.iload_n 3, 1) := at_237
theorem b0_d238 : decode b0.bs 238 = .ok (.iconst 3, 1) := at_238
theorem b0_d239 : decode b0.bs 239 = .ok (.if_icmp .eq 22, 3) := at_239
theorem b0_d242 : decode b0.bs 242 = .ok (.iload 4, 2) := at_242
theorem b0_d244 : decode b0.bs 244 = .ok (.iload 6, 2) := at_244
theorem b0_d246 : decode b0.bs 246 = .ok (.iload 7, 2) := at_246
theorem b0_d248 : decode b0.bs 248 = .ok (.iload 8, 2) := at_248
theorem b0_d250 : decode b0.bs 250 = .ok (.iload 9, 2) := at_250
theorem b0_d252 : decode b0.bs 252 = .ok (.iload 10, 2) := at_252
theorem b0_d254 : decode b0.bs 254 = .ok (.iload 11, 2) := at_254
theorem b0_d256 : decode b0.bs 256 = .ok (.invokestatic 12, 3) := at_256
theorem b0_d259 : decode b0.bs 259 = .ok (.astore 13, 2) := at_259
theorem b0_d261 : decode b0.bs 261 = .ok (.aload 13, 2) := at_261
theorem b0_d263 : decode b0.bs 263 = .ok (.invokestatic 18, 3) := at_263
theorem b0_d266 : decode b0.bs 266 = .ok (.astore 14, 2) := at_266
theorem b0_d268 : decode b0.bs 268 = .ok (.aconst_null, 1) := at_268
theorem b0_d269 : decode b0.bs 269 = .ok (.astore 15, 2) := at_269
theorem b0_d271 : decode b0.bs 271 = .ok (.iload_n 3, 1) := at_271
theorem b0_d272 : decode b0.bs 272 = .ok (.iconst 3, 1) := at_272
theorem b0_d273 : decode b0.bs 273 = .ok (.if_icmp .eq 116, 3) := at_273
theorem b0_d276 : decode b0.bs 276 = .ok (.iload 4, 2) := at_276
theorem b0_d278 : decode b0.bs 278 = .ok (.iconst 3, 1) := at_278
theorem b0_d279 : decode b0.bs 279 = .ok (.if_icmp .ne 28, 3) := at_279
theorem b0_d282 : decode b0.bs 282 = .ok (.iload 6, 2) := at_282
theorem b0_d284 : decode b0.bs 284 = .ok (.bipush 112, 2) := at_284
theorem b0_d286 : decode b0.bs 286 = .ok (.if_icmp .ne 21, 3) := at_286
theorem b0_d289 : decode b0.bs 289 = .ok (.iload 7, 2) := at_289
theorem b0_d291 : decode b0.bs 291 = .ok (.bipush 117, 2) := at_291
theorem b0_d293 : decode b0.bs 293 = .ok (.if_icmp .ne 14, 3) := at_293
theorem b0_d296 : decode b0.bs 296 = .ok (.iload 8, 2) := at_296
theorem b0_d298 : decode b0.bs 298 = .ok (.bipush 116, 2) := at_298
theorem b0_d300 : decode b0.bs 300 = .ok (.if_icmp .ne 7, 3) := at_300
theorem b0_d303 : decode b0.bs 303 = .ok (.iconst 1, 1) := at_303
theorem b0_d304 : decode b0.bs 304 = .ok (.goto 4, 3) := at_304
theorem b0_d307 : decode b0.bs 307 = .ok (.iconst 0, 1) := at_307
theorem b0_d308 : decode b0.bs 308 = .ok (.istore 16, 2) := at_308
theorem b0_d310 : decode b0.bs 310 = .ok (.iload 4, 2) := at_310
theorem b0_d312 : decode b0.bs 312 = .ok (.bipush 6, 2) := at_312
theorem b0_d314 : decode b0.bs 314 = .ok (.if_icmp .ne 49, 3) := at_314
theorem b0_d317 : decode b0.bs 317 = .ok (.iload 6, 2) := at_317
theorem b0_d319 : decode b0.bs 319 = .ok (.bipush 100, 2) := at_319
theorem b0_d321 : decode b0.bs 321 = .ok (.if_icmp .ne 42, 3) := at_321
theorem b0_d324 : decode b0.bs 324 = .ok (.iload 7, 2) := at_324
theorem b0_d326 : decode b0.bs 326 = .ok (.bipush 101, 2) := at_326
theorem b0_d328 : decode b0.bs 328 = .ok (.if_icmp .ne 35, 3) := at_328
theorem b0_d331 : decode b0.bs 331 = .ok (.iload 8, 2) := at_331
theorem b0_d333 : decode b0.bs 333 = .ok (.bipush 108, 2) := at_333
theorem b0_d335 : decode b0.bs 335 = .ok (.if_icmp .ne 28, 3) := at_335
theorem b0_d338 : decode b0.bs 338 = .ok (.iload 9, 2) := at_338
theorem b0_d340 : decode b0.bs 340 = .ok (.bipush 101, 2) := at_340
theorem b0_d342 : decode b0.bs 342 = .ok (.if_icmp .ne 21, 3) := at_342
theorem b0_d345 : decode b0.bs 345 = .ok (.iload 10, 2) := at_345
theorem b0_d347 : decode b0.bs 347 = .ok (.bipush 116, 2) := at_347
theorem b0_d349 : decode b0.bs 349 = .ok (.if_icmp .ne 14, 3) := at_349
theorem b0_d352 : decode b0.bs 352 = .ok (.iload 11, 2) := at_352
theorem b0_d354 : decode b0.bs 354 = .ok (.bipush 101, 2) := at_354
theorem b0_d356 : decode b0.bs 356 = .ok (.if_icmp .ne 7, 3) := at_356
theorem b0_d359 : decode b0.bs 359 = .ok (.iconst 1, 1) := at_359
theorem b0_d360 : decode b0.bs 360 = .ok (.goto 4, 3) := at_360
theorem b0_d363 : decode b0.bs 363 = .ok (.iconst 0, 1) := at_363
theorem b0_d364 : decode b0.bs 364 = .ok (.istore 17, 2) := at_364
theorem b0_d366 : decode b0.bs 366 = .ok (.iload 16, 2) := at_366
theorem b0_d368 : decode b0.bs 368 = .ok (.ifCond .eq 11, 3) := at_368
theorem b0_d371 : decode b0.bs 371 = .ok (.getstatic 24, 3) := at_371
theorem b0_d374 : decode b0.bs 374 = .ok (.astore 15, 2) := at_374
theorem b0_d376 : decode b0.bs 376 = .ok (.goto 13, 3) := at_376
theorem b0_d379 : decode b0.bs 379 = .ok (.iload 17, 2) := at_379
theorem b0_d381 : decode b0.bs 381 = .ok (.ifCond .eq 8, 3) := at_381
theorem b0_d384 : decode b0.bs 384 = .ok (.getstatic 28, 3) := at_384
theorem b0_d387 : decode b0.bs 387 = .ok (.astore 15, 2) := at_387
theorem b0_d389 : decode b0.bs 389 = .ok (.getstatic 24, 3) := at_389
theorem b0_d392 : decode b0.bs 392 = .ok (.invokevirtual 31, 3) := at_392
theorem b0_d395 : decode b0.bs 395 = .ok (.invokestatic 18, 3) := at_395
theorem b0_d398 : decode b0.bs 398 = .ok (.getstatic 24, 3) := at_398
theorem b0_d401 : decode b0.bs 401 = .ok (.if_acmp .ne 22, 3) := at_401
theorem b0_d404 : decode b0.bs 404 = .ok (.getstatic 28, 3) := at_404
theorem b0_d407 : decode b0.bs 407 = .ok (.invokevirtual 31, 3) := at_407
theorem b0_d410 : decode b0.bs 410 = .ok (.invokestatic 18, 3) := at_410
theorem b0_d413 : decode b0.bs 413 = .ok (.getstatic 28, 3) := at_413
theorem b0_d416 : decode b0.bs 416 = .ok (.if_acmp .ne 7, 3) := at_416
theorem b0_d419 : decode b0.bs 419 = .ok (.iconst 1, 1) := at_419
theorem b0_d420 : decode b0.bs 420 = .ok (.goto 4, 3) := at_420
theorem b0_d423 : decode b0.bs 423 = .ok (.iconst 0, 1) := at_423
theorem b0_d424 : decode b0.bs 424 = .ok (.istore 16, 2) := at_424
theorem b0_d426 : decode b0.bs 426 = .ok (.aload 14, 2) := at_426
theorem b0_d428 : decode b0.bs 428 = .ok (.aload 15, 2) := at_428
theorem b0_d430 : decode b0.bs 430 = .ok (.if_acmp .ne 12, 3) := at_430
theorem b0_d433 : decode b0.bs 433 = .ok (.iload 16, 2) := at_433
theorem b0_d435 : decode b0.bs 435 = .ok (.ifCond .eq 7, 3) := at_435
theorem b0_d438 : decode b0.bs 438 = .ok (.iconst 1, 1) := at_438
theorem b0_d439 : decode b0.bs 439 = .ok (.goto 4, 3) := at_439
theorem b0_d442 : decode b0.bs 442 = .ok (.iconst 0, 1) := at_442
theorem b0_d443 : decode b0.bs 443 = .ok (.ireturn, 1) := at_443
theorem b0_pd : parseMethodDescriptor "(III)Z" = some ⟨[.int, .int, .int], (some .boolean)⟩ := by decide +kernel
theorem b0_pn : plainName "com/example/anchorline/anchorline/server/OpOfPinLaw" = true := by first | (simp [plainName, overriddenIn]; done) | decide +kernel
set_option maxHeartbeats 4000000 in
theorem law (l : Launch) (Z : State) (a0 : Array Value) (hw : ∀ d ∈ tables_1, d.before a0 Z = true) (n0 : Nat) (hEW : EW Z a0 consts_1) (p0 p1 p2 : Int32) (h0 : Heap) (σ : Addr → Prop) (pu de va wp bp wd bd : Addr) (HP : Sta Z Z.heap "com/example/anchorline/anchorline/server/Op" "PUT" "Lcom/example/anchorline/anchorline/server/Op;" (.ref pu)) (HD : Sta Z Z.heap "com/example/anchorline/anchorline/server/Op" "DELETE" "Lcom/example/anchorline/anchorline/server/Op;" (.ref de)) (HV : Sta Z Z.heap "com/example/anchorline/anchorline/server/Op" "$VALUES" "[Lcom/example/anchorline/anchorline/server/Op;" (.ref va)) (Ava : Road.Ary Z Z.heap va (.object "com/example/anchorline/anchorline/server/Op") [.ref pu, .ref de]) (Eva : Exa Z Z.heap va "[Lcom/example/anchorline/anchorline/server/Op;") (Epu : Exa Z Z.heap pu "com/example/anchorline/anchorline/server/Op") (Ede : Exa Z Z.heap de "com/example/anchorline/anchorline/server/Op") (Fpu : Fld Z Z.heap pu "com/example/anchorline/anchorline/server/Op" "word" "Ljava/lang/String;" (.ref wp)) (Fde : Fld Z Z.heap de "com/example/anchorline/anchorline/server/Op" "word" "Ljava/lang/String;" (.ref wd)) (Swp : Road.Str Z Z.heap wp bp [112, 117, 116]) (Swd : Road.Str Z Z.heap wd bd [100, 101, 108, 101, 116, 101]) (cp : Int32) (Hc : Sta Z Z.heap Road.SN "COMPACT_STRINGS" "Z" (.int cp)) (hcp : ¬ cp = 0) (ws : List Jvm.Cond) :
    Road.Con l Z consts_1 n0 false b0 ws σ #[(.int p0), (.int p1), (.int p2)] h0 (fun v h2 _ => v = some (.int 1)) := by
  refine Road.Con.of b0_pn hEW #[.val (.int p0), .val (.int p1), .val (.int p2), .unset, .unset, .unset, .unset, .unset, .unset, .unset, .unset, .unset, .unset, .unset, .unset, .unset, .unset, .unset] (fun m => Road.ent (Road.laid1 rfl (Road.laid1 rfl (Road.laid1 rfl Road.laid0))) (k := 15) rfl rfl) ?_
  intro D hD
  refine Road.iloadN 0 b0_d0 rfl ?_
  refine Road.iconst 1 (3 : Int32) b0_d1 rfl ?_
  refine Road.iand 2 b0_d2 ?_
  refine Road.nameI ?_
  intro m hm
  have hm4 : m = 0 ∨ m = 1 ∨ m = 2 ∨ m = 3 := by rw [hm]; exact Road.and3 p0
  refine Road.istoreN 3 #[.val (.int p0), .val (.int p1), .val (.int p2), .val (.int m), .unset, .unset, .unset, .unset, .unset, .unset, .unset, .unset, .unset, .unset, .unset, .unset, .unset, .unset] b0_d3 rfl ?_
  refine Road.iloadN 4 b0_d4 rfl ?_
  refine Road.iconst 5 (2 : Int32) b0_d5 rfl ?_
  refine Road.iushr 6 b0_d6 ?_
  refine Road.bipush 7 (7 : Int32) b0_d7 rfl ?_
  refine Road.iand 9 b0_d9 ?_
  refine Road.bipush 10 (7 : Int32) b0_d10 rfl ?_
  refine Road.irem 12 b0_d12 (by decide) ?_
  refine Road.nameI ?_
  intro n hn
  have hn7 : n = 0 ∨ n = 1 ∨ n = 2 ∨ n = 3 ∨ n = 4 ∨ n = 5 ∨ n = 6 := by
    obtain ⟨i, hi⟩ : ∃ i : Fin 7, n = Int32.ofInt (i.1 : Int) := by rw [hn]; exact Road.small_of (Road.rem_pos (n := 7) (by rw [Road.u32_and7]; omega) rfl (by omega)) (by omega)
    subst hi; exact (by decide +kernel : ∀ i : Fin 7, Int32.ofInt (i.1 : Int) = 0 ∨ Int32.ofInt (i.1 : Int) = 1 ∨ Int32.ofInt (i.1 : Int) = 2 ∨ Int32.ofInt (i.1 : Int) = 3 ∨ Int32.ofInt (i.1 : Int) = 4 ∨ Int32.ofInt (i.1 : Int) = 5 ∨ Int32.ofInt (i.1 : Int) = 6) i
  refine Road.istore 13 #[.val (.int p0), .val (.int p1), .val (.int p2), .val (.int m), .val (.int n), .unset, .unset, .unset, .unset, .unset, .unset, .unset, .unset, .unset, .unset, .unset, .unset, .unset] b0_d13 rfl ?_
  refine Road.iloadN 15 b0_d15 rfl ?_
  refine Road.iconst 16 (5 : Int32) b0_d16 rfl ?_
  refine Road.iushr 17 b0_d17 ?_
  refine Road.bipush 18 (7 : Int32) b0_d18 rfl ?_
  refine Road.iand 20 b0_d20 ?_
  refine Road.nameI ?_
  intro ps hps
  refine Road.istore 21 #[.val (.int p0), .val (.int p1), .val (.int p2), .val (.int m), .val (.int n), .val (.int ps), .unset, .unset, .unset, .unset, .unset, .unset, .unset, .unset, .unset, .unset, .unset, .unset] b0_d21 rfl ?_
  refine Road.iloadN 23 b0_d23 rfl ?_
  refine Road.sipush 24 (255 : Int32) b0_d24 rfl ?_
  refine Road.iand 27 b0_d27 ?_
  refine Road.i2c 28 b0_d28 ?_
  refine Road.nameI ?_
  intro c0 hc0
  have lat0 : 0 ≤ c0.toInt ∧ c0.toInt < 256 := by rw [hc0]; exact Road.and255 _
  refine Road.istore 29 #[.val (.int p0), .val (.int p1), .val (.int p2), .val (.int m), .val (.int n), .val (.int ps), .val (.int c0), .unset, .unset, .unset, .unset, .unset, .unset, .unset, .unset, .unset, .unset, .unset] b0_d29 rfl ?_
  refine Road.iloadN 31 b0_d31 rfl ?_
  refine Road.bipush 32 (8 : Int32) b0_d32 rfl ?_
  refine Road.iushr 34 b0_d34 ?_
  refine Road.sipush 35 (255 : Int32) b0_d35 rfl ?_
  refine Road.iand 38 b0_d38 ?_
  refine Road.i2c 39 b0_d39 ?_
  refine Road.nameI ?_
  intro c1 hc1
  have lat1 : 0 ≤ c1.toInt ∧ c1.toInt < 256 := by rw [hc1]; exact Road.and255 _
  refine Road.istore 40 #[.val (.int p0), .val (.int p1), .val (.int p2), .val (.int m), .val (.int n), .val (.int ps), .val (.int c0), .val (.int c1), .unset, .unset, .unset, .unset, .unset, .unset, .unset, .unset, .unset, .unset] b0_d40 rfl ?_
  refine Road.iloadN 42 b0_d42 rfl ?_
  refine Road.bipush 43 (16 : Int32) b0_d43 rfl ?_
  refine Road.iushr 45 b0_d45 ?_
  refine Road.sipush 46 (255 : Int32) b0_d46 rfl ?_
  refine Road.iand 49 b0_d49 ?_
  refine Road.i2c 50 b0_d50 ?_
  refine Road.nameI ?_
  intro c2 hc2
  have lat2 : 0 ≤ c2.toInt ∧ c2.toInt < 256 := by rw [hc2]; exact Road.and255 _
  refine Road.istore 51 #[.val (.int p0), .val (.int p1), .val (.int p2), .val (.int m), .val (.int n), .val (.int ps), .val (.int c0), .val (.int c1), .val (.int c2), .unset, .unset, .unset, .unset, .unset, .unset, .unset, .unset, .unset] b0_d51 rfl ?_
  refine Road.iloadN 53 b0_d53 rfl ?_
  refine Road.bipush 54 (24 : Int32) b0_d54 rfl ?_
  refine Road.iushr 56 b0_d56 ?_
  refine Road.sipush 57 (255 : Int32) b0_d57 rfl ?_
  refine Road.iand 60 b0_d60 ?_
  refine Road.i2c 61 b0_d61 ?_
  refine Road.nameI ?_
  intro c3 hc3
  have lat3 : 0 ≤ c3.toInt ∧ c3.toInt < 256 := by rw [hc3]; exact Road.and255 _
  refine Road.istore 62 #[.val (.int p0), .val (.int p1), .val (.int p2), .val (.int m), .val (.int n), .val (.int ps), .val (.int c0), .val (.int c1), .val (.int c2), .val (.int c3), .unset, .unset, .unset, .unset, .unset, .unset, .unset, .unset] b0_d62 rfl ?_
  refine Road.iloadN 64 b0_d64 rfl ?_
  refine Road.sipush 65 (255 : Int32) b0_d65 rfl ?_
  refine Road.iand 68 b0_d68 ?_
  refine Road.i2c 69 b0_d69 ?_
  refine Road.nameI ?_
  intro c4 hc4
  have lat4 : 0 ≤ c4.toInt ∧ c4.toInt < 256 := by rw [hc4]; exact Road.and255 _
  refine Road.istore 70 #[.val (.int p0), .val (.int p1), .val (.int p2), .val (.int m), .val (.int n), .val (.int ps), .val (.int c0), .val (.int c1), .val (.int c2), .val (.int c3), .val (.int c4), .unset, .unset, .unset, .unset, .unset, .unset, .unset] b0_d70 rfl ?_
  refine Road.iloadN 72 b0_d72 rfl ?_
  refine Road.bipush 73 (8 : Int32) b0_d73 rfl ?_
  refine Road.iushr 75 b0_d75 ?_
  refine Road.sipush 76 (255 : Int32) b0_d76 rfl ?_
  refine Road.iand 79 b0_d79 ?_
  refine Road.i2c 80 b0_d80 ?_
  refine Road.nameI ?_
  intro c5 hc5
  have lat5 : 0 ≤ c5.toInt ∧ c5.toInt < 256 := by rw [hc5]; exact Road.and255 _
  refine Road.istore 81 #[.val (.int p0), .val (.int p1), .val (.int p2), .val (.int m), .val (.int n), .val (.int ps), .val (.int c0), .val (.int c1), .val (.int c2), .val (.int c3), .val (.int c4), .val (.int c5), .unset, .unset, .unset, .unset, .unset, .unset] b0_d81 rfl ?_
  refine Road.iloadN 83 b0_d83 rfl ?_
  refine Road.bipush 84 (16 : Int32) b0_d84 rfl ?_
  refine Road.iushr 86 b0_d86 ?_
  refine Road.sipush 87 (255 : Int32) b0_d87 rfl ?_
  refine Road.iand 90 b0_d90 ?_
  refine Road.i2c 91 b0_d91 ?_
  refine Road.nameI ?_
  intro d hd
  have latd : 0 ≤ d.toInt ∧ d.toInt < 256 := by rw [hd]; exact Road.and255 _
  refine Road.istore 92 #[.val (.int p0), .val (.int p1), .val (.int p2), .val (.int m), .val (.int n), .val (.int ps), .val (.int c0), .val (.int c1), .val (.int c2), .val (.int c3), .val (.int c4), .val (.int c5), .val (.int d), .unset, .unset, .unset, .unset, .unset] b0_d92 rfl ?_
  clear hm hn hps hc0 hc1 hc2 hc3 hc4 hc5 hd
  have J389 : ∀ (h : Heap) (τ : Addr → Prop) (n c0 c1 c2 c3 c4 c5 : Int32) (sv got ex : Value) (w6 w7 : Slot), Road.W1 w6 → got.isRef = true → ex.isRef = true → got = ex → Road.Go l Z a0 consts_1 n0 false b0 D (fun v h2 _ => v = some (.int 1)) h τ 7 20 389 #[.val (.int p0), .val (.int p1), .val (.int p2), .val (.int m), .val (.int n), .val (.int ps), .val (.int c0), .val (.int c1), .val (.int c2), .val (.int c3), .val (.int c4), .val (.int c5), .val (.int d), .val sv, .val got, .val ex, w6, w7] [] := by
    intro h τ n c0 c1 c2 c3 c4 c5 sv got ex w6 w7 hw6 hgot hex hge
    refine Road.getstatic 389 b0_d389 (hw _ (List.mem_of_getElem? (i := 60) rfl)) Via.refl HP ?_
    refine Road.Go.old ?_
    intro hO
    have KZ_1 := Road.keep_ext hO.2
    have Epu' := Epu.keep KZ_1
    have Fpu' := Fpu.keep KZ_1 nin0
    have Swp' := Swp.keep KZ_1 nin0 nin0
    have Swd' := Swd.keep KZ_1 nin0 nin0
    refine Road.callV (B' := bgW) (a := pu) 392 (argsL := []) (rest := []) "com/example/anchorline/anchorline/server/Op" 0 b0_d392 (hw _ (List.mem_of_getElem? (i := 61) rfl)) (hw _ (List.mem_of_getElem? (i := 62) rfl)) (fun vm hz => notFace_of_selects (args := #[]) (mv (s := D.s.setVm vm) hz (hw _ (List.mem_of_getElem? (i := 64) rfl)))) (hw _ (List.mem_of_getElem? (i := 64) rfl)) (hw _ (List.mem_of_getElem? (i := 63) rfl)) (hw _ (List.mem_of_getElem? (i := 28) rfl)) (hw _ (List.mem_of_getElem? (i := 65) rfl)) (by decide) Epu' (cgW l Z a0 hw n0 hEW pu (.ref wp) h τ rfl Fpu') (lenOf bgW_pd rfl) rfl rfl rfl (by decide) (by decide) (ce' := 7) (sl' := 20) rfl rfl (by decide) (by decide) ?_
    rintro _ h_2 σ_3 m_4 ⟨rfl, rfl⟩
    refine Road.Go.weaken (σ' := τ) m_4 (Nat.le_refl _) (Nat.le_refl _) ?_
    refine Road.callS (B' := bOf) 395 (argsL := [(.ref wp)]) (rest := []) 0 b0_d395 (hw _ (List.mem_of_getElem? (i := 26) rfl)) (hw _ (List.mem_of_getElem? (i := 27) rfl)) (hw _ (List.mem_of_getElem? (i := 28) rfl)) (hw _ (List.mem_of_getElem? (i := 29) rfl)) (by decide) (cOf l Z a0 hw n0 hEW wp bp [112, 117, 116] h τ Swp' pu de va wp bp wd bd HP HD HV Ava Eva Epu Ede Fpu Fde Swp Swd cp Hc hcp) (lenOf bOf_pd rfl) rfl rfl rfl (by decide) (by decide) (ce' := 8) (sl' := 22) rfl rfl (by decide) (by decide) ?_
    rintro _ h_6 σ_7 m_8 ⟨rfl, K_9⟩
    rw [if_pos rfl]
    refine Road.getstatic 398 b0_d398 (hw _ (List.mem_of_getElem? (i := 60) rfl)) Via.refl HP ?_
    refine Road.acmp_ne 401 423 rfl rfl b0_d401 rfl (fun q => absurd q (by simp)) (fun hc401 => ?_)
    refine Road.getstatic 404 b0_d404 (hw _ (List.mem_of_getElem? (i := 66) rfl)) Via.refl HD ?_
    refine Road.Go.old ?_
    intro hO
    have KZ_10 := Road.keep_ext hO.2
    have Ede' := Ede.keep KZ_10
    have Fde' := Fde.keep KZ_10 nin0
    have Swp' := Swp.keep KZ_10 nin0 nin0
    have Swd' := Swd.keep KZ_10 nin0 nin0
    refine Road.callV (B' := bgW) (a := de) 407 (argsL := []) (rest := []) "com/example/anchorline/anchorline/server/Op" 0 b0_d407 (hw _ (List.mem_of_getElem? (i := 61) rfl)) (hw _ (List.mem_of_getElem? (i := 62) rfl)) (fun vm hz => notFace_of_selects (args := #[]) (mv (s := D.s.setVm vm) hz (hw _ (List.mem_of_getElem? (i := 64) rfl)))) (hw _ (List.mem_of_getElem? (i := 64) rfl)) (hw _ (List.mem_of_getElem? (i := 63) rfl)) (hw _ (List.mem_of_getElem? (i := 28) rfl)) (hw _ (List.mem_of_getElem? (i := 65) rfl)) (by decide) Ede' (cgW l Z a0 hw n0 hEW de (.ref wd) h_6 σ_7 rfl Fde') (lenOf bgW_pd rfl) rfl rfl rfl (by decide) (by decide) (ce' := 8) (sl' := 22) rfl rfl (by decide) (by decide) ?_
    rintro _ h_11 σ_12 m_13 ⟨rfl, rfl⟩
    refine Road.Go.weaken (σ' := σ_7) m_13 (Nat.le_refl _) (Nat.le_refl _) ?_
    refine Road.callS (B' := bOf) 410 (argsL := [(.ref wd)]) (rest := []) 0 b0_d410 (hw _ (List.mem_of_getElem? (i := 26) rfl)) (hw _ (List.mem_of_getElem? (i := 27) rfl)) (hw _ (List.mem_of_getElem? (i := 28) rfl)) (hw _ (List.mem_of_getElem? (i := 29) rfl)) (by decide) (cOf l Z a0 hw n0 hEW wd bd [100, 101, 108, 101, 116, 101] h_6 σ_7 Swd' pu de va wp bp wd bd HP HD HV Ava Eva Epu Ede Fpu Fde Swp Swd cp Hc hcp) (lenOf bOf_pd rfl) rfl rfl rfl (by decide) (by decide) (ce' := 9) (sl' := 24) rfl rfl (by decide) (by decide) ?_
    rintro _ h_15 σ_16 m_17 ⟨rfl, K_18⟩
    rw [if_neg (by decide), if_pos rfl]
    refine Road.getstatic 413 b0_d413 (hw _ (List.mem_of_getElem? (i := 66) rfl)) Via.refl HD ?_
    refine Road.acmp_ne 416 423 rfl rfl b0_d416 rfl (fun q => absurd q (by simp)) (fun hc416 => ?_)
    refine Road.iconst 419 (1 : Int32) b0_d419 rfl ?_
    refine Road.goto 420 424 b0_d420 rfl ?_
    refine Road.istore 424 #[.val (.int p0), .val (.int p1), .val (.int p2), .val (.int m), .val (.int n), .val (.int ps), .val (.int c0), .val (.int c1), .val (.int c2), .val (.int c3), .val (.int c4), .val (.int c5), .val (.int d), .val sv, .val got, .val ex, .val (.int (1 : Int32)), w7] b0_d424 (by rcases hw6 with rfl | ⟨x, rfl⟩ <;> rfl) ?_
    refine Road.aload 426 b0_d426 rfl (hv := hgot) ?_
    refine Road.aload 428 b0_d428 rfl (hv := hex) ?_
    refine Road.acmp_ne 430 442 (hgot) (hex) b0_d430 rfl (fun q => absurd q (by rw [Decidable.not_not]; exact hge)) (fun hc430 => ?_)
    refine Road.iload 433 b0_d433 rfl ?_
    refine Road.if_eq 435 442 b0_d435 rfl (fun q => absurd q (by decide)) (fun hc435 => ?_)
    refine Road.iconst 438 (1 : Int32) b0_d438 rfl ?_
    refine Road.goto 439 443 b0_d439 rfl ?_
    exact Road.iret 443 1 b0_d443 (t := .boolean) rfl (by simp) rfl (by decide) (by decide) (fun σ' m => rfl)
  have J234 : ∀ (n c0 c1 c2 c3 c4 c5 : Int32), (n = 0 ∨ n = 1 ∨ n = 2 ∨ n = 3 ∨ n = 4 ∨ n = 5 ∨ n = 6) → (0 ≤ c0.toInt ∧ c0.toInt < 256) → (0 ≤ c1.toInt ∧ c1.toInt < 256) → (0 ≤ c2.toInt ∧ c2.toInt < 256) → (0 ≤ c3.toInt ∧ c3.toInt < 256) → (0 ≤ c4.toInt ∧ c4.toInt < 256) → (0 ≤ c5.toInt ∧ c5.toInt < 256) → Road.Go l Z a0 consts_1 n0 false b0 D (fun v h2 _ => v = some (.int 1)) h0 σ 0 0 234 #[.val (.int p0), .val (.int p1), .val (.int p2), .val (.int m), .val (.int n), .val (.int ps), .val (.int c0), .val (.int c1), .val (.int c2), .val (.int c3), .val (.int c4), .val (.int c5), .val (.int d), .unset, .unset, .unset, .unset, .unset] [] := by
    intro n c0 c1 c2 c3 c4 c5 hn7 lat0 lat1 lat2 lat3 lat4 lat5
    refine Road.aconstNull 234 b0_d234 ?_
    refine Road.astore 235 #[.val (.int p0), .val (.int p1), .val (.int p2), .val (.int m), .val (.int n), .val (.int ps), .val (.int c0), .val (.int c1), .val (.int c2), .val (.int c3), .val (.int c4), .val (.int c5), .val (.int d), .val .null, .unset, .unset, .unset, .unset] b0_d235 rfl ?_
    refine Road.iloadN 237 b0_d237 rfl ?_
    refine Road.iconst 238 (3 : Int32) b0_d238 rfl ?_
    refine Road.icmp_eq 239 261 b0_d239 rfl (fun hc239 => ?_) (fun hc239 => ?_)
    · skip
      refine Road.aload 261 b0_d261 rfl ?_
      refine Road.callS (B' := bOf) 263 (argsL := [.null]) (rest := []) 0 b0_d263 (hw _ (List.mem_of_getElem? (i := 26) rfl)) (hw _ (List.mem_of_getElem? (i := 27) rfl)) (hw _ (List.mem_of_getElem? (i := 28) rfl)) (hw _ (List.mem_of_getElem? (i := 29) rfl)) (by decide) (cOfN l Z a0 hw n0 hEW h0 σ pu de va wp bp wd bd HP HD HV Ava Eva Epu Ede Fpu Fde Swp Swd cp Hc hcp) (lenOf bOf_pd rfl) rfl rfl rfl (by decide) (by decide) (ce' := 1) (sl' := 2) rfl rfl (by decide) (by decide) ?_
      rintro _ h_19 σ_20 m_21 ⟨rfl, K_22⟩
      refine Road.astore 266 #[.val (.int p0), .val (.int p1), .val (.int p2), .val (.int m), .val (.int n), .val (.int ps), .val (.int c0), .val (.int c1), .val (.int c2), .val (.int c3), .val (.int c4), .val (.int c5), .val (.int d), .val .null, .val .null, .unset, .unset, .unset] b0_d266 rfl ?_
      refine Road.aconstNull 268 b0_d268 ?_
      refine Road.astore 269 #[.val (.int p0), .val (.int p1), .val (.int p2), .val (.int m), .val (.int n), .val (.int ps), .val (.int c0), .val (.int c1), .val (.int c2), .val (.int c3), .val (.int c4), .val (.int c5), .val (.int d), .val .null, .val .null, .val .null, .unset, .unset] b0_d269 rfl ?_
      refine Road.iloadN 271 b0_d271 rfl ?_
      refine Road.iconst 272 (3 : Int32) b0_d272 rfl ?_
      refine Road.icmp_eq 273 389 b0_d273 rfl (fun hc273 => ?_) (fun q => absurd q (by simpa using hc239))
      exact Road.Go.weaken (σ' := σ_20) (fun _ q => q) (ce' := 7) (sl' := 20) (by decide) (by decide) (J389 h_19 σ_20 n c0 c1 c2 c3 c4 c5 .null .null .null .unset .unset (Or.inl rfl) rfl rfl rfl)
    · skip
      refine Road.iload 242 b0_d242 rfl ?_
      refine Road.iload 244 b0_d244 rfl ?_
      refine Road.iload 246 b0_d246 rfl ?_
      refine Road.iload 248 b0_d248 rfl ?_
      refine Road.iload 250 b0_d250 rfl ?_
      refine Road.iload 252 b0_d252 rfl ?_
      refine Road.iload 254 b0_d254 rfl ?_
      refine Road.callS (B' := bMk) 256 (argsL := [(.int n), (.int c0), (.int c1), (.int c2), (.int c3), (.int c4), (.int c5)]) (rest := []) 0 b0_d256 (hw _ (List.mem_of_getElem? (i := 0) rfl)) (hw _ (List.mem_of_getElem? (i := 1) rfl)) (hw _ (List.mem_of_getElem? (i := 2) rfl)) (hw _ (List.mem_of_getElem? (i := 3) rfl)) (by decide) (cMk l Z a0 hw n0 hEW n c0 c1 c2 c3 c4 c5 h0 σ lat0 lat1 lat2 lat3 lat4 lat5 hn7 cp Hc hcp) (lenOf bMk_pd rfl) rfl rfl rfl (by decide) (by decide) (ce' := 6) (sl' := 18) rfl rfl (by decide) (by decide) ?_
      rintro _ h_23 σ_24 m_25 ⟨sa, sb, cs, rfl, K_26, S, hrel⟩
      refine Road.astore 259 #[.val (.int p0), .val (.int p1), .val (.int p2), .val (.int m), .val (.int n), .val (.int ps), .val (.int c0), .val (.int c1), .val (.int c2), .val (.int c3), .val (.int c4), .val (.int c5), .val (.int d), .val (.ref sa), .unset, .unset, .unset, .unset] b0_d259 rfl ?_
      refine Road.aload 261 b0_d261 rfl ?_
      refine Road.callS (B' := bOf) 263 (argsL := [(.ref sa)]) (rest := []) 0 b0_d263 (hw _ (List.mem_of_getElem? (i := 26) rfl)) (hw _ (List.mem_of_getElem? (i := 27) rfl)) (hw _ (List.mem_of_getElem? (i := 28) rfl)) (hw _ (List.mem_of_getElem? (i := 29) rfl)) (by decide) (cOf l Z a0 hw n0 hEW sa sb cs h_23 σ_24 S pu de va wp bp wd bd HP HD HV Ava Eva Epu Ede Fpu Fde Swp Swd cp Hc hcp) (lenOf bOf_pd rfl) rfl rfl rfl (by decide) (by decide) (ce' := 7) (sl' := 20) rfl rfl (by decide) (by decide) ?_
      rintro _ h_27 σ_28 m_29 ⟨rfl, K_30⟩
      obtain ⟨gv, hgv0⟩ : ∃ gv, gv = (if [112, 117, 116] = cs then Value.ref pu else if [100, 101, 108, 101, 116, 101] = cs then .ref de else .null) := ⟨_, rfl⟩
      rw [← hgv0]
      have hgv : gv.isRef = true := by rw [hgv0]; split <;> first | rfl | (split <;> rfl)
      have hPp : (n = 3 ∧ c0 = 112 ∧ c1 = 117 ∧ c2 = 116) ↔ [112, 117, 116] = cs := by rcases hrel with ⟨rfl, rfl⟩ | ⟨rfl, rfl⟩ | ⟨rfl, rfl⟩ | ⟨rfl, rfl⟩ | ⟨rfl, rfl⟩ | ⟨rfl, rfl⟩ | ⟨rfl, rfl⟩ <;> (clear hgv0 hgv; constructor <;> intro q <;> simp only [List.cons.injEq, reduceCtorEq, and_true, and_false, false_and, List.nil_eq, List.cons_ne_nil] at q ⊢ <;> first | exact absurd q.1 (by decide) | (obtain ⟨-, a, b, c, d, e, f⟩ := q; exact ⟨a.symm, b.symm, c.symm, d.symm, e.symm, f.symm⟩) | (obtain ⟨-, a, b, c⟩ := q; exact ⟨a.symm, b.symm, c.symm⟩) | (obtain ⟨a, b, c, d, e, f⟩ := q; exact ⟨by decide, a.symm, b.symm, c.symm, d.symm, e.symm, f.symm⟩) | (obtain ⟨a, b, c⟩ := q; exact ⟨by decide, a.symm, b.symm, c.symm⟩) | simp_all)
      have hPd : (n = 6 ∧ c0 = 100 ∧ c1 = 101 ∧ c2 = 108 ∧ c3 = 101 ∧ c4 = 116 ∧ c5 = 101) ↔ [100, 101, 108, 101, 116, 101] = cs := by rcases hrel with ⟨rfl, rfl⟩ | ⟨rfl, rfl⟩ | ⟨rfl, rfl⟩ | ⟨rfl, rfl⟩ | ⟨rfl, rfl⟩ | ⟨rfl, rfl⟩ | ⟨rfl, rfl⟩ <;> (clear hgv0 hgv; constructor <;> intro q <;> simp only [List.cons.injEq, reduceCtorEq, and_true, and_false, false_and, List.nil_eq, List.cons_ne_nil] at q ⊢ <;> first | exact absurd q.1 (by decide) | (obtain ⟨-, a, b, c, d, e, f⟩ := q; exact ⟨a.symm, b.symm, c.symm, d.symm, e.symm, f.symm⟩) | (obtain ⟨-, a, b, c⟩ := q; exact ⟨a.symm, b.symm, c.symm⟩) | (obtain ⟨a, b, c, d, e, f⟩ := q; exact ⟨by decide, a.symm, b.symm, c.symm, d.symm, e.symm, f.symm⟩) | (obtain ⟨a, b, c⟩ := q; exact ⟨by decide, a.symm, b.symm, c.symm⟩) | simp_all)
      refine Road.astore 266 #[.val (.int p0), .val (.int p1), .val (.int p2), .val (.int m), .val (.int n), .val (.int ps), .val (.int c0), .val (.int c1), .val (.int c2), .val (.int c3), .val (.int c4), .val (.int c5), .val (.int d), .val (.ref sa), .val gv, .unset, .unset, .unset] b0_d266 (by first | rfl | (rcases ref_cases hgv with q | ⟨_, q⟩ <;> rw [q] <;> rfl)) (hv := hgv) ?_
      refine Road.aconstNull 268 b0_d268 ?_
      refine Road.astore 269 #[.val (.int p0), .val (.int p1), .val (.int p2), .val (.int m), .val (.int n), .val (.int ps), .val (.int c0), .val (.int c1), .val (.int c2), .val (.int c3), .val (.int c4), .val (.int c5), .val (.int d), .val (.ref sa), .val gv, .val .null, .unset, .unset] b0_d269 rfl ?_
      refine Road.iloadN 271 b0_d271 rfl ?_
      refine Road.iconst 272 (3 : Int32) b0_d272 rfl ?_
      refine Road.icmp_eq 273 389 b0_d273 rfl (fun q => absurd q hc239) (fun hc273 => ?_)
      have J366 : ∀ ip idl : Int32, ((ip = 1 ∧ (n = 3 ∧ c0 = 112 ∧ c1 = 117 ∧ c2 = 116)) ∨ (ip = 0 ∧ ¬ (n = 3 ∧ c0 = 112 ∧ c1 = 117 ∧ c2 = 116))) → ((idl = 1 ∧ (n = 6 ∧ c0 = 100 ∧ c1 = 101 ∧ c2 = 108 ∧ c3 = 101 ∧ c4 = 116 ∧ c5 = 101)) ∨ (idl = 0 ∧ ¬ (n = 6 ∧ c0 = 100 ∧ c1 = 101 ∧ c2 = 108 ∧ c3 = 101 ∧ c4 = 116 ∧ c5 = 101))) → Road.Go l Z a0 consts_1 n0 false b0 D (fun v h2 _ => v = some (.int 1)) h_27 σ_28 7 20 366 #[.val (.int p0), .val (.int p1), .val (.int p2), .val (.int m), .val (.int n), .val (.int ps), .val (.int c0), .val (.int c1), .val (.int c2), .val (.int c3), .val (.int c4), .val (.int c5), .val (.int d), .val (.ref sa), .val gv, .val .null, .val (.int ip), .val (.int idl)] [] := by
        intro ip idl hip hidl
        refine Road.iload 366 b0_d366 rfl ?_
        refine Road.if_eq 368 379 b0_d368 rfl (fun hc368 => ?_) (fun hc368 => ?_)
        · skip
          have np : ¬ (n = 3 ∧ c0 = 112 ∧ c1 = 117 ∧ c2 = 116) := hip.elim (fun q => absurd (q.1.symm.trans hc368) (by decide)) (fun q => q.2)
          refine Road.iload 379 b0_d379 rfl ?_
          refine Road.if_eq 381 389 b0_d381 rfl (fun hc381 => ?_) (fun hc381 => ?_)
          · skip
            have nd : ¬ (n = 6 ∧ c0 = 100 ∧ c1 = 101 ∧ c2 = 108 ∧ c3 = 101 ∧ c4 = 116 ∧ c5 = 101) := hidl.elim (fun q => absurd (q.1.symm.trans hc381) (by decide)) (fun q => q.2)
            exact Road.Go.weaken (σ' := σ_28) (fun _ q => q) (ce' := 7) (sl' := 20) (by decide) (by decide) (J389 h_27 σ_28 n c0 c1 c2 c3 c4 c5 (.ref sa) gv .null (.val (.int ip)) (.val (.int idl)) (Or.inr ⟨_, rfl⟩) hgv rfl (by rw [hgv0, if_neg (fun q => np (hPp.mpr q)), if_neg (fun q => nd (hPd.mpr q))]))
          · skip
            have nd : (n = 6 ∧ c0 = 100 ∧ c1 = 101 ∧ c2 = 108 ∧ c3 = 101 ∧ c4 = 116 ∧ c5 = 101) := hidl.elim (fun q => q.2) (fun q => absurd q.1 hc381)
            refine Road.getstatic 384 b0_d384 (hw _ (List.mem_of_getElem? (i := 66) rfl)) Via.refl HD ?_
            refine Road.astore 387 #[.val (.int p0), .val (.int p1), .val (.int p2), .val (.int m), .val (.int n), .val (.int ps), .val (.int c0), .val (.int c1), .val (.int c2), .val (.int c3), .val (.int c4), .val (.int c5), .val (.int d), .val (.ref sa), .val gv, .val (.ref de), .val (.int ip), .val (.int idl)] b0_d387 rfl ?_
            exact Road.Go.weaken (σ' := σ_28) (fun _ q => q) (ce' := 7) (sl' := 20) (by decide) (by decide) (J389 h_27 σ_28 n c0 c1 c2 c3 c4 c5 (.ref sa) gv (.ref de) (.val (.int ip)) (.val (.int idl)) (Or.inr ⟨_, rfl⟩) hgv rfl (by rw [hgv0, if_neg (fun q => np (hPp.mpr q)), if_pos (hPd.mp nd)]))
        · skip
          have np : (n = 3 ∧ c0 = 112 ∧ c1 = 117 ∧ c2 = 116) := hip.elim (fun q => q.2) (fun q => absurd q.1 hc368)
          refine Road.getstatic 371 b0_d371 (hw _ (List.mem_of_getElem? (i := 60) rfl)) Via.refl HP ?_
          refine Road.astore 374 #[.val (.int p0), .val (.int p1), .val (.int p2), .val (.int m), .val (.int n), .val (.int ps), .val (.int c0), .val (.int c1), .val (.int c2), .val (.int c3), .val (.int c4), .val (.int c5), .val (.int d), .val (.ref sa), .val gv, .val (.ref pu), .val (.int ip), .val (.int idl)] b0_d374 rfl ?_
          refine Road.goto 376 389 b0_d376 rfl ?_
          exact Road.Go.weaken (σ' := σ_28) (fun _ q => q) (ce' := 7) (sl' := 20) (by decide) (by decide) (J389 h_27 σ_28 n c0 c1 c2 c3 c4 c5 (.ref sa) gv (.ref pu) (.val (.int ip)) (.val (.int idl)) (Or.inr ⟨_, rfl⟩) hgv rfl (by rw [hgv0, if_pos (hPp.mp np)]))
      have J310 : ∀ ip : Int32, ((ip = 1 ∧ (n = 3 ∧ c0 = 112 ∧ c1 = 117 ∧ c2 = 116)) ∨ (ip = 0 ∧ ¬ (n = 3 ∧ c0 = 112 ∧ c1 = 117 ∧ c2 = 116))) → Road.Go l Z a0 consts_1 n0 false b0 D (fun v h2 _ => v = some (.int 1)) h_27 σ_28 7 20 310 #[.val (.int p0), .val (.int p1), .val (.int p2), .val (.int m), .val (.int n), .val (.int ps), .val (.int c0), .val (.int c1), .val (.int c2), .val (.int c3), .val (.int c4), .val (.int c5), .val (.int d), .val (.ref sa), .val gv, .val .null, .val (.int ip), .unset] [] := by
        intro ip hip
        refine Road.iload 310 b0_d310 rfl ?_
        refine Road.bipush 312 (6 : Int32) b0_d312 rfl ?_
        refine Road.icmp_ne 314 363 b0_d314 rfl (fun e0 => ?_) (fun e0 => ?_)
        · skip
          refine Road.iconst 363 (0 : Int32) b0_d363 rfl ?_
          refine Road.istore 364 #[.val (.int p0), .val (.int p1), .val (.int p2), .val (.int m), .val (.int n), .val (.int ps), .val (.int c0), .val (.int c1), .val (.int c2), .val (.int c3), .val (.int c4), .val (.int c5), .val (.int d), .val (.ref sa), .val gv, .val .null, .val (.int ip), .val (.int (0 : Int32))] b0_d364 rfl ?_
          exact J366 ip 0 hip (Or.inr ⟨rfl, fun q => e0 q.1⟩)
        · skip
          refine Road.iload 317 b0_d317 rfl ?_
          refine Road.bipush 319 (100 : Int32) b0_d319 rfl ?_
          refine Road.icmp_ne 321 363 b0_d321 rfl (fun e1 => ?_) (fun e1 => ?_)
          · skip
            refine Road.iconst 363 (0 : Int32) b0_d363 rfl ?_
            refine Road.istore 364 #[.val (.int p0), .val (.int p1), .val (.int p2), .val (.int m), .val (.int n), .val (.int ps), .val (.int c0), .val (.int c1), .val (.int c2), .val (.int c3), .val (.int c4), .val (.int c5), .val (.int d), .val (.ref sa), .val gv, .val .null, .val (.int ip), .val (.int (0 : Int32))] b0_d364 rfl ?_
            exact J366 ip 0 hip (Or.inr ⟨rfl, fun q => e1 q.2.1⟩)
          · skip
            refine Road.iload 324 b0_d324 rfl ?_
            refine Road.bipush 326 (101 : Int32) b0_d326 rfl ?_
            refine Road.icmp_ne 328 363 b0_d328 rfl (fun e2 => ?_) (fun e2 => ?_)
            · skip
              refine Road.iconst 363 (0 : Int32) b0_d363 rfl ?_
              refine Road.istore 364 #[.val (.int p0), .val (.int p1), .val (.int p2), .val (.int m), .val (.int n), .val (.int ps), .val (.int c0), .val (.int c1), .val (.int c2), .val (.int c3), .val (.int c4), .val (.int c5), .val (.int d), .val (.ref sa), .val gv, .val .null, .val (.int ip), .val (.int (0 : Int32))] b0_d364 rfl ?_
              exact J366 ip 0 hip (Or.inr ⟨rfl, fun q => e2 q.2.2.1⟩)
            · skip
              refine Road.iload 331 b0_d331 rfl ?_
              refine Road.bipush 333 (108 : Int32) b0_d333 rfl ?_
              refine Road.icmp_ne 335 363 b0_d335 rfl (fun e3 => ?_) (fun e3 => ?_)
              · skip
                refine Road.iconst 363 (0 : Int32) b0_d363 rfl ?_
                refine Road.istore 364 #[.val (.int p0), .val (.int p1), .val (.int p2), .val (.int m), .val (.int n), .val (.int ps), .val (.int c0), .val (.int c1), .val (.int c2), .val (.int c3), .val (.int c4), .val (.int c5), .val (.int d), .val (.ref sa), .val gv, .val .null, .val (.int ip), .val (.int (0 : Int32))] b0_d364 rfl ?_
                exact J366 ip 0 hip (Or.inr ⟨rfl, fun q => e3 q.2.2.2.1⟩)
              · skip
                refine Road.iload 338 b0_d338 rfl ?_
                refine Road.bipush 340 (101 : Int32) b0_d340 rfl ?_
                refine Road.icmp_ne 342 363 b0_d342 rfl (fun e4 => ?_) (fun e4 => ?_)
                · skip
                  refine Road.iconst 363 (0 : Int32) b0_d363 rfl ?_
                  refine Road.istore 364 #[.val (.int p0), .val (.int p1), .val (.int p2), .val (.int m), .val (.int n), .val (.int ps), .val (.int c0), .val (.int c1), .val (.int c2), .val (.int c3), .val (.int c4), .val (.int c5), .val (.int d), .val (.ref sa), .val gv, .val .null, .val (.int ip), .val (.int (0 : Int32))] b0_d364 rfl ?_
                  exact J366 ip 0 hip (Or.inr ⟨rfl, fun q => e4 q.2.2.2.2.1⟩)
                · skip
                  refine Road.iload 345 b0_d345 rfl ?_
                  refine Road.bipush 347 (116 : Int32) b0_d347 rfl ?_
                  refine Road.icmp_ne 349 363 b0_d349 rfl (fun e5 => ?_) (fun e5 => ?_)
                  · skip
                    refine Road.iconst 363 (0 : Int32) b0_d363 rfl ?_
                    refine Road.istore 364 #[.val (.int p0), .val (.int p1), .val (.int p2), .val (.int m), .val (.int n), .val (.int ps), .val (.int c0), .val (.int c1), .val (.int c2), .val (.int c3), .val (.int c4), .val (.int c5), .val (.int d), .val (.ref sa), .val gv, .val .null, .val (.int ip), .val (.int (0 : Int32))] b0_d364 rfl ?_
                    exact J366 ip 0 hip (Or.inr ⟨rfl, fun q => e5 q.2.2.2.2.2.1⟩)
                  · skip
                    refine Road.iload 352 b0_d352 rfl ?_
                    refine Road.bipush 354 (101 : Int32) b0_d354 rfl ?_
                    refine Road.icmp_ne 356 363 b0_d356 rfl (fun e6 => ?_) (fun e6 => ?_)
                    · skip
                      refine Road.iconst 363 (0 : Int32) b0_d363 rfl ?_
                      refine Road.istore 364 #[.val (.int p0), .val (.int p1), .val (.int p2), .val (.int m), .val (.int n), .val (.int ps), .val (.int c0), .val (.int c1), .val (.int c2), .val (.int c3), .val (.int c4), .val (.int c5), .val (.int d), .val (.ref sa), .val gv, .val .null, .val (.int ip), .val (.int (0 : Int32))] b0_d364 rfl ?_
                      exact J366 ip 0 hip (Or.inr ⟨rfl, fun q => e6 q.2.2.2.2.2.2⟩)
                    · skip
                      refine Road.iconst 359 (1 : Int32) b0_d359 rfl ?_
                      refine Road.goto 360 364 b0_d360 rfl ?_
                      refine Road.istore 364 #[.val (.int p0), .val (.int p1), .val (.int p2), .val (.int m), .val (.int n), .val (.int ps), .val (.int c0), .val (.int c1), .val (.int c2), .val (.int c3), .val (.int c4), .val (.int c5), .val (.int d), .val (.ref sa), .val gv, .val .null, .val (.int ip), .val (.int (1 : Int32))] b0_d364 rfl ?_
                      exact J366 ip 1 hip (Or.inl ⟨rfl, e0, e1, e2, e3, e4, e5, e6⟩)
      refine Road.iload 276 b0_d276 rfl ?_
      refine Road.iconst 278 (3 : Int32) b0_d278 rfl ?_
      refine Road.icmp_ne 279 307 b0_d279 rfl (fun e0 => ?_) (fun e0 => ?_)
      · skip
        refine Road.iconst 307 (0 : Int32) b0_d307 rfl ?_
        refine Road.istore 308 #[.val (.int p0), .val (.int p1), .val (.int p2), .val (.int m), .val (.int n), .val (.int ps), .val (.int c0), .val (.int c1), .val (.int c2), .val (.int c3), .val (.int c4), .val (.int c5), .val (.int d), .val (.ref sa), .val gv, .val .null, .val (.int (0 : Int32)), .unset] b0_d308 rfl ?_
        exact J310 0 (Or.inr ⟨rfl, fun q => e0 q.1⟩)
      · skip
        refine Road.iload 282 b0_d282 rfl ?_
        refine Road.bipush 284 (112 : Int32) b0_d284 rfl ?_
        refine Road.icmp_ne 286 307 b0_d286 rfl (fun e1 => ?_) (fun e1 => ?_)
        · skip
          refine Road.iconst 307 (0 : Int32) b0_d307 rfl ?_
          refine Road.istore 308 #[.val (.int p0), .val (.int p1), .val (.int p2), .val (.int m), .val (.int n), .val (.int ps), .val (.int c0), .val (.int c1), .val (.int c2), .val (.int c3), .val (.int c4), .val (.int c5), .val (.int d), .val (.ref sa), .val gv, .val .null, .val (.int (0 : Int32)), .unset] b0_d308 rfl ?_
          exact J310 0 (Or.inr ⟨rfl, fun q => e1 q.2.1⟩)
        · skip
          refine Road.iload 289 b0_d289 rfl ?_
          refine Road.bipush 291 (117 : Int32) b0_d291 rfl ?_
          refine Road.icmp_ne 293 307 b0_d293 rfl (fun e2 => ?_) (fun e2 => ?_)
          · skip
            refine Road.iconst 307 (0 : Int32) b0_d307 rfl ?_
            refine Road.istore 308 #[.val (.int p0), .val (.int p1), .val (.int p2), .val (.int m), .val (.int n), .val (.int ps), .val (.int c0), .val (.int c1), .val (.int c2), .val (.int c3), .val (.int c4), .val (.int c5), .val (.int d), .val (.ref sa), .val gv, .val .null, .val (.int (0 : Int32)), .unset] b0_d308 rfl ?_
            exact J310 0 (Or.inr ⟨rfl, fun q => e2 q.2.2.1⟩)
          · skip
            refine Road.iload 296 b0_d296 rfl ?_
            refine Road.bipush 298 (116 : Int32) b0_d298 rfl ?_
            refine Road.icmp_ne 300 307 b0_d300 rfl (fun e3 => ?_) (fun e3 => ?_)
            · skip
              refine Road.iconst 307 (0 : Int32) b0_d307 rfl ?_
              refine Road.istore 308 #[.val (.int p0), .val (.int p1), .val (.int p2), .val (.int m), .val (.int n), .val (.int ps), .val (.int c0), .val (.int c1), .val (.int c2), .val (.int c3), .val (.int c4), .val (.int c5), .val (.int d), .val (.ref sa), .val gv, .val .null, .val (.int (0 : Int32)), .unset] b0_d308 rfl ?_
              exact J310 0 (Or.inr ⟨rfl, fun q => e3 q.2.2.2⟩)
            · skip
              refine Road.iconst 303 (1 : Int32) b0_d303 rfl ?_
              refine Road.goto 304 308 b0_d304 rfl ?_
              refine Road.istore 308 #[.val (.int p0), .val (.int p1), .val (.int p2), .val (.int m), .val (.int n), .val (.int ps), .val (.int c0), .val (.int c1), .val (.int c2), .val (.int c3), .val (.int c4), .val (.int c5), .val (.int d), .val (.ref sa), .val gv, .val .null, .val (.int (1 : Int32)), .unset] b0_d308 rfl ?_
              exact J310 1 (Or.inl ⟨rfl, e0, e1, e2, e3⟩)
  have J150 : ∀ (n c0 c1 c2 c3 c4 c5 : Int32), (n = 0 ∨ n = 1 ∨ n = 2 ∨ n = 3 ∨ n = 4 ∨ n = 5 ∨ n = 6) → (0 ≤ c0.toInt ∧ c0.toInt < 256) → (0 ≤ c1.toInt ∧ c1.toInt < 256) → (0 ≤ c2.toInt ∧ c2.toInt < 256) → (0 ≤ c3.toInt ∧ c3.toInt < 256) → (0 ≤ c4.toInt ∧ c4.toInt < 256) → (0 ≤ c5.toInt ∧ c5.toInt < 256) → Road.Go l Z a0 consts_1 n0 false b0 D (fun v h2 _ => v = some (.int 1)) h0 σ 0 0 150 #[.val (.int p0), .val (.int p1), .val (.int p2), .val (.int m), .val (.int n), .val (.int ps), .val (.int c0), .val (.int c1), .val (.int c2), .val (.int c3), .val (.int c4), .val (.int c5), .val (.int d), .unset, .unset, .unset, .unset, .unset] [] := by
    intro n c0 c1 c2 c3 c4 c5 hn7 lat0 lat1 lat2 lat3 lat4 lat5
    have J160 : Road.Go l Z a0 consts_1 n0 false b0 D (fun v h2 _ => v = some (.int 1)) h0 σ 0 0 160 #[.val (.int p0), .val (.int p1), .val (.int p2), .val (.int m), .val (.int n), .val (.int ps), .val (.int c0), .val (.int c1), .val (.int c2), .val (.int c3), .val (.int c4), .val (.int c5), .val (.int d), .unset, .unset, .unset, .unset, .unset] [] := by
      refine Road.iload 160 b0_d160 rfl ?_
      refine Road.if_ne 162 172 b0_d162 rfl (fun e0 => ?_) (fun e0 => ?_)
      · skip
        refine Road.iload 172 b0_d172 rfl ?_
        refine Road.iconst 174 (1 : Int32) b0_d174 rfl ?_
        refine Road.icmp_ne 175 185 b0_d175 rfl (fun e1 => ?_) (fun e1 => ?_)
        · skip
          refine Road.iload 185 b0_d185 rfl ?_
          refine Road.iconst 187 (2 : Int32) b0_d187 rfl ?_
          refine Road.icmp_ne 188 198 b0_d188 rfl (fun e2 => ?_) (fun e2 => ?_)
          · skip
            refine Road.iload 198 b0_d198 rfl ?_
            refine Road.iconst 200 (3 : Int32) b0_d200 rfl ?_
            refine Road.icmp_ne 201 211 b0_d201 rfl (fun e3 => ?_) (fun e3 => ?_)
            · skip
              refine Road.iload 211 b0_d211 rfl ?_
              refine Road.iconst 213 (4 : Int32) b0_d213 rfl ?_
              refine Road.icmp_ne 214 224 b0_d214 rfl (fun e4 => ?_) (fun e4 => ?_)
              · skip
                refine Road.iload 224 b0_d224 rfl ?_
                refine Road.iconst 226 (5 : Int32) b0_d226 rfl ?_
                refine Road.icmp_ne 227 234 b0_d227 rfl (fun e5 => ?_) (fun e5 => ?_)
                · skip
                  exact J234 n c0 c1 c2 c3 c4 c5 hn7 lat0 lat1 lat2 lat3 lat4 lat5
                · skip
                  refine Road.iload 230 b0_d230 rfl ?_
                  refine Road.istore 232 #[.val (.int p0), .val (.int p1), .val (.int p2), .val (.int m), .val (.int n), .val (.int ps), .val (.int c0), .val (.int c1), .val (.int c2), .val (.int c3), .val (.int c4), .val (.int d), .val (.int d), .unset, .unset, .unset, .unset, .unset] b0_d232 rfl ?_
                  exact J234 n c0 c1 c2 c3 c4 d hn7 lat0 lat1 lat2 lat3 lat4 latd
              · skip
                refine Road.iload 217 b0_d217 rfl ?_
                refine Road.istore 219 #[.val (.int p0), .val (.int p1), .val (.int p2), .val (.int m), .val (.int n), .val (.int ps), .val (.int c0), .val (.int c1), .val (.int c2), .val (.int c3), .val (.int d), .val (.int c5), .val (.int d), .unset, .unset, .unset, .unset, .unset] b0_d219 rfl ?_
                refine Road.goto 221 234 b0_d221 rfl ?_
                exact J234 n c0 c1 c2 c3 d c5 hn7 lat0 lat1 lat2 lat3 latd lat5
            · skip
              refine Road.iload 204 b0_d204 rfl ?_
              refine Road.istore 206 #[.val (.int p0), .val (.int p1), .val (.int p2), .val (.int m), .val (.int n), .val (.int ps), .val (.int c0), .val (.int c1), .val (.int c2), .val (.int d), .val (.int c4), .val (.int c5), .val (.int d), .unset, .unset, .unset, .unset, .unset] b0_d206 rfl ?_
              refine Road.goto 208 234 b0_d208 rfl ?_
              exact J234 n c0 c1 c2 d c4 c5 hn7 lat0 lat1 lat2 latd lat4 lat5
          · skip
            refine Road.iload 191 b0_d191 rfl ?_
            refine Road.istore 193 #[.val (.int p0), .val (.int p1), .val (.int p2), .val (.int m), .val (.int n), .val (.int ps), .val (.int c0), .val (.int c1), .val (.int d), .val (.int c3), .val (.int c4), .val (.int c5), .val (.int d), .unset, .unset, .unset, .unset, .unset] b0_d193 rfl ?_
            refine Road.goto 195 234 b0_d195 rfl ?_
            exact J234 n c0 c1 d c3 c4 c5 hn7 lat0 lat1 latd lat3 lat4 lat5
        · skip
          refine Road.iload 178 b0_d178 rfl ?_
          refine Road.istore 180 #[.val (.int p0), .val (.int p1), .val (.int p2), .val (.int m), .val (.int n), .val (.int ps), .val (.int c0), .val (.int d), .val (.int c2), .val (.int c3), .val (.int c4), .val (.int c5), .val (.int d), .unset, .unset, .unset, .unset, .unset] b0_d180 rfl ?_
          refine Road.goto 182 234 b0_d182 rfl ?_
          exact J234 n c0 d c2 c3 c4 c5 hn7 lat0 latd lat2 lat3 lat4 lat5
      · skip
        refine Road.iload 165 b0_d165 rfl ?_
        refine Road.istore 167 #[.val (.int p0), .val (.int p1), .val (.int p2), .val (.int m), .val (.int n), .val (.int ps), .val (.int d), .val (.int c1), .val (.int c2), .val (.int c3), .val (.int c4), .val (.int c5), .val (.int d), .unset, .unset, .unset, .unset, .unset] b0_d167 rfl ?_
        refine Road.goto 169 234 b0_d169 rfl ?_
        exact J234 n d c1 c2 c3 c4 c5 hn7 latd lat1 lat2 lat3 lat4 lat5
    refine Road.iloadN 150 b0_d150 rfl ?_
    refine Road.iconst 151 (1 : Int32) b0_d151 rfl ?_
    refine Road.icmp_eq 152 160 b0_d152 rfl (fun hc152 => ?_) (fun hc152 => ?_)
    · skip
      exact J160
    · skip
      refine Road.iloadN 155 b0_d155 rfl ?_
      refine Road.iconst 156 (2 : Int32) b0_d156 rfl ?_
      refine Road.icmp_ne 157 234 b0_d157 rfl (fun hc157 => ?_) (fun hc157 => ?_)
      · skip
        exact J234 n c0 c1 c2 c3 c4 c5 hn7 lat0 lat1 lat2 lat3 lat4 lat5
      · skip
        exact J160
  refine Road.iloadN 94 b0_d94 rfl ?_
  refine Road.iconst 95 (1 : Int32) b0_d95 rfl ?_
  refine Road.icmp_ne 96 117 b0_d96 rfl (fun hc96 => ?_) (fun hc96 => ?_)
  · skip
    refine Road.iloadN 117 b0_d117 rfl ?_
    refine Road.iconst 118 (2 : Int32) b0_d118 rfl ?_
    refine Road.icmp_ne 119 150 b0_d119 rfl (fun hc119 => ?_) (fun hc119 => ?_)
    · skip
      exact J150 n c0 c1 c2 c3 c4 c5 hn7 lat0 lat1 lat2 lat3 lat4 lat5
    · skip
      refine Road.bipush 122 (6 : Int32) b0_d122 rfl ?_
      refine Road.istore 124 #[.val (.int p0), .val (.int p1), .val (.int p2), .val (.int m), .val (.int (6 : Int32)), .val (.int ps), .val (.int c0), .val (.int c1), .val (.int c2), .val (.int c3), .val (.int c4), .val (.int c5), .val (.int d), .unset, .unset, .unset, .unset, .unset] b0_d124 rfl ?_
      refine Road.bipush 126 (100 : Int32) b0_d126 rfl ?_
      refine Road.istore 128 #[.val (.int p0), .val (.int p1), .val (.int p2), .val (.int m), .val (.int (6 : Int32)), .val (.int ps), .val (.int (100 : Int32)), .val (.int c1), .val (.int c2), .val (.int c3), .val (.int c4), .val (.int c5), .val (.int d), .unset, .unset, .unset, .unset, .unset] b0_d128 rfl ?_
      refine Road.bipush 130 (101 : Int32) b0_d130 rfl ?_
      refine Road.istore 132 #[.val (.int p0), .val (.int p1), .val (.int p2), .val (.int m), .val (.int (6 : Int32)), .val (.int ps), .val (.int (100 : Int32)), .val (.int (101 : Int32)), .val (.int c2), .val (.int c3), .val (.int c4), .val (.int c5), .val (.int d), .unset, .unset, .unset, .unset, .unset] b0_d132 rfl ?_
      refine Road.bipush 134 (108 : Int32) b0_d134 rfl ?_
      refine Road.istore 136 #[.val (.int p0), .val (.int p1), .val (.int p2), .val (.int m), .val (.int (6 : Int32)), .val (.int ps), .val (.int (100 : Int32)), .val (.int (101 : Int32)), .val (.int (108 : Int32)), .val (.int c3), .val (.int c4), .val (.int c5), .val (.int d), .unset, .unset, .unset, .unset, .unset] b0_d136 rfl ?_
      refine Road.bipush 138 (101 : Int32) b0_d138 rfl ?_
      refine Road.istore 140 #[.val (.int p0), .val (.int p1), .val (.int p2), .val (.int m), .val (.int (6 : Int32)), .val (.int ps), .val (.int (100 : Int32)), .val (.int (101 : Int32)), .val (.int (108 : Int32)), .val (.int (101 : Int32)), .val (.int c4), .val (.int c5), .val (.int d), .unset, .unset, .unset, .unset, .unset] b0_d140 rfl ?_
      refine Road.bipush 142 (116 : Int32) b0_d142 rfl ?_
      refine Road.istore 144 #[.val (.int p0), .val (.int p1), .val (.int p2), .val (.int m), .val (.int (6 : Int32)), .val (.int ps), .val (.int (100 : Int32)), .val (.int (101 : Int32)), .val (.int (108 : Int32)), .val (.int (101 : Int32)), .val (.int (116 : Int32)), .val (.int c5), .val (.int d), .unset, .unset, .unset, .unset, .unset] b0_d144 rfl ?_
      refine Road.bipush 146 (101 : Int32) b0_d146 rfl ?_
      refine Road.istore 148 #[.val (.int p0), .val (.int p1), .val (.int p2), .val (.int m), .val (.int (6 : Int32)), .val (.int ps), .val (.int (100 : Int32)), .val (.int (101 : Int32)), .val (.int (108 : Int32)), .val (.int (101 : Int32)), .val (.int (116 : Int32)), .val (.int (101 : Int32)), .val (.int d), .unset, .unset, .unset, .unset, .unset] b0_d148 rfl ?_
      exact J150 6 100 101 108 101 116 101 (by decide) (by decide) (by decide) (by decide) (by decide) (by decide) (by decide)
  · skip
    refine Road.iconst 99 (3 : Int32) b0_d99 rfl ?_
    refine Road.istore 100 #[.val (.int p0), .val (.int p1), .val (.int p2), .val (.int m), .val (.int (3 : Int32)), .val (.int ps), .val (.int c0), .val (.int c1), .val (.int c2), .val (.int c3), .val (.int c4), .val (.int c5), .val (.int d), .unset, .unset, .unset, .unset, .unset] b0_d100 rfl ?_
    refine Road.bipush 102 (112 : Int32) b0_d102 rfl ?_
    refine Road.istore 104 #[.val (.int p0), .val (.int p1), .val (.int p2), .val (.int m), .val (.int (3 : Int32)), .val (.int ps), .val (.int (112 : Int32)), .val (.int c1), .val (.int c2), .val (.int c3), .val (.int c4), .val (.int c5), .val (.int d), .unset, .unset, .unset, .unset, .unset] b0_d104 rfl ?_
    refine Road.bipush 106 (117 : Int32) b0_d106 rfl ?_
    refine Road.istore 108 #[.val (.int p0), .val (.int p1), .val (.int p2), .val (.int m), .val (.int (3 : Int32)), .val (.int ps), .val (.int (112 : Int32)), .val (.int (117 : Int32)), .val (.int c2), .val (.int c3), .val (.int c4), .val (.int c5), .val (.int d), .unset, .unset, .unset, .unset, .unset] b0_d108 rfl ?_
    refine Road.bipush 110 (116 : Int32) b0_d110 rfl ?_
    refine Road.istore 112 #[.val (.int p0), .val (.int p1), .val (.int p2), .val (.int m), .val (.int (3 : Int32)), .val (.int ps), .val (.int (112 : Int32)), .val (.int (117 : Int32)), .val (.int (116 : Int32)), .val (.int c3), .val (.int c4), .val (.int c5), .val (.int d), .unset, .unset, .unset, .unset, .unset] b0_d112 rfl ?_
    refine Road.goto 114 150 b0_d114 rfl ?_
    exact J150 3 112 117 116 c3 c4 c5 (by decide) (by decide) (by decide) (by decide) lat3 lat4 lat5
set_option maxHeartbeats 40000000 in
theorem comes_1 {Post : Tables → Env → Array Value → State → Outcome → State → Prop} (hpost : ∀ tb e args s v u, (limb_1_1.after args s (.returned v) u = true ∧ limb_1_2.after args s (.returned v) u = true ∧ True) → ReturnedEndW s (.returned v) u (Jvm.fieldLocs frame_1_writes args s ++ Jvm.arrayLocs frame_1_arrays args s ++ Jvm.staticLocs frame_1_statics s) 24 1152 → Post tb e args s (.returned v) u) :
    ArmFor flags0 classFile x code maxLocals ret World_1 tables_1 room_1 Calls_1 rest_1 Pre_1 Post := by
  intro l hfl _ _ p e ha hc hk s m args below hf hA hF happ hP
  obtain ⟨hcalls, hrest, hpre⟩ := hP
  obtain ⟨-, -, -, hnamed, -, -, -, hat⟩ := (Spec.applies_iff hf).mp happ
  obtain ⟨hg, hn⟩ := and_e (Cond.before_iff.mp (show (Jvm.Cond.and given_1 narrow_1).before args s = true from hpre))
  obtain ⟨h1, hr1⟩ := and_e hg
  obtain ⟨g0, hr2⟩ := and_e hr1
  obtain ⟨g1, hr3⟩ := and_e hr2
  have g2 := hr3
  obtain ⟨w0, w1, w2, rfl⟩ : ∃ w0 w1 w2 : Value, args = #[w0, w1, w2] := by
    have hs : args.size = 3 := by simpa [Cond.value, given_1] using h1
    obtain ⟨L⟩ := args
    match L, hs with
    | [w0, w1, w2], _ => exact ⟨w0, w1, w2, rfl⟩
  obtain ⟨p0, ev0⟩ := is_v g0
  obtain rfl : w0 = (.int p0) := Option.some.inj ev0
  obtain ⟨p1, ev1⟩ := is_v g1
  obtain rfl : w1 = (.int p1) := Option.some.inj ev1
  obtain ⟨p2, ev2⟩ := is_v g2
  obtain rfl : w2 = (.int p2) := Option.some.inj ev2
  have hw := fun d (hd : d ∈ tables_1) => atoms_spec (ws := Jvm.Cond.code x code maxLocals ret :: tables_1) hat d (List.mem_cons_of_mem _ hd)
  obtain ⟨hsets, hown0⟩ := atoms_of _ (rest_1_c_eq ▸ (show rest_1_c.before _ s = true from hrest))
  have hfit : Fit s := fun {y c} hc i hi => by
    obtain ⟨ha, rfl⟩ := Array.getElem?_eq_some_iff.mp hc
    have q := List.all_eq_true.mp ((Array.all_eq_true_iff_forall_mem.mp hF) _ (Array.getElem_mem ha)) i (List.mem_range.mpr hi)
    simpa [Array.getElem?_eq_getElem hi] using q
  have hcw := hsets _ (List.mem_of_getElem? (i := 2) rfl)
  have n5 := not_v (Cond.before_iff.mp hcw)
  obtain ⟨cp, e10⟩ := is_v (Cond.before_iff.mp (hsets _ (List.mem_of_getElem? (i := 1) rfl)))
  have Hc : Sta s s.heap "java/lang/String" "COMPACT_STRINGS" "Z" (.int cp) := Sta.start e10 (Or.inl (hsets _ (List.mem_of_getElem? (i := 0) rfl)))
  have hcp : ¬ (cp = (0 : Int32)) := gotF (Cond.eq_ints e10 (Term.int_eval (0))) n5
  have hEW : EW s _ consts_1 := (EW.cons (hw _ (List.mem_of_getElem? (i := 18) rfl)) (by decide) EW.nil)
  have hCH : CHv s consts_1 s.vm s.heap := CHv.start hEW (fun q hq => hcalls.1 q hq) hcw (hw _ (List.mem_of_getElem? (i := 19) rfl)) (hw _ (List.mem_of_getElem? (i := 5) rfl))
  obtain ⟨n1, h2n⟩ := and_e hn
  obtain ⟨n2, h3n⟩ := and_e h2n
  obtain ⟨n3, h4n⟩ := and_e h3n
  obtain ⟨n4, h5n⟩ := and_e h4n
  obtain ⟨n5, h6n⟩ := and_e h5n
  obtain ⟨n6, h7n⟩ := and_e h6n
  obtain ⟨n7, h8n⟩ := and_e h7n
  obtain ⟨n8, h9n⟩ := and_e h8n
  obtain ⟨n9, h10n⟩ := and_e h9n
  obtain ⟨n10, h11n⟩ := and_e h10n
  obtain ⟨n11, h12n⟩ := and_e h11n
  obtain ⟨n12, h13n⟩ := and_e h12n
  obtain ⟨n13, h14n⟩ := and_e h13n
  obtain ⟨n14, h15n⟩ := and_e h14n
  obtain ⟨n15, h16n⟩ := and_e h15n
  obtain ⟨n16, h17n⟩ := and_e h16n
  obtain ⟨n17, h18n⟩ := and_e h17n
  obtain ⟨n18, h19n⟩ := and_e h18n
  obtain ⟨n19, h20n⟩ := and_e h19n
  obtain ⟨n20, h21n⟩ := and_e h20n
  obtain ⟨n21, h22n⟩ := and_e h21n
  obtain ⟨n22, h23n⟩ := and_e h22n
  obtain ⟨n23, h24n⟩ := and_e h23n
  obtain ⟨n24, h25n⟩ := and_e h24n
  have n25 := h25n
  obtain ⟨va, eva⟩ := arr_v n1
  obtain ⟨pu, epu⟩ := exa_v n4
  obtain ⟨de, ede⟩ := exa_v n6
  obtain ⟨wp, ewp⟩ := exa_v n8
  obtain ⟨wd, ewd⟩ := exa_v n12
  obtain ⟨bp, ebp⟩ := arr_v n10
  obtain ⟨bd, ebd⟩ := arr_v n14
  have HP := Sta.start epu (Or.inr ⟨(hw _ (List.mem_of_getElem? (i := 28) rfl)), (hw _ (List.mem_of_getElem? (i := 42) rfl))⟩)
  have HD := Sta.start ede (Or.inr ⟨(hw _ (List.mem_of_getElem? (i := 28) rfl)), (hw _ (List.mem_of_getElem? (i := 43) rfl))⟩)
  have HV := Sta.start eva (Or.inl (hw _ (List.mem_of_getElem? (i := 44) rfl)))
  have Ava := Road.Ary.start (vs := [.ref pu, .ref de]) eva n1 n3 rfl (fun i hi => match i, hi with | 0, _ => ⟨0, rfl, Road.eq_ref_of n5 epu⟩ | 1, _ => ⟨1, rfl, Road.eq_ref_of n7 ede⟩) (by intro v hv; simp only [List.mem_cons, List.not_mem_nil, or_false] at hv; rcases hv with rfl | rfl <;> rfl)
  have Eva := Exa.start eva n2
  have Epu := Exa.start epu n4
  have Ede := Exa.start ede n6
  have Fpu := Fld.start ((fld_at epu).symm.trans ewp)
  have Fde := Fld.start ((fld_at ede).symm.trans ewd)
  have Swp : Road.Str s s.heap wp bp [112, 117, 116] := ⟨Exa.start ewp n8, Fld.start ((fld_at ewp).symm.trans (Road.eq_int_of n9)), Fld.start ((fld_at ewp).symm.trans ebp), Road.Ary.start (vs := ([112, 117, 116] : List Int32).map Road.byt) ebp n10 n11 rfl (fun i hi => match i, hi with | 0, _ => ⟨0, rfl, Road.eq_int_of n17⟩ | 1, _ => ⟨1, rfl, Road.eq_int_of n18⟩ | 2, _ => ⟨2, rfl, Road.eq_int_of n19⟩) (by decide), by decide⟩
  have Swd : Road.Str s s.heap wd bd [100, 101, 108, 101, 116, 101] := ⟨Exa.start ewd n12, Fld.start ((fld_at ewd).symm.trans (Road.eq_int_of n13)), Fld.start ((fld_at ewd).symm.trans ebd), Road.Ary.start (vs := ([100, 101, 108, 101, 116, 101] : List Int32).map Road.byt) ebd n14 n15 rfl (fun i hi => match i, hi with | 0, _ => ⟨0, rfl, Road.eq_int_of n20⟩ | 1, _ => ⟨1, rfl, Road.eq_int_of n21⟩ | 2, _ => ⟨2, rfl, Road.eq_int_of n22⟩ | 3, _ => ⟨3, rfl, Road.eq_int_of n23⟩ | 4, _ => ⟨4, rfl, Road.eq_int_of n24⟩ | 5, _ => ⟨5, rfl, Road.eq_int_of n25⟩) (by decide), by decide⟩
  obtain ⟨n, o, z1, z2, z3, v, L, rfl, hQ, N, -, -, hE⟩ := law l s _ hw s.heap.size hEW p0 p1 p2 s.heap (fun _ => False) pu de va wp bp wd bd HP HD HV Ava Eva Epu Ede Fpu Fde Swp Swd cp Hc hcp tables_1 p e ha hc hk s m _ below hf ((Spec.applies_iff_loose hf).mp happ).1 ⟨rfl, State.Warmed39.refl s, rfl, hCH, Old.start s, fun _ q => q.elim⟩ (fun q => nomatch q)
  have hQ : v = some (.int 1) := hQ
  subst hQ
  refine ⟨n, _, z1, z2, z3, hpost _ _ _ _ _ _ ⟨Cond.after_iff.mpr rfl, Cond.after_iff.mpr (eq_i res_at (Term.int_eval (1)) rfl), trivial⟩ ⟨hE.1, hE.2.1, hE.2.2.1, (hE.2.2.2.sift fun y hy => Or.inr (N y hy)).mono (by decide) (by decide)⟩⟩
theorem main_1_1 : Claimed_1_1 := comes_1 fun _ _ _ _ _ _ h hF => ⟨h.1, hF⟩
theorem main_1_2 : Claimed_1_2 := comes_1 fun _ _ _ _ _ _ h hF => ⟨h.2.1, hF⟩
end Jvm.Pilot.@@N@@
namespace Jvm.Pilot.@@N@@
open Jvm Jvm.ClassFile Sem Op Lib Jvm.Free Jvm.Stand Jvm.Pilot.@@N@@.Jvm.D
/-! MADE BY PROGRAM (witnessworld.py) out of the Statement's table words and the real class files: 22 classes; the members and pool entries that the words name. The judged class is class 1, her method 2. -/
namespace start1
open Jvm.ClassFile
def u (s : String) : CpInfo := .utf8 (stringToUtf16 s)
/-- a pool by its gaps: so many unusable entries, then the entry; so many at the end -/
def gap : Nat → List CpInfo → List CpInfo
  | 0, r => r
  | n + 1, r => .unusable :: gap n r
def poolList (es : List (Nat × CpInfo)) (last : Nat) : List CpInfo := es.foldr (fun e r => gap e.1 (e.2 :: r)) (gap last [])
def pool (es : List (Nat × CpInfo)) (last : Nat) : Array CpInfo := ⟨poolList es last⟩
def fileOf (pool : Array CpInfo) (this : Nat) (attrs : Array Attribute := #[]) (ms : Array MethodInfo := #[]) (fl : Nat := 33) (sup : Nat := 0) (ifs : Array Nat := #[]) (fds : Array FieldInfo := #[]) : ClassFile where
  minorVersion := 0
  majorVersion := 65
  constantPool := pool
  accessFlags := fl
  thisClass := this
  superClass := sup
  interfaces := ifs
  fields := fds
  methods := ms
  attributes := attrs
def plain (name : String) (sup : Option ClassId) : Class where
  name := name
  kind := .ordinary
  loader := none
  accessFlags := 33
  super := sup
  interfaces := #[]
  cf := none
  fields := #[]
  methods := #[]
  instanceTypes := #[]
  staticTypes := #[]
  resolved := #[]
  callSites := []
  init := .initialized
  statics := none
  mirror := none

def pool0 : Array CpInfo := pool [(5, u "<init>"), (0, u "()V"), (1, .class_ 10), (1, u "java/lang/Object"), (85, u "clone"), (0, u "()Ljava/lang/Object;")] 26

def k0c0 : Code := { maxStack := 0, maxLocals := 1, code := object_method_1_code, exceptionTable := #[], attributes := #[] }
def k0m0 : Method := { name := "<init>", desc := "()V", sig := { parameters := [], returnType := none }, accessFlags := 1, code := some k0c0 }
def k0m1 : Method := { name := "clone", desc := "()Ljava/lang/Object;", sig := { parameters := [], returnType := some (.object "java/lang/Object") }, accessFlags := 260, code := none }
/-- java/lang/Object -/
def k0 : Class := { plain "java/lang/Object" none with
  accessFlags := 33
  interfaces := #[]
  cf := some (fileOf pool0 8 #[] #[{ accessFlags := 1, nameIndex := 5, descriptorIndex := 6, attributes := #[] }, { accessFlags := 260, nameIndex := 96, descriptorIndex := 97, attributes := #[] }] 33 0 #[] #[])
  fields := #[]
  methods := #[k0m0, k0m1]
  instanceTypes := #[]
  staticTypes := #[]
  resolved := Array.replicate 124 none
  statics := none }

def pool1 : Array CpInfo := pool [(2, .class_ 4), (1, u "java/lang/Object"), (0, u "<init>"), (0, u "()V"), (0, .class_ 8), (0, u "java/lang/String"), (0, .methodref 7 10), (0, .nameAndType 5 11), (0, u "([C)V"), (0, .methodref 13 14), (0, .class_ 15), (0, .nameAndType 16 17), (0, u "com/example/anchorline/anchorline/server/OpOfPinLaw"), (0, u "mk"), (0, u "(ICCCCCC)Ljava/lang/String;"), (0, .methodref 19 20), (0, .class_ 21), (0, .nameAndType 22 23), (0, u "com/example/anchorline/anchorline/server/Op"), (0, u "of"), (0, u "(Ljava/lang/String;)Lcom/example/anchorline/anchorline/server/Op;"), (0, .fieldref 19 25), (0, .nameAndType 26 27), (0, u "PUT"), (0, u "Lcom/example/anchorline/anchorline/server/Op;"), (0, .fieldref 19 29), (0, .nameAndType 30 27), (0, u "DELETE"), (0, .methodref 19 32), (0, .nameAndType 33 34), (0, u "word"), (0, u "()Ljava/lang/String;"), (3, u "law"), (0, u "(III)Z")] 2

def k1m0 : Method := { name := "<init>", desc := "()V", sig := { parameters := [], returnType := none }, accessFlags := 1, code := none }
def k1c1 : Code := { maxStack := 6, maxLocals := 7, code := method_2_code, exceptionTable := #[], attributes := #[] }
def k1m1 : Method := { name := "mk", desc := "(ICCCCCC)Ljava/lang/String;", sig := { parameters := [.int, .char, .char, .char, .char, .char, .char], returnType := some (.object "java/lang/String") }, accessFlags := 10, code := some k1c1 }
def k1c2 : Code := { maxStack := 7, maxLocals := 18, code := code, exceptionTable := #[], attributes := #[] }
def k1m2 : Method := { name := "law", desc := "(III)Z", sig := { parameters := [.int, .int, .int], returnType := some .boolean }, accessFlags := 9, code := some k1c2 }
/-- com/example/anchorline/anchorline/server/OpOfPinLaw -/
def k1 : Class := { plain "com/example/anchorline/anchorline/server/OpOfPinLaw" (some 0) with
  accessFlags := 49
  interfaces := #[]
  cf := some (fileOf pool1 13 #[] #[{ accessFlags := 1, nameIndex := 5, descriptorIndex := 6, attributes := #[] }, { accessFlags := 10, nameIndex := 16, descriptorIndex := 17, attributes := #[] }, { accessFlags := 9, nameIndex := 38, descriptorIndex := 39, attributes := #[] }] 49 2 #[] #[])
  fields := #[]
  methods := #[k1m0, k1m1, k1m2]
  instanceTypes := #[]
  staticTypes := #[]
  resolved := Array.replicate 42 none
  statics := none }

def pool2 : Array CpInfo := pool [(1, .class_ 2), (0, u "java/io/Serializable"), (0, .class_ 4), (0, u "java/lang/Object")] 2

/-- java/io/Serializable -/
def k2 : Class := { plain "java/io/Serializable" (some 0) with
  accessFlags := 1537
  interfaces := #[]
  cf := some (fileOf pool2 1 #[] #[] 1537 3 #[] #[])
  fields := #[]
  methods := #[]
  instanceTypes := #[]
  staticTypes := #[]
  resolved := Array.replicate 7 none
  statics := none }

def pool3 : Array CpInfo := pool [(1, .class_ 2), (0, u "java/lang/Comparable"), (0, .class_ 4), (0, u "java/lang/Object")] 7

/-- java/lang/Comparable -/
def k3 : Class := { plain "java/lang/Comparable" (some 0) with
  accessFlags := 1537
  interfaces := #[]
  cf := some (fileOf pool3 1 #[] #[] 1537 3 #[] #[])
  fields := #[]
  methods := #[]
  instanceTypes := #[]
  staticTypes := #[]
  resolved := Array.replicate 12 none
  statics := none }

def pool4 : Array CpInfo := pool [(2, .class_ 4), (1, u "java/lang/CharSequence"), (42, .class_ 48), (0, u "java/lang/CharSequence$1CodePointIterator"), (10, .class_ 60), (0, u "java/lang/CharSequence$1CharIterator"), (5, .class_ 67), (0, u "java/lang/Object")] 63

/-- java/lang/CharSequence -/
def k4 : Class := { plain "java/lang/CharSequence" (some 0) with
  accessFlags := 1537
  interfaces := #[]
  cf := some (fileOf pool4 2 #[.nestMembers #[47, 59]] #[] 1537 66 #[] #[])
  fields := #[]
  methods := #[]
  instanceTypes := #[]
  staticTypes := #[]
  resolved := Array.replicate 131 none
  statics := none }

def pool5 : Array CpInfo := pool [(1, .class_ 2), (0, u "java/lang/constant/Constable"), (0, .class_ 4), (0, u "java/lang/Object")] 6

/-- java/lang/constant/Constable -/
def k5 : Class := { plain "java/lang/constant/Constable" (some 0) with
  accessFlags := 1537
  interfaces := #[]
  cf := some (fileOf pool5 1 #[] #[] 1537 3 #[] #[])
  fields := #[]
  methods := #[]
  instanceTypes := #[]
  staticTypes := #[]
  resolved := Array.replicate 11 none
  statics := none }

def pool6 : Array CpInfo := pool [(1, .class_ 2), (0, u "java/lang/constant/ConstantDesc"), (0, .class_ 4), (0, u "java/lang/Object")] 32

/-- java/lang/constant/ConstantDesc -/
def k6 : Class := { plain "java/lang/constant/ConstantDesc" (some 0) with
  accessFlags := 1537
  interfaces := #[]
  cf := some (fileOf pool6 1 #[] #[] 1537 3 #[] #[])
  fields := #[]
  methods := #[]
  instanceTypes := #[]
  staticTypes := #[]
  resolved := Array.replicate 37 none
  statics := none }

def pool7 : Array CpInfo := pool [(1, .methodref 2 3), (0, .class_ 4), (0, .nameAndType 5 6), (0, u "java/lang/Object"), (0, u "<init>"), (0, u "()V"), (0, .string 8), (0, u ""), (0, .fieldref 10 11), (0, .class_ 12), (0, .nameAndType 13 14), (0, u "java/lang/String"), (0, u "value"), (0, u "[B"), (0, .fieldref 10 16), (0, .nameAndType 17 18), (0, u "coder"), (0, u "B"), (2, u "hash"), (0, u "I"), (2, u "hashIsZero"), (0, u "Z"), (0, .methodref 10 28), (0, .nameAndType 5 29), (0, u "([CIILjava/lang/Void;)V"), (8, .fieldref 10 39), (0, .nameAndType 40 26), (0, u "COMPACT_STRINGS"), (1, .class_ 44), (1, u "java/lang/StringUTF16"), (0, u "compress"), (1, .methodref 42 48), (0, .nameAndType 49 50), (0, u "coderFromArrayLen"), (0, u "([BI)B"), (56, .class_ 109), (1, u "java/lang/StringLatin1"), (67, .methodref 42 178), (0, .nameAndType 45 179), (0, u "([CII)[B"), (361, .methodref 107 542), (0, .nameAndType 543 544), (0, u "equals"), (0, u "([B[B)Z"), (28, u "(Ljava/lang/Object;)Z"), (1, .class_ 576), (0, u "java/lang/CharSequence"), (22, u "CASE_INSENSITIVE_ORDER"), (0, u "Ljava/util/Comparator;"), (409, u "([C)V"), (90, u "serialPersistentFields"), (0, u "[Ljava/io/ObjectStreamField;"), (0, .class_ 1104), (0, u "java/lang/String$CaseInsensitiveComparator"), (1, .class_ 1107), (0, u "java/io/Serializable"), (0, .class_ 1109), (0, u "java/lang/Comparable"), (0, .class_ 1111), (0, u "java/lang/constant/Constable"), (0, .class_ 1113), (0, u "java/lang/constant/ConstantDesc"), (2, u "serialVersionUID"), (0, u "J"), (3, u "REPL"), (0, u "C"), (2, u "LATIN1"), (1, u "UTF16")] 323

def k7m0 : Method := { name := "<init>", desc := "()V", sig := { parameters := [], returnType := none }, accessFlags := 1, code := none }
def k7c1 : Code := { maxStack := 5, maxLocals := 2, code := jdk_42_method_3_code, exceptionTable := #[], attributes := #[] }
def k7m1 : Method := { name := "<init>", desc := "([C)V", sig := { parameters := [(.array .char)], returnType := none }, accessFlags := 1, code := some k7c1 }
def k7c2 : Code := { maxStack := 2, maxLocals := 3, code := jdk_42_method_66_code, exceptionTable := #[], attributes := #[] }
def k7m2 : Method := { name := "equals", desc := "(Ljava/lang/Object;)Z", sig := { parameters := [(.object "java/lang/Object")], returnType := some .boolean }, accessFlags := 1, code := some k7c2 }
def k7c3 : Code := { maxStack := 4, maxLocals := 6, code := jdk_42_method_149_code, exceptionTable := #[], attributes := #[] }
def k7m3 : Method := { name := "<init>", desc := "([CIILjava/lang/Void;)V", sig := { parameters := [(.array .char), .int, .int, (.object "java/lang/Void")], returnType := none }, accessFlags := 2, code := some k7c3 }
/-- java/lang/String -/
def k7 : Class := { plain "java/lang/String" (some 0) with
  accessFlags := 49
  interfaces := #[2, 3, 4, 5, 6]
  cf := some (fileOf pool7 10 #[.nestMembers #[1103]] #[{ accessFlags := 1, nameIndex := 5, descriptorIndex := 6, attributes := #[] }, { accessFlags := 1, nameIndex := 5, descriptorIndex := 1010, attributes := #[] }, { accessFlags := 1, nameIndex := 543, descriptorIndex := 573, attributes := #[] }, { accessFlags := 2, nameIndex := 5, descriptorIndex := 29, attributes := #[] }] 49 2 #[1106, 1108, 575, 1110, 1112] #[{ accessFlags := 18, nameIndex := 13, descriptorIndex := 14, attributes := #[] }, { accessFlags := 18, nameIndex := 17, descriptorIndex := 18, attributes := #[] }, { accessFlags := 2, nameIndex := 21, descriptorIndex := 22, attributes := #[] }, { accessFlags := 2, nameIndex := 25, descriptorIndex := 26, attributes := #[] }, { accessFlags := 26, nameIndex := 1116, descriptorIndex := 1117, attributes := #[] }, { accessFlags := 24, nameIndex := 40, descriptorIndex := 26, attributes := #[] }, { accessFlags := 26, nameIndex := 1101, descriptorIndex := 1102, attributes := #[] }, { accessFlags := 26, nameIndex := 1121, descriptorIndex := 1122, attributes := #[] }, { accessFlags := 25, nameIndex := 599, descriptorIndex := 600, attributes := #[] }, { accessFlags := 24, nameIndex := 1125, descriptorIndex := 18, attributes := #[] }, { accessFlags := 24, nameIndex := 1127, descriptorIndex := 18, attributes := #[] }])
  fields := #[{ name := "value", type := (.array .byte), accessFlags := 18, slot := 0, constantValue := 0 }, { name := "coder", type := .byte, accessFlags := 18, slot := 1, constantValue := 0 }, { name := "hash", type := .int, accessFlags := 2, slot := 2, constantValue := 0 }, { name := "hashIsZero", type := .boolean, accessFlags := 2, slot := 3, constantValue := 0 }, { name := "serialVersionUID", type := .long, accessFlags := 26, slot := 0, constantValue := 0 }, { name := "COMPACT_STRINGS", type := .boolean, accessFlags := 24, slot := 1, constantValue := 0 }, { name := "serialPersistentFields", type := (.array (.object "java/io/ObjectStreamField")), accessFlags := 26, slot := 2, constantValue := 0 }, { name := "REPL", type := .char, accessFlags := 26, slot := 3, constantValue := 0 }, { name := "CASE_INSENSITIVE_ORDER", type := (.object "java/util/Comparator"), accessFlags := 25, slot := 4, constantValue := 0 }, { name := "LATIN1", type := .byte, accessFlags := 24, slot := 5, constantValue := 0 }, { name := "UTF16", type := .byte, accessFlags := 24, slot := 6, constantValue := 0 }]
  methods := #[k7m0, k7m1, k7m2, k7m3]
  instanceTypes := #[(.array .byte), .byte, .int, .boolean]
  staticTypes := #[.long, .boolean, (.array (.object "java/io/ObjectStreamField")), .char, (.object "java/util/Comparator"), .byte, .byte]
  resolved := Array.replicate 1451 none
  statics := some 0 }

def pool8 : Array CpInfo := pool [(2, .class_ 4), (1, u "java/lang/Enum"), (0, u "name"), (0, u "Ljava/lang/String;"), (2, u "ordinal"), (0, u "I"), (1, .class_ 14), (1, u "java/lang/Object"), (4, u "hash"), (86, .class_ 108), (1, u "java/lang/Enum$EnumDesc"), (2, .class_ 112), (0, u "java/lang/constant/Constable"), (0, .class_ 114), (0, u "java/lang/Comparable"), (0, .class_ 116), (0, u "java/io/Serializable")] 87

/-- java/lang/Enum -/
def k8 : Class := { plain "java/lang/Enum" (some 0) with
  accessFlags := 1057
  interfaces := #[5, 3, 2]
  cf := some (fileOf pool8 2 #[.nestMembers #[106]] #[] 1057 12 #[111, 113, 115] #[{ accessFlags := 18, nameIndex := 5, descriptorIndex := 6, attributes := #[] }, { accessFlags := 18, nameIndex := 9, descriptorIndex := 10, attributes := #[] }, { accessFlags := 2, nameIndex := 19, descriptorIndex := 10, attributes := #[] }])
  fields := #[{ name := "name", type := (.object "java/lang/String"), accessFlags := 18, slot := 0, constantValue := 0 }, { name := "ordinal", type := .int, accessFlags := 18, slot := 1, constantValue := 0 }, { name := "hash", type := .int, accessFlags := 2, slot := 2, constantValue := 0 }]
  methods := #[]
  instanceTypes := #[(.object "java/lang/String"), .int, .int]
  staticTypes := #[]
  resolved := Array.replicate 204 none
  statics := none }

def pool9 : Array CpInfo := pool [(1, .class_ 2), (0, u "com/example/anchorline/anchorline/server/Op"), (2, u "PUT"), (0, u "Lcom/example/anchorline/anchorline/server/Op;"), (2, u "DELETE"), (0, .fieldref 1 11), (0, .nameAndType 12 13), (0, u "$VALUES"), (0, u "[Lcom/example/anchorline/anchorline/server/Op;"), (0, .methodref 15 16), (0, .class_ 13), (0, .nameAndType 17 18), (0, u "clone"), (0, u "()Ljava/lang/Object;"), (1, .class_ 22), (1, u "java/lang/Enum"), (6, .fieldref 1 30), (0, .nameAndType 31 32), (0, u "word"), (0, u "Ljava/lang/String;"), (0, .methodref 1 34), (0, .nameAndType 35 36), (0, u "values"), (0, u "()[Lcom/example/anchorline/anchorline/server/Op;"), (0, .methodref 38 39), (0, .class_ 40), (0, .nameAndType 41 42), (0, u "java/lang/String"), (0, u "equals"), (0, u "(Ljava/lang/Object;)Z"), (14, u "(Ljava/lang/String;)Lcom/example/anchorline/anchorline/server/Op;"), (3, u "()Ljava/lang/String;"), (0, u "of")] 6

def k9c0 : Code := { maxStack := 1, maxLocals := 0, code := prog_32_method_1_code, exceptionTable := #[], attributes := #[] }
def k9m0 : Method := { name := "values", desc := "()[Lcom/example/anchorline/anchorline/server/Op;", sig := { parameters := [], returnType := some (.array (.object "com/example/anchorline/anchorline/server/Op")) }, accessFlags := 9, code := some k9c0 }
def k9c1 : Code := { maxStack := 1, maxLocals := 1, code := prog_32_method_4_code, exceptionTable := #[], attributes := #[] }
def k9m1 : Method := { name := "word", desc := "()Ljava/lang/String;", sig := { parameters := [], returnType := some (.object "java/lang/String") }, accessFlags := 0, code := some k9c1 }
def k9c2 : Code := { maxStack := 2, maxLocals := 5, code := prog_32_method_5_code, exceptionTable := #[], attributes := #[] }
def k9m2 : Method := { name := "of", desc := "(Ljava/lang/String;)Lcom/example/anchorline/anchorline/server/Op;", sig := { parameters := [(.object "java/lang/String")], returnType := some (.object "com/example/anchorline/anchorline/server/Op") }, accessFlags := 8, code := some k9c2 }
/-- com/example/anchorline/anchorline/server/Op -/
def k9 : Class := { plain "com/example/anchorline/anchorline/server/Op" (some 8) with
  accessFlags := 16432
  interfaces := #[]
  cf := some (fileOf pool9 1 #[] #[{ accessFlags := 9, nameIndex := 35, descriptorIndex := 36, attributes := #[] }, { accessFlags := 0, nameIndex := 31, descriptorIndex := 61, attributes := #[] }, { accessFlags := 8, nameIndex := 62, descriptorIndex := 57, attributes := #[] }] 16432 20 #[] #[{ accessFlags := 16409, nameIndex := 5, descriptorIndex := 6, attributes := #[] }, { accessFlags := 16409, nameIndex := 9, descriptorIndex := 6, attributes := #[] }, { accessFlags := 18, nameIndex := 31, descriptorIndex := 32, attributes := #[] }, { accessFlags := 4122, nameIndex := 12, descriptorIndex := 13, attributes := #[] }])
  fields := #[{ name := "PUT", type := (.object "com/example/anchorline/anchorline/server/Op"), accessFlags := 16409, slot := 0, constantValue := 0 }, { name := "DELETE", type := (.object "com/example/anchorline/anchorline/server/Op"), accessFlags := 16409, slot := 1, constantValue := 0 }, { name := "word", type := (.object "java/lang/String"), accessFlags := 18, slot := 3, constantValue := 0 }, { name := "$VALUES", type := (.array (.object "com/example/anchorline/anchorline/server/Op")), accessFlags := 4122, slot := 2, constantValue := 0 }]
  methods := #[k9m0, k9m1, k9m2]
  instanceTypes := #[(.object "java/lang/String"), .int, .int, (.object "java/lang/String")]
  staticTypes := #[(.object "com/example/anchorline/anchorline/server/Op"), (.object "com/example/anchorline/anchorline/server/Op"), (.array (.object "com/example/anchorline/anchorline/server/Op"))]
  resolved := Array.replicate 69 none
  statics := some 1 }

def pool10 : Array CpInfo := pool [(1, .class_ 2), (0, u "java/lang/Cloneable"), (0, .class_ 4), (0, u "java/lang/Object")] 2

/-- java/lang/Cloneable -/
def k10 : Class := { plain "java/lang/Cloneable" (some 0) with
  accessFlags := 1537
  interfaces := #[]
  cf := some (fileOf pool10 1 #[] #[] 1537 3 #[] #[])
  fields := #[]
  methods := #[]
  instanceTypes := #[]
  staticTypes := #[]
  resolved := Array.replicate 7 none
  statics := none }

def pool11 : Array CpInfo := pool [(4, .class_ 6), (1, u "java/lang/Object"), (0, u "<init>"), (0, u "()V"), (5, .class_ 16), (1, u "java/lang/StringLatin1"), (104, u "$assertionsDisabled"), (0, u "Z"), (98, .class_ 223), (1, u "java/lang/StringLatin1$LinesSpliterator"), (57, u "equals"), (0, u "([B[B)Z"), (107, .class_ 391), (0, u "java/lang/StringLatin1$CharsSpliterator")] 3

def k11m0 : Method := { name := "<init>", desc := "()V", sig := { parameters := [], returnType := none }, accessFlags := 0, code := none }
def k11c1 : Code := { maxStack := 3, maxLocals := 3, code := jdk_43_method_13_code, exceptionTable := #[], attributes := #[] }
def k11m1 : Method := { name := "equals", desc := "([B[B)Z", sig := { parameters := [(.array .byte), (.array .byte)], returnType := some .boolean }, accessFlags := 9, code := some k11c1 }
/-- java/lang/StringLatin1 -/
def k11 : Class := { plain "java/lang/StringLatin1" (some 0) with
  accessFlags := 48
  interfaces := #[]
  cf := some (fileOf pool11 14 #[.nestMembers #[390, 221]] #[{ accessFlags := 0, nameIndex := 7, descriptorIndex := 8, attributes := #[] }, { accessFlags := 9, nameIndex := 281, descriptorIndex := 282, attributes := #[] }] 48 4 #[] #[{ accessFlags := 4120, nameIndex := 121, descriptorIndex := 122, attributes := #[] }])
  fields := #[{ name := "$assertionsDisabled", type := .boolean, accessFlags := 4120, slot := 0, constantValue := 0 }]
  methods := #[k11m0, k11m1]
  instanceTypes := #[]
  staticTypes := #[.boolean]
  resolved := Array.replicate 395 none
  statics := none }

def pool12 : Array CpInfo := pool [(6, .class_ 8), (1, u "java/lang/Object"), (0, u "<init>"), (0, u "()V"), (1, .class_ 14), (1, u "java/lang/StringUTF16"), (31, u "$assertionsDisabled"), (0, u "Z"), (13, u "HI_BYTE_SHIFT"), (0, u "I"), (2, u "LO_BYTE_SHIFT"), (49, .methodref 12 116), (0, .nameAndType 117 118), (0, u "compress"), (0, u "([CI[BII)I"), (3, u "([CII)[B"), (138, u "coderFromArrayLen"), (0, u "([BI)B"), (106, .class_ 371), (1, u "java/lang/StringUTF16$LinesSpliterator"), (58, u "MAX_LENGTH"), (196, .class_ 628), (0, u "java/lang/StringUTF16$CodePointsSpliterator"), (0, .class_ 630), (0, u "java/lang/StringUTF16$CharsSpliterator")] 4

def k12m0 : Method := { name := "<init>", desc := "()V", sig := { parameters := [], returnType := none }, accessFlags := 0, code := none }
def k12c1 : Code := { maxStack := 2, maxLocals := 2, code := jdk_52_method_15_code, exceptionTable := #[], attributes := #[] }
def k12m1 : Method := { name := "coderFromArrayLen", desc := "([BI)B", sig := { parameters := [(.array .byte), .int], returnType := some .byte }, accessFlags := 8, code := some k12c1 }
def k12c2 : Code := { maxStack := 5, maxLocals := 6, code := jdk_52_method_16_code, exceptionTable := #[], attributes := #[] }
def k12m2 : Method := { name := "compress", desc := "([CII)[B", sig := { parameters := [(.array .char), .int, .int], returnType := some (.array .byte) }, accessFlags := 9, code := some k12c2 }
def k12c3 : Code := { maxStack := 3, maxLocals := 7, code := jdk_52_method_21_code, exceptionTable := #[], attributes := #[] }
def k12m3 : Method := { name := "compress", desc := "([CI[BII)I", sig := { parameters := [(.array .char), .int, (.array .byte), .int, .int], returnType := some .int }, accessFlags := 9, code := some k12c3 }
/-- java/lang/StringUTF16 -/
def k12 : Class := { plain "java/lang/StringUTF16" (some 0) with
  accessFlags := 48
  interfaces := #[]
  cf := some (fileOf pool12 12 #[.nestMembers #[627, 629, 369]] #[{ accessFlags := 0, nameIndex := 9, descriptorIndex := 10, attributes := #[] }, { accessFlags := 8, nameIndex := 261, descriptorIndex := 262, attributes := #[] }, { accessFlags := 9, nameIndex := 117, descriptorIndex := 122, attributes := #[] }, { accessFlags := 9, nameIndex := 117, descriptorIndex := 118, attributes := #[] }] 48 6 #[] #[{ accessFlags := 26, nameIndex := 61, descriptorIndex := 62, attributes := #[] }, { accessFlags := 26, nameIndex := 65, descriptorIndex := 62, attributes := #[] }, { accessFlags := 24, nameIndex := 430, descriptorIndex := 62, attributes := #[] }, { accessFlags := 4120, nameIndex := 46, descriptorIndex := 47, attributes := #[] }])
  fields := #[{ name := "HI_BYTE_SHIFT", type := .int, accessFlags := 26, slot := 0, constantValue := 0 }, { name := "LO_BYTE_SHIFT", type := .int, accessFlags := 26, slot := 1, constantValue := 0 }, { name := "MAX_LENGTH", type := .int, accessFlags := 24, slot := 2, constantValue := 0 }, { name := "$assertionsDisabled", type := .boolean, accessFlags := 4120, slot := 3, constantValue := 0 }]
  methods := #[k12m0, k12m1, k12m2, k12m3]
  instanceTypes := #[]
  staticTypes := #[.int, .int, .int, .boolean]
  resolved := Array.replicate 635 none
  statics := none }

def pool13 : Array CpInfo := pool [(2, .class_ 4), (1, u "java/lang/Object"), (0, u "<init>"), (0, u "()V"), (17, .class_ 26), (1, u "jdk/internal/util/Preconditions"), (28, .class_ 56), (0, u "jdk/internal/util/Preconditions$4"), (57, .class_ 115), (0, u "jdk/internal/util/Preconditions$1"), (7, u "SIOOBE_FORMATTER"), (0, u "Ljava/util/function/BiFunction;"), (0, .class_ 126), (0, u "jdk/internal/util/Preconditions$2"), (3, u "AIOOBE_FORMATTER"), (0, .class_ 132), (0, u "jdk/internal/util/Preconditions$3"), (3, u "IOOBE_FORMATTER")] 57

def k13m0 : Method := { name := "<init>", desc := "()V", sig := { parameters := [], returnType := none }, accessFlags := 1, code := none }
/-- jdk/internal/util/Preconditions -/
def k13 : Class := { plain "jdk/internal/util/Preconditions" (some 0) with
  accessFlags := 33
  interfaces := #[]
  cf := some (fileOf pool13 24 #[.nestMembers #[55, 131, 125, 114]] #[{ accessFlags := 1, nameIndex := 5, descriptorIndex := 6, attributes := #[] }] 33 2 #[] #[{ accessFlags := 25, nameIndex := 123, descriptorIndex := 124, attributes := #[] }, { accessFlags := 25, nameIndex := 130, descriptorIndex := 124, attributes := #[] }, { accessFlags := 25, nameIndex := 136, descriptorIndex := 124, attributes := #[] }])
  fields := #[{ name := "SIOOBE_FORMATTER", type := (.object "java/util/function/BiFunction"), accessFlags := 25, slot := 0, constantValue := 0 }, { name := "AIOOBE_FORMATTER", type := (.object "java/util/function/BiFunction"), accessFlags := 25, slot := 1, constantValue := 0 }, { name := "IOOBE_FORMATTER", type := (.object "java/util/function/BiFunction"), accessFlags := 25, slot := 2, constantValue := 0 }]
  methods := #[k13m0]
  instanceTypes := #[]
  staticTypes := #[(.object "java/util/function/BiFunction"), (.object "java/util/function/BiFunction"), (.object "java/util/function/BiFunction")]
  resolved := Array.replicate 194 none
  statics := some 2 }

def pool14 : Array CpInfo := pool [(9, u "<init>"), (6, .class_ 18), (1, u "java/lang/Object"), (0, u "()V"), (1, .class_ 23), (1, u "jdk/internal/util/ArraysSupport"), (0, u "LOG2_ARRAY_LONG_INDEX_SCALE"), (0, u "I"), (2, u "U"), (0, u "Ljdk/internal/misc/Unsafe;"), (8, u "BIG_ENDIAN"), (0, u "Z"), (8, u "LOG2_BYTE_BIT_SIZE"), (4, u "LOG2_ARRAY_INT_INDEX_SCALE"), (54, u "JLA"), (0, u "Ljdk/internal/access/JavaLangAccess;"), (11, u "LOG2_ARRAY_BOOLEAN_INDEX_SCALE"), (9, u "LOG2_ARRAY_BYTE_INDEX_SCALE"), (5, u "LOG2_ARRAY_CHAR_INDEX_SCALE"), (5, u "LOG2_ARRAY_SHORT_INDEX_SCALE"), (18, u "LOG2_ARRAY_FLOAT_INDEX_SCALE"), (24, u "LOG2_ARRAY_DOUBLE_INDEX_SCALE"), (89, u "T_BOOLEAN"), (2, u "T_CHAR"), (1, u "T_FLOAT"), (1, u "T_DOUBLE"), (1, u "T_BYTE"), (1, u "T_SHORT"), (1, u "T_INT"), (1, u "T_LONG"), (1, u "SOFT_MAX_ARRAY_LENGTH")] 83

def k14m0 : Method := { name := "<init>", desc := "()V", sig := { parameters := [], returnType := none }, accessFlags := 2, code := none }
/-- jdk/internal/util/ArraysSupport -/
def k14 : Class := { plain "jdk/internal/util/ArraysSupport" (some 0) with
  accessFlags := 33
  interfaces := #[]
  cf := some (fileOf pool14 21 #[] #[{ accessFlags := 2, nameIndex := 9, descriptorIndex := 19, attributes := #[] }] 33 16 #[] #[{ accessFlags := 24, nameIndex := 28, descriptorIndex := 29, attributes := #[] }, { accessFlags := 26, nameIndex := 38, descriptorIndex := 39, attributes := #[] }, { accessFlags := 25, nameIndex := 121, descriptorIndex := 25, attributes := #[] }, { accessFlags := 25, nameIndex := 131, descriptorIndex := 25, attributes := #[] }, { accessFlags := 25, nameIndex := 137, descriptorIndex := 25, attributes := #[] }, { accessFlags := 25, nameIndex := 143, descriptorIndex := 25, attributes := #[] }, { accessFlags := 25, nameIndex := 53, descriptorIndex := 25, attributes := #[] }, { accessFlags := 25, nameIndex := 24, descriptorIndex := 25, attributes := #[] }, { accessFlags := 25, nameIndex := 162, descriptorIndex := 25, attributes := #[] }, { accessFlags := 25, nameIndex := 187, descriptorIndex := 25, attributes := #[] }, { accessFlags := 26, nameIndex := 48, descriptorIndex := 25, attributes := #[] }, { accessFlags := 25, nameIndex := 277, descriptorIndex := 25, attributes := #[] }, { accessFlags := 25, nameIndex := 280, descriptorIndex := 25, attributes := #[] }, { accessFlags := 25, nameIndex := 282, descriptorIndex := 25, attributes := #[] }, { accessFlags := 25, nameIndex := 284, descriptorIndex := 25, attributes := #[] }, { accessFlags := 25, nameIndex := 286, descriptorIndex := 25, attributes := #[] }, { accessFlags := 25, nameIndex := 288, descriptorIndex := 25, attributes := #[] }, { accessFlags := 25, nameIndex := 290, descriptorIndex := 25, attributes := #[] }, { accessFlags := 25, nameIndex := 292, descriptorIndex := 25, attributes := #[] }, { accessFlags := 26, nameIndex := 108, descriptorIndex := 109, attributes := #[] }, { accessFlags := 25, nameIndex := 294, descriptorIndex := 25, attributes := #[] }])
  fields := #[{ name := "U", type := (.object "jdk/internal/misc/Unsafe"), accessFlags := 24, slot := 0, constantValue := 0 }, { name := "BIG_ENDIAN", type := .boolean, accessFlags := 26, slot := 1, constantValue := 0 }, { name := "LOG2_ARRAY_BOOLEAN_INDEX_SCALE", type := .int, accessFlags := 25, slot := 2, constantValue := 0 }, { name := "LOG2_ARRAY_BYTE_INDEX_SCALE", type := .int, accessFlags := 25, slot := 3, constantValue := 0 }, { name := "LOG2_ARRAY_CHAR_INDEX_SCALE", type := .int, accessFlags := 25, slot := 4, constantValue := 0 }, { name := "LOG2_ARRAY_SHORT_INDEX_SCALE", type := .int, accessFlags := 25, slot := 5, constantValue := 0 }, { name := "LOG2_ARRAY_INT_INDEX_SCALE", type := .int, accessFlags := 25, slot := 6, constantValue := 0 }, { name := "LOG2_ARRAY_LONG_INDEX_SCALE", type := .int, accessFlags := 25, slot := 7, constantValue := 0 }, { name := "LOG2_ARRAY_FLOAT_INDEX_SCALE", type := .int, accessFlags := 25, slot := 8, constantValue := 0 }, { name := "LOG2_ARRAY_DOUBLE_INDEX_SCALE", type := .int, accessFlags := 25, slot := 9, constantValue := 0 }, { name := "LOG2_BYTE_BIT_SIZE", type := .int, accessFlags := 26, slot := 10, constantValue := 0 }, { name := "T_BOOLEAN", type := .int, accessFlags := 25, slot := 11, constantValue := 0 }, { name := "T_CHAR", type := .int, accessFlags := 25, slot := 12, constantValue := 0 }, { name := "T_FLOAT", type := .int, accessFlags := 25, slot := 13, constantValue := 0 }, { name := "T_DOUBLE", type := .int, accessFlags := 25, slot := 14, constantValue := 0 }, { name := "T_BYTE", type := .int, accessFlags := 25, slot := 15, constantValue := 0 }, { name := "T_SHORT", type := .int, accessFlags := 25, slot := 16, constantValue := 0 }, { name := "T_INT", type := .int, accessFlags := 25, slot := 17, constantValue := 0 }, { name := "T_LONG", type := .int, accessFlags := 25, slot := 18, constantValue := 0 }, { name := "JLA", type := (.object "jdk/internal/access/JavaLangAccess"), accessFlags := 26, slot := 19, constantValue := 0 }, { name := "SOFT_MAX_ARRAY_LENGTH", type := .int, accessFlags := 25, slot := 20, constantValue := 0 }]
  methods := #[k14m0]
  instanceTypes := #[]
  staticTypes := #[(.object "jdk/internal/misc/Unsafe"), .boolean, .int, .int, .int, .int, .int, .int, .int, .int, .int, .int, .int, .int, .int, .int, .int, .int, .int, (.object "jdk/internal/access/JavaLangAccess"), .int]
  resolved := Array.replicate 378 none
  statics := none }

/-- the primitive byte -/
def k15 : Class := { plain "byte" none with kind := .primitive 'B', accessFlags := 0x411 }
/-- [B -/
def k16 : Class := { plain "[B" (some 0) with kind := .array 15 .byte, interfaces := #[10, 2], accessFlags := 1041 }

/-- the primitive char -/
def k17 : Class := { plain "char" none with kind := .primitive 'C', accessFlags := 0x411 }
/-- [C -/
def k18 : Class := { plain "[C" (some 0) with kind := .array 17 .char, interfaces := #[10, 2], accessFlags := 1041 }

/-- the primitive int -/
def k19 : Class := { plain "int" none with kind := .primitive 'I', accessFlags := 0x411 }
/-- [I -/
def k20 : Class := { plain "[I" (some 0) with kind := .array 19 .int, interfaces := #[10, 2], accessFlags := 1041 }

/-- [Lcom/example/anchorline/anchorline/server/Op; -/
def k21 : Class := { plain "[Lcom/example/anchorline/anchorline/server/Op;" (some 0) with kind := .array 9 (.object "com/example/anchorline/anchorline/server/Op"), interfaces := #[10, 2], accessFlags := 1041 }

def heap : Heap := #[{ cls := 7, slots := #[.long 0, .int 1, .null, .int 0, .null, .int 0, .int 0], vm := .statics 7 },
  { cls := 9, slots := #[.ref 4, .ref 5, .ref 3], vm := .statics 9 },
  { cls := 13, slots := #[.null, .null, .null], vm := .statics 13 },
  { cls := 21, slots := #[.ref 4, .ref 5], vm := .none },
  { cls := 9, slots := #[.null, .int 0, .int 0, .ref 6], vm := .none },
  { cls := 9, slots := #[.null, .int 1, .int 0, .ref 8], vm := .none },
  { cls := 7, slots := #[.ref 7, .int 0, .int 0, .int 0], vm := .none },
  { cls := 16, slots := #[.int 112, .int 117, .int 116], vm := .none },
  { cls := 7, slots := #[.ref 9, .int 0, .int 0, .int 0], vm := .none },
  { cls := 16, slots := #[.int 100, .int 101, .int 108, .int 101, .int 116, .int 101], vm := .none }]
def classes : Array Class := #[k0, k1, k2, k3, k4, k5, k6, k7, k8, k9, k10, k11, k12, k13, k14, k15, k16, k17, k18, k19, k20, k21]
def interned : List (Array UInt16 × Addr) := []
def slotsUsed : Nat := 40
def theMethod : MethodId := ⟨1, 2⟩
def args0 : Array Value := #[.int 5, .int 6, .int 7]
def aboutOver (below : List Frame) : State where
  vm := { classes := classes, interned := interned.toArray }
  heap := heap
  slotsUsed := slotsUsed
  threads := #[{ frames := .invoking theMethod args0 :: below }]
def below0 : List Frame := [.native { method := ⟨0, 0⟩, args := #[] }]
def about1 : State := aboutOver below0
def p0 : Program := .bare "" "" ""
def e0 : Env := launch0.env 0 0 0
theorem w_frames : about1.frames = Frame.invoking theMethod args0 :: below0 := rfl
set_option maxRecDepth 65536 in
theorem w_args : argsFit about1.vm theMethod args0 = true := by decide +kernel
set_option maxRecDepth 65536 in
theorem w_heap : heapFits about1 = true := by decide +kernel
set_option maxRecDepth 65536 in
theorem w_runnable : about1.curStatus? = some .runnable := by decide +kernel
set_option maxRecDepth 65536 in
theorem w_alone : about1.alone = true := by decide +kernel
set_option maxRecDepth 65536 in
theorem w_named : about1.methodNamed? x = some theMethod := by decide +kernel
set_option maxRecDepth 65536 in
theorem w_hears : about1.hears theMethod below0 = true := by decide +kernel
set_option maxRecDepth 65536 in
theorem w_ripe : about1.ripe theMethod args0 below0 = true := by decide +kernel
theorem w_running : about1.status = .running := rfl
set_option maxRecDepth 65536 in
theorem w_room : about1.hasRoom e0.platform room_1 = true :=
  launch0.hasRoom_least _ room_1 (by decide +kernel) (by decide +kernel) (by decide +kernel) (by decide +kernel) (by decide +kernel) (by decide +kernel)
theorem allAtoms_all (ts : List Jvm.Cond) (a : Array Jvm.Value) (st : Jvm.State) : (allAtoms ts).before a st = ts.all (fun c => c.before a st) := by
  induction ts with
  | nil => rfl
  | cons c t ih =>
    show (Jvm.Cond.and c (allAtoms t)).before a st = _
    rw [Jvm.Cond.before_and, ih, List.all_cons]
def words1 : List Jvm.Cond := Jvm.Cond.code x code maxLocals ret :: tables_1
/-- a 'code' word, met by the world's own term for the bytes: nothing is compared byte by byte -/
theorem code_word {y : MethodName} {bytes : ByteArray} {mx : Nat} {rt : Option FieldType} {a : Array Value} {s : State} {m : MethodId} {meth : Method} {c : Code} (h1 : s.methodNamed? y = some m) (h2 : s.vm.method? m = some meth) (h3 : meth.code = some c) (h4 : c.code = bytes)
    (h5 : (c.maxLocals == mx && c.exceptionTable.isEmpty && decide (c.maxStack ≤ mostOperands) && decide (meth.sig.returnType = rt) && !meth.locks && decide (parseMethodDescriptor y.desc = some meth.sig)) = true) : (Jvm.Cond.code y bytes mx rt).before a s = true := by
  simp only [Bool.and_eq_true, beq_iff_eq, Bool.not_eq_true', decide_eq_true_eq] at h5
  obtain ⟨⟨⟨⟨⟨g1, g2⟩, g3⟩, g4⟩, g5⟩, g6⟩ := h5
  simp [Cond.before, Cond.holds, Cond.value, h1, h2, h3, h4, g1, g2, g3, g4, g5, g6]
def isCode : Jvm.Cond → Bool
  | .code _ _ _ _ => true
  | _ => false
theorem all_split {L : List Jvm.Cond} {P : Jvm.Cond → Bool} (h1 : L.all (fun c => isCode c || P c) = true) (h2 : ∀ c ∈ L.filter isCode, P c = true) : L.all P = true := by
  refine List.all_eq_true.mpr fun c hc => ?_
  have h := List.all_eq_true.mp h1 c hc
  rcases Bool.eq_false_or_eq_true (isCode c) with hi | hi
  · exact h2 c (List.mem_filter.mpr ⟨hc, hi⟩)
  · simpa [hi] using h
set_option maxRecDepth 65536 in
theorem w_c0 : (Jvm.Cond.code x code maxLocals ret).before args0 about1 = true := code_word (m := ⟨1, 2⟩) (meth := k1m2) (c := k1c2) (by decide +kernel) rfl rfl rfl (by decide +kernel)
set_option maxRecDepth 65536 in
theorem w_c1 : (Jvm.Cond.code ({ cls := "com/example/anchorline/anchorline/server/OpOfPinLaw", name := "mk", desc := "(ICCCCCC)Ljava/lang/String;" } : Jvm.MethodName) method_2_code (7 : Nat) (Option.some (Jvm.ClassFile.FieldType.object "java/lang/String"))).before args0 about1 = true := code_word (m := ⟨1, 1⟩) (meth := k1m1) (c := k1c1) (by decide +kernel) rfl rfl rfl (by decide +kernel)
set_option maxRecDepth 65536 in
theorem w_c2 : (Jvm.Cond.code ({ cls := "java/lang/String", name := "<init>", desc := "([C)V" } : Jvm.MethodName) jdk_42_method_3_code (2 : Nat) (Option.none : Option Jvm.ClassFile.FieldType)).before args0 about1 = true := code_word (m := ⟨7, 1⟩) (meth := k7m1) (c := k7c1) (by decide +kernel) rfl rfl rfl (by decide +kernel)
set_option maxRecDepth 65536 in
theorem w_c3 : (Jvm.Cond.code ({ cls := "java/lang/String", name := "<init>", desc := "([CIILjava/lang/Void;)V" } : Jvm.MethodName) jdk_42_method_149_code (6 : Nat) (Option.none : Option Jvm.ClassFile.FieldType)).before args0 about1 = true := code_word (m := ⟨7, 3⟩) (meth := k7m3) (c := k7c3) (by decide +kernel) rfl rfl rfl (by decide +kernel)
set_option maxRecDepth 65536 in
theorem w_c4 : (Jvm.Cond.code ({ cls := "java/lang/Object", name := "<init>", desc := "()V" } : Jvm.MethodName) object_method_1_code (1 : Nat) (Option.none : Option Jvm.ClassFile.FieldType)).before args0 about1 = true := code_word (m := ⟨0, 0⟩) (meth := k0m0) (c := k0c0) (by decide +kernel) rfl rfl rfl (by decide +kernel)
set_option maxRecDepth 65536 in
theorem w_c5 : (Jvm.Cond.code ({ cls := "com/example/anchorline/anchorline/server/Op", name := "of", desc := "(Ljava/lang/String;)Lcom/example/anchorline/anchorline/server/Op;" } : Jvm.MethodName) prog_32_method_5_code (5 : Nat) (Option.some (Jvm.ClassFile.FieldType.object "com/example/anchorline/anchorline/server/Op"))).before args0 about1 = true := code_word (m := ⟨9, 2⟩) (meth := k9m2) (c := k9c2) (by decide +kernel) rfl rfl rfl (by decide +kernel)
set_option maxRecDepth 65536 in
theorem w_c6 : (Jvm.Cond.code ({ cls := "com/example/anchorline/anchorline/server/Op", name := "values", desc := "()[Lcom/example/anchorline/anchorline/server/Op;" } : Jvm.MethodName) prog_32_method_1_code (0 : Nat) (Option.some (Jvm.ClassFile.FieldType.array (Jvm.ClassFile.FieldType.object "com/example/anchorline/anchorline/server/Op")))).before args0 about1 = true := code_word (m := ⟨9, 0⟩) (meth := k9m0) (c := k9c0) (by decide +kernel) rfl rfl rfl (by decide +kernel)
set_option maxRecDepth 65536 in
theorem w_c7 : (Jvm.Cond.code ({ cls := "java/lang/String", name := "equals", desc := "(Ljava/lang/Object;)Z" } : Jvm.MethodName) jdk_42_method_66_code (3 : Nat) (Option.some Jvm.ClassFile.FieldType.boolean)).before args0 about1 = true := code_word (m := ⟨7, 2⟩) (meth := k7m2) (c := k7c2) (by decide +kernel) rfl rfl rfl (by decide +kernel)
set_option maxRecDepth 65536 in
theorem w_c8 : (Jvm.Cond.code ({ cls := "java/lang/StringLatin1", name := "equals", desc := "([B[B)Z" } : Jvm.MethodName) jdk_43_method_13_code (3 : Nat) (Option.some Jvm.ClassFile.FieldType.boolean)).before args0 about1 = true := code_word (m := ⟨11, 1⟩) (meth := k11m1) (c := k11c1) (by decide +kernel) rfl rfl rfl (by decide +kernel)
set_option maxRecDepth 65536 in
theorem w_c9 : (Jvm.Cond.code ({ cls := "com/example/anchorline/anchorline/server/Op", name := "word", desc := "()Ljava/lang/String;" } : Jvm.MethodName) prog_32_method_4_code (1 : Nat) (Option.some (Jvm.ClassFile.FieldType.object "java/lang/String"))).before args0 about1 = true := code_word (m := ⟨9, 1⟩) (meth := k9m1) (c := k9c1) (by decide +kernel) rfl rfl rfl (by decide +kernel)
set_option maxRecDepth 65536 in
theorem w_c10 : (Jvm.Cond.code ({ cls := "java/lang/StringUTF16", name := "compress", desc := "([CII)[B" } : Jvm.MethodName) jdk_52_method_16_code (6 : Nat) (Option.some (Jvm.ClassFile.FieldType.array Jvm.ClassFile.FieldType.byte))).before args0 about1 = true := code_word (m := ⟨12, 2⟩) (meth := k12m2) (c := k12c2) (by decide +kernel) rfl rfl rfl (by decide +kernel)
set_option maxRecDepth 65536 in
theorem w_c11 : (Jvm.Cond.code ({ cls := "java/lang/StringUTF16", name := "compress", desc := "([CI[BII)I" } : Jvm.MethodName) jdk_52_method_21_code (7 : Nat) (Option.some Jvm.ClassFile.FieldType.int)).before args0 about1 = true := code_word (m := ⟨12, 3⟩) (meth := k12m3) (c := k12c3) (by decide +kernel) rfl rfl rfl (by decide +kernel)
set_option maxRecDepth 65536 in
theorem w_c12 : (Jvm.Cond.code ({ cls := "java/lang/StringUTF16", name := "coderFromArrayLen", desc := "([BI)B" } : Jvm.MethodName) jdk_52_method_15_code (2 : Nat) (Option.some Jvm.ClassFile.FieldType.byte)).before args0 about1 = true := code_word (m := ⟨12, 1⟩) (meth := k12m1) (c := k12c1) (by decide +kernel) rfl rfl rfl (by decide +kernel)
def codes1 : List Jvm.Cond := [Jvm.Cond.code x code maxLocals ret, Jvm.Cond.code ({ cls := "com/example/anchorline/anchorline/server/OpOfPinLaw", name := "mk", desc := "(ICCCCCC)Ljava/lang/String;" } : Jvm.MethodName) method_2_code (7 : Nat) (Option.some (Jvm.ClassFile.FieldType.object "java/lang/String")), Jvm.Cond.code ({ cls := "java/lang/String", name := "<init>", desc := "([C)V" } : Jvm.MethodName) jdk_42_method_3_code (2 : Nat) (Option.none : Option Jvm.ClassFile.FieldType), Jvm.Cond.code ({ cls := "java/lang/String", name := "<init>", desc := "([CIILjava/lang/Void;)V" } : Jvm.MethodName) jdk_42_method_149_code (6 : Nat) (Option.none : Option Jvm.ClassFile.FieldType), Jvm.Cond.code ({ cls := "java/lang/Object", name := "<init>", desc := "()V" } : Jvm.MethodName) object_method_1_code (1 : Nat) (Option.none : Option Jvm.ClassFile.FieldType), Jvm.Cond.code ({ cls := "com/example/anchorline/anchorline/server/Op", name := "of", desc := "(Ljava/lang/String;)Lcom/example/anchorline/anchorline/server/Op;" } : Jvm.MethodName) prog_32_method_5_code (5 : Nat) (Option.some (Jvm.ClassFile.FieldType.object "com/example/anchorline/anchorline/server/Op")), Jvm.Cond.code ({ cls := "com/example/anchorline/anchorline/server/Op", name := "values", desc := "()[Lcom/example/anchorline/anchorline/server/Op;" } : Jvm.MethodName) prog_32_method_1_code (0 : Nat) (Option.some (Jvm.ClassFile.FieldType.array (Jvm.ClassFile.FieldType.object "com/example/anchorline/anchorline/server/Op"))), Jvm.Cond.code ({ cls := "java/lang/String", name := "equals", desc := "(Ljava/lang/Object;)Z" } : Jvm.MethodName) jdk_42_method_66_code (3 : Nat) (Option.some Jvm.ClassFile.FieldType.boolean), Jvm.Cond.code ({ cls := "java/lang/StringLatin1", name := "equals", desc := "([B[B)Z" } : Jvm.MethodName) jdk_43_method_13_code (3 : Nat) (Option.some Jvm.ClassFile.FieldType.boolean), Jvm.Cond.code ({ cls := "com/example/anchorline/anchorline/server/Op", name := "word", desc := "()Ljava/lang/String;" } : Jvm.MethodName) prog_32_method_4_code (1 : Nat) (Option.some (Jvm.ClassFile.FieldType.object "java/lang/String")), Jvm.Cond.code ({ cls := "java/lang/StringUTF16", name := "compress", desc := "([CII)[B" } : Jvm.MethodName) jdk_52_method_16_code (6 : Nat) (Option.some (Jvm.ClassFile.FieldType.array Jvm.ClassFile.FieldType.byte)), Jvm.Cond.code ({ cls := "java/lang/StringUTF16", name := "compress", desc := "([CI[BII)I" } : Jvm.MethodName) jdk_52_method_21_code (7 : Nat) (Option.some Jvm.ClassFile.FieldType.int), Jvm.Cond.code ({ cls := "java/lang/StringUTF16", name := "coderFromArrayLen", desc := "([BI)B" } : Jvm.MethodName) jdk_52_method_15_code (2 : Nat) (Option.some Jvm.ClassFile.FieldType.byte)]
set_option maxRecDepth 65536 in
theorem codes_eq : words1.filter isCode = codes1 := rfl
theorem w_codes : ∀ c ∈ words1.filter isCode, c.before args0 about1 = true := by
  rw [codes_eq]
  intro c hc
  simp only [codes1, List.mem_cons, List.not_mem_nil, or_false] at hc
  rcases hc with rfl | rfl | rfl | rfl | rfl | rfl | rfl | rfl | rfl | rfl | rfl | rfl | rfl
  · exact w_c0
  · exact w_c1
  · exact w_c2
  · exact w_c3
  · exact w_c4
  · exact w_c5
  · exact w_c6
  · exact w_c7
  · exact w_c8
  · exact w_c9
  · exact w_c10
  · exact w_c11
  · exact w_c12
set_option maxRecDepth 65536 in
theorem w_t1 : (words1.take 24).all (fun c => isCode c || c.before args0 about1) = true := by decide +kernel
set_option maxRecDepth 65536 in
theorem w_t2 : ((words1.drop 24).take 24).all (fun c => isCode c || c.before args0 about1) = true := by decide +kernel
set_option maxRecDepth 65536 in
theorem w_t3 : (((words1.drop 24).drop 24).take 24).all (fun c => isCode c || c.before args0 about1) = true := by decide +kernel
set_option maxRecDepth 65536 in
theorem w_t4 : (((words1.drop 24).drop 24).drop 24).all (fun c => isCode c || c.before args0 about1) = true := by decide +kernel
theorem w_tables : (allAtoms (Jvm.Cond.code x code maxLocals ret :: tables_1)).before args0 about1 = true := by
  rw [allAtoms_all]
  show words1.all (fun c => c.before args0 about1) = true
  refine all_split ?_ w_codes
  rw [← List.take_append_drop 24 words1, List.all_append, w_t1, ← List.take_append_drop 24 (words1.drop 24), List.all_append, w_t2, ← List.take_append_drop 24 ((words1.drop 24).drop 24), List.all_append, w_t3, w_t4]
  rfl
set_option maxRecDepth 65536 in
theorem w_rest : rest_1_c.before args0 about1 = true := by decide +kernel
set_option maxRecDepth 65536 in
theorem w_case : (Jvm.Cond.and given_1 narrow_1).before args0 about1 = true := by decide +kernel
set_option maxRecDepth 65536 in
theorem w_consts : constsHeld consts_1 about1 := Jvm.Lit.constsHeldB_iff.mp (by decide +kernel)
theorem w_applies : (headSpec (Jvm.Cond.code x code maxLocals ret :: tables_1) room_1).applies x e0.platform about1 = true :=
  (Spec.applies_iff w_frames).mpr ⟨w_running, w_runnable, w_alone, w_named, w_hears, w_ripe, w_room, w_tables⟩
theorem atStart : AtStart classFile x code maxLocals ret World_1 tables_1 room_1 Calls_1 rest_1 Pre_1 launch0 p0 e0 about1 theMethod args0 below0 :=
  ⟨lists_1, trivial, launch0.admits_env _ _ _, launch0.least_env, fairChoices_fair.cas, fairChoices_fair.clock, w_frames, w_args, w_heap, w_applies, ⟨w_consts, trivial⟩, w_rest, w_case⟩
end start1
theorem witness_1 : WitnessClaimed_1 := ⟨start1.p0, start1.e0, start1.about1, start1.theMethod, start1.args0, start1.below0, start1.atStart⟩
end Jvm.Pilot.@@N@@
