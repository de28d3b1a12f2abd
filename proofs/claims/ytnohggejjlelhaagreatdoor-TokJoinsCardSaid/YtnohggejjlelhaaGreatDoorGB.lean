-- pruned2
/- Proved: small facts of the program's list of names, as its code hands it on, by the kernel's own run. No conditions. -/
import Derived.Test.YtnohggejjlelhaaGreatDoorGLow
namespace Go.Proofs.YtnohggejjlelhaaGreatDoor.G
open Go.RowKit Go.Proofs.YtnohggejjlelhaaGreatDoorW.PrintWords
set_option linter.unusedVariables false
/-! The great text in a function's code. -/
def bigS (b : ByteArray) : Bool := match b.data.toList.drop 400 with | [] => false | _ => true
def bigO : Operand → Option ByteArray
  | .const (.string b) => if bigS b then some b else none
  | _ => none
def bigOs : List Operand → Option ByteArray
  | [] => none
  | x :: l => match bigO x with | some b => some b | none => bigOs l
def bigOp : Op → Option ByteArray
  | .move x => bigO x
  | .assign x => bigO x
  | .call c => bigOs c.args.toList
  | .binOp _ _ x y _ => bigOs [x, y]
  | .slice _ x _ _ _ => bigO x
  | _ => none
def bigR : List Oper → Option ByteArray
  | [] => none
  | x :: l => match bigOp x.op with | some b => some b | none => bigR l
def bigC : Code → Option ByteArray
  | .region _ os _ => bigR os.toList
  | .seq a b => match bigC a with | some x => some x | none => bigC b
  | .cond _ a b => match bigC a with | some x => some x | none => bigC b
  | .block _ a => bigC a
  | .loop a => bigC a
  | .scope a => bigC a
  | _ => none
noncomputable def bigF (f : Func) : ByteArray := match f.body with
  | some c => match bigC c with | some b => b | none => ⟨#[]⟩
  | none => ⟨#[]⟩
noncomputable def namesB : ByteArray := bigF Tryz.f73
theorem namesB_size : namesB.size = 29726 := by decide +kernel
def eqB : List UInt8 → List UInt8 → Bool
  | [], [] => true
  | a :: l, b :: m => if a.toNat.beq b.toNat then eqB l m else false
  | _, _ => false
theorem eqB_eq : ∀ {l m : List UInt8}, eqB l m = true → l = m
  | [], [], _ => rfl
  | a :: l, b :: m, h => by
    rw [eqB] at h
    split at h
    · rename_i e
      rw [eqB_eq h, UInt8.toNat_inj.1 (Nat.eq_of_beq_eq_true e)]
    · cases h
  | [], _ :: _, h => by cases h
  | _ :: _, [], h => by cases h
def plainB (r : Ln) : Bool := !r.1.isEmpty && r.1.all (fun c => !(c.toNat.beq 10) && !(c.toNat.beq 32)) && r.2.all (fun c => !(c.toNat.beq 10)) && r.1.length.ble 40 && r.2.length.ble 40
def riseB : List Ln → Bool
  | [] => true
  | r :: l => (match l with | [] => true | s :: _ => Op.bytesLess r.1 s.1) && riseB l
def fstSp : List UInt8 → List UInt8
  | [] => []
  | c :: l => if c.toNat.beq 32 then [] else c :: fstSp l
def sndSp : List UInt8 → List UInt8
  | [] => []
  | c :: l => if c.toNat.beq 32 then l else sndSp l
def digB (c : UInt8) : Bool := ((48).ble c.toNat && c.toNat.ble 57) || ((65).ble c.toNat && c.toNat.ble 70)
def valB : List UInt8 → Nat → Nat
  | [], a => a
  | c :: l, a => valB l (a * 16 + if c.toNat.ble 57 then c.toNat - 48 else c.toNat - 55)
def wordB (c : UInt8) : Bool := ((48).ble c.toNat && c.toNat.ble 57) || ((65).ble c.toNat && c.toNat.ble 90) || ((97).ble c.toNat && c.toNat.ble 122)
def keyB : List UInt8 → Bool
  | [] => false
  | [c] => wordB c || c.toNat.beq 59
  | c :: l => wordB c && keyB l
def firstB : List UInt8 → Bool
  | [] => false
  | c :: _ => ((65).ble c.toNat && c.toNat.ble 90) || ((97).ble c.toNat && c.toNat.ble 122)
def signB (n : Nat) : Nat := if n.ble 127 then 1 else if n.ble 2047 then 2 else if n.ble 65535 then 3 else 4
def okB (n : Nat) : Bool := n.ble 1114111 && ((n.ble 55295) || ((57344).ble n))
def rowB (r : Ln) : Bool :=
  keyB r.1 && firstB r.1 && r.1.length.ble 32 && (2).ble r.1.length
  && (1).ble (fstSp r.2).length && (fstSp r.2).length.ble 8 && (sndSp r.2).length.ble 8 && (fstSp r.2).all digB && (sndSp r.2).all digB
  && okB (valB (fstSp r.2) 0) && okB (valB (sndSp r.2) 0) && (1).ble (valB (fstSp r.2) 0)
  && (signB (valB (fstSp r.2) 0) + (if (valB (sndSp r.2) 0).beq 0 then 0 else signB (valB (sndSp r.2) 0))).ble (2 * r.1.length)
def lastB : List UInt8 → Bool
  | [] => false
  | [c] => c.toNat.beq 59
  | _ :: l => lastB l
theorem plain_ok : (linesOf (lb namesB)).all plainB = true := by decide +kernel
theorem rise_ok : riseB (linesOf (lb namesB)) = true := by decide +kernel
theorem text_ok : eqB (textOf (linesOf (lb namesB))) (lb namesB) = true := by decide +kernel
theorem rows_ok : (linesOf (lb namesB)).all rowB = true := by decide +kernel
theorem big73 : bigF Tryz.f73 = namesB := rfl
theorem big74 : bigF Tryz.f74 = namesB := lb_inj (eqB_eq (by decide +kernel))
attribute [irreducible] namesB
end Go.Proofs.YtnohggejjlelhaaGreatDoor.G
