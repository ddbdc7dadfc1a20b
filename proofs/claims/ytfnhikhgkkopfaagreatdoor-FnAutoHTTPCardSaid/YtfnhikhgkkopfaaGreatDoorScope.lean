/- A scope in which the run jumps back to its label once: what is left behind the label is walked from the jump on. No conditions. -/
import Derived.ScopeJumps
import Derived.Fence
import Derived.WalkKit
namespace Go.Proofs.YtfnhikhgkkopfaaGreatDoor.W
theorem wp_scope_once {P : Program} {a : Act} {w : World} {Q : Exit → Act → World → Prop} {c rest : Code} (l : Nat) (hf : findLabel c l = some rest)
    (h : c.wp P (Exit.jump l (fun a w => rest.wp P (Exit.noGoto Q) a w) Q) a w) : (Code.scope c).wp P Q a w :=
  wp_scope_jumps l _ (fun _ _ => 0) hf h fun a w hJ => Code.wp_mono (fun e a w hq => by
    cases e with
    | goto l' => exact (hq : False).elim
    | _ => exact hq) hJ
end Go.Proofs.YtfnhikhgkkopfaaGreatDoor.W
