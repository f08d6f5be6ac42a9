/- Walks: envelopes meet. -/
import Derived.Test.YtjeofjhcdeginaaEnvW3
namespace Go.Proofs.Ytjeofjhcdeginaa
open Go.RowKit Go.Sort Fl FinW
namespace EnvW
end EnvW
end Go.Proofs.Ytjeofjhcdeginaa
